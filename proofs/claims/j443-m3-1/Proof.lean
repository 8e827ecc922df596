import JvmDerived
import JvmDerived.Pilot.@@N@@Statement
import JvmDerived.Pilot.@@N@@Code
set_option linter.unusedVariables false
set_option linter.unusedSimpArgs false
/- laws to paste: Road.backV (cut by pick.py; bodies as the Statement names them) -/
namespace Jvm.Pilot.@@N@@
namespace StrChars
open Jvm Sem ClassFile Op Lib Jvm.Stand Jvm.Free.XT Jvm.Free.ALB Jvm.Free.JM Jvm.Free
open Jvm.Lib.Cold (StaticIs)
/-- a char array whose places are chars -/
def Ch (a : Addr) (A : Cell) (U : State) : Prop := Arr .char a A U ∧ Typed .char A
theorem Ch.mv {a : Addr} {A : Cell} {U U' : State} (h : Ch a A U) (hal : U.vm.Alike U'.vm) (hh : U'.heap = U.heap) : Ch a A U' := ⟨h.1.mv hal hh, h.2⟩
theorem Ch.keep {a : Addr} {A : Cell} {U U' : State} (h : Ch a A U) (hal : U.vm.Alike U'.vm) (hk : U'.heap[a]? = some A) : Ch a A U' := ⟨h.1.keep hal hk, h.2⟩
/-- what place i of a char[]'s cell holds -/
def cv (A : Cell) (i : Nat) : Int32 := match A.slots[i]? with | some (.int x) => x | _ => 0
theorem Ch.get {a : Addr} {A : Cell} {U : State} (h : Ch a A U) {i : Nat} (hi : i < A.slots.size) : A.slots[i]? = some (.int (cv A i)) := by
  have e := Array.getElem?_eq_getElem hi
  have f := h.2 i _ e
  unfold cv; rw [e]
  generalize A.slots[i] = v at f
  cases v <;> simp [fits] at f ⊢
/-- the byte that i2b leaves of a char -/
def lo8 (x : Int32) : Int32 := x.toInt8.toInt32
theorem fits_lo8 (y : Int32) : fits .byte (.int (lo8 y)) = true := by
  have h1 := y.toInt8.le_toInt
  have h2 := y.toInt8.toInt_lt
  simp only [lo8, fits, Bool.and_eq_true, decide_eq_true_eq, Int32.le_iff_toInt_le, Int8.toInt_toInt32, show (-128 : Int32).toInt = -128 from by decide, show (127 : Int32).toInt = 127 from by decide]
  omega
/-- A' is A but that each place j of lo .. hi - 1 holds f j -/
def Laid (A A' : Cell) (lo hi : Nat) (f : Nat → Value) : Prop := A'.cls = A.cls ∧ A'.vm = A.vm ∧ A'.slots.size = A.slots.size ∧ ∀ i, A'.slots[i]? = if lo ≤ i ∧ i < hi then some (f i) else A.slots[i]?
theorem Laid.zero (A : Cell) (lo : Nat) (f : Nat → Value) : Laid A A lo (lo + 0) f := ⟨rfl, rfl, rfl, fun i => by rw [if_neg (by omega)]⟩
theorem Laid.step {A Ak : Cell} {lo k : Nat} {f : Nat → Value} {v : Value} (h : Laid A Ak lo k f) (hlo : lo ≤ k) (hk : k < Ak.slots.size) (hv : v = f k) : Laid A (Ak.setSlot k v) lo (k + 1) f := by
  refine ⟨h.1, h.2.1, by simpa [Cell.setSlot] using h.2.2.1, fun i => ?_⟩
  by_cases e : k = i
  · subst e; rw [Cell.slots_setSlot_self v hk, if_pos (by omega), hv]
  · rw [Cell.slots_setSlot_ne v e, h.2.2.2 i]
    by_cases q : lo ≤ i ∧ i < k
    · rw [if_pos q, if_pos (by omega)]
    · rw [if_neg q, if_neg (by omega)]
def U16 : String := "java/lang/StringUTF16"
namespace Cmp5
def yN : MethodName := ⟨"java/lang/StringUTF16", "compress", "([CI[BII)I"⟩
abbrev yB : ByteArray := jdk_52_method_21_code
theorem d0 : decode yB 0 = .ok (.iconst 0, 1) := by decide +kernel
theorem d1 : decode yB 1 = .ok (.istore 5, 2) := by decide +kernel
theorem d3 : decode yB 3 = .ok (.iload 5, 2) := by decide +kernel
theorem d5 : decode yB 5 = .ok (.iload 4, 2) := by decide +kernel
theorem d7 : decode yB 7 = .ok (.if_icmp (.ge) 37, 3) := by decide +kernel
theorem d10 : decode yB 10 = .ok (.aload_n 0, 1) := by decide +kernel
theorem d11 : decode yB 11 = .ok (.iload_n 1, 1) := by decide +kernel
theorem d12 : decode yB 12 = .ok (.caload, 1) := by decide +kernel
theorem d13 : decode yB 13 = .ok (.istore 6, 2) := by decide +kernel
theorem d15 : decode yB 15 = .ok (.iload 6, 2) := by decide +kernel
theorem d17 : decode yB 17 = .ok (.sipush 255, 3) := by decide +kernel
theorem d20 : decode yB 20 = .ok (.if_icmp (.le) 6, 3) := by decide +kernel
theorem d26 : decode yB 26 = .ok (.aload_n 2, 1) := by decide +kernel
theorem d27 : decode yB 27 = .ok (.iload_n 3, 1) := by decide +kernel
theorem d28 : decode yB 28 = .ok (.iload 6, 2) := by decide +kernel
theorem d30 : decode yB 30 = .ok (.i2b, 1) := by decide +kernel
theorem d31 : decode yB 31 = .ok (.bastore, 1) := by decide +kernel
theorem d32 : decode yB 32 = .ok (.iinc 1 1, 3) := by decide +kernel
theorem d35 : decode yB 35 = .ok (.iinc 3 1, 3) := by decide +kernel
theorem d38 : decode yB 38 = .ok (.iinc 5 1, 3) := by decide +kernel
theorem d41 : decode yB 41 = .ok (.goto (-38), 3) := by decide +kernel
theorem d44 : decode yB 44 = .ok (.iload 4, 2) := by decide +kernel
theorem d46 : decode yB 46 = .ok (.ireturn, 1) := by decide +kernel
def site : List Cond := []
def tab : Cond := tabOf yN yB 7 (some .int) site
def P (b : Addr) (A : Cell) (d : Addr) (B : Cell) (o q len : Nat) (args : Array Value) (s : State) : Prop := args = #[.ref b, .int (Int32.ofNat o), .ref d, .int (Int32.ofNat q), .int (Int32.ofNat len)] ∧ Ch b A s ∧ Arr .byte d B s ∧ b ≠ d ∧ o + len ≤ A.slots.size ∧ q + len ≤ B.slots.size ∧ ∀ i, i < len → ¬ 255 < cv A (o + i)
def E (b : Addr) (A : Cell) (d : Addr) (B : Cell) (o q len : Nat) (r : Option Value) (s u : State) : Prop := r = some (.int (Int32.ofNat len)) ∧ ∃ B', Put d B' s u ∧ Laid B B' q (q + len) (fun j => Value.int (lo8 (cv A (o + (j - q)))))
/-- no char of the range above 255: len; the places written hold each char's low byte -/
theorem law (l : Launch) (b : Addr) (A : Cell) (d : Addr) (B : Cell) (o q len : Nat) : Law l yN 5 5 0 0 yB 7 (some .int) site (P b A d B o q len) (E b A d B o q len) (copyLocs d q len) 0 0 := by
  refine Law.of_walk (plainFor_of_name (by decide +kernel)) (by decide +kernel) (by decide +kernel) (by decide) (fun _ _ h => by rw [h.1]; rfl) (fun _ U U' hal hh h => ⟨h.1, h.2.1.mv hal hh, h.2.2.1.mv hal hh, h.2.2.2⟩) (fun r U U' V V' h1 hal h2 h => ⟨h.1, h.2.elim fun B' q => ⟨B', q.1.mv h1 h2, q.2⟩⟩) ?_
  intro p e s m args below meth c s₁ X0 hexec hbytes hml hret hlk hnm hown hh0 W hP
  obtain ⟨rfl, hA, hB, hne, l1, l2, hp⟩ := hP
  have c1 : Steps p.tables e below (s₁.setTop (entryFrame m #[.ref b, .int (Int32.ofNat o), .ref d, .int (Int32.ofNat q), .int (Int32.ofNat len)] 7)) (s₁.setTop (mkF m 0 #[.val (.ref b), .val (.int (Int32.ofNat o)), .val (.ref d), .val (.int (Int32.ofNat q)), .val (.int (Int32.ofNat len)), .unset, .unset] [])) := entry rfl
  have hA0 := hA.1.mv X0.warmed.alike hh0
  have hB0 := hB.mv X0.warmed.alike hh0
  have a31 := hA.1.2.2.2
  have c2 : Steps p.tables e below (s₁.setTop (entryFrame m #[.ref b, .int (Int32.ofNat o), .ref d, .int (Int32.ofNat q), .int (Int32.ofNat len)] 7)) (s₁.setTop (mkF m 3 #[.val (.ref b), .val (.int (Int32.ofNat o)), .val (.ref d), .val (.int (Int32.ofNat q)), .val (.int (Int32.ofNat len)), .val (.int 0), .unset] [])) := c1.trans (by
    refine iconstV X0.here hexec rfl 0 (hb hbytes d0) (by decide) ?_
    refine XS.istore X0.here hexec rfl (hb hbytes d1) rfl rfl ?_
    exact Steps.refl _)
  have loop : ∀ (r i : Nat), i + r = len → ∀ (z : Slot), (z = .unset ∨ ∃ w, z = .val w ∧ w.category = 1) → ∀ (Tl : State) (Bk : Cell), Stand p l e { frames := 0, locals := 0, cells := 0, slots := 0 } s m #[.ref b, .int (Int32.ofNat o), .ref d, .int (Int32.ofNat q), .int (Int32.ofNat len)] below meth c Tl ([] ++ copyLocs d q i) 0 0 → Put d Bk s₁ Tl → Laid B Bk q (q + i) (fun j => Value.int (lo8 (cv A (o + (j - q))))) →
      Steps p.tables e below (s₁.setTop (entryFrame m #[.ref b, .int (Int32.ofNat o), .ref d, .int (Int32.ofNat q), .int (Int32.ofNat len)] 7)) (Tl.setTop (mkF m 3 #[.val (.ref b), .val (.int (Int32.ofNat (o + i))), .val (.ref d), .val (.int (Int32.ofNat (q + i))), .val (.int (Int32.ofNat len)), .val (.int (Int32.ofNat i)), z] [])) → ∃ (T' : State) (B' : Cell) (z' : Slot), Stand p l e { frames := 0, locals := 0, cells := 0, slots := 0 } s m #[.ref b, .int (Int32.ofNat o), .ref d, .int (Int32.ofNat q), .int (Int32.ofNat len)] below meth c T' ([] ++ copyLocs d q len) 0 0 ∧ Put d B' s₁ T' ∧ Laid B B' q (q + len) (fun j => Value.int (lo8 (cv A (o + (j - q))))) ∧
      Steps p.tables e below (s₁.setTop (entryFrame m #[.ref b, .int (Int32.ofNat o), .ref d, .int (Int32.ofNat q), .int (Int32.ofNat len)] 7)) (T'.setTop (mkF m 3 #[.val (.ref b), .val (.int (Int32.ofNat (o + len))), .val (.ref d), .val (.int (Int32.ofNat (q + len))), .val (.int (Int32.ofNat len)), .val (.int (Int32.ofNat len)), z'] [])) := by
    intro r
    induction r with
    | zero =>
      intro i hi z hz Tl Bk Xl pl fl cl
      have hil : i = len := by omega
      rw [hil] at Xl fl cl
      exact ⟨Tl, Bk, z, Xl, pl, fl, cl⟩
    | succ r ih =>
      intro i hi z hz Tl Bk Xl pl fl cl
      have all := X0.warmed.alike.symm.trans Xl.warmed.alike
      have hAl := hA0.keep all (pl.other hne hA0.1)
      have hBk := hB0.like all pl.1 fl.1 fl.2.1 fl.2.2.1
      have hlt : q + i < Bk.slots.size := by rw [fl.2.2.1]; omega
      have c3 : Steps p.tables e below (s₁.setTop (entryFrame m #[.ref b, .int (Int32.ofNat o), .ref d, .int (Int32.ofNat q), .int (Int32.ofNat len)] 7)) (Tl.setTop (mkF m 12 #[.val (.ref b), .val (.int (Int32.ofNat (o + i))), .val (.ref d), .val (.int (Int32.ofNat (q + i))), .val (.int (Int32.ofNat len)), .val (.int (Int32.ofNat i)), z] [.int (Int32.ofNat (o + i)), .ref b])) := cl.trans (by
        refine XS.iload Xl.here hexec rfl (hb hbytes d3) rfl ?_
        refine XS.iload Xl.here hexec rfl (hb hbytes d5) rfl ?_
        refine XS.icmpNo Xl.here hexec rfl (hb hbytes d7) rfl (ii_ge_f (lt32 (by omega) (by omega))) ?_
        refine XS.aloadN Xl.here hexec rfl (hb hbytes d10) rfl rfl ?_
        refine XS.iloadN Xl.here hexec rfl (hb hbytes d11) rfl ?_
        exact Steps.refl _)
      have c4 : Steps p.tables e below (s₁.setTop (entryFrame m #[.ref b, .int (Int32.ofNat o), .ref d, .int (Int32.ofNat q), .int (Int32.ofNat len)] 7)) (Tl.setTop (mkF m 13 #[.val (.ref b), .val (.int (Int32.ofNat (o + i))), .val (.ref d), .val (.int (Int32.ofNat (q + i))), .val (.int (Int32.ofNat len)), .val (.int (Int32.ofNat i)), z] [.int (cv A (o + i))])) := c3.trans (by
        refine Xl.aget hexec hAl rfl (hA.get (i := o + i) (by omega)) rfl rfl (hb hbytes d12) ?_
        exact Steps.refl _)
      have c5 : Steps p.tables e below (s₁.setTop (entryFrame m #[.ref b, .int (Int32.ofNat o), .ref d, .int (Int32.ofNat q), .int (Int32.ofNat len)] 7)) (Tl.setTop (mkF m 15 #[.val (.ref b), .val (.int (Int32.ofNat (o + i))), .val (.ref d), .val (.int (Int32.ofNat (q + i))), .val (.int (Int32.ofNat len)), .val (.int (Int32.ofNat i)), .val (.int (cv A (o + i)))] [])) := c4.trans (by
        refine XS.istoreS Xl.here hexec rfl (hb hbytes d13) rfl rfl hz ?_
        exact Steps.refl _)
      have c6 : Steps p.tables e below (s₁.setTop (entryFrame m #[.ref b, .int (Int32.ofNat o), .ref d, .int (Int32.ofNat q), .int (Int32.ofNat len)] 7)) (Tl.setTop (mkF m 31 #[.val (.ref b), .val (.int (Int32.ofNat (o + i))), .val (.ref d), .val (.int (Int32.ofNat (q + i))), .val (.int (Int32.ofNat len)), .val (.int (Int32.ofNat i)), .val (.int (cv A (o + i)))] [.int (lo8 (cv A (o + i))), .int (Int32.ofNat (q + i)), .ref d])) := c5.trans (by
        refine XS.iload Xl.here hexec rfl (hb hbytes d15) rfl ?_
        refine sipushV Xl.here hexec rfl 255 (hb hbytes d17) (by decide) ?_
        refine XS.icmpYes Xl.here hexec rfl (pc0 := 20) rfl (hb hbytes d20) rfl (ii_le_t (hp i (by omega))) (by decide) rfl ?_
        refine XS.aloadN Xl.here hexec rfl (hb hbytes d26) rfl rfl ?_
        refine XS.iloadN Xl.here hexec rfl (hb hbytes d27) rfl ?_
        refine XS.iload Xl.here hexec rfl (hb hbytes d28) rfl ?_
        refine i2b Xl.here hexec rfl (hb hbytes d30) rfl ?_
        exact Steps.refl _)
      obtain ⟨T7, X7, p7, st7⟩ := Xl.aput hexec hBk rfl hlt rfl (fits_lo8 (cv A (o + i))) (g := (mkF m 31 #[.val (.ref b), .val (.int (Int32.ofNat (o + i))), .val (.ref d), .val (.int (Int32.ofNat (q + i))), .val (.int (Int32.ofNat len)), .val (.int (Int32.ofNat i)), .val (.int (cv A (o + i)))] [.int (lo8 (cv A (o + i))), .int (Int32.ofNat (q + i)), .ref d])) rfl (rest := []) rfl (hb hbytes d31)
      have c8 : Steps p.tables e below (s₁.setTop (entryFrame m #[.ref b, .int (Int32.ofNat o), .ref d, .int (Int32.ofNat q), .int (Int32.ofNat len)] 7)) (T7.setTop (mkF m 32 #[.val (.ref b), .val (.int (Int32.ofNat (o + i))), .val (.ref d), .val (.int (Int32.ofNat (q + i))), .val (.int (Int32.ofNat len)), .val (.int (Int32.ofNat i)), .val (.int (cv A (o + i)))] [])) := c6.trans (st7 _ (Steps.refl _))
      have c9 : Steps p.tables e below (s₁.setTop (entryFrame m #[.ref b, .int (Int32.ofNat o), .ref d, .int (Int32.ofNat q), .int (Int32.ofNat len)] 7)) (T7.setTop (mkF m 3 #[.val (.ref b), .val (.int (Int32.ofNat (o + i) + 1)), .val (.ref d), .val (.int (Int32.ofNat (q + i) + 1)), .val (.int (Int32.ofNat len)), .val (.int (Int32.ofNat i + 1)), .val (.int (cv A (o + i)))] [])) := c8.trans (by
        refine iincV X7.here hexec rfl 1 (hb hbytes d32) (by decide) rfl rfl ?_
        refine iincV X7.here hexec rfl 1 (hb hbytes d35) (by decide) rfl rfl ?_
        refine iincV X7.here hexec rfl 1 (hb hbytes d38) (by decide) rfl rfl ?_
        refine XS.goto X7.here hexec rfl (pc0 := 41) rfl (hb hbytes d41) (by decide) rfl ?_
        exact Steps.refl _)
      have c10 : Steps p.tables e below (s₁.setTop (entryFrame m #[.ref b, .int (Int32.ofNat o), .ref d, .int (Int32.ofNat q), .int (Int32.ofNat len)] 7)) (T7.setTop (mkF m 3 #[.val (.ref b), .val (.int (Int32.ofNat (o + (i + 1)))), .val (.ref d), .val (.int (Int32.ofNat (q + (i + 1)))), .val (.int (Int32.ofNat len)), .val (.int (Int32.ofNat (i + 1))), .val (.int (cv A (o + i)))] [])) := by
        have := c9
        rw [succ32, succ32, succ32] at this
        exact this
      exact ih (i + 1) (by omega) _ (Or.inr ⟨_, rfl, rfl⟩) T7 _ (by rw [copyLocs_step, ← List.append_assoc]; exact X7) (pl.trans p7) (fl.step (by omega) hlt (by simp)) c10
  obtain ⟨T9, B9, z9, X9, p9, f9, g9⟩ := loop len 0 (by omega) .unset (Or.inl rfl) s₁ B (by simpa [copyLocs] using X0) ⟨hB0.1, fun _ _ => rfl, rfl⟩ (Laid.zero _ _ _) c2
  have c11 : Steps p.tables e below (s₁.setTop (entryFrame m #[.ref b, .int (Int32.ofNat o), .ref d, .int (Int32.ofNat q), .int (Int32.ofNat len)] 7)) (T9.setTop (mkF m 46 #[.val (.ref b), .val (.int (Int32.ofNat (o + len))), .val (.ref d), .val (.int (Int32.ofNat (q + len))), .val (.int (Int32.ofNat len)), .val (.int (Int32.ofNat len)), z9] [.int (Int32.ofNat len)])) := g9.trans (by
    refine XS.iload X9.here hexec rfl (hb hbytes d3) rfl ?_
    refine XS.iload X9.here hexec rfl (hb hbytes d5) rfl ?_
    refine XS.icmpYes X9.here hexec rfl (pc0 := 7) rfl (hb hbytes d7) rfl (ii_ge_t (nlt32 (by omega) (Nat.le_refl _))) (by decide) rfl ?_
    refine XS.iload X9.here hexec rfl (hb hbytes d44) rfl ?_
    exact Steps.refl _)
  exact ⟨T9, some (.int (Int32.ofNat len)), _, _, _, X9, by simp, rfl, rfl, (fun h => by cases h), ⟨rfl, B9, p9.from hh0, f9⟩, fun fs hl => c11.trans (X9.ireturnOut hexec hret rfl (Or.inl rfl) (hb hbytes d46) hl)⟩
end Cmp5
namespace Cmp3
def yN : MethodName := ⟨"java/lang/StringUTF16", "compress", "([CII)[B"⟩
abbrev yB : ByteArray := jdk_52_method_16_code
theorem d0 : decode yB 0 = .ok (.iload_n 2, 1) := by decide +kernel
theorem d1 : decode yB 1 = .ok (.newarray .byte, 2) := by decide +kernel
theorem d3 : decode yB 3 = .ok (.astore_n 3, 1) := by decide +kernel
theorem d4 : decode yB 4 = .ok (.aload_n 0, 1) := by decide +kernel
theorem d5 : decode yB 5 = .ok (.iload_n 1, 1) := by decide +kernel
theorem d6 : decode yB 6 = .ok (.aload_n 3, 1) := by decide +kernel
theorem d7 : decode yB 7 = .ok (.iconst 0, 1) := by decide +kernel
theorem d8 : decode yB 8 = .ok (.iload_n 2, 1) := by decide +kernel
theorem d9 : decode yB 9 = .ok (.invokestatic 115, 3) := by decide +kernel
theorem d12 : decode yB 12 = .ok (.istore 4, 2) := by decide +kernel
theorem d14 : decode yB 14 = .ok (.iload 4, 2) := by decide +kernel
theorem d16 : decode yB 16 = .ok (.iload_n 2, 1) := by decide +kernel
theorem d17 : decode yB 17 = .ok (.if_icmp (.eq) 40, 3) := by decide +kernel
theorem d57 : decode yB 57 = .ok (.aload_n 3, 1) := by decide +kernel
theorem d58 : decode yB 58 = .ok (.areturn, 1) := by decide +kernel
def site : List Cond := [.arrayClass .byte, Cmp5.tab] ++ staticW U16 115 Cmp5.yN
def tab : Cond := tabOf yN yB 6 (some (.array .byte)) site
def P (b : Addr) (A : Cell) (o len : Nat) (args : Array Value) (s : State) : Prop := args = #[.ref b, .int (Int32.ofNat o), .int (Int32.ofNat len)] ∧ Ch b A s ∧ o + len ≤ A.slots.size ∧ len ≤ 536870912 ∧ ∀ i, i < len → ¬ 255 < cv A (o + i)
def E (b : Addr) (A : Cell) (o len : Nat) (r : Option Value) (s u : State) : Prop := NewArr .byte "[B" len (fun j => .int (lo8 (cv A (o + j)))) r s u ∧ u.heap.size = s.heap.size + 1
/-- no char of the range above 255: a new byte[] of their low bytes -/
theorem law (l : Launch) (b : Addr) (A : Cell) (o len : Nat) : Law l yN 3 3 1 18 yB 6 (some (.array .byte)) site (P b A o len) (E b A o len) [] 1 len := by
  refine Law.of_walk (plainFor_of_name (by decide +kernel)) (by decide +kernel) (by decide +kernel) (by decide) (fun _ _ h => by rw [h.1]; rfl) (fun _ U U' hal hh h => ⟨h.1, h.2.1.mv hal hh, h.2.2⟩) (fun r U U' V V' h1 hal h2 h => ⟨NewArr.mv r U U' V V' h1 hal h2 h.1, by rw [h1, h2]; exact h.2⟩) ?_
  intro p e s m args below meth c s₁ X0 hexec hbytes hml hret hlk hnm hown hh0 W hP
  obtain ⟨rfl, hA, l1, l2, hp⟩ := hP
  have a31 := hA.1.2.2.2
  have c1 : Steps p.tables e below (s₁.setTop (entryFrame m #[.ref b, .int (Int32.ofNat o), .int (Int32.ofNat len)] 6)) (s₁.setTop (mkF m 0 #[.val (.ref b), .val (.int (Int32.ofNat o)), .val (.int (Int32.ofNat len)), .unset, .unset, .unset] [])) := entry rfl
  have c2 : Steps p.tables e below (s₁.setTop (entryFrame m #[.ref b, .int (Int32.ofNat o), .int (Int32.ofNat len)] 6)) (s₁.setTop (mkF m 1 #[.val (.ref b), .val (.int (Int32.ofNat o)), .val (.int (Int32.ofNat len)), .unset, .unset, .unset] [.int (Int32.ofNat len)])) := c1.trans (by
    refine XS.iloadN X0.here hexec rfl (hb hbytes d0) rfl ?_
    exact Steps.refl _)
  obtain ⟨T3, B3, X3, ba3, bs3, bv3, bh3, bf3, st3⟩ := X0.anew hexec (atype := .byte) (wk W (.arrayClass .byte)) rfl (by show len * 1 ≤ _; omega) (by omega) (g := (mkF m 1 #[.val (.ref b), .val (.int (Int32.ofNat o)), .val (.int (Int32.ofNat len)), .unset, .unset, .unset] [.int (Int32.ofNat len)])) rfl (hb hbytes d1) (rest := []) rfl (Nat.le_refl _) (by show 0 + len ≤ len; omega)
  rw [hh0] at ba3 st3
  have kp3 : XT.Kept s T3 := (XT.Kept.of_eq hh0).push bh3
  have hA3 := hA.keep X3.warmed.alike (kp3 _ _ hA.1.1)
  have hne : b ≠ s.heap.size := hA.1.ne
  have c4 : Steps p.tables e below (s₁.setTop (entryFrame m #[.ref b, .int (Int32.ofNat o), .int (Int32.ofNat len)] 6)) (T3.setTop (mkF m 3 #[.val (.ref b), .val (.int (Int32.ofNat o)), .val (.int (Int32.ofNat len)), .unset, .unset, .unset] [.ref s.heap.size])) := c2.trans (st3 _ (Steps.refl _))
  have c5 : Steps p.tables e below (s₁.setTop (entryFrame m #[.ref b, .int (Int32.ofNat o), .int (Int32.ofNat len)] 6)) (T3.setTop (mkF m 9 #[.val (.ref b), .val (.int (Int32.ofNat o)), .val (.int (Int32.ofNat len)), .val (.ref s.heap.size), .unset, .unset] [.int (Int32.ofNat len), .int 0, .ref s.heap.size, .int (Int32.ofNat o), .ref b])) := c4.trans (by
    refine XS.astoreN X3.here hexec rfl (hb hbytes d3) rfl rfl rfl ?_
    refine XS.aloadN X3.here hexec rfl (hb hbytes d4) rfl rfl ?_
    refine XS.iloadN X3.here hexec rfl (hb hbytes d5) rfl ?_
    refine XS.aloadN X3.here hexec rfl (hb hbytes d6) rfl rfl ?_
    refine iconstV X3.here hexec rfl 0 (hb hbytes d7) (by decide) ?_
    refine XS.iloadN X3.here hexec rfl (hb hbytes d8) rfl ?_
    exact Steps.refl _)
  obtain ⟨v6, T6, X6, E6, g6⟩ := X3.callS hexec (Cmp5.law l b A s.heap.size B3 o 0 len) hown (wks W (staticW U16 115 Cmp5.yN)) (wk W Cmp5.tab) (W := 0) (Nat.le_of_ble_eq_true rfl) (Nat.le_of_ble_eq_true rfl) (Nat.le_refl _) (by show 0 + len + 0 ≤ len; omega) (g := (mkF m 9 #[.val (.ref b), .val (.int (Int32.ofNat o)), .val (.int (Int32.ofNat len)), .val (.ref s.heap.size), .unset, .unset] [.int (Int32.ofNat len), .int (Int32.ofNat 0), .ref s.heap.size, .int (Int32.ofNat o), .ref b])) rfl (by rw [hml]; rfl) c5 (argsL := [.ref b, .int (Int32.ofNat o), .ref s.heap.size, .int (Int32.ofNat 0), .int (Int32.ofNat len)]) (rest := []) rfl rfl (by show 2 * 0 + 0 ≤ _; decide) (hb hbytes d9) (⟨rfl, hA3, ba3, hne, l1, by rw [bs3]; simp, hp⟩)
  obtain ⟨rfl, B6, p6, f6⟩ := E6
  have c7 : Steps p.tables e below (s₁.setTop (entryFrame m #[.ref b, .int (Int32.ofNat o), .int (Int32.ofNat len)] 6)) (T6.setTop (mkF m 12 #[.val (.ref b), .val (.int (Int32.ofNat o)), .val (.int (Int32.ofNat len)), .val (.ref s.heap.size), .unset, .unset] [.int (Int32.ofNat len)])) := g6
  have c8 : Steps p.tables e below (s₁.setTop (entryFrame m #[.ref b, .int (Int32.ofNat o), .int (Int32.ofNat len)] 6)) (T6.setTop (mkF m 58 #[.val (.ref b), .val (.int (Int32.ofNat o)), .val (.int (Int32.ofNat len)), .val (.ref s.heap.size), .val (.int (Int32.ofNat len)), .unset] [.ref s.heap.size])) := c7.trans (by
    refine XS.istore X6.here hexec rfl (hb hbytes d12) rfl rfl ?_
    refine XS.iload X6.here hexec rfl (hb hbytes d14) rfl ?_
    refine XS.iloadN X6.here hexec rfl (hb hbytes d16) rfl ?_
    refine XS.icmpYes X6.here hexec rfl (pc0 := 17) rfl (hb hbytes d17) rfl (ii_eq_t rfl) (by decide) rfl ?_
    refine XS.aloadN X6.here hexec rfl (hb hbytes d57) rfl rfl ?_
    exact Steps.refl _)
  have X8 := X6.wide (L' := []) (cells' := 1) (slots' := len) (fun x hx hlt => by
    simp only [List.nil_append, copyLocs, List.mem_map, List.mem_range] at hx
    obtain ⟨i, -, rfl⟩ := hx
    exact absurd hlt (Nat.lt_irrefl _)) (Nat.le_refl _) (by omega)
  exact ⟨T6, some (.ref s.heap.size), _, _, _, X8, rfl, rfl, rfl, (fun h => by cases h), ⟨⟨rfl, B6, ba3.like (X3.warmed.alike.symm.trans X6.warmed.alike) p6.1 f6.1 f6.2.1 f6.2.2.1, f6.2.1.trans bv3, by rw [X6.warmed.alike.findClass, f6.1]; exact bf3, by rw [f6.2.2.1, bs3]; simp, fun j hj => by rw [f6.2.2.2 j, if_pos (by omega)]; rfl, kp3.put p6 (Nat.le_refl _)⟩, by rw [p6.2.2, bh3, hh0]; simp⟩, fun fs hl => c8.trans (X8.areturnOut hexec rfl hret rfl (hb hbytes d58) hl)⟩
end Cmp3
namespace CodL
def yN : MethodName := ⟨"java/lang/StringUTF16", "coderFromArrayLen", "([BI)B"⟩
abbrev yB : ByteArray := jdk_52_method_15_code
theorem d0 : decode yB 0 = .ok (.iload_n 1, 1) := by decide +kernel
theorem d1 : decode yB 1 = .ok (.aload_n 0, 1) := by decide +kernel
theorem d2 : decode yB 2 = .ok (.arraylength, 1) := by decide +kernel
theorem d3 : decode yB 3 = .ok (.isub, 1) := by decide +kernel
theorem d4 : decode yB 4 = .ok (.bipush 31, 2) := by decide +kernel
theorem d6 : decode yB 6 = .ok (.iushr, 1) := by decide +kernel
theorem d7 : decode yB 7 = .ok (.i2b, 1) := by decide +kernel
theorem d8 : decode yB 8 = .ok (.ireturn, 1) := by decide +kernel
def site : List Cond := []
def tab : Cond := tabOf yN yB 2 (some .byte) site
def P (d : Addr) (B : Cell) (args : Array Value) (s : State) : Prop := args = #[.ref d, .int (Int32.ofNat B.slots.size)] ∧ Arr .byte d B s
def E (r : Option Value) (s u : State) : Prop := XT.PureE (some (.int 0)) r s u
/-- an array as long as the number of chars: LATIN1 -/
theorem law (l : Launch) (d : Addr) (B : Cell) : Law l yN 2 2 0 0 yB 2 (some .byte) site (P d B) E [] 0 0 := by
  refine Law.of_walk (plainFor_of_name (by decide +kernel)) (by decide +kernel) (by decide +kernel) (by decide) (fun _ _ h => by rw [h.1]; rfl) (fun _ U U' hal hh h => ⟨h.1, h.2.mv hal hh⟩) (fun r U U' V V' h1 hal h2 h => XT.PureE.mv r U U' V V' h1 hal h2 h) ?_
  intro p e s m args below meth c s₁ X0 hexec hbytes hml hret hlk hnm hown hh0 W hP
  obtain ⟨rfl, hB⟩ := hP
  have hB0 := hB.mv X0.warmed.alike hh0
  have c1 : Steps p.tables e below (s₁.setTop (entryFrame m #[.ref d, .int (Int32.ofNat B.slots.size)] 2)) (s₁.setTop (mkF m 0 #[.val (.ref d), .val (.int (Int32.ofNat B.slots.size))] [])) := entry rfl
  have c2 : Steps p.tables e below (s₁.setTop (entryFrame m #[.ref d, .int (Int32.ofNat B.slots.size)] 2)) (s₁.setTop (mkF m 2 #[.val (.ref d), .val (.int (Int32.ofNat B.slots.size))] [.ref d, .int (Int32.ofNat B.slots.size)])) := c1.trans (by
    refine XS.iloadN X0.here hexec rfl (hb hbytes d0) rfl ?_
    refine XS.aloadN X0.here hexec rfl (hb hbytes d1) rfl rfl ?_
    exact Steps.refl _)
  have c3 : Steps p.tables e below (s₁.setTop (entryFrame m #[.ref d, .int (Int32.ofNat B.slots.size)] 2)) (s₁.setTop (mkF m 8 #[.val (.ref d), .val (.int (Int32.ofNat B.slots.size))] [.int (lo8 (ushr (Int32.ofNat B.slots.size - Int32.ofNat B.slots.size) 31))])) := c2.trans (by
    refine X0.alen hexec hB0 rfl rfl (hb hbytes d2) ?_
    refine XS.isub X0.here hexec rfl (hb hbytes d3) rfl ?_
    refine bipushV X0.here hexec rfl 31 (hb hbytes d4) (by decide) ?_
    refine iushr X0.here hexec rfl (hb hbytes d6) rfl ?_
    refine i2b X0.here hexec rfl (hb hbytes d7) rfl ?_
    exact Steps.refl _)
  have e0 : lo8 (ushr (Int32.ofNat B.slots.size - Int32.ofNat B.slots.size) 31) = 0 := by rw [Int32.sub_self]; decide
  rw [e0] at c3
  exact ⟨s₁, some (.int 0), _, _, _, X0, rfl, rfl, rfl, (fun h => by cases h), ⟨rfl, hh0⟩, fun fs hl => c3.trans (X0.ireturnOut hexec hret rfl (Or.inr (Or.inr (Or.inl rfl))) (hb hbytes d8) hl)⟩
end CodL
/-- the String at a is Latin-1 over a new byte[] (the heap's one new cell): the low bytes of the len chars of A from o on; every cell but a is kept -/
def Got (a : Addr) (D : Cell) (fV fC : Field) (A : Cell) (o len : Nat) (r : Option Value) (s u : State) : Prop := r = none ∧ ∃ D' V : Cell, Blank "java/lang/String" a D' u ∧ Same D D' [fV.slot, fC.slot] ∧ D'.slots[fV.slot]? = some (.ref s.heap.size) ∧ D'.slots[fC.slot]? = some (.int 0) ∧ Arr .byte s.heap.size V u ∧ V.vm = .none ∧ u.vm.findClass "[B" = some V.cls ∧ V.slots.size = len ∧ (∀ j, j < len → V.slots[j]? = some (.int (lo8 (cv A (o + j))))) ∧ (∀ (y : Addr) (c : Cell), y ≠ a → s.heap[y]? = some c → u.heap[y]? = some c) ∧ u.heap.size = s.heap.size + 1
theorem Got.mv {a : Addr} {D A : Cell} {fV fC : Field} {o len : Nat} : ∀ r (U U' V V' : State), U'.heap = U.heap → V.vm.Alike V'.vm → V'.heap = V.heap → Got a D fV fC A o len r U V → Got a D fV fC A o len r U' V' :=
  fun r U U' V V' h1 hal h2 ⟨e0, D', X, a1, a2, a3, a4, a5, a6, a7, a8, a9, a10, a11⟩ => ⟨e0, D', X, a1.mv hal h2, a2, by rw [h1]; exact a3, a4, by rw [h1]; exact a5.mv hal h2, a6, by rw [hal.findClass]; exact a7, a8, a9, by rw [h1, h2]; exact a10, by rw [h1, h2]; exact a11⟩
namespace New4
def yN : MethodName := ⟨"java/lang/String", "<init>", "([CIILjava/lang/Void;)V"⟩
abbrev yB : ByteArray := jdk_42_method_149_code
theorem d0 : decode yB 0 = .ok (.aload_n 0, 1) := by decide +kernel
theorem d1 : decode yB 1 = .ok (.invokespecial 1, 3) := by decide +kernel
theorem d4 : decode yB 4 = .ok (.iload_n 3, 1) := by decide +kernel
theorem d5 : decode yB 5 = .ok (.ifCond (.ne) 22, 3) := by decide +kernel
theorem d27 : decode yB 27 = .ok (.getstatic 38, 3) := by decide +kernel
theorem d30 : decode yB 30 = .ok (.ifCond (.eq) 28, 3) := by decide +kernel
theorem d33 : decode yB 33 = .ok (.aload_n 1, 1) := by decide +kernel
theorem d34 : decode yB 34 = .ok (.iload_n 2, 1) := by decide +kernel
theorem d35 : decode yB 35 = .ok (.iload_n 3, 1) := by decide +kernel
theorem d36 : decode yB 36 = .ok (.invokestatic 177, 3) := by decide +kernel
theorem d39 : decode yB 39 = .ok (.astore 5, 2) := by decide +kernel
theorem d41 : decode yB 41 = .ok (.aload_n 0, 1) := by decide +kernel
theorem d42 : decode yB 42 = .ok (.aload 5, 2) := by decide +kernel
theorem d44 : decode yB 44 = .ok (.iload_n 3, 1) := by decide +kernel
theorem d45 : decode yB 45 = .ok (.invokestatic 47, 3) := by decide +kernel
theorem d48 : decode yB 48 = .ok (.putfield 15, 3) := by decide +kernel
theorem d51 : decode yB 51 = .ok (.aload_n 0, 1) := by decide +kernel
theorem d52 : decode yB 52 = .ok (.aload 5, 2) := by decide +kernel
theorem d54 : decode yB 54 = .ok (.putfield 9, 3) := by decide +kernel
theorem d57 : decode yB 57 = .ok (.return_, 1) := by decide +kernel
def site : List Cond := [.fieldLink "java/lang/String" 38 "java/lang/String" "COMPACT_STRINGS" "Z", Cmp3.tab, CodL.tab, .laysFinal "java/lang/String" "java/lang/String" "value" "[B", .fieldLink "java/lang/String" 9 "java/lang/String" "value" "[B", .laysFinal "java/lang/String" "java/lang/String" "coder" "B", .fieldLink "java/lang/String" 15 "java/lang/String" "coder" "B"] ++ objW "java/lang/String" 1 ++ staticW "java/lang/String" 177 Cmp3.yN ++ staticW "java/lang/String" 47 CodL.yN
def tab : Cond := tabOf yN yB 6 none site
def P (a : Addr) (D : Cell) (fV fC : Field) (b : Addr) (A : Cell) (z : Int32) (o len : Nat) (args : Array Value) (s : State) : Prop := args = #[.ref a, .ref b, .int (Int32.ofNat o), .int (Int32.ofNat len), .null] ∧ Blank "java/lang/String" a D s ∧ Found "java/lang/String" "value" "[B" fV s ∧ Found "java/lang/String" "coder" "B" fC s ∧ Ch b A s ∧ StaticIs s "java/lang/String" "COMPACT_STRINGS" "Z" (.int z) ∧ ¬ z = 0 ∧ 0 < len ∧ o + len ≤ A.slots.size ∧ len ≤ 536870912 ∧ ∀ i, i < len → ¬ 255 < cv A (o + i)
def E (a : Addr) (D : Cell) (fV fC : Field) (A : Cell) (o len : Nat) (r : Option Value) (s u : State) : Prop := Got a D fV fC A o len r s u
/-- len > 0, no char of the range above 255: a Latin-1 String of their low bytes -/
theorem law (l : Launch) (a : Addr) (D : Cell) (fV fC : Field) (b : Addr) (A : Cell) (z : Int32) (o len : Nat) : Law l yN 5 4 2 35 yB 6 none site (P a D fV fC b A z o len) (E a D fV fC A o len) [⟨a, fC.slot⟩, ⟨a, fV.slot⟩] 1 len := by
  refine Law.of_walk (plainFor_of_name (by decide +kernel)) (by decide +kernel) (by decide +kernel) (by decide) (fun _ _ h => by rw [h.1]; rfl) (fun _ U U' hal hh h => ⟨h.1, h.2.1.mv hal hh, h.2.2.1.al hal, h.2.2.2.1.al hal, h.2.2.2.2.1.mv hal hh, h.2.2.2.2.2.1.there hal hh, h.2.2.2.2.2.2⟩) (fun r U U' V V' h1 hal h2 h => Got.mv r U U' V V' h1 hal h2 h) ?_
  intro p e s m args below meth c s₁ X0 hexec hbytes hml hret hlk hnm hown hh0 W hP
  obtain ⟨rfl, hB, f1, f2, hA, s1, hz, l0, l1, l2, hp⟩ := hP
  have a31 := hA.1.2.2.2
  have c1 : Steps p.tables e below (s₁.setTop (entryFrame m #[.ref a, .ref b, .int (Int32.ofNat o), .int (Int32.ofNat len), .null] 6)) (s₁.setTop (mkF m 0 #[.val (.ref a), .val (.ref b), .val (.int (Int32.ofNat o)), .val (.int (Int32.ofNat len)), .val .null, .unset] [])) := entry rfl
  have c2 : Steps p.tables e below (s₁.setTop (entryFrame m #[.ref a, .ref b, .int (Int32.ofNat o), .int (Int32.ofNat len), .null] 6)) (s₁.setTop (mkF m 1 #[.val (.ref a), .val (.ref b), .val (.int (Int32.ofNat o)), .val (.int (Int32.ofNat len)), .val .null, .unset] [.ref a])) := c1.trans (by
    refine XS.aloadN X0.here hexec rfl (hb hbytes d0) rfl rfl ?_
    exact Steps.refl _)
  obtain ⟨T3, X3, q3, st3⟩ := X0.oinit hexec hown (wks W (objW "java/lang/String" 1)) (g := (mkF m 1 #[.val (.ref a), .val (.ref b), .val (.int (Int32.ofNat o)), .val (.int (Int32.ofNat len)), .val .null, .unset] [.ref a])) rfl (by rw [hml]; rfl) (rest := []) rfl (hb hbytes d1) (W := 0) (by show 2 * 0 + 0 ≤ _; decide) (Nat.le_of_ble_eq_true rfl) (Nat.le_of_ble_eq_true rfl)
  have hh3 := q3.trans hh0
  have c4 : Steps p.tables e below (s₁.setTop (entryFrame m #[.ref a, .ref b, .int (Int32.ofNat o), .int (Int32.ofNat len), .null] 6)) (T3.setTop (mkF m 27 #[.val (.ref a), .val (.ref b), .val (.int (Int32.ofNat o)), .val (.int (Int32.ofNat len)), .val .null, .unset] [])) := (c2.trans (st3 _ (Steps.refl _))).trans (by
    refine XS.iloadN X3.here hexec rfl (hb hbytes d4) rfl ?_
    refine XS.ifYes X3.here hexec rfl (pc0 := 5) rfl (hb hbytes d5) rfl (i0_ne_t (nz32 (by omega) l0)) (by decide) rfl ?_
    exact Steps.refl _)
  obtain ⟨T5, X5, q5, st5⟩ := X3.sget hexec hown (wk W (.fieldLink "java/lang/String" 38 "java/lang/String" "COMPACT_STRINGS" "Z")) s1 (fun _ _ h => by rw [hh3]; exact h) (g := (mkF m 27 #[.val (.ref a), .val (.ref b), .val (.int (Int32.ofNat o)), .val (.int (Int32.ofNat len)), .val .null, .unset] [])) rfl (hb hbytes d27)
  have hh5 := q5.trans hh3
  have c6 : Steps p.tables e below (s₁.setTop (entryFrame m #[.ref a, .ref b, .int (Int32.ofNat o), .int (Int32.ofNat len), .null] 6)) (T5.setTop (mkF m 30 #[.val (.ref a), .val (.ref b), .val (.int (Int32.ofNat o)), .val (.int (Int32.ofNat len)), .val .null, .unset] [.int z])) := c4.trans (st5 _ (Steps.refl _))
  have c7 : Steps p.tables e below (s₁.setTop (entryFrame m #[.ref a, .ref b, .int (Int32.ofNat o), .int (Int32.ofNat len), .null] 6)) (T5.setTop (mkF m 36 #[.val (.ref a), .val (.ref b), .val (.int (Int32.ofNat o)), .val (.int (Int32.ofNat len)), .val .null, .unset] [.int (Int32.ofNat len), .int (Int32.ofNat o), .ref b])) := c6.trans (by
    refine XS.ifNo X5.here hexec rfl (hb hbytes d30) rfl (i0_eq_f hz) ?_
    refine XS.aloadN X5.here hexec rfl (hb hbytes d33) rfl rfl ?_
    refine XS.iloadN X5.here hexec rfl (hb hbytes d34) rfl ?_
    refine XS.iloadN X5.here hexec rfl (hb hbytes d35) rfl ?_
    exact Steps.refl _)
  obtain ⟨v8, T8, X8, E8, g8⟩ := X5.callS hexec (Cmp3.law l b A o len) hown (wks W (staticW "java/lang/String" 177 Cmp3.yN)) (wk W Cmp3.tab) (W := 0) (Nat.le_of_ble_eq_true rfl) (Nat.le_of_ble_eq_true rfl) (Nat.le_refl _) (by show 0 + len ≤ len; omega) (g := (mkF m 36 #[.val (.ref a), .val (.ref b), .val (.int (Int32.ofNat o)), .val (.int (Int32.ofNat len)), .val .null, .unset] [.int (Int32.ofNat len), .int (Int32.ofNat o), .ref b])) rfl (by rw [hml]; rfl) c7 (argsL := [.ref b, .int (Int32.ofNat o), .int (Int32.ofNat len)]) (rest := []) rfl rfl (by show 2 * 0 + 0 ≤ _; decide) (hb hbytes d36) (⟨rfl, hA.mv X5.warmed.alike hh5, l1, l2, hp⟩)
  obtain ⟨e8, z8⟩ := E8
  obtain ⟨rfl, N, n1, n2, n3, n4, n5, n6⟩ := NewArr.mv _ T5 s _ _ hh5.symm (Vm.Alike.refl _) rfl e8
  rw [hh5] at z8
  have hB1 := hB.keep X8.warmed.alike (n6 _ _ hB.1)
  have hne : s.heap.size ≠ a := (Nat.ne_of_lt (Array.getElem?_eq_some_iff.mp hB.1).1).symm
  have c9 : Steps p.tables e below (s₁.setTop (entryFrame m #[.ref a, .ref b, .int (Int32.ofNat o), .int (Int32.ofNat len), .null] 6)) (T8.setTop (mkF m 39 #[.val (.ref a), .val (.ref b), .val (.int (Int32.ofNat o)), .val (.int (Int32.ofNat len)), .val .null, .unset] [.ref s.heap.size])) := g8
  have c10 : Steps p.tables e below (s₁.setTop (entryFrame m #[.ref a, .ref b, .int (Int32.ofNat o), .int (Int32.ofNat len), .null] 6)) (T8.setTop (mkF m 45 #[.val (.ref a), .val (.ref b), .val (.int (Int32.ofNat o)), .val (.int (Int32.ofNat len)), .val .null, .val (.ref s.heap.size)] [.int (Int32.ofNat N.slots.size), .ref s.heap.size, .ref a])) := by
    have hc : Steps p.tables e below (s₁.setTop (entryFrame m #[.ref a, .ref b, .int (Int32.ofNat o), .int (Int32.ofNat len), .null] 6)) (T8.setTop (mkF m 45 #[.val (.ref a), .val (.ref b), .val (.int (Int32.ofNat o)), .val (.int (Int32.ofNat len)), .val .null, .val (.ref s.heap.size)] [.int (Int32.ofNat len), .ref s.heap.size, .ref a])) := c9.trans (by
      refine XS.astore X8.here hexec rfl (hb hbytes d39) rfl rfl rfl ?_
      refine XS.aloadN X8.here hexec rfl (hb hbytes d41) rfl rfl ?_
      refine XS.aload X8.here hexec rfl (hb hbytes d42) rfl rfl ?_
      refine XS.iloadN X8.here hexec rfl (hb hbytes d44) rfl ?_
      exact Steps.refl _)
    rw [n4]; exact hc
  obtain ⟨v11, T11, X11, E11, g11⟩ := X8.callS hexec (CodL.law l s.heap.size N) hown (wks W (staticW "java/lang/String" 47 CodL.yN)) (wk W CodL.tab) (W := 1) (Nat.le_of_ble_eq_true rfl) (Nat.le_of_ble_eq_true rfl) (Nat.le_refl _) (by show 0 + len + 0 ≤ len; omega) (g := (mkF m 45 #[.val (.ref a), .val (.ref b), .val (.int (Int32.ofNat o)), .val (.int (Int32.ofNat len)), .val .null, .val (.ref s.heap.size)] [.int (Int32.ofNat N.slots.size), .ref s.heap.size, .ref a])) rfl (by rw [hml]; rfl) c10 (argsL := [.ref s.heap.size, .int (Int32.ofNat N.slots.size)]) (rest := [.ref a]) rfl rfl (by show 2 * 0 + (1 + 0) ≤ _; decide) (hb hbytes d45) (⟨rfl, n1⟩)
  obtain ⟨rfl, q11⟩ := E11
  have hB11 := hB1.mv (X8.warmed.alike.symm.trans X11.warmed.alike) q11
  have c12 : Steps p.tables e below (s₁.setTop (entryFrame m #[.ref a, .ref b, .int (Int32.ofNat o), .int (Int32.ofNat len), .null] 6)) (T11.setTop (mkF m 48 #[.val (.ref a), .val (.ref b), .val (.int (Int32.ofNat o)), .val (.int (Int32.ofNat len)), .val .null, .val (.ref s.heap.size)] [.int 0, .ref a])) := g11
  obtain ⟨T13, X13, p13, bl13, sl13, st13⟩ := X11.finit hexec hown (wk W (.fieldLink "java/lang/String" 15 "java/lang/String" "coder" "B")) (Or.inr ⟨_, (wk W (.laysFinal "java/lang/String" "java/lang/String" "coder" "B"))⟩) (Or.inl ⟨rfl, hnm⟩) f2 (Or.inl rfl) hB11 (t := .byte) (by decide +kernel) rfl (g := (mkF m 48 #[.val (.ref a), .val (.ref b), .val (.int (Int32.ofNat o)), .val (.int (Int32.ofNat len)), .val .null, .val (.ref s.heap.size)] [.int 0, .ref a])) rfl (rest := []) rfl (hb hbytes d48)
  have c14 : Steps p.tables e below (s₁.setTop (entryFrame m #[.ref a, .ref b, .int (Int32.ofNat o), .int (Int32.ofNat len), .null] 6)) (T13.setTop (mkF m 54 #[.val (.ref a), .val (.ref b), .val (.int (Int32.ofNat o)), .val (.int (Int32.ofNat len)), .val .null, .val (.ref s.heap.size)] [.ref s.heap.size, .ref a])) := (c12.trans (st13 _ (Steps.refl _))).trans (by
    refine XS.aloadN X13.here hexec rfl (hb hbytes d51) rfl rfl ?_
    refine XS.aload X13.here hexec rfl (hb hbytes d52) rfl rfl ?_
    exact Steps.refl _)
  obtain ⟨T15, X15, p15, bl15, sl15, st15⟩ := X13.finit hexec hown (wk W (.fieldLink "java/lang/String" 9 "java/lang/String" "value" "[B")) (Or.inr ⟨_, (wk W (.laysFinal "java/lang/String" "java/lang/String" "value" "[B"))⟩) (Or.inl ⟨rfl, hnm⟩) f1 (Or.inl rfl) bl13 (t := (.array .byte)) (by decide +kernel) rfl (g := (mkF m 54 #[.val (.ref a), .val (.ref b), .val (.int (Int32.ofNat o)), .val (.int (Int32.ofNat len)), .val .null, .val (.ref s.heap.size)] [.ref s.heap.size, .ref a])) rfl (rest := []) rfl (hb hbytes d54)
  have c16 : Steps p.tables e below (s₁.setTop (entryFrame m #[.ref a, .ref b, .int (Int32.ofNat o), .int (Int32.ofNat len), .null] 6)) (T15.setTop (mkF m 57 #[.val (.ref a), .val (.ref b), .val (.int (Int32.ofNat o)), .val (.int (Int32.ofNat len)), .val .null, .val (.ref s.heap.size)] [])) := c14.trans (st15 _ (Steps.refl _))
  have ap := apart (Or.inr ⟨_, (wk W (.laysFinal "java/lang/String" "java/lang/String" "value" "[B"))⟩) (Or.inr ⟨_, (wk W (.laysFinal "java/lang/String" "java/lang/String" "coder" "B"))⟩) f1 f2 (t₁ := .array .byte) (t₂ := .byte) (by decide +kernel) (by decide +kernel) (by decide)
  have al := X8.warmed.alike.symm.trans X15.warmed.alike
  have n7 : T11.heap[s.heap.size]? = some N := by rw [q11]; exact n1.1
  exact ⟨T15, none, _, _, _, X15, by simp, rfl, by omega, (fun _ => rfl), ⟨rfl, _, N, bl15, ((Same.refl D _).set _ (by simp)).set _ (by simp), sl15, (Cell.slots_setSlot_ne _ ap).trans sl13, n1.keep al (p15.other hne (p13.other hne n7)), n2, by rw [al.findClass]; exact n3, n4, n5, fun y c h1 h2 => p15.other h1 (p13.other h1 (by rw [q11]; exact n6 y c h2)), by rw [p15.2.2, p13.2.2, q11]; exact z8⟩, fun fs hl => c16.trans (X15.returnOut hexec hret (hb hbytes d57) hl)⟩
end New4
namespace New1
def yN : MethodName := ⟨"java/lang/String", "<init>", "([C)V"⟩
abbrev yB : ByteArray := jdk_42_method_3_code
theorem d0 : decode yB 0 = .ok (.aload_n 0, 1) := by decide +kernel
theorem d1 : decode yB 1 = .ok (.aload_n 1, 1) := by decide +kernel
theorem d2 : decode yB 2 = .ok (.iconst 0, 1) := by decide +kernel
theorem d3 : decode yB 3 = .ok (.aload_n 1, 1) := by decide +kernel
theorem d4 : decode yB 4 = .ok (.arraylength, 1) := by decide +kernel
theorem d5 : decode yB 5 = .ok (.aconst_null, 1) := by decide +kernel
theorem d6 : decode yB 6 = .ok (.invokespecial 27, 3) := by decide +kernel
theorem d9 : decode yB 9 = .ok (.return_, 1) := by decide +kernel
def site : List Cond := [New4.tab] ++ initW "java/lang/String" 27 New4.yN
def tab : Cond := tabOf yN yB 2 none site
def P (a : Addr) (D : Cell) (fV fC : Field) (b : Addr) (A : Cell) (z : Int32) (args : Array Value) (s : State) : Prop := args = #[.ref a, .ref b] ∧ Blank "java/lang/String" a D s ∧ Found "java/lang/String" "value" "[B" fV s ∧ Found "java/lang/String" "coder" "B" fC s ∧ Ch b A s ∧ StaticIs s "java/lang/String" "COMPACT_STRINGS" "Z" (.int z) ∧ ¬ z = 0 ∧ 0 < A.slots.size ∧ A.slots.size ≤ 536870912 ∧ ∀ i, i < A.slots.size → ¬ 255 < cv A i
def E (a : Addr) (D : Cell) (fV fC : Field) (A : Cell) (r : Option Value) (s u : State) : Prop := Got a D fV fC A 0 A.slots.size r s u
/-- new String(chars), not empty, no char above 255: a Latin-1 String of their low bytes -/
theorem law (l : Launch) (a : Addr) (D : Cell) (fV fC : Field) (b : Addr) (A : Cell) (z : Int32) : Law l yN 2 1 3 52 yB 2 none site (P a D fV fC b A z) (E a D fV fC A) [⟨a, fC.slot⟩, ⟨a, fV.slot⟩] 1 A.slots.size := by
  refine Law.of_walk (plainFor_of_name (by decide +kernel)) (by decide +kernel) (by decide +kernel) (by decide) (fun _ _ h => by rw [h.1]; rfl) (fun _ U U' hal hh h => ⟨h.1, h.2.1.mv hal hh, h.2.2.1.al hal, h.2.2.2.1.al hal, h.2.2.2.2.1.mv hal hh, h.2.2.2.2.2.1.there hal hh, h.2.2.2.2.2.2⟩) (fun r U U' V V' h1 hal h2 h => Got.mv r U U' V V' h1 hal h2 h) ?_
  intro p e s m args below meth c s₁ X0 hexec hbytes hml hret hlk hnm hown hh0 W hP
  obtain ⟨rfl, hB, f1, f2, hA, s1, hz, l0, l2, hp⟩ := hP
  have c1 : Steps p.tables e below (s₁.setTop (entryFrame m #[.ref a, .ref b] 2)) (s₁.setTop (mkF m 0 #[.val (.ref a), .val (.ref b)] [])) := entry rfl
  have c2 : Steps p.tables e below (s₁.setTop (entryFrame m #[.ref a, .ref b] 2)) (s₁.setTop (mkF m 6 #[.val (.ref a), .val (.ref b)] [.null, .int (Int32.ofNat A.slots.size), .int 0, .ref b, .ref a])) := c1.trans (by
    refine XS.aloadN X0.here hexec rfl (hb hbytes d0) rfl rfl ?_
    refine XS.aloadN X0.here hexec rfl (hb hbytes d1) rfl rfl ?_
    refine iconstV X0.here hexec rfl 0 (hb hbytes d2) (by decide) ?_
    refine XS.aloadN X0.here hexec rfl (hb hbytes d3) rfl rfl ?_
    refine X0.alen hexec (hA.1.mv X0.warmed.alike hh0) rfl rfl (hb hbytes d4) ?_
    refine XS.aconstNull X0.here hexec rfl (hb hbytes d5) ?_
    exact Steps.refl _)
  obtain ⟨v3, T3, X3, E3, g3⟩ := X0.callN hexec (New4.law l a D fV fC b A z 0 A.slots.size) rfl hown (wks W (initW "java/lang/String" 27 New4.yN)) (W New4.tab (by simp only [site, List.mem_cons, List.mem_append, true_or, or_true])) (W := 0) (Nat.le_of_ble_eq_true rfl) (Nat.le_of_ble_eq_true rfl) (Nat.le_refl _) (by show 0 + A.slots.size ≤ A.slots.size; omega) (g := (mkF m 6 #[.val (.ref a), .val (.ref b)] [.null, .int (Int32.ofNat A.slots.size), .int (Int32.ofNat 0), .ref b, .ref a])) rfl (by rw [hml]; rfl) c2 (argsL := [.ref b, .int (Int32.ofNat 0), .int (Int32.ofNat A.slots.size), .null]) (rest := []) rfl rfl (by show 2 * 0 + 0 ≤ _; decide) (hb hbytes d6) (⟨rfl, hB.mv X0.warmed.alike hh0, f1.al X0.warmed.alike, f2.al X0.warmed.alike, hA.mv X0.warmed.alike hh0, s1.there X0.warmed.alike hh0, hz, l0, by omega, l2, fun i hi => by rw [Nat.zero_add]; exact hp i hi⟩)
  have e0 := Got.mv _ s₁ s _ _ hh0.symm (Vm.Alike.refl _) rfl E3
  obtain rfl := e0.1
  have c4 : Steps p.tables e below (s₁.setTop (entryFrame m #[.ref a, .ref b] 2)) (T3.setTop (mkF m 9 #[.val (.ref a), .val (.ref b)] [])) := g3
  exact ⟨T3, none, _, _, _, X3, by simp, rfl, by omega, (fun _ => rfl), e0, fun fs hl => c4.trans (X3.returnOut hexec hret (hb hbytes d9) hl)⟩
theorem pays {l : Launch} {R : Room} {p : Program} {e : Env} {below : List Frame} {s : State} {sargs : Array Value} {len W : Nat} (a : Addr) (D : Cell) (fV fC : Field) (b : Addr) (A : Cell) (z : Int32) (htab : tab.before sargs s = true) (hfr : 4 ≤ R.frames) (hlo : W + 65 ≤ R.locals) :
    Back l R p e below s sargs yN len W (fun A₁ a₁ => A₁.cells + 1 ≤ R.cells ∧ A₁.slots + A.slots.size ≤ R.slots ∧ P a D fV fC b A z a₁ A₁.U) (fun A₁ _ v₁ B₁ => E a D fV fC A v₁ A₁.U B₁.U ∧ B₁.locs = A₁.locs ++ [⟨a, fC.slot⟩, ⟨a, fV.slot⟩] ∧ B₁.cells = A₁.cells + 1 ∧ B₁.slots = A₁.slots + A.slots.size) :=
  (law l a D fV fC b A z).pays htab hfr (by omega)
end New1
end StrChars
namespace StrChars.Road
open Jvm Sem ClassFile Op Lib Jvm.Stand Jvm.Free Jvm.Free.XT
open Jvm.Lib.Cold (StaticIs)
abbrev ST : String := "java/lang/String"
/-- every table word that New1's law asks, flat -/
abbrev words : List Jvm.Cond := [.code New1.yN New1.yB 2 none, .initialized ST, .methodLink ST 27 New4.yN, .instanceMethod New4.yN,
  .code New4.yN New4.yB 6 none, .fieldLink ST 38 ST "COMPACT_STRINGS" "Z", .laysFinal ST ST "value" "[B", .fieldLink ST 9 ST "value" "[B", .laysFinal ST ST "coder" "B", .fieldLink ST 15 ST "coder" "B",
  .methodLink ST 1 Lib.objectInit, .instanceMethod Lib.objectInit, .code Lib.objectInit ⟨#[0xb1]⟩ 1 none, .methodLink ST 177 Cmp3.yN, .static Cmp3.yN, .methodLink ST 47 CodL.yN, .static CodL.yN,
  .code Cmp3.yN Cmp3.yB 6 (some (.array .byte)), .initialized U16, .arrayClass .byte, .methodLink U16 115 Cmp5.yN, .static Cmp5.yN, .code Cmp5.yN Cmp5.yB 7 (some .int), .code CodL.yN CodL.yB 2 (some .byte)]
theorem tab_of {a : Array Value} {s : State} (h : ∀ w ∈ words, w.before a s = true) : New1.tab.before a s = true := by
  have h5 : Cmp5.tab.before a s = true := unparts (wk h (.code Cmp5.yN Cmp5.yB 7 (some .int))) (wks h (.initialized Cmp5.yN.cls :: Cmp5.site))
  have hc : CodL.tab.before a s = true := unparts (wk h (.code CodL.yN CodL.yB 2 (some .byte))) (wks h (.initialized CodL.yN.cls :: CodL.site))
  have q5 : ∀ w ∈ Cmp5.tab :: words, w.before a s = true := fun w hw => (List.mem_cons.mp hw).elim (fun e => e ▸ h5) (h w)
  have h3 : Cmp3.tab.before a s = true := unparts (wk q5 (.code Cmp3.yN Cmp3.yB 6 (some (.array .byte)))) (wks q5 (.initialized Cmp3.yN.cls :: Cmp3.site))
  have q3 : ∀ w ∈ Cmp3.tab :: CodL.tab :: words, w.before a s = true := fun w hw => (List.mem_cons.mp hw).elim (fun e => e ▸ h3) fun hw => (List.mem_cons.mp hw).elim (fun e => e ▸ hc) (h w)
  have h4 : New4.tab.before a s = true := unparts (wk q3 (.code New4.yN New4.yB 6 none)) (wks q3 (.initialized New4.yN.cls :: New4.site))
  have q4 : ∀ w ∈ New4.tab :: words, w.before a s = true := fun w hw => (List.mem_cons.mp hw).elim (fun e => e ▸ h4) (h w)
  exact unparts (wk q4 (.code New1.yN New1.yB 2 none)) (wks q4 (.initialized New1.yN.cls :: New1.site))
/-- the words ride from the start Z to the walk's own state -/
theorem moved {Z s : State} {a0 args : Array Value} (hZ : Z.Warmed39 s.vm) (hw : ∀ d ∈ words, d.before a0 Z = true) : ∀ d ∈ words, d.before args s = true := fun d hd => by
  have q := hw d hd
  have t : ∀ d ∈ words, d = .arrayClass .byte ∨ (d.onTables && d.keepsFace) = true := by decide +kernel
  rcases t d hd with rfl | t
  · exact RoadKit.mvA hZ q
  · exact RoadKit.mv hZ q t
/-- WHAT COMES BACK, over the tables of the start Z: h the heap at the call, h' behind it -/
def Q (Z : State) (x : Addr) (A : Cell) (h : Heap) (v : Option Value) (h' : Heap) (L : List Loc) : Prop := v = none ∧ (∀ y ∈ L, y.base = x) ∧ RoadKit.Keep h h' [x] ∧ h'.size = h.size + 1 ∧ RoadKit.Exa Z h' x ST ∧ RoadKit.Fld Z h' x ST "value" "[B" (.ref h.size) ∧ RoadKit.Fld Z h' x ST "coder" "B" (.int 0) ∧
  (∃ V : Cell, RoadKit.Arr Z h' h.size V .byte ∧ V.vm = .none ∧ Z.vm.findClass "[B" = some V.cls ∧ V.slots.size = A.slots.size ∧ ∀ j, j < A.slots.size → V.slots[j]? = some (.int (lo8 (cv A j)))) ∧
  ∀ (O n d : String) (w : Value), RoadKit.Fld Z h x O n d w → RoadKit.slotOf Z O n d ≠ RoadKit.slotOf Z ST "value" "[B" → RoadKit.slotOf Z O n d ≠ RoadKit.slotOf Z ST "coder" "B" → RoadKit.Fld Z h' x O n d w
/-- **new String(chars) AT A CALL, IN THE ROAD'S FORM**: for specialBack behind newO: x the fresh String, b the char[] with the cell A -/
theorem back {p : Program} {l : Launch} {e : Env} {R : Room} {s : State} {args : Array Value} {below : List Frame} {len W : Nat} {Z : State} {a0 : Array Value} {h : Heap} (hZ : Z.Warmed39 s.vm) (hw : ∀ d ∈ words, d.before a0 Z = true) {kI : Nat} (wi : (Jvm.Cond.instantiable ST kI).before a0 Z = true)
    {x b : Addr} {A : Cell} {z : Int32} {v0 c0 : Value} (E : RoadKit.Exa Z h x ST) (V : RoadKit.Fld Z h x ST "value" "[B" v0) (C : RoadKit.Fld Z h x ST "coder" "B" c0) (K : RoadKit.Arr Z h b A .char) (hty : Typed .char A) (S : RoadKit.Sta Z h ST "COMPACT_STRINGS" "Z" (.int z)) (hz : ¬ z = 0)
    (l0 : 0 < A.slots.size) (l2 : A.slots.size ≤ 536870912) (hp : ∀ i, i < A.slots.size → ¬ 255 < cv A i) (hfr : 4 ≤ R.frames) (hlo : W + 65 ≤ R.locals) :
    Back l R p e below s args New1.yN len W (fun P a => a = #[.ref x, .ref b] ∧ P.U.heap = h ∧ P.cells + 1 ≤ R.cells ∧ P.slots + A.slots.size ≤ R.slots)
      (fun P _ v B => ∃ L, Q Z x A h v B.U.heap L ∧ B.locs = P.locs ++ L ∧ B.cells = P.cells + 1 ∧ B.slots = P.slots + A.slots.size) := by
  intro m meth c P g ig mk a X hg hsize hdg hW hn hp'
  obtain ⟨rfl, rfl, r1, r2⟩ := hp'
  have al : Z.vm.Alike P.U.vm := hZ.alike.trans X.warmed.alike
  obtain ⟨D, cfV, kV, iV, fV, hD, gV, stV, knV, obV, asV, slV⟩ := id V
  obtain ⟨D', cfC, kC, iC, fC, hD', gC, stC, -, -, asC, slC⟩ := id C
  cases hD.symm.trans hD'
  obtain ⟨D2, kD, e1, e2, e3, e4, e5⟩ := id E
  cases hD.symm.trans e1
  obtain ⟨c2, k2, i1, i2, i3, -⟩ := Cond.instantiable_spec wi
  cases e2.symm.trans i1
  cases e3.symm.trans i2
  obtain ⟨kU, u1, u2⟩ := al.2.2 _ _ e3
  have hB : Blank ST x D P.U := ⟨hD, ⟨knV, fun q hq => by rw [hq] at obV; cases obV⟩, by rw [al.findClass]; exact e2, kU, u1, by rw [u2]; exact i3, by rw [u2]; exact e5 i3⟩
  have F1 : Found ST "value" "[B" fV P.U := ⟨SBG.found_only al ⟨cfV, kV, iV, gV⟩, stV⟩
  have F2 : Found ST "coder" "B" fC P.U := ⟨SBG.found_only al ⟨cfC, kC, iC, gC⟩, stC⟩
  have hA : Ch b A P.U := ⟨⟨K.1, State.isArrayOf_alike al K.2.1, K.2.2, by omega⟩, hty⟩
  have hS : StaticIs P.U ST "COMPACT_STRINGS" "Z" (.int z) := by
    obtain ⟨cfS, iS, kS, fS, st, cS, t1, t2, t3, t4, t5, t6, t7⟩ := S
    exact StaticIs.there (s := { Z with heap := P.U.heap }) ⟨cfS, iS, kS, fS, st, cS, t1, t2, t3, t4, t5, (fun q => by rw [q] at t6; cases t6), t7⟩ al rfl
  obtain ⟨v, B, X', ⟨⟨hv, E', V', q1, q2, q3, q4, q5, q6, q7, q8, q9, q10, q11⟩, hl, hc, hs⟩, st⟩ := New1.pays x D fV fC b A z (tab_of (moved hZ hw)) hfr hlo m meth c P g ig mk _ X hg hsize hdg hW hn ⟨r1, r2, rfl, hB, F1, F2, hA, hS, hz, l0, l2, hp⟩
  have al' : Z.vm.Alike B.U.vm := hZ.alike.trans X'.warmed.alike
  have hsz : E'.slots.size = D.slots.size := by
    obtain ⟨-, -, -, kB, w1, w2, w3⟩ := q1
    obtain ⟨kB', y1, y2⟩ := al'.2.2 _ _ e3
    rw [q2.2.1] at w1
    cases w1.symm.trans y1
    rw [w3, e5 i3, y2]
  refine ⟨v, B, X', ⟨_, ⟨hv, ?_, ⟨by omega, fun y cy hy hn' => q10 y cy (by simpa using hn') hy, fun y cy hy => ?_⟩, q11, ⟨E', _, q1.1, by rw [q2.2.1]; exact e2, by rw [q2.2.1]; exact e3, by rw [q2.1]; exact obV, fun _ => by rw [hsz]; exact e5 i3⟩,
    ⟨E', cfV, kV, iV, fV, q1.1, gV, stV, by rw [q2.1]; exact knV, by rw [q2.1]; exact obV, by rw [q2.2.1]; exact asV, q3⟩, ⟨E', cfC, kC, iC, fC, q1.1, gC, stC, by rw [q2.1]; exact knV, by rw [q2.1]; exact obV, by rw [q2.2.1]; exact asC, q4⟩,
    ⟨V', ⟨q5.1, State.isArrayOf_alike al'.symm q5.2.1, q5.2.2.1⟩, q6, by rw [← al'.findClass]; exact q7, q8, fun j hj => by have := q9 j hj; rwa [Nat.zero_add] at this⟩, fun O n d w F n1 n2 => ?_⟩, hl, hc, hs⟩, st⟩
  · intro y hy
    simp only [List.mem_cons, List.not_mem_nil, or_false] at hy
    rcases hy with rfl | rfl <;> rfl
  · by_cases q : y = x
    · subst q
      cases hD.symm.trans hy
      exact ⟨E', q1.1, q2.2.1, q2.1, hsz⟩
    · exact ⟨cy, q10 y cy q hy, rfl, rfl, rfl⟩
  · obtain ⟨D3, cf, k, i, f, g1, g2, g3, g4, g5, g6, g7⟩ := F
    cases hD.symm.trans g1
    simp only [RoadKit.slotOf, g2, gV, gC, Option.map_some, Option.getD_some] at n1 n2
    exact ⟨E', cf, k, i, f, q1.1, g2, g3, by rw [q2.1]; exact g4, by rw [q2.1]; exact g5, by rw [q2.2.1]; exact g6, by rw [q2.2.2 f.slot (by simp [n1, n2])]; exact g7⟩
end StrChars.Road
namespace StrChars.Road
open Jvm Sem ClassFile Op Lib Jvm.Stand Jvm.Free Jvm.Free.XT
/-- WHAT COMES BACK, the byte[] as a list of values -/
def QA (Z : State) (x : Addr) (zn : Int32) (cs : List Int32) (h : Heap) (v : Option Value) (h' : Heap) (L : List Loc) : Prop := v = none ∧ (∀ y ∈ L, y.base = x) ∧ RoadKit.Keep h h' [x] ∧ h'.size = h.size + 1 ∧ RoadKit.Exa Z h' x ST ∧ RoadKit.Fld Z h' x ST "value" "[B" (.ref h.size) ∧ RoadKit.Fld Z h' x ST "coder" "B" (.int 0) ∧
  (∃ kb, Z.vm.findClass "[B" = some kb ∧ RoadKit.Arv Z h' h.size kb .byte zn (cs.map fun c => .int (lo8 c)) (.int 0)) ∧
  ∀ (O n d : String) (w : Value), RoadKit.Fld Z h x O n d w → RoadKit.slotOf Z O n d ≠ RoadKit.slotOf Z ST "value" "[B" → RoadKit.slotOf Z O n d ≠ RoadKit.slotOf Z ST "coder" "B" → RoadKit.Fld Z h' x O n d w
/-- **new String(chars) AT A CALL, THE ARRAYS AS LISTS**: the char[] at b holds cs, not empty, no char above 255 -/
theorem backArv {p : Program} {l : Launch} {e : Env} {R : Room} {s : State} {args : Array Value} {below : List Frame} {len W : Nat} {Z : State} {a0 : Array Value} {h : Heap} (hZ : Z.Warmed39 s.vm) (hw : ∀ d ∈ words, d.before a0 Z = true) {kI : Nat} (wi : (Jvm.Cond.instantiable ST kI).before a0 Z = true)
    {x b : Addr} {k : ClassId} {zn z : Int32} {cs : List Int32} {dv v0 c0 : Value} (E : RoadKit.Exa Z h x ST) (V : RoadKit.Fld Z h x ST "value" "[B" v0) (C : RoadKit.Fld Z h x ST "coder" "B" c0) (K : RoadKit.Arv Z h b k .char zn (cs.map Value.int) dv) (S : RoadKit.Sta Z h ST "COMPACT_STRINGS" "Z" (.int z)) (hz : ¬ z = 0)
    (hlen : zn.toNatClampNeg = cs.length) (h0 : 0 < cs.length) (hbig : cs.length ≤ 536870912) (hall : ∀ c ∈ cs, ¬ 255 < c) (hfr : 4 ≤ R.frames) (hlo : W + 65 ≤ R.locals) :
    Back l R p e below s args New1.yN len W (fun P a => a = #[.ref x, .ref b] ∧ P.U.heap = h ∧ P.cells + 1 ≤ R.cells ∧ P.slots + cs.length ≤ R.slots)
      (fun P _ v B => ∃ L, QA Z x zn cs h v B.U.heap L ∧ B.locs = P.locs ++ L ∧ B.cells = P.cells + 1 ∧ B.slots = P.slots + cs.length) := by
  obtain ⟨A, K1, K2, K3, K4, K5, K6⟩ := K
  have e : A.slots.size = cs.length := K3.trans hlen
  have hat : ∀ (i : Nat) (hi : i < cs.length), A.slots[i]? = some (.int cs[i]) := fun i hi => by rw [K5 i (by omega)]; simp [List.getD_eq_getElem?_getD, hi]
  have hcv : ∀ (i : Nat) (hi : i < cs.length), cv A i = cs[i] := fun i hi => by unfold cv; rw [hat i hi]
  have hty : Typed .char A := fun i v hv => by
    have hi : i < A.slots.size := (Array.getElem?_eq_some_iff.mp hv).1
    have q := K5 i hi
    rw [hv] at q
    rw [Option.some.inj q]
    exact K6 i hi
  refine Back.mono (back hZ hw wi E V C K1 hty S hz (by omega) (by omega) (fun i hi => by rw [hcv i (by omega)]; exact hall _ (List.getElem_mem _)) hfr hlo) (fun P a hp => ⟨hp.1, hp.2.1, hp.2.2.1, by rw [e]; exact hp.2.2.2⟩) (fun P a v B hp hq => ?_)
  obtain ⟨L, ⟨q1, q2, q3, q4, q5, q6, q7, ⟨V', v1, v2, v3, v4, v5⟩, q9⟩, hl, hc, hs⟩ := hq
  refine ⟨L, ⟨q1, q2, q3, q4, q5, q6, q7, ⟨V'.cls, v3, V', v1, rfl, by rw [v4, e, hlen], K4, fun i hi => ?_, fun i hi => ?_⟩, q9⟩, hl, hc, by rw [hs, e]⟩
  · have hi' : i < cs.length := by omega
    rw [v5 i (by omega), hcv i hi']; simp [List.getD_eq_getElem?_getD, hi']
  · have hi' : i < cs.length := by omega
    simp only [List.getD_eq_getElem?_getD, List.getElem?_map, List.getElem?_eq_getElem hi', Option.map_some, Option.getD_some]
    exact fits_lo8 _
end StrChars.Road
namespace StrChars.Road
open Jvm Sem ClassFile Op Lib Jvm.Stand Jvm.Free Jvm.Free.XT
/-- WHAT COMES BACK, in the writer's own shape -/
def QV (Z : State) (x : Addr) (N : Int32) (bs : List Int32) (h : Heap) (n0 : Nat) (v : Option Value) (h' : Heap) (L : List Loc) : Prop := v = none ∧ RoadKit.Fr n0 L ∧ RoadKit.Keep h h' [x] ∧ RoadKit.Exa Z h' x ST ∧ RoadKit.Fld Z h' x ST "coder" "B" (.int 0) ∧
  ∃ (t : Addr) (kb : ClassId), n0 ≤ t ∧ h.size ≤ t ∧ ¬ t = x ∧ RoadKit.Fld Z h' x ST "value" "[B" (.ref t) ∧ RoadKit.Arv Z h' t kb .byte N (bs.map Value.int) (.int 0)
/-- **new String(chars) AT A CALL, FOR THE WRITER**: a char[] of n known ints, each 0 to 255 -/
theorem backV {p : Program} {l : Launch} {e : Env} {R : Room} {s : State} {args : Array Value} {below : List Frame} {len W : Nat} {Z : State} {a0 : Array Value} {h : Heap} (hZ : Z.Warmed39 s.vm) (hw : ∀ d ∈ words, d.before a0 Z = true) {kI : Nat} (wi : (Jvm.Cond.instantiable ST kI).before a0 Z = true)
    {x b : Addr} {kC : ClassId} {cs bs : List Int32} {d v0 c0 : Value} {z N : Int32} {n n0 : Nat} (hx0 : n0 ≤ x) (hh0 : n0 ≤ h.size) (E : RoadKit.Exa Z h x ST) (V : RoadKit.Fld Z h x ST "value" "[B" v0) (C : RoadKit.Fld Z h x ST "coder" "B" c0) (K : RoadKit.Arv Z h b kC .char N (cs.map Value.int) d) (S : RoadKit.Sta Z h ST "COMPACT_STRINGS" "Z" (.int z)) (hz : ¬ z = 0)
    (hn : cs.length = n) (hN : N = Int32.ofNat n) (l0 : 0 < n) (l2 : n ≤ 4000) (hp : ∀ c ∈ cs, ¬ c < 0 ∧ ¬ (255 : Int32) < c) (hb : bs = cs.map (fun c => c.toInt8.toInt32)) (hfr : 4 ≤ R.frames) (hlo : W + 65 ≤ R.locals) :
    Back l R p e below s args (⟨"java/lang/String", "<init>", "([C)V"⟩ : MethodName) len W (fun P a => a = #[.ref x, .ref b] ∧ P.U.heap = h ∧ P.cells + 1 ≤ R.cells ∧ P.slots + n ≤ R.slots)
      (fun P _ v B => ∃ L, QV Z x N bs h n0 v B.U.heap L ∧ B.locs = P.locs ++ L ∧ B.cells = P.cells + 1 ∧ B.slots = P.slots + n) := by
  subst hn hN hb
  refine Back.mono (backArv hZ hw wi E V C K S hz (n32 (by omega)) l0 (by omega) (fun c hc => (hp c hc).2) hfr hlo) (fun P a hp => hp) (fun P a v B hp hq => ?_)
  obtain ⟨L, ⟨q1, q2, q3, q4, q5, q6, q7, ⟨kb, v1, v2⟩, q9⟩, hl, hc, hs⟩ := hq
  exact ⟨L, ⟨q1, fun y hy => by rw [q2 y hy]; exact hx0, q3, q5, q7, h.size, kb, hh0, Nat.le_refl _, Nat.ne_of_gt E.lt, q6, by rw [List.map_map]; exact v2⟩, hl, hc, hs⟩
end StrChars.Road
end Jvm.Pilot.@@N@@

namespace Jvm.Pilot.@@N@@
open Jvm Jvm.ClassFile Sem Op Lib Jvm.Free Jvm.Stand Jvm.LawKit Jvm.RoadKit Bundle Jvm.Pilot.@@N@@.Jvm.D
theorem own_cast {tb : Tables} {e : Env} {below : List Frame} {T : State} {g g' : JFrame} {t : State} (q : g = g') (k : Steps tb e below (T.setTop g') t) : Steps tb e below (T.setTop g) t := q ▸ k
section Own
variable {p : Program} {l : Launch} {e : Env} {R : Room} {s : State} {m : MethodId} {args : Array Value} {below : List Frame} {meth : Method} {c : Code} {T T' : State} {locs : List Loc} {cells slots : Nat} {g g' : JFrame} {K : Outcome → State → Prop} {h : Heap}
/-- the run from T with g on top comes to an end at which K holds -/
def own_Go (p : Program) (e : Env) (below : List Frame) (K : Outcome → State → Prop) (T : State) (g : JFrame) : Prop := ∃ t o, Steps p.tables e below (T.setTop g) t ∧ t.status = .running ∧ Ended t below o ∧ K o t
def own_K (s : State) (Q : Option Value → Heap → List Loc → Prop) (kc ks : Nat) : Outcome → State → Prop := fun o t => ∃ v L, o = .returned v ∧ Q v t.heap L ∧ FrameEnd s o t L kc ks
theorem own_st (k : ∀ t, Steps p.tables e below (T'.setTop g') t → Steps p.tables e below (T.setTop g) t) (h : own_Go p e below K T' g') : own_Go p e below K T g := by
  obtain ⟨t, o, h1, h2⟩ := h; exact ⟨t, o, k t h1, h2⟩
theorem own_tr (k : Steps p.tables e below (T.setTop g) (T'.setTop g')) (h : own_Go p e below K T' g') : own_Go p e below K T g := by
  obtain ⟨t, o, h1, h2⟩ := h; exact ⟨t, o, k.trans h1, h2⟩
theorem own_in (q : g = g') (h : own_Go p e below K T g') : ∃ t o, Steps p.tables e below (T.setTop g) t ∧ t.status = .running ∧ Ended t below o ∧ K o t := by
  obtain ⟨t, o, h1, h2⟩ := h; exact ⟨t, o, own_cast q h1, h2⟩
variable {Q : Option Value → Heap → List Loc → Prop} {kc ks pc : Nat} {Ls : Array Slot} {rest : List Value} {x : MethodName} {S : Spec} {code : ByteArray} {maxLocals : Nat} {s₁ : State}
theorem own_end (X : Stand p l e R s m args below meth c T locs cells slots) {v : Option Value} (hv : meth.sig.returnType = none → v = none) (hlk : meth.locks = false) (eT : T.heap = h) (hQ : Q v h locs) (hc : cells ≤ kc) (hs : slots ≤ ks)
    (k : ∀ fs, (∀ (f : JFrame) (acts : List Action), f.method = m → f.locked = none → f.entered = [] → (doReturn e (T.setTop f) acts v).1 = T.setFrames fs) → Steps p.tables e below (T.setTop g) (T.setFrames fs)) : own_Go p e below (own_K s Q kc ks) T g := by
  obtain ⟨fs, hr, hrun, hended, hW, hsame⟩ := X.leave (v := v) hv hlk
  refine ⟨_, _, k fs hr, hrun, hended, v, locs, rfl, ?_, ⟨_, rfl⟩, hW, hsame.mono hc hs⟩
  show Q v T.heap locs
  rw [eT]; exact hQ
theorem own_retI (X : Stand p l e R s m args below meth c T locs cells slots) (hx : p.tables.exec = Jvm.exec) (Bd : BodyLoose p l x S code maxLocals (some .int) e s m args below meth c s₁) {z : Int32} (hd : decode c.code pc = .ok (.ireturn, 1)) (eT : T.heap = h) (hQ : Q (some (.int z)) h locs) (hc : cells ≤ kc) (hs : slots ≤ ks) :
    own_Go p e below (own_K s Q kc ks) T (mkF m pc Ls (.int z :: rest)) :=
  own_end X (fun h => by rw [Bd.returns] at h; cases h) Bd.notSynchronized eT hQ hc hs fun fs hr => retOut X hx Bd.returns rfl (Or.inl ⟨rfl, Or.inl rfl, z, rfl⟩) hd hr
theorem own_retJ (X : Stand p l e R s m args below meth c T locs cells slots) (hx : p.tables.exec = Jvm.exec) (Bd : BodyLoose p l x S code maxLocals (some .long) e s m args below meth c s₁) {z : Int64} (hd : decode c.code pc = .ok (.lreturn, 1)) (eT : T.heap = h) (hQ : Q (some (.long z)) h locs) (hc : cells ≤ kc) (hs : slots ≤ ks) :
    own_Go p e below (own_K s Q kc ks) T (mkF m pc Ls (.long z :: rest)) :=
  own_end X (fun h => by rw [Bd.returns] at h; cases h) Bd.notSynchronized eT hQ hc hs fun fs hr => retOut X hx Bd.returns rfl (Or.inr (Or.inl ⟨rfl, rfl, z, rfl⟩)) hd hr
theorem own_retN (X : Stand p l e R s m args below meth c T locs cells slots) (hx : p.tables.exec = Jvm.exec) {t : FieldType} (Bd : BodyLoose p l x S code maxLocals (some t) e s m args below meth c s₁) (ht : t = .boolean ∨ t = .byte ∨ t = .char ∨ t = .short) {z : Int32} (hn : narrow t (.int z) = .int z) (hd : decode c.code pc = .ok (.ireturn, 1)) (eT : T.heap = h) (hQ : Q (some (.int z)) h locs) (hc : cells ≤ kc) (hs : slots ≤ ks) :
    own_Go p e below (own_K s Q kc ks) T (mkF m pc Ls (.int z :: rest)) :=
  own_end X (fun h => by rw [Bd.returns] at h; cases h) Bd.notSynchronized eT hQ hc hs fun fs hr => retOut X hx Bd.returns hn (Or.inl ⟨rfl, Or.inr ht, z, rfl⟩) hd hr
theorem own_retA (X : Stand p l e R s m args below meth c T locs cells slots) (hx : p.tables.exec = Jvm.exec) {t : FieldType} (Bd : BodyLoose p l x S code maxLocals (some t) e s m args below meth c s₁) (ht : t.isReference = true) {w : Value} (hw : w.isRef = true) (hd : decode c.code pc = .ok (.areturn, 1)) (eT : T.heap = h) (hQ : Q (some w) h locs) (hc : cells ≤ kc) (hs : slots ≤ ks) :
    own_Go p e below (own_K s Q kc ks) T (mkF m pc Ls (w :: rest)) :=
  own_end X (fun h => by rw [Bd.returns] at h; cases h) Bd.notSynchronized eT hQ hc hs fun fs hr => retOut X hx Bd.returns (by cases t <;> first | (cases ht; done) | rfl) (Or.inr (Or.inr (Or.inr (Or.inr ⟨rfl, ht, hw⟩)))) hd hr
theorem own_retV (X : Stand p l e R s m args below meth c T locs cells slots) (hx : p.tables.exec = Jvm.exec) (Bd : BodyLoose p l x S code maxLocals none e s m args below meth c s₁) (hd : decode c.code pc = .ok (.return_, 1)) (eT : T.heap = h) (hQ : Q none h locs) (hc : cells ≤ kc) (hs : slots ≤ ks) :
    own_Go p e below (own_K s Q kc ks) T (mkF m pc Ls []) :=
  own_end X (fun _ => rfl) Bd.notSynchronized eT hQ hc hs fun fs hr => X.returnOut hx Bd.returns hd hr
end Own
theorem own_Sta_keep {Z : State} {h h' : Heap} {C n d : String} {v : Value} {ws : List Addr} (F : Sta Z h C n d v) (K : Keep h h' ws) (q : ∀ x ∈ ws, ∀ cell : Cell, h[x]? = some cell → cell.vm.isStatics = false) : Sta Z h' C n d v := by
  obtain ⟨cf, i, k, f, st, cell, h1, h2, h3, h4, h5, h6, h7⟩ := F
  exact ⟨cf, i, k, f, st, cell, h1, h2, h3, h4, K.2.1 _ _ h5 (fun hm => by rw [q _ hm _ h5] at h6; cases h6), h6, h7⟩
theorem own_Ins_keep {Z : State} {h h' : Heap} {a : Addr} {C : String} {b : Bool} {ws : List Addr} (F : Ins Z h a C b) (K : Keep h h' ws) : Ins Z h' a C b := by
  obtain ⟨cell, cT, h1, h2, h3⟩ := F
  obtain ⟨c', e1, e2, e3, -⟩ := K.2.2 _ _ h1
  exact ⟨c', cT, e1, h2, by rw [e2, e3]; exact h3⟩
theorem own_enum {Z : State} {args : Array Value} {C D n d : String} (h : (Cond.exactly (Term.static C n d) D).value args Z none Z [] = some true) (hi : (Cond.initializedFor C n d).before args Z = true ∨ ((Cond.initialized C).before args Z = true ∧ (Cond.laysStatic C n d).before args Z = true)) :
    ∃ a, (Term.static C n d).eval args Z none [] Z = some (.ref a) ∧ Sta Z Z.heap C n d (.ref a) ∧ Exa Z Z.heap a D := by
  obtain ⟨a, e⟩ := exa_v h
  exact ⟨a, e, Sta.start e hi, Exa.start e h⟩
theorem own_ord {Z : State} {args : Array Value} {t : Term} {a : Addr} {O n d : String} {k : Int32} (e : t.eval args Z none [] Z = some (.ref a)) (h : (Cond.eq (Term.field t O n d) (Term.int k)).value args Z none Z [] = some true) : Fld Z Z.heap a O n d (.int k) := by
  refine Fld.start ?_
  have q := fld_at (C := O) (n := n) (dd := d) (first := Z) (o := none) (idx := []) (args := args) e
  obtain ⟨x, y, h1, h2, -⟩ := cmp_v (Or.inl h)
  rw [q] at h1
  have h2' : some (Value.int k) = some y := h2
  cases h2'
  cases x <;> simp [Cond.value, Term.eval, e, h1] at h
  rw [h1, h]
theorem own_bb (x : Int32) : x.toInt8.toInt32.toInt8.toInt32 = x.toInt8.toInt32 := by simp
theorem own_cc (x : Int32) : x.toUInt32.toUInt16.toUInt32.toInt32.toUInt32.toUInt16.toUInt32.toInt32 = x.toUInt32.toUInt16.toUInt32.toInt32 := by simp only [UInt32.toUInt32_toInt32, UInt16.toUInt16_toUInt32]
theorem own_nar_ref {t : FieldType} {v : Value} (h : v.isRef = true) (ht : t.isReference = true) : narrow t v = v := by cases t <;> first | (cases ht; done) | rfl
theorem own_fits_ref {t : FieldType} {v : Value} (h : v.isRef = true) (ht : t.isReference = true) : fits t v = true := by rcases ref_cases h with rfl | ⟨a, rfl⟩ <;> cases t <;> first | (cases ht; done) | rfl
theorem own_nar_b {z : Int32} (h : z = 0 ∨ z = 1) : narrow .boolean (.int z) = .int z := by rcases h with rfl | rfl <;> rfl
theorem own_fits_b {z : Int32} (h : z = 0 ∨ z = 1) : fits .boolean (.int z) = true := by rcases h with rfl | rfl <;> rfl
theorem own_d8_0 : decode jdk_30_method_1_code 0 = .ok (.aload_n 0, 1) := by decide +kernel
theorem own_d8_1 : decode jdk_30_method_1_code 1 = .ok (.invokespecial 1, 3) := by decide +kernel
theorem own_d8_4 : decode jdk_30_method_1_code 4 = .ok (.return_, 1) := by decide +kernel
theorem own_pn0 : plainName "java/lang/Record" = true := by first | (simp [plainName, overriddenIn]; done) | decide +kernel
theorem own_d7_0 : decode prog_70_method_1_code 0 = .ok (.aload_n 0, 1) := by decide +kernel
theorem own_d7_1 : decode prog_70_method_1_code 1 = .ok (.invokespecial 1, 3) := by decide +kernel
theorem own_pd0 : parseMethodDescriptor "()V" = some ⟨[], none⟩ := by decide +kernel
theorem own_d7_4 : decode prog_70_method_1_code 4 = .ok (.aload_n 0, 1) := by decide +kernel
theorem own_d7_5 : decode prog_70_method_1_code 5 = .ok (.iload_n 1, 1) := by decide +kernel
theorem own_d7_6 : decode prog_70_method_1_code 6 = .ok (.putfield 7, 3) := by decide +kernel
theorem own_d7_9 : decode prog_70_method_1_code 9 = .ok (.aload_n 0, 1) := by decide +kernel
theorem own_d7_10 : decode prog_70_method_1_code 10 = .ok (.aload_n 2, 1) := by decide +kernel
theorem own_d7_11 : decode prog_70_method_1_code 11 = .ok (.putfield 13, 3) := by decide +kernel
theorem own_d7_14 : decode prog_70_method_1_code 14 = .ok (.aload_n 0, 1) := by decide +kernel
theorem own_d7_15 : decode prog_70_method_1_code 15 = .ok (.aload_n 3, 1) := by decide +kernel
theorem own_d7_16 : decode prog_70_method_1_code 16 = .ok (.putfield 17, 3) := by decide +kernel
theorem own_d7_19 : decode prog_70_method_1_code 19 = .ok (.return_, 1) := by decide +kernel
theorem own_pn1 : plainName "com/example/rolelint/rolelint/rules/Finding" = true := by first | (simp [plainName, overriddenIn]; done) | decide +kernel
theorem own_d10_0 : decode prog_70_method_8_code 0 = .ok (.aload_n 0, 1) := by decide +kernel
theorem own_d10_1 : decode prog_70_method_8_code 1 = .ok (.getfield 7, 3) := by decide +kernel
theorem own_d10_4 : decode prog_70_method_8_code 4 = .ok (.ireturn, 1) := by decide +kernel
theorem own_d11_0 : decode prog_70_method_9_code 0 = .ok (.aload_n 0, 1) := by decide +kernel
theorem own_d11_1 : decode prog_70_method_9_code 1 = .ok (.getfield 13, 3) := by decide +kernel
theorem own_d11_4 : decode prog_70_method_9_code 4 = .ok (.areturn, 1) := by decide +kernel
theorem own_d13_0 : decode prog_70_method_10_code 0 = .ok (.aload_n 0, 1) := by decide +kernel
theorem own_d13_1 : decode prog_70_method_10_code 1 = .ok (.getfield 17, 3) := by decide +kernel
theorem own_d13_4 : decode prog_70_method_10_code 4 = .ok (.areturn, 1) := by decide +kernel
theorem own_d9_0 : decode prog_70_method_3_code 0 = .ok (.new 8, 3) := by decide +kernel
theorem own_d9_3 : decode prog_70_method_3_code 3 = .ok (.dup, 1) := by decide +kernel
theorem own_d9_4 : decode prog_70_method_3_code 4 = .ok (.iload_n 1, 1) := by decide +kernel
theorem own_d9_5 : decode prog_70_method_3_code 5 = .ok (.aload_n 0, 1) := by decide +kernel
theorem own_d9_6 : decode prog_70_method_3_code 6 = .ok (.getfield 13, 3) := by decide +kernel
theorem own_d9_9 : decode prog_70_method_3_code 9 = .ok (.aload_n 0, 1) := by decide +kernel
theorem own_d9_10 : decode prog_70_method_3_code 10 = .ok (.getfield 17, 3) := by decide +kernel
theorem own_d9_13 : decode prog_70_method_3_code 13 = .ok (.invokespecial 24, 3) := by decide +kernel
theorem own_pd1 : parseMethodDescriptor "(ILjava/lang/String;Ljava/lang/String;)V" = some ⟨[.int, (.object "java/lang/String"), (.object "java/lang/String")], none⟩ := by decide +kernel
theorem own_d9_16 : decode prog_70_method_3_code 16 = .ok (.areturn, 1) := by decide +kernel
theorem own_d12_0 : decode jdk_42_method_66_code 0 = .ok (.aload_n 0, 1) := by decide +kernel
theorem own_d12_1 : decode jdk_42_method_66_code 1 = .ok (.aload_n 1, 1) := by decide +kernel
theorem own_d12_2 : decode jdk_42_method_66_code 2 = .ok (.if_acmp .ne 5, 3) := by decide +kernel
theorem own_d12_5 : decode jdk_42_method_66_code 5 = .ok (.iconst 1, 1) := by decide +kernel
theorem own_d12_6 : decode jdk_42_method_66_code 6 = .ok (.ireturn, 1) := by decide +kernel
theorem own_pn2 : plainName "java/lang/String" = true := by first | (simp [plainName, overriddenIn]; done) | decide +kernel
theorem own_pd2 : parseMethodDescriptor "([C)V" = some ⟨[(.array .char)], none⟩ := by decide +kernel
theorem own_pd3 : parseMethodDescriptor "(I)Lcom/example/rolelint/rolelint/rules/Finding;" = some ⟨[.int], some (.object "com/example/rolelint/rolelint/rules/Finding")⟩ := by decide +kernel
theorem own_pd4 : parseMethodDescriptor "()I" = some ⟨[], some .int⟩ := by decide +kernel
theorem own_pd5 : parseMethodDescriptor "()Ljava/lang/String;" = some ⟨[], some (.object "java/lang/String")⟩ := by decide +kernel
theorem own_pd6 : parseMethodDescriptor "(Ljava/lang/Object;)Z" = some ⟨[(.object "java/lang/Object")], some .boolean⟩ := by decide +kernel
theorem own_pn3 : plainName "com/example/rolelint/rolelint/rules/FindingAtPinLaw" = true := by first | (simp [plainName, overriddenIn]; done) | decide +kernel
theorem own_words : ∀ d ∈ StrChars.Road.words, d ∈ tables_1 := by decide +kernel
theorem own_ch (x : Int32) : ¬ (x &&& (255 : Int32)).toUInt32.toUInt16.toUInt32.toInt32 < 0 ∧ ¬ (255 : Int32) < (x &&& (255 : Int32)).toUInt32.toUInt16.toUInt32.toInt32 := by
  rw [i2c_mask]; have h := c_and x 255 (by decide); rw [Int32.lt_iff_toInt_lt, Int32.lt_iff_toInt_lt]
  have a : (0 : Int32).toInt = 0 := rfl
  omega
theorem own_all2 {P : Int32 → Prop} {a b : Int32} (h1 : P a) (h2 : P b) : ∀ c ∈ [a, b], P c := by
  intro c hc; simp at hc; rcases hc with rfl | rfl <;> assumption

def own_r8 : Room := { frames := 1, cells := 0, slots := 0, locals := 12 }
theorem own_ef8 (m : MethodId) (x0 : Addr) : entryFrame m #[(.ref x0)] 1 = mkF m 0 #[.val (.ref x0)] [] := by first | (simp [entryFrame, mkF, argsToLocals, Value.category]; done) | rfl
def own_Q8 (Z : State) (a : Addr) (h0 : Heap) (n0 : Nat) : Option Value → Heap → List Loc → Prop := fun v h L => v = none ∧ Fr n0 L ∧ h = h0
set_option maxRecDepth 65536 in
set_option maxHeartbeats 40000000 in
theorem own_rm8 (l : Launch) (Z : State) (a0 : Array Value) (hw : ∀ d ∈ tables_1, d.before a0 Z = true) (ws : List Jvm.Cond) (a : Addr) (h0 : Heap) (n0 : Nat) (Z0 : n0 ≤ h0.size)  :
    MetFree l (⟨"java/lang/Record", "<init>", "()V"⟩ : MethodName) (head1 (Jvm.Cond.code (⟨"java/lang/Record", "<init>", "()V"⟩ : MethodName) jdk_30_method_1_code 1 none :: ws) own_r8) (fun a_ U_ => a_ = #[(.ref a)] ∧ Z.Warmed39 U_.vm ∧ U_.heap = h0) (fun _ _ _ _ _ => True) (fun _ U_ o_ U'_ => ∃ v_ L_, o_ = .returned v_ ∧ own_Q8 Z a  h0 n0 v_ U'_.heap L_ ∧ FrameEnd U_ o_ U'_ L_ own_r8.cells own_r8.slots) := by
  refine MetFree.of_bodySF (plainFor_of_name own_pn0) hisR ?_
  intro p e s m args below meth c s₁ Bd hml0 hP hK
  obtain ⟨rfl, hZ, hh⟩ := hP
  have hx := Bd.exec
  have hby := Bd.bytes
  have hml : c.maxLocals = 1 := hml0
  have hown : s.vm.findClass "java/lang/Record" = some m.cls := findClass_of_methodNamed Bd.named
  have hnm := (name_of_methodNamed Bd.named Bd.method).1
  have X0 : Stand p l e own_r8 s m #[(.ref a)] below meth c s₁ [] 0 0 := Stand.of_body Bd
  have e0 : s₁.heap = h0 := by rw [← hh, Bd.state]; rfl
  have N0 := Fr.nil n0
  refine own_in (own_ef8 m a) ?_
  show own_Go p e below (own_K s (own_Q8 Z a  h0 n0) own_r8.cells own_r8.slots) s₁ (mkF m 0 #[.val (.ref a)] [])
  refine own_st (T' := s₁) (g' := (mkF m 1 #[.val (.ref a)] [(.ref a)])) (fun t k => ?_) ?_
  · show Steps p.tables e below (s₁.setTop (mkF m 0 #[.val (.ref a)] [])) t
    refine XS.aloadN X0.here hx rfl (hb hby own_d8_0) rfl rfl ?_
    show Steps p.tables e below (s₁.setTop (mkF m 1 #[.val (.ref a)] [(.ref a)])) t
    exact k
  obtain ⟨T1, X1, e1, st1⟩ := initO X0 hx hZ hown (hw _ (List.mem_of_getElem? (i := 41) rfl)) (hw _ (List.mem_of_getElem? (i := 12) rfl)) (hw _ (List.mem_of_getElem? (i := 13) rfl)) e0 (g := (mkF m 1 #[.val (.ref a)] [(.ref a)])) rfl (by rw [hml]; rfl) rfl (hb hby own_d8_1) (by decide) (W := 0) (by show 2 * 0 + _ ≤ _; exact Nat.le_of_eq rfl) (by decide)
  refine own_st (T' := T1) (g' := (mkF m 4 #[.val (.ref a)] [])) st1 ?_
  exact own_retV X1 hx Bd (hb hby own_d8_4) e1 (⟨rfl, N0, rfl⟩) (by decide) (by decide)
def own_r7 : Room := { frames := 2, cells := 0, slots := 0, locals := 24 }
theorem own_ef7 (m : MethodId) (x0 : Addr) (x1 : Int32) (x2 : Value) (hx2 : x2.isRef = true) (x3 : Value) (hx3 : x3.isRef = true) : entryFrame m #[(.ref x0), (.int x1), x2, x3] 4 = mkF m 0 #[.val (.ref x0), .val (.int x1), .val x2, .val x3] [] := by rcases ref_cases hx2 with rfl | ⟨y2, rfl⟩ <;> rcases ref_cases hx3 with rfl | ⟨y3, rfl⟩ <;> first | (simp [entryFrame, mkF, argsToLocals, Value.category]; done) | rfl
def own_Q7 (Z : State) (b : Addr) (y0 : Int32) (y1 : Value) (y2 : Value) (h0 : Heap) (n0 : Nat) : Option Value → Heap → List Loc → Prop := fun v h L => v = none ∧ Fr n0 L ∧ Keep h0 h [b] ∧ Fld Z h b "com/example/rolelint/rolelint/rules/Finding" "line" "I" (.int y0) ∧ Fld Z h b "com/example/rolelint/rolelint/rules/Finding" "rule" "Ljava/lang/String;" y1 ∧ Fld Z h b "com/example/rolelint/rolelint/rules/Finding" "text" "Ljava/lang/String;" y2
set_option maxRecDepth 65536 in
set_option maxHeartbeats 40000000 in
theorem own_rm7 (l : Launch) (Z : State) (a0 : Array Value) (hw : ∀ d ∈ tables_1, d.before a0 Z = true) (ws : List Jvm.Cond) (b : Addr) (y0 : Int32) (y1 : Value) (y2 : Value) (h0 : Heap) (n0 : Nat) (Z0 : n0 ≤ h0.size) (hy1 : y1.isRef = true) (hy2 : y2.isRef = true) (E_b : Exa Z h0 b "com/example/rolelint/rolelint/rules/Finding") (F0 : Fld Z h0 b "com/example/rolelint/rolelint/rules/Finding" "line" "I" (.int (0 : Int32))) (F1 : Fld Z h0 b "com/example/rolelint/rolelint/rules/Finding" "rule" "Ljava/lang/String;" .null) (F2 : Fld Z h0 b "com/example/rolelint/rolelint/rules/Finding" "text" "Ljava/lang/String;" .null) (g_b : n0 ≤ b) :
    MetFree l (⟨"com/example/rolelint/rolelint/rules/Finding", "<init>", "(ILjava/lang/String;Ljava/lang/String;)V"⟩ : MethodName) (head1 (Jvm.Cond.code (⟨"com/example/rolelint/rolelint/rules/Finding", "<init>", "(ILjava/lang/String;Ljava/lang/String;)V"⟩ : MethodName) prog_70_method_1_code 4 none :: ws) own_r7) (fun a_ U_ => a_ = #[(.ref b), (.int y0), y1, y2] ∧ Z.Warmed39 U_.vm ∧ U_.heap = h0) (fun _ _ _ _ _ => True) (fun _ U_ o_ U'_ => ∃ v_ L_, o_ = .returned v_ ∧ own_Q7 Z b  y0  y1  y2  h0 n0 v_ U'_.heap L_ ∧ FrameEnd U_ o_ U'_ L_ own_r7.cells own_r7.slots) := by
  refine MetFree.of_bodySF (plainFor_of_name own_pn1) hisR ?_
  intro p e s m args below meth c s₁ Bd hml0 hP hK
  obtain ⟨rfl, hZ, hh⟩ := hP
  have hx := Bd.exec
  have hby := Bd.bytes
  have hml : c.maxLocals = 4 := hml0
  have hown : s.vm.findClass "com/example/rolelint/rolelint/rules/Finding" = some m.cls := findClass_of_methodNamed Bd.named
  have hnm := (name_of_methodNamed Bd.named Bd.method).1
  have X0 : Stand p l e own_r7 s m #[(.ref b), (.int y0), y1, y2] below meth c s₁ [] 0 0 := Stand.of_body Bd
  have e0 : s₁.heap = h0 := by rw [← hh, Bd.state]; rfl
  have N0 := Fr.nil n0
  refine own_in (own_ef7 m b y0 y1 hy1 y2 hy2) ?_
  show own_Go p e below (own_K s (own_Q7 Z b  y0  y1  y2  h0 n0) own_r7.cells own_r7.slots) s₁ (mkF m 0 #[.val (.ref b), .val (.int y0), .val y1, .val y2] [])
  refine own_st (T' := s₁) (g' := (mkF m 1 #[.val (.ref b), .val (.int y0), .val y1, .val y2] [(.ref b)])) (fun t k => ?_) ?_
  · show Steps p.tables e below (s₁.setTop (mkF m 0 #[.val (.ref b), .val (.int y0), .val y1, .val y2] [])) t
    refine XS.aloadN X0.here hx rfl (hb hby own_d7_0) rfl rfl ?_
    show Steps p.tables e below (s₁.setTop (mkF m 1 #[.val (.ref b), .val (.int y0), .val y1, .val y2] [(.ref b)])) t
    exact k
  obtain ⟨_, _, ⟨T1, L1, c1, n1⟩, -, X1, ⟨Lc1, hQ1, l1, y1, z1⟩, st1⟩ := X0.specialBack hx (y := (⟨"java/lang/Record", "<init>", "()V"⟩ : MethodName)) rfl hown (mvT hZ (hw _ (List.mem_of_getElem? (i := 36) rfl))) (mvT hZ (hw _ (List.mem_of_getElem? (i := 37) rfl))) (mvT hZ (hw _ (List.mem_of_getElem? (i := 40) rfl))) (by decide) (backOf (W := 0) (own_rm8 l Z a0 hw [] b h0 n0 Z0) hZ (hw _ (List.mem_of_getElem? (i := 40) rfl)) (hw _ (List.mem_of_getElem? (i := 39) rfl)) (by decide) (by decide)) (g := (mkF m 1 #[.val (.ref b), .val (.int y0), .val y1, .val y2] [(.ref b)])) rfl (by rw [hml]; rfl) (Steps.refl _) (a := b) (argsL := []) (rest := []) (lenOf own_pd0 rfl) rfl (by show 2 * 0 + _ ≤ _; exact Nat.le_of_eq rfl) (hb hby own_d7_1) (fun _ _ => ⟨rfl, e0, (by decide : 0 + 0 ≤ _), (by decide : 0 + 0 ≤ _)⟩)
  dsimp only [Pt.U, Pt.locs, Pt.cells, Pt.slots] at X1 l1 y1 z1 st1 hQ1
  subst l1 y1 z1
  obtain ⟨rfl, N1q, e1⟩ := hQ1
  have N1 := Fr.app N0 N1q
  refine own_tr (T' := T1) (g' := (mkF m 4 #[.val (.ref b), .val (.int y0), .val y1, .val y2] [])) st1 ?_
  refine own_st (T' := T1) (g' := (mkF m 6 #[.val (.ref b), .val (.int y0), .val y1, .val y2] [(.int y0), (.ref b)])) (fun t k => ?_) ?_
  · show Steps p.tables e below (T1.setTop (mkF m 4 #[.val (.ref b), .val (.int y0), .val y1, .val y2] [])) t
    refine XS.aloadN X1.here hx rfl (hb hby own_d7_4) rfl rfl ?_
    show Steps p.tables e below (T1.setTop (mkF m 5 #[.val (.ref b), .val (.int y0), .val y1, .val y2] [(.ref b)])) t
    refine XS.iloadN X1.here hx rfl (hb hby own_d7_5) rfl ?_
    show Steps p.tables e below (T1.setTop (mkF m 6 #[.val (.ref b), .val (.int y0), .val y1, .val y2] [(.int y0), (.ref b)])) t
    exact k
  obtain ⟨T2, h2, X2, e2, W2, st2⟩ := putF X1 hx hZ hown (host := "") (Or.inl (hw _ (List.mem_of_getElem? (i := 42) rfl))) Via.refl e1 F0 E_b (Or.inr ⟨(hw _ (List.mem_of_getElem? (i := 43) rfl)), rfl, hnm⟩) (hw _ (List.mem_of_getElem? (i := 31) rfl)) (ty := .int) (by decide) rfl rfl (g := (mkF m 6 #[.val (.ref b), .val (.int y0), .val y1, .val y2] [(.int y0), (.ref b)])) rfl rfl (hb hby own_d7_6)
  have N2 := Fr.snoc X2 N1 g_b
  have K2 : Keep h0 h2 [b] := (Keep.refl h0 [b]).wr W2 (Or.inl (List.mem_of_getElem? (i := 0) rfl))
  have Z2 : n0 ≤ h2.size := Nat.le_trans Z0 (Keep.of_wr W2).1
  have fw2 := (F0.same W2)
  refine own_st (T' := T2) (g' := (mkF m 9 #[.val (.ref b), .val (.int y0), .val y1, .val y2] [])) st2 ?_
  refine own_st (T' := T2) (g' := (mkF m 11 #[.val (.ref b), .val (.int y0), .val y1, .val y2] [y1, (.ref b)])) (fun t k => ?_) ?_
  · show Steps p.tables e below (T2.setTop (mkF m 9 #[.val (.ref b), .val (.int y0), .val y1, .val y2] [])) t
    refine XS.aloadN X2.here hx rfl (hb hby own_d7_9) rfl rfl ?_
    show Steps p.tables e below (T2.setTop (mkF m 10 #[.val (.ref b), .val (.int y0), .val y1, .val y2] [(.ref b)])) t
    refine XS.aloadN X2.here hx rfl (hb hby own_d7_10) rfl hy1 ?_
    show Steps p.tables e below (T2.setTop (mkF m 11 #[.val (.ref b), .val (.int y0), .val y1, .val y2] [y1, (.ref b)])) t
    exact k
  have f3 := F1.other W2 (Or.inr (slot_ne (Or.inr (hw _ (List.mem_of_getElem? (i := 45) rfl))) (Or.inr (hw _ (List.mem_of_getElem? (i := 43) rfl))) (by decide) (t := (.object "java/lang/String")) (t' := .int) (by decide) (by decide)))
  have f4 := E_b.wr W2
  obtain ⟨T5, h5, X5, e5, W5, st5⟩ := putF X2 hx hZ hown (host := "") (Or.inl (hw _ (List.mem_of_getElem? (i := 44) rfl))) Via.refl e2 f3 f4 (Or.inr ⟨(hw _ (List.mem_of_getElem? (i := 45) rfl)), rfl, hnm⟩) (hw _ (List.mem_of_getElem? (i := 31) rfl)) (ty := (.object "java/lang/String")) (by decide) (own_nar_ref hy1 rfl) (own_fits_ref hy1 rfl) (g := (mkF m 11 #[.val (.ref b), .val (.int y0), .val y1, .val y2] [y1, (.ref b)])) rfl rfl (hb hby own_d7_11)
  have N5 := Fr.snoc X5 N2 g_b
  have K5 : Keep h0 h5 [b] := K2.wr W5 (Or.inl (List.mem_of_getElem? (i := 0) rfl))
  have Z5 : n0 ≤ h5.size := Nat.le_trans Z2 (Keep.of_wr W5).1
  have fw5 := (f3.same W5)
  refine own_st (T' := T5) (g' := (mkF m 14 #[.val (.ref b), .val (.int y0), .val y1, .val y2] [])) st5 ?_
  refine own_st (T' := T5) (g' := (mkF m 16 #[.val (.ref b), .val (.int y0), .val y1, .val y2] [y2, (.ref b)])) (fun t k => ?_) ?_
  · show Steps p.tables e below (T5.setTop (mkF m 14 #[.val (.ref b), .val (.int y0), .val y1, .val y2] [])) t
    refine XS.aloadN X5.here hx rfl (hb hby own_d7_14) rfl rfl ?_
    show Steps p.tables e below (T5.setTop (mkF m 15 #[.val (.ref b), .val (.int y0), .val y1, .val y2] [(.ref b)])) t
    refine XS.aloadN X5.here hx rfl (hb hby own_d7_15) rfl hy2 ?_
    show Steps p.tables e below (T5.setTop (mkF m 16 #[.val (.ref b), .val (.int y0), .val y1, .val y2] [y2, (.ref b)])) t
    exact k
  have f6 := (F2.other W2 (Or.inr (slot_ne (Or.inr (hw _ (List.mem_of_getElem? (i := 47) rfl))) (Or.inr (hw _ (List.mem_of_getElem? (i := 43) rfl))) (by decide) (t := (.object "java/lang/String")) (t' := .int) (by decide) (by decide)))).other W5 (Or.inr (slot_ne (Or.inr (hw _ (List.mem_of_getElem? (i := 47) rfl))) (Or.inr (hw _ (List.mem_of_getElem? (i := 45) rfl))) (by decide) (t := (.object "java/lang/String")) (t' := (.object "java/lang/String")) (by decide) (by decide)))
  have f7 := f4.wr W5
  obtain ⟨T8, h8, X8, e8, W8, st8⟩ := putF X5 hx hZ hown (host := "") (Or.inl (hw _ (List.mem_of_getElem? (i := 46) rfl))) Via.refl e5 f6 f7 (Or.inr ⟨(hw _ (List.mem_of_getElem? (i := 47) rfl)), rfl, hnm⟩) (hw _ (List.mem_of_getElem? (i := 31) rfl)) (ty := (.object "java/lang/String")) (by decide) (own_nar_ref hy2 rfl) (own_fits_ref hy2 rfl) (g := (mkF m 16 #[.val (.ref b), .val (.int y0), .val y1, .val y2] [y2, (.ref b)])) rfl rfl (hb hby own_d7_16)
  have N8 := Fr.snoc X8 N5 g_b
  have K8 : Keep h0 h8 [b] := K5.wr W8 (Or.inl (List.mem_of_getElem? (i := 0) rfl))
  have Z8 : n0 ≤ h8.size := Nat.le_trans Z5 (Keep.of_wr W8).1
  have fw8 := (f6.same W8)
  refine own_st (T' := T8) (g' := (mkF m 19 #[.val (.ref b), .val (.int y0), .val y1, .val y2] [])) st8 ?_
  have f9 := (fw2.other W5 (Or.inr (slot_ne (Or.inr (hw _ (List.mem_of_getElem? (i := 43) rfl))) (Or.inr (hw _ (List.mem_of_getElem? (i := 45) rfl))) (by decide) (t := .int) (t' := (.object "java/lang/String")) (by decide) (by decide)))).other W8 (Or.inr (slot_ne (Or.inr (hw _ (List.mem_of_getElem? (i := 43) rfl))) (Or.inr (hw _ (List.mem_of_getElem? (i := 47) rfl))) (by decide) (t := .int) (t' := (.object "java/lang/String")) (by decide) (by decide)))
  have f10 := fw5.other W8 (Or.inr (slot_ne (Or.inr (hw _ (List.mem_of_getElem? (i := 45) rfl))) (Or.inr (hw _ (List.mem_of_getElem? (i := 47) rfl))) (by decide) (t := (.object "java/lang/String")) (t' := (.object "java/lang/String")) (by decide) (by decide)))
  exact own_retV X8 hx Bd (hb hby own_d7_19) e8 (⟨rfl, N8, K8, f9, f10, fw8⟩) (by decide) (by decide)
def own_r10 : Room := { frames := 0, cells := 0, slots := 0, locals := 0 }
theorem own_ef10 (m : MethodId) (x0 : Addr) : entryFrame m #[(.ref x0)] 1 = mkF m 0 #[.val (.ref x0)] [] := by first | (simp [entryFrame, mkF, argsToLocals, Value.category]; done) | rfl
def own_Q10 (Z : State) (b : Addr) (yv : Int32) (h0 : Heap) (n0 : Nat) : Option Value → Heap → List Loc → Prop := fun v h L => v = some (.int yv) ∧ Fr n0 L ∧ h = h0
set_option maxRecDepth 65536 in
set_option maxHeartbeats 40000000 in
theorem own_rm10 (l : Launch) (Z : State) (a0 : Array Value) (hw : ∀ d ∈ tables_1, d.before a0 Z = true) (ws : List Jvm.Cond) (b : Addr) (yv : Int32) (h0 : Heap) (n0 : Nat) (Z0 : n0 ≤ h0.size) (F_b : Fld Z h0 b "com/example/rolelint/rolelint/rules/Finding" "line" "I" (.int yv)) :
    MetFree l (⟨"com/example/rolelint/rolelint/rules/Finding", "line", "()I"⟩ : MethodName) (head1 (Jvm.Cond.code (⟨"com/example/rolelint/rolelint/rules/Finding", "line", "()I"⟩ : MethodName) prog_70_method_8_code 1 (some .int) :: ws) own_r10) (fun a_ U_ => a_ = #[(.ref b)] ∧ Z.Warmed39 U_.vm ∧ U_.heap = h0) (fun _ _ _ _ _ => True) (fun _ U_ o_ U'_ => ∃ v_ L_, o_ = .returned v_ ∧ own_Q10 Z b  yv  h0 n0 v_ U'_.heap L_ ∧ FrameEnd U_ o_ U'_ L_ own_r10.cells own_r10.slots) := by
  refine MetFree.of_bodySF (plainFor_of_name own_pn1) hisR ?_
  intro p e s m args below meth c s₁ Bd hml0 hP hK
  obtain ⟨rfl, hZ, hh⟩ := hP
  have hx := Bd.exec
  have hby := Bd.bytes
  have hml : c.maxLocals = 1 := hml0
  have hown : s.vm.findClass "com/example/rolelint/rolelint/rules/Finding" = some m.cls := findClass_of_methodNamed Bd.named
  have hnm := (name_of_methodNamed Bd.named Bd.method).1
  have X0 : Stand p l e own_r10 s m #[(.ref b)] below meth c s₁ [] 0 0 := Stand.of_body Bd
  have e0 : s₁.heap = h0 := by rw [← hh, Bd.state]; rfl
  have N0 := Fr.nil n0
  refine own_in (own_ef10 m b) ?_
  show own_Go p e below (own_K s (own_Q10 Z b  yv  h0 n0) own_r10.cells own_r10.slots) s₁ (mkF m 0 #[.val (.ref b)] [])
  refine own_st (T' := s₁) (g' := (mkF m 1 #[.val (.ref b)] [(.ref b)])) (fun t k => ?_) ?_
  · show Steps p.tables e below (s₁.setTop (mkF m 0 #[.val (.ref b)] [])) t
    refine XS.aloadN X0.here hx rfl (hb hby own_d10_0) rfl rfl ?_
    show Steps p.tables e below (s₁.setTop (mkF m 1 #[.val (.ref b)] [(.ref b)])) t
    exact k
  obtain ⟨T1, X1, e1, st1⟩ := getF X0 hx hZ hown (host := "") (Or.inl (hw _ (List.mem_of_getElem? (i := 42) rfl))) Via.refl e0 F_b (g := (mkF m 1 #[.val (.ref b)] [(.ref b)])) rfl rfl (hb hby own_d10_1)
  refine own_st (T' := T1) (g' := (mkF m 4 #[.val (.ref b)] [(.int yv)])) st1 ?_
  exact own_retI X1 hx Bd (hb hby own_d10_4) e1 (⟨rfl, N0, rfl⟩) (by decide) (by decide)
def own_r11 : Room := { frames := 0, cells := 0, slots := 0, locals := 0 }
theorem own_ef11 (m : MethodId) (x0 : Addr) : entryFrame m #[(.ref x0)] 1 = mkF m 0 #[.val (.ref x0)] [] := by first | (simp [entryFrame, mkF, argsToLocals, Value.category]; done) | rfl
def own_Q11 (Z : State) (b : Addr) (yv : Value) (h0 : Heap) (n0 : Nat) : Option Value → Heap → List Loc → Prop := fun v h L => v = some yv ∧ Fr n0 L ∧ h = h0
set_option maxRecDepth 65536 in
set_option maxHeartbeats 40000000 in
theorem own_rm11 (l : Launch) (Z : State) (a0 : Array Value) (hw : ∀ d ∈ tables_1, d.before a0 Z = true) (ws : List Jvm.Cond) (b : Addr) (yv : Value) (h0 : Heap) (n0 : Nat) (Z0 : n0 ≤ h0.size) (hyv : yv.isRef = true) (F_b : Fld Z h0 b "com/example/rolelint/rolelint/rules/Finding" "rule" "Ljava/lang/String;" yv) :
    MetFree l (⟨"com/example/rolelint/rolelint/rules/Finding", "rule", "()Ljava/lang/String;"⟩ : MethodName) (head1 (Jvm.Cond.code (⟨"com/example/rolelint/rolelint/rules/Finding", "rule", "()Ljava/lang/String;"⟩ : MethodName) prog_70_method_9_code 1 (some (.object "java/lang/String")) :: ws) own_r11) (fun a_ U_ => a_ = #[(.ref b)] ∧ Z.Warmed39 U_.vm ∧ U_.heap = h0) (fun _ _ _ _ _ => True) (fun _ U_ o_ U'_ => ∃ v_ L_, o_ = .returned v_ ∧ own_Q11 Z b  yv  h0 n0 v_ U'_.heap L_ ∧ FrameEnd U_ o_ U'_ L_ own_r11.cells own_r11.slots) := by
  refine MetFree.of_bodySF (plainFor_of_name own_pn1) hisR ?_
  intro p e s m args below meth c s₁ Bd hml0 hP hK
  obtain ⟨rfl, hZ, hh⟩ := hP
  have hx := Bd.exec
  have hby := Bd.bytes
  have hml : c.maxLocals = 1 := hml0
  have hown : s.vm.findClass "com/example/rolelint/rolelint/rules/Finding" = some m.cls := findClass_of_methodNamed Bd.named
  have hnm := (name_of_methodNamed Bd.named Bd.method).1
  have X0 : Stand p l e own_r11 s m #[(.ref b)] below meth c s₁ [] 0 0 := Stand.of_body Bd
  have e0 : s₁.heap = h0 := by rw [← hh, Bd.state]; rfl
  have N0 := Fr.nil n0
  refine own_in (own_ef11 m b) ?_
  show own_Go p e below (own_K s (own_Q11 Z b  yv  h0 n0) own_r11.cells own_r11.slots) s₁ (mkF m 0 #[.val (.ref b)] [])
  refine own_st (T' := s₁) (g' := (mkF m 1 #[.val (.ref b)] [(.ref b)])) (fun t k => ?_) ?_
  · show Steps p.tables e below (s₁.setTop (mkF m 0 #[.val (.ref b)] [])) t
    refine XS.aloadN X0.here hx rfl (hb hby own_d11_0) rfl rfl ?_
    show Steps p.tables e below (s₁.setTop (mkF m 1 #[.val (.ref b)] [(.ref b)])) t
    exact k
  obtain ⟨T1, X1, e1, st1⟩ := getF X0 hx hZ hown (host := "") (Or.inl (hw _ (List.mem_of_getElem? (i := 44) rfl))) Via.refl e0 F_b (g := (mkF m 1 #[.val (.ref b)] [(.ref b)])) rfl rfl (hb hby own_d11_1)
  refine own_st (T' := T1) (g' := (mkF m 4 #[.val (.ref b)] [yv])) st1 ?_
  exact own_retA X1 hx Bd rfl hyv (hb hby own_d11_4) e1 (⟨rfl, N0, rfl⟩) (by decide) (by decide)
def own_r13 : Room := { frames := 0, cells := 0, slots := 0, locals := 0 }
theorem own_ef13 (m : MethodId) (x0 : Addr) : entryFrame m #[(.ref x0)] 1 = mkF m 0 #[.val (.ref x0)] [] := by first | (simp [entryFrame, mkF, argsToLocals, Value.category]; done) | rfl
def own_Q13 (Z : State) (b : Addr) (yv : Value) (h0 : Heap) (n0 : Nat) : Option Value → Heap → List Loc → Prop := fun v h L => v = some yv ∧ Fr n0 L ∧ h = h0
set_option maxRecDepth 65536 in
set_option maxHeartbeats 40000000 in
theorem own_rm13 (l : Launch) (Z : State) (a0 : Array Value) (hw : ∀ d ∈ tables_1, d.before a0 Z = true) (ws : List Jvm.Cond) (b : Addr) (yv : Value) (h0 : Heap) (n0 : Nat) (Z0 : n0 ≤ h0.size) (hyv : yv.isRef = true) (F_b : Fld Z h0 b "com/example/rolelint/rolelint/rules/Finding" "text" "Ljava/lang/String;" yv) :
    MetFree l (⟨"com/example/rolelint/rolelint/rules/Finding", "text", "()Ljava/lang/String;"⟩ : MethodName) (head1 (Jvm.Cond.code (⟨"com/example/rolelint/rolelint/rules/Finding", "text", "()Ljava/lang/String;"⟩ : MethodName) prog_70_method_10_code 1 (some (.object "java/lang/String")) :: ws) own_r13) (fun a_ U_ => a_ = #[(.ref b)] ∧ Z.Warmed39 U_.vm ∧ U_.heap = h0) (fun _ _ _ _ _ => True) (fun _ U_ o_ U'_ => ∃ v_ L_, o_ = .returned v_ ∧ own_Q13 Z b  yv  h0 n0 v_ U'_.heap L_ ∧ FrameEnd U_ o_ U'_ L_ own_r13.cells own_r13.slots) := by
  refine MetFree.of_bodySF (plainFor_of_name own_pn1) hisR ?_
  intro p e s m args below meth c s₁ Bd hml0 hP hK
  obtain ⟨rfl, hZ, hh⟩ := hP
  have hx := Bd.exec
  have hby := Bd.bytes
  have hml : c.maxLocals = 1 := hml0
  have hown : s.vm.findClass "com/example/rolelint/rolelint/rules/Finding" = some m.cls := findClass_of_methodNamed Bd.named
  have hnm := (name_of_methodNamed Bd.named Bd.method).1
  have X0 : Stand p l e own_r13 s m #[(.ref b)] below meth c s₁ [] 0 0 := Stand.of_body Bd
  have e0 : s₁.heap = h0 := by rw [← hh, Bd.state]; rfl
  have N0 := Fr.nil n0
  refine own_in (own_ef13 m b) ?_
  show own_Go p e below (own_K s (own_Q13 Z b  yv  h0 n0) own_r13.cells own_r13.slots) s₁ (mkF m 0 #[.val (.ref b)] [])
  refine own_st (T' := s₁) (g' := (mkF m 1 #[.val (.ref b)] [(.ref b)])) (fun t k => ?_) ?_
  · show Steps p.tables e below (s₁.setTop (mkF m 0 #[.val (.ref b)] [])) t
    refine XS.aloadN X0.here hx rfl (hb hby own_d13_0) rfl rfl ?_
    show Steps p.tables e below (s₁.setTop (mkF m 1 #[.val (.ref b)] [(.ref b)])) t
    exact k
  obtain ⟨T1, X1, e1, st1⟩ := getF X0 hx hZ hown (host := "") (Or.inl (hw _ (List.mem_of_getElem? (i := 46) rfl))) Via.refl e0 F_b (g := (mkF m 1 #[.val (.ref b)] [(.ref b)])) rfl rfl (hb hby own_d13_1)
  refine own_st (T' := T1) (g' := (mkF m 4 #[.val (.ref b)] [yv])) st1 ?_
  exact own_retA X1 hx Bd rfl hyv (hb hby own_d13_4) e1 (⟨rfl, N0, rfl⟩) (by decide) (by decide)
def own_r9 : Room := { frames := 3, cells := 1, slots := 3, locals := 40 }
theorem own_ef9 (m : MethodId) (x0 : Addr) (x1 : Int32) : entryFrame m #[(.ref x0), (.int x1)] 2 = mkF m 0 #[.val (.ref x0), .val (.int x1)] [] := by first | (simp [entryFrame, mkF, argsToLocals, Value.category]; done) | rfl
def own_Q9 (Z : State) (r s1 s2 : Addr) (xv : Int32) (h0 : Heap) (n0 : Nat) : Option Value → Heap → List Loc → Prop := fun v h L => ∃ g, v = some (.ref g) ∧ Fr n0 L ∧ Keep h0 h [] ∧ n0 ≤ g ∧ h0.size ≤ g ∧ Exa Z h g "com/example/rolelint/rolelint/rules/Finding" ∧ Fld Z h g "com/example/rolelint/rolelint/rules/Finding" "line" "I" (.int xv) ∧ Fld Z h g "com/example/rolelint/rolelint/rules/Finding" "rule" "Ljava/lang/String;" (.ref s1) ∧ Fld Z h g "com/example/rolelint/rolelint/rules/Finding" "text" "Ljava/lang/String;" (.ref s2)
set_option maxRecDepth 65536 in
set_option maxHeartbeats 40000000 in
theorem own_rm9 (l : Launch) (Z : State) (a0 : Array Value) (hw : ∀ d ∈ tables_1, d.before a0 Z = true) (ws : List Jvm.Cond) (r s1 s2 : Addr) (xv : Int32) (h0 : Heap) (n0 : Nat) (Z0 : n0 ≤ h0.size) (E_r : Exa Z h0 r "com/example/rolelint/rolelint/rules/Finding") (F_1 : Fld Z h0 r "com/example/rolelint/rolelint/rules/Finding" "rule" "Ljava/lang/String;" (.ref s1)) (F_2 : Fld Z h0 r "com/example/rolelint/rolelint/rules/Finding" "text" "Ljava/lang/String;" (.ref s2)) :
    MetFree l (⟨"com/example/rolelint/rolelint/rules/Finding", "at", "(I)Lcom/example/rolelint/rolelint/rules/Finding;"⟩ : MethodName) (head1 (Jvm.Cond.code (⟨"com/example/rolelint/rolelint/rules/Finding", "at", "(I)Lcom/example/rolelint/rolelint/rules/Finding;"⟩ : MethodName) prog_70_method_3_code 2 (some (.object "com/example/rolelint/rolelint/rules/Finding")) :: ws) own_r9) (fun a_ U_ => a_ = #[(.ref r), (.int xv)] ∧ Z.Warmed39 U_.vm ∧ U_.heap = h0) (fun _ _ _ _ _ => True) (fun _ U_ o_ U'_ => ∃ v_ L_, o_ = .returned v_ ∧ own_Q9 Z r s1 s2  xv  h0 n0 v_ U'_.heap L_ ∧ FrameEnd U_ o_ U'_ L_ own_r9.cells own_r9.slots) := by
  refine MetFree.of_bodySF (plainFor_of_name own_pn1) hisR ?_
  intro p e s m args below meth c s₁ Bd hml0 hP hK
  obtain ⟨rfl, hZ, hh⟩ := hP
  have hx := Bd.exec
  have hby := Bd.bytes
  have hml : c.maxLocals = 2 := hml0
  have hown : s.vm.findClass "com/example/rolelint/rolelint/rules/Finding" = some m.cls := findClass_of_methodNamed Bd.named
  have hnm := (name_of_methodNamed Bd.named Bd.method).1
  have X0 : Stand p l e own_r9 s m #[(.ref r), (.int xv)] below meth c s₁ [] 0 0 := Stand.of_body Bd
  have e0 : s₁.heap = h0 := by rw [← hh, Bd.state]; rfl
  have N0 := Fr.nil n0
  refine own_in (own_ef9 m r xv) ?_
  show own_Go p e below (own_K s (own_Q9 Z r s1 s2  xv  h0 n0) own_r9.cells own_r9.slots) s₁ (mkF m 0 #[.val (.ref r), .val (.int xv)] [])
  obtain ⟨T1, h1, X1, e1, E1, A1, D1, U1, st1⟩ := newO X0 hx hZ hown (hw _ (List.mem_of_getElem? (i := 53) rfl)) (hw _ (List.mem_of_getElem? (i := 31) rfl)) (hw _ (List.mem_of_getElem? (i := 32) rfl)) e0 (g := (mkF m 0 #[.val (.ref r), .val (.int xv)] [])) rfl (hb hby own_d9_0) (by decide) (by decide)
  obtain ⟨b1, g1⟩ : ∃ z, z = h0.size := ⟨_, rfl⟩
  rw [← g1] at A1 D1 U1 st1
  have sz1 : h0.size ≤ b1 := Nat.le_of_eq g1.symm
  have ne_r_b1 : r ≠ b1 := Nat.ne_of_lt (Nat.lt_of_lt_of_le E_r.lt sz1)
  have g_b1 : n0 ≤ b1 := Nat.le_trans Z0 sz1
  have hz_b1 : h0.size ≤ b1 := Nat.le_trans (Keep.refl h0 []).1 sz1
  have K1 : Keep h0 h1 [] := (Keep.refl h0 []).ext E1
  have Z1 : n0 ≤ h1.size := Nat.le_trans Z0 E1.1
  refine own_st (T' := T1) (g' := (mkF m 3 #[.val (.ref r), .val (.int xv)] [(.ref b1)])) st1 ?_
  refine own_st (T' := T1) (g' := (mkF m 6 #[.val (.ref r), .val (.int xv)] [(.ref r), (.int xv), (.ref b1), (.ref b1)])) (fun t k => ?_) ?_
  · show Steps p.tables e below (T1.setTop (mkF m 3 #[.val (.ref r), .val (.int xv)] [(.ref b1)])) t
    refine XS.dup X1.here hx rfl (hb hby own_d9_3) rfl rfl ?_
    show Steps p.tables e below (T1.setTop (mkF m 4 #[.val (.ref r), .val (.int xv)] [(.ref b1), (.ref b1)])) t
    refine XS.iloadN X1.here hx rfl (hb hby own_d9_4) rfl ?_
    show Steps p.tables e below (T1.setTop (mkF m 5 #[.val (.ref r), .val (.int xv)] [(.int xv), (.ref b1), (.ref b1)])) t
    refine XS.aloadN X1.here hx rfl (hb hby own_d9_5) rfl rfl ?_
    show Steps p.tables e below (T1.setTop (mkF m 6 #[.val (.ref r), .val (.int xv)] [(.ref r), (.int xv), (.ref b1), (.ref b1)])) t
    exact k
  have f2 := F_1.ext E1
  obtain ⟨T3, X3, e3, st3⟩ := getF X1 hx hZ hown (host := "") (Or.inl (hw _ (List.mem_of_getElem? (i := 44) rfl))) Via.refl e1 f2 (g := (mkF m 6 #[.val (.ref r), .val (.int xv)] [(.ref r), (.int xv), (.ref b1), (.ref b1)])) rfl rfl (hb hby own_d9_6)
  refine own_st (T' := T3) (g' := (mkF m 9 #[.val (.ref r), .val (.int xv)] [(.ref s1), (.int xv), (.ref b1), (.ref b1)])) st3 ?_
  refine own_st (T' := T3) (g' := (mkF m 10 #[.val (.ref r), .val (.int xv)] [(.ref r), (.ref s1), (.int xv), (.ref b1), (.ref b1)])) (fun t k => ?_) ?_
  · show Steps p.tables e below (T3.setTop (mkF m 9 #[.val (.ref r), .val (.int xv)] [(.ref s1), (.int xv), (.ref b1), (.ref b1)])) t
    refine XS.aloadN X3.here hx rfl (hb hby own_d9_9) rfl rfl ?_
    show Steps p.tables e below (T3.setTop (mkF m 10 #[.val (.ref r), .val (.int xv)] [(.ref r), (.ref s1), (.int xv), (.ref b1), (.ref b1)])) t
    exact k
  have f4 := F_2.ext E1
  obtain ⟨T5, X5, e5, st5⟩ := getF X3 hx hZ hown (host := "") (Or.inl (hw _ (List.mem_of_getElem? (i := 46) rfl))) Via.refl e3 f4 (g := (mkF m 10 #[.val (.ref r), .val (.int xv)] [(.ref r), (.ref s1), (.int xv), (.ref b1), (.ref b1)])) rfl rfl (hb hby own_d9_10)
  refine own_st (T' := T5) (g' := (mkF m 13 #[.val (.ref r), .val (.int xv)] [(.ref s2), (.ref s1), (.int xv), (.ref b1), (.ref b1)])) st5 ?_
  obtain ⟨_, _, ⟨T6, L6, c6, n6⟩, -, X6, ⟨Lc6, hQ6, l6, y6, z6⟩, st6⟩ := X5.specialBack hx (y := (⟨"com/example/rolelint/rolelint/rules/Finding", "<init>", "(ILjava/lang/String;Ljava/lang/String;)V"⟩ : MethodName)) rfl hown (mvT hZ (hw _ (List.mem_of_getElem? (i := 54) rfl))) (mvT hZ (hw _ (List.mem_of_getElem? (i := 34) rfl))) (mvT hZ (hw _ (List.mem_of_getElem? (i := 35) rfl))) (by decide) (backOf (W := 1) (own_rm7 l Z a0 hw [] b1 xv (.ref s1) (.ref s2) h1 n0 Z1 rfl rfl A1 (D1 (Or.inr (hw _ (List.mem_of_getElem? (i := 43) rfl))) (ty := .int) (by decide) : Fld Z h1 b1 "com/example/rolelint/rolelint/rules/Finding" "line" "I" (.int (0 : Int32))) (D1 (Or.inr (hw _ (List.mem_of_getElem? (i := 45) rfl))) (ty := (.object "java/lang/String")) (by decide) : Fld Z h1 b1 "com/example/rolelint/rolelint/rules/Finding" "rule" "Ljava/lang/String;" .null) (D1 (Or.inr (hw _ (List.mem_of_getElem? (i := 47) rfl))) (ty := (.object "java/lang/String")) (by decide) : Fld Z h1 b1 "com/example/rolelint/rolelint/rules/Finding" "text" "Ljava/lang/String;" .null) g_b1) hZ (hw _ (List.mem_of_getElem? (i := 35) rfl)) (hw _ (List.mem_of_getElem? (i := 32) rfl)) (by decide) (by decide)) (g := (mkF m 13 #[.val (.ref r), .val (.int xv)] [(.ref s2), (.ref s1), (.int xv), (.ref b1), (.ref b1)])) rfl (by rw [hml]; rfl) (Steps.refl _) (a := b1) (argsL := [(.int xv), (.ref s1), (.ref s2)]) (rest := [(.ref b1)]) (lenOf own_pd1 rfl) rfl (by show 2 * 0 + _ ≤ _; exact Nat.le_of_eq rfl) (hb hby own_d9_13) (fun _ _ => ⟨rfl, e5, (by decide : 1 + 0 ≤ _), (by decide : 3 + 0 ≤ _)⟩)
  dsimp only [Pt.U, Pt.locs, Pt.cells, Pt.slots] at X6 l6 y6 z6 st6 hQ6
  subst l6 y6 z6
  obtain ⟨h6, e6⟩ : ∃ z, T6.heap = z := ⟨_, rfl⟩
  rw [e6] at hQ6
  obtain ⟨rfl, N6q, Kc6, Fc6_0, Fc6_1, Fc6_2⟩ := hQ6
  have N6 := Fr.app N0 N6q
  have K6 : Keep h0 h6 [] := K1.trans Kc6 (allS (Or.inr hz_b1) all0)
  have Z6 : n0 ≤ h6.size := Nat.le_trans Z1 Kc6.1
  refine own_tr (T' := T6) (g' := (mkF m 16 #[.val (.ref r), .val (.int xv)] [(.ref b1)])) st6 ?_
  have f7 := A1.keep Kc6
  exact own_retA X6 hx Bd rfl rfl (hb hby own_d9_16) e6 (⟨b1, rfl, N6, K6, g_b1, hz_b1, f7, Fc6_0, Fc6_1, Fc6_2⟩) (by decide) (by decide)
def own_r12 : Room := { frames := 0, cells := 0, slots := 0, locals := 0 }
theorem own_ef12 (m : MethodId) (x0 : Addr) (x1 : Addr) : entryFrame m #[(.ref x0), (.ref x1)] 3 = mkF m 0 #[.val (.ref x0), .val (.ref x1), .unset] [] := by first | (simp [entryFrame, mkF, argsToLocals, Value.category]; done) | rfl
def own_Q12 (Z : State) (r : Addr) (h0 : Heap) (n0 : Nat) : Option Value → Heap → List Loc → Prop := fun v h L => v = some (.int (1 : Int32)) ∧ Fr n0 L ∧ h = h0
set_option maxRecDepth 65536 in
set_option maxHeartbeats 40000000 in
theorem own_rm12 (l : Launch) (Z : State) (a0 : Array Value) (hw : ∀ d ∈ tables_1, d.before a0 Z = true) (ws : List Jvm.Cond) (r : Addr) (h0 : Heap) (n0 : Nat) (Z0 : n0 ≤ h0.size)  :
    MetFree l (⟨"java/lang/String", "equals", "(Ljava/lang/Object;)Z"⟩ : MethodName) (head1 (Jvm.Cond.code (⟨"java/lang/String", "equals", "(Ljava/lang/Object;)Z"⟩ : MethodName) jdk_42_method_66_code 3 (some .boolean) :: ws) own_r12) (fun a_ U_ => a_ = #[(.ref r), (.ref r)] ∧ Z.Warmed39 U_.vm ∧ U_.heap = h0) (fun _ _ _ _ _ => True) (fun _ U_ o_ U'_ => ∃ v_ L_, o_ = .returned v_ ∧ own_Q12 Z r  h0 n0 v_ U'_.heap L_ ∧ FrameEnd U_ o_ U'_ L_ own_r12.cells own_r12.slots) := by
  refine MetFree.of_bodySF (plainFor_of_name own_pn2) hisR ?_
  intro p e s m args below meth c s₁ Bd hml0 hP hK
  obtain ⟨rfl, hZ, hh⟩ := hP
  have hx := Bd.exec
  have hby := Bd.bytes
  have hml : c.maxLocals = 3 := hml0
  have hown : s.vm.findClass "java/lang/String" = some m.cls := findClass_of_methodNamed Bd.named
  have hnm := (name_of_methodNamed Bd.named Bd.method).1
  have X0 : Stand p l e own_r12 s m #[(.ref r), (.ref r)] below meth c s₁ [] 0 0 := Stand.of_body Bd
  have e0 : s₁.heap = h0 := by rw [← hh, Bd.state]; rfl
  have N0 := Fr.nil n0
  refine own_in (own_ef12 m r r) ?_
  show own_Go p e below (own_K s (own_Q12 Z r  h0 n0) own_r12.cells own_r12.slots) s₁ (mkF m 0 #[.val (.ref r), .val (.ref r), .unset] [])
  refine own_st (T' := s₁) (g' := (mkF m 6 #[.val (.ref r), .val (.ref r), .unset] [(.int (1 : Int32))])) (fun t k => ?_) ?_
  · show Steps p.tables e below (s₁.setTop (mkF m 0 #[.val (.ref r), .val (.ref r), .unset] [])) t
    refine XS.aloadN X0.here hx rfl (hb hby own_d12_0) rfl rfl ?_
    show Steps p.tables e below (s₁.setTop (mkF m 1 #[.val (.ref r), .val (.ref r), .unset] [(.ref r)])) t
    refine XS.aloadN X0.here hx rfl (hb hby own_d12_1) rfl rfl ?_
    show Steps p.tables e below (s₁.setTop (mkF m 2 #[.val (.ref r), .val (.ref r), .unset] [(.ref r), (.ref r)])) t
    refine Jvm.RoadKit.acmp (g := (mkF m 2 #[.val (.ref r), .val (.ref r), .unset] [(.ref r), (.ref r)])) X0 hx rfl rfl rfl (pc0 := 2) (pc' := 5) (same := true) rfl (hb hby own_d12_2) rfl (decide_eq_true (congrArg Value.ref (rfl : r = r))) (by decide) (by decide) ?_
    show Steps p.tables e below (s₁.setTop (mkF m 5 #[.val (.ref r), .val (.ref r), .unset] [])) t
    refine XS.iconst X0.here hx rfl (hb hby own_d12_5) ?_
    show Steps p.tables e below (s₁.setTop (mkF m 6 #[.val (.ref r), .val (.ref r), .unset] [(.int (1 : Int32))])) t
    exact k
  exact own_retN X0 hx Bd (t := .boolean) (by simp) rfl (hb hby own_d12_6) e0 (⟨rfl, N0, rfl⟩) (by decide) (by decide)
theorem own_ef0 (m : MethodId) (x0 : Int32) (x1 : Int32) (x2 : Int32) (x3 : Int32) : entryFrame m #[(.int x0), (.int x1), (.int x2), (.int x3)] maxLocals = mkF m 0 #[.val (.int x0), .val (.int x1), .val (.int x2), .val (.int x3), .unset, .unset, .unset, .unset, .unset, .unset, .unset, .unset, .unset, .unset] [] := by first | (simp [entryFrame, mkF, argsToLocals, Value.category, maxLocals]; done) | rfl
def own_Q0 (Z : State) (pa pb pc_ pd cs : Int32) (h0 : Heap) (n0 : Nat) : Option Value → Heap → List Loc → Prop := fun v h L => v = some (.int 1) ∧ Fr n0 L
set_option maxRecDepth 65536 in
set_option maxHeartbeats 40000000 in
theorem own_rm0 (l : Launch) (Z : State) (a0 : Array Value) (hw : ∀ d ∈ tables_1, d.before a0 Z = true) (ws : List Jvm.Cond) (pa pb pc_ pd cs : Int32) (h0 : Heap) (n0 : Nat) (Z0 : n0 ≤ h0.size) (O0 : Old Z n0 h0) (S_cs : Sta Z Z.heap "java/lang/String" "COMPACT_STRINGS" "Z" (.int cs)) (hcs : ¬ cs = (0 : Int32)) :
    MetFree l x (head1 (Jvm.Cond.code x code maxLocals ret :: ws) room_1) (fun a_ U_ => a_ = #[(.int pa), (.int pb), (.int pc_), (.int pd)] ∧ Z.Warmed39 U_.vm ∧ U_.heap = h0) (fun _ _ _ _ _ => True) (fun _ U_ o_ U'_ => ∃ v_ L_, o_ = .returned v_ ∧ own_Q0 Z pa pb pc_ pd cs  h0 n0 v_ U'_.heap L_ ∧ FrameEnd U_ o_ U'_ L_ room_1.cells room_1.slots) := by
  refine MetFree.of_bodySF (plainFor_of_name own_pn3) hisR ?_
  intro p e s m args below meth c s₁ Bd hml0 hP hK
  obtain ⟨rfl, hZ, hh⟩ := hP
  have hx := Bd.exec
  have hby := Bd.bytes
  have hml : c.maxLocals = 14 := hml0
  have hown : s.vm.findClass "com/example/rolelint/rolelint/rules/FindingAtPinLaw" = some m.cls := findClass_of_methodNamed Bd.named
  have hnm := (name_of_methodNamed Bd.named Bd.method).1
  have X0 : Stand p l e room_1 s m #[(.int pa), (.int pb), (.int pc_), (.int pd)] below meth c s₁ [] 0 0 := Stand.of_body Bd
  have e0 : s₁.heap = h0 := by rw [← hh, Bd.state]; rfl
  have N0 := Fr.nil n0
  refine own_in (own_ef0 m pa pb pc_ pd) ?_
  show own_Go p e below (own_K s (own_Q0 Z pa pb pc_ pd cs  h0 n0) room_1.cells room_1.slots) s₁ (mkF m 0 #[.val (.int pa), .val (.int pb), .val (.int pc_), .val (.int pd), .unset, .unset, .unset, .unset, .unset, .unset, .unset, .unset, .unset, .unset] [])
  have hws : ∀ d ∈ StrChars.Road.words, d.before a0 Z = true := fun d hd => hw d (own_words d hd)
  refine own_st (T' := s₁) (g' := (mkF m 1 #[.val (.int pa), .val (.int pb), .val (.int pc_), .val (.int pd), .unset, .unset, .unset, .unset, .unset, .unset, .unset, .unset, .unset, .unset] [(.int (2 : Int32))])) (fun t k => ?_) ?_
  · show Steps p.tables e below (s₁.setTop (mkF m 0 #[.val (.int pa), .val (.int pb), .val (.int pc_), .val (.int pd), .unset, .unset, .unset, .unset, .unset, .unset, .unset, .unset, .unset, .unset] [])) t
    refine XS.iconst X0.here hx rfl (hb hby at_0) ?_
    show Steps p.tables e below (s₁.setTop (mkF m 1 #[.val (.int pa), .val (.int pb), .val (.int pc_), .val (.int pd), .unset, .unset, .unset, .unset, .unset, .unset, .unset, .unset, .unset, .unset] [(.int (2 : Int32))])) t
    exact k
  obtain ⟨T1, h1, k1, X1, e1, E1, A1, st1⟩ := newP X0 hx hZ (hw _ (List.mem_of_getElem? (i := 0) rfl)) e0 (g := (mkF m 1 #[.val (.int pa), .val (.int pb), .val (.int pc_), .val (.int pd), .unset, .unset, .unset, .unset, .unset, .unset, .unset, .unset, .unset, .unset] [(.int (2 : Int32))])) rfl (hb hby at_1) rfl (by decide) (cap := 2) (by decide) (by decide) (by decide) (by decide)
  obtain ⟨b1, g1⟩ : ∃ z, z = h0.size := ⟨_, rfl⟩
  rw [← g1] at A1 st1
  have sz1 : h0.size ≤ b1 := Nat.le_of_eq g1.symm
  have g_b1 : n0 ≤ b1 := Nat.le_trans Z0 sz1
  have hz_b1 : h0.size ≤ b1 := Nat.le_trans (Keep.refl h0 []).1 sz1
  have K1 : Keep h0 h1 [] := (Keep.refl h0 []).ext E1
  have Z1 : n0 ≤ h1.size := Nat.le_trans Z0 E1.1
  have O1 := O0.ext E1
  have V1 : Arv Z h1 b1 k1 .char (2 : Int32) [(.int (0 : Int32)), (.int (0 : Int32))] (.int (0 : Int32)) := (Arv.new A1 (by decide)).pad (pad_rep [] (.int (0 : Int32)) 2)
  refine own_st (T' := T1) (g' := (mkF m 3 #[.val (.int pa), .val (.int pb), .val (.int pc_), .val (.int pd), .unset, .unset, .unset, .unset, .unset, .unset, .unset, .unset, .unset, .unset] [(.ref b1)])) st1 ?_
  refine own_st (T' := T1) (g' := (mkF m 11 #[.val (.int pa), .val (.int pb), .val (.int pc_), .val (.int pd), .unset, .unset, .unset, .unset, .unset, .unset, .unset, .unset, .unset, .unset] [(.int ((pc_ &&& (255 : Int32)).toUInt32.toUInt16.toUInt32.toInt32)), (.int (0 : Int32)), (.ref b1), (.ref b1)])) (fun t k => ?_) ?_
  · show Steps p.tables e below (T1.setTop (mkF m 3 #[.val (.int pa), .val (.int pb), .val (.int pc_), .val (.int pd), .unset, .unset, .unset, .unset, .unset, .unset, .unset, .unset, .unset, .unset] [(.ref b1)])) t
    refine XS.dup X1.here hx rfl (hb hby at_3) rfl rfl ?_
    show Steps p.tables e below (T1.setTop (mkF m 4 #[.val (.int pa), .val (.int pb), .val (.int pc_), .val (.int pd), .unset, .unset, .unset, .unset, .unset, .unset, .unset, .unset, .unset, .unset] [(.ref b1), (.ref b1)])) t
    refine XS.iconst X1.here hx rfl (hb hby at_4) ?_
    show Steps p.tables e below (T1.setTop (mkF m 5 #[.val (.int pa), .val (.int pb), .val (.int pc_), .val (.int pd), .unset, .unset, .unset, .unset, .unset, .unset, .unset, .unset, .unset, .unset] [(.int (0 : Int32)), (.ref b1), (.ref b1)])) t
    refine XS.iloadN X1.here hx rfl (hb hby at_5) rfl ?_
    show Steps p.tables e below (T1.setTop (mkF m 6 #[.val (.int pa), .val (.int pb), .val (.int pc_), .val (.int pd), .unset, .unset, .unset, .unset, .unset, .unset, .unset, .unset, .unset, .unset] [(.int pc_), (.int (0 : Int32)), (.ref b1), (.ref b1)])) t
    refine XS.sipush X1.here hx rfl (hb hby at_6) ?_
    show Steps p.tables e below (T1.setTop (mkF m 9 #[.val (.int pa), .val (.int pb), .val (.int pc_), .val (.int pd), .unset, .unset, .unset, .unset, .unset, .unset, .unset, .unset, .unset, .unset] [(.int (255 : Int32)), (.int pc_), (.int (0 : Int32)), (.ref b1), (.ref b1)])) t
    refine XS.iand X1.here hx rfl (hb hby at_9) rfl ?_
    show Steps p.tables e below (T1.setTop (mkF m 10 #[.val (.int pa), .val (.int pb), .val (.int pc_), .val (.int pd), .unset, .unset, .unset, .unset, .unset, .unset, .unset, .unset, .unset, .unset] [(.int (pc_ &&& (255 : Int32))), (.int (0 : Int32)), (.ref b1), (.ref b1)])) t
    refine XS.i2c X1.here hx rfl (hb hby at_10) rfl ?_
    show Steps p.tables e below (T1.setTop (mkF m 11 #[.val (.int pa), .val (.int pb), .val (.int pc_), .val (.int pd), .unset, .unset, .unset, .unset, .unset, .unset, .unset, .unset, .unset, .unset] [(.int ((pc_ &&& (255 : Int32)).toUInt32.toUInt16.toUInt32.toInt32)), (.int (0 : Int32)), (.ref b1), (.ref b1)])) t
    exact k
  obtain ⟨cl2, Ar2, q2, S2, M2, H2, G2⟩ := id V1
  obtain ⟨T3, h3, X3, e3, W3, st3⟩ := stC X1 hx hZ e1 Ar2 (j := (0 : Int32)) (inb_of S2 ⟨by decide, by decide⟩) (g := (mkF m 11 #[.val (.int pa), .val (.int pb), .val (.int pc_), .val (.int pd), .unset, .unset, .unset, .unset, .unset, .unset, .unset, .unset, .unset, .unset] [(.int ((pc_ &&& (255 : Int32)).toUInt32.toUInt16.toUInt32.toInt32)), (.int (0 : Int32)), (.ref b1), (.ref b1)])) rfl rfl (hb hby at_11)
  have N3 := Fr.snoc X3 N0 g_b1
  have K3 : Keep h0 h3 [] := K1.wr W3 (Or.inr hz_b1)
  have Z3 : n0 ≤ h3.size := Nat.le_trans Z1 (Keep.of_wr W3).1
  have O3 := O1.wr W3 g_b1
  have fw3 := (show Arv Z h3 b1 k1 .char (2 : Int32) [(.int ((pc_ &&& (255 : Int32)).toUInt32.toUInt16.toUInt32.toInt32)), (.int (0 : Int32))] (.int (0 : Int32)) by have q : Arv Z h3 b1 k1 .char (2 : Int32) [(.int (((pc_ &&& (255 : Int32)).toUInt32.toUInt16.toUInt32.toInt32).toUInt32.toUInt16.toUInt32.toInt32)), (.int (0 : Int32))] (.int (0 : Int32)) := Arv.set Ar2 q2 S2 M2 H2 G2 (fits_nar_char _) W3 0 rfl (Nat.le_of_ble_eq_true rfl); rw [own_cc (pc_ &&& (255 : Int32))] at q; exact q)
  refine own_st (T' := T3) (g' := (mkF m 12 #[.val (.int pa), .val (.int pb), .val (.int pc_), .val (.int pd), .unset, .unset, .unset, .unset, .unset, .unset, .unset, .unset, .unset, .unset] [(.ref b1)])) st3 ?_
  refine own_st (T' := T3) (g' := (mkF m 23 #[.val (.int pa), .val (.int pb), .val (.int pc_), .val (.int pd), .unset, .unset, .unset, .unset, .unset, .unset, .unset, .unset, .unset, .unset] [(.int ((((pc_.toUInt32 >>> ((8 : Int32) &&& 31).toUInt32).toInt32) &&& (255 : Int32)).toUInt32.toUInt16.toUInt32.toInt32)), (.int (1 : Int32)), (.ref b1), (.ref b1)])) (fun t k => ?_) ?_
  · show Steps p.tables e below (T3.setTop (mkF m 12 #[.val (.int pa), .val (.int pb), .val (.int pc_), .val (.int pd), .unset, .unset, .unset, .unset, .unset, .unset, .unset, .unset, .unset, .unset] [(.ref b1)])) t
    refine XS.dup X3.here hx rfl (hb hby at_12) rfl rfl ?_
    show Steps p.tables e below (T3.setTop (mkF m 13 #[.val (.int pa), .val (.int pb), .val (.int pc_), .val (.int pd), .unset, .unset, .unset, .unset, .unset, .unset, .unset, .unset, .unset, .unset] [(.ref b1), (.ref b1)])) t
    refine XS.iconst X3.here hx rfl (hb hby at_13) ?_
    show Steps p.tables e below (T3.setTop (mkF m 14 #[.val (.int pa), .val (.int pb), .val (.int pc_), .val (.int pd), .unset, .unset, .unset, .unset, .unset, .unset, .unset, .unset, .unset, .unset] [(.int (1 : Int32)), (.ref b1), (.ref b1)])) t
    refine XS.iloadN X3.here hx rfl (hb hby at_14) rfl ?_
    show Steps p.tables e below (T3.setTop (mkF m 15 #[.val (.int pa), .val (.int pb), .val (.int pc_), .val (.int pd), .unset, .unset, .unset, .unset, .unset, .unset, .unset, .unset, .unset, .unset] [(.int pc_), (.int (1 : Int32)), (.ref b1), (.ref b1)])) t
    refine XS.bipush X3.here hx rfl (hb hby at_15) ?_
    show Steps p.tables e below (T3.setTop (mkF m 17 #[.val (.int pa), .val (.int pb), .val (.int pc_), .val (.int pd), .unset, .unset, .unset, .unset, .unset, .unset, .unset, .unset, .unset, .unset] [(.int (8 : Int32)), (.int pc_), (.int (1 : Int32)), (.ref b1), (.ref b1)])) t
    refine XS.iushr X3.here hx rfl (hb hby at_17) rfl ?_
    show Steps p.tables e below (T3.setTop (mkF m 18 #[.val (.int pa), .val (.int pb), .val (.int pc_), .val (.int pd), .unset, .unset, .unset, .unset, .unset, .unset, .unset, .unset, .unset, .unset] [(.int ((pc_.toUInt32 >>> ((8 : Int32) &&& 31).toUInt32).toInt32)), (.int (1 : Int32)), (.ref b1), (.ref b1)])) t
    refine XS.sipush X3.here hx rfl (hb hby at_18) ?_
    show Steps p.tables e below (T3.setTop (mkF m 21 #[.val (.int pa), .val (.int pb), .val (.int pc_), .val (.int pd), .unset, .unset, .unset, .unset, .unset, .unset, .unset, .unset, .unset, .unset] [(.int (255 : Int32)), (.int ((pc_.toUInt32 >>> ((8 : Int32) &&& 31).toUInt32).toInt32)), (.int (1 : Int32)), (.ref b1), (.ref b1)])) t
    refine XS.iand X3.here hx rfl (hb hby at_21) rfl ?_
    show Steps p.tables e below (T3.setTop (mkF m 22 #[.val (.int pa), .val (.int pb), .val (.int pc_), .val (.int pd), .unset, .unset, .unset, .unset, .unset, .unset, .unset, .unset, .unset, .unset] [(.int (((pc_.toUInt32 >>> ((8 : Int32) &&& 31).toUInt32).toInt32) &&& (255 : Int32))), (.int (1 : Int32)), (.ref b1), (.ref b1)])) t
    refine XS.i2c X3.here hx rfl (hb hby at_22) rfl ?_
    show Steps p.tables e below (T3.setTop (mkF m 23 #[.val (.int pa), .val (.int pb), .val (.int pc_), .val (.int pd), .unset, .unset, .unset, .unset, .unset, .unset, .unset, .unset, .unset, .unset] [(.int ((((pc_.toUInt32 >>> ((8 : Int32) &&& 31).toUInt32).toInt32) &&& (255 : Int32)).toUInt32.toUInt16.toUInt32.toInt32)), (.int (1 : Int32)), (.ref b1), (.ref b1)])) t
    exact k
  obtain ⟨cl4, Ar4, q4, S4, M4, H4, G4⟩ := id fw3
  obtain ⟨T5, h5, X5, e5, W5, st5⟩ := stC X3 hx hZ e3 Ar4 (j := (1 : Int32)) (inb_of S4 ⟨by decide, by decide⟩) (g := (mkF m 23 #[.val (.int pa), .val (.int pb), .val (.int pc_), .val (.int pd), .unset, .unset, .unset, .unset, .unset, .unset, .unset, .unset, .unset, .unset] [(.int ((((pc_.toUInt32 >>> ((8 : Int32) &&& 31).toUInt32).toInt32) &&& (255 : Int32)).toUInt32.toUInt16.toUInt32.toInt32)), (.int (1 : Int32)), (.ref b1), (.ref b1)])) rfl rfl (hb hby at_23)
  have N5 := Fr.snoc X5 N3 g_b1
  have K5 : Keep h0 h5 [] := K3.wr W5 (Or.inr hz_b1)
  have Z5 : n0 ≤ h5.size := Nat.le_trans Z3 (Keep.of_wr W5).1
  have O5 := O3.wr W5 g_b1
  have fw5 := (show Arv Z h5 b1 k1 .char (2 : Int32) [(.int ((pc_ &&& (255 : Int32)).toUInt32.toUInt16.toUInt32.toInt32)), (.int ((((pc_.toUInt32 >>> ((8 : Int32) &&& 31).toUInt32).toInt32) &&& (255 : Int32)).toUInt32.toUInt16.toUInt32.toInt32))] (.int (0 : Int32)) by have q : Arv Z h5 b1 k1 .char (2 : Int32) [(.int ((pc_ &&& (255 : Int32)).toUInt32.toUInt16.toUInt32.toInt32)), (.int (((((pc_.toUInt32 >>> ((8 : Int32) &&& 31).toUInt32).toInt32) &&& (255 : Int32)).toUInt32.toUInt16.toUInt32.toInt32).toUInt32.toUInt16.toUInt32.toInt32))] (.int (0 : Int32)) := Arv.set Ar4 q4 S4 M4 H4 G4 (fits_nar_char _) W5 1 rfl (Nat.le_of_ble_eq_true rfl); rw [own_cc (((pc_.toUInt32 >>> ((8 : Int32) &&& 31).toUInt32).toInt32) &&& (255 : Int32))] at q; exact q)
  refine own_st (T' := T5) (g' := (mkF m 24 #[.val (.int pa), .val (.int pb), .val (.int pc_), .val (.int pd), .unset, .unset, .unset, .unset, .unset, .unset, .unset, .unset, .unset, .unset] [(.ref b1)])) st5 ?_
  refine own_st (T' := T5) (g' := (mkF m 27 #[.val (.int pa), .val (.int pb), .val (.int pc_), .val (.int pd), .val (.ref b1), .unset, .unset, .unset, .unset, .unset, .unset, .unset, .unset, .unset] [(.int (2 : Int32))])) (fun t k => ?_) ?_
  · show Steps p.tables e below (T5.setTop (mkF m 24 #[.val (.int pa), .val (.int pb), .val (.int pc_), .val (.int pd), .unset, .unset, .unset, .unset, .unset, .unset, .unset, .unset, .unset, .unset] [(.ref b1)])) t
    refine XS.astore X5.here hx rfl (hb hby at_24) rfl rfl (l' := #[.val (.int pa), .val (.int pb), .val (.int pc_), .val (.int pd), .val (.ref b1), .unset, .unset, .unset, .unset, .unset, .unset, .unset, .unset, .unset]) rfl ?_
    show Steps p.tables e below (T5.setTop (mkF m 26 #[.val (.int pa), .val (.int pb), .val (.int pc_), .val (.int pd), .val (.ref b1), .unset, .unset, .unset, .unset, .unset, .unset, .unset, .unset, .unset] [])) t
    refine XS.iconst X5.here hx rfl (hb hby at_26) ?_
    show Steps p.tables e below (T5.setTop (mkF m 27 #[.val (.int pa), .val (.int pb), .val (.int pc_), .val (.int pd), .val (.ref b1), .unset, .unset, .unset, .unset, .unset, .unset, .unset, .unset, .unset] [(.int (2 : Int32))])) t
    exact k
  obtain ⟨T6, h6, k6, X6, e6, E6, A6, st6⟩ := newP X5 hx hZ (hw _ (List.mem_of_getElem? (i := 0) rfl)) e5 (g := (mkF m 27 #[.val (.int pa), .val (.int pb), .val (.int pc_), .val (.int pd), .val (.ref b1), .unset, .unset, .unset, .unset, .unset, .unset, .unset, .unset, .unset] [(.int (2 : Int32))])) rfl (hb hby at_27) rfl (by decide) (cap := 2) (by decide) (by decide) (by decide) (by decide)
  obtain ⟨b6, g6⟩ : ∃ z, z = h5.size := ⟨_, rfl⟩
  rw [← g6] at A6 st6
  have sz6 : h5.size ≤ b6 := Nat.le_of_eq g6.symm
  have ne_b1_b6 : b1 ≠ b6 := Nat.ne_of_lt (Nat.lt_of_lt_of_le fw5.lt sz6)
  have g_b6 : n0 ≤ b6 := Nat.le_trans Z5 sz6
  have hz_b6 : h0.size ≤ b6 := Nat.le_trans K5.1 sz6
  have K6 : Keep h0 h6 [] := K5.ext E6
  have Z6 : n0 ≤ h6.size := Nat.le_trans Z5 E6.1
  have O6 := O5.ext E6
  have V6 : Arv Z h6 b6 k6 .char (2 : Int32) [(.int (0 : Int32)), (.int (0 : Int32))] (.int (0 : Int32)) := (Arv.new A6 (by decide)).pad (pad_rep [] (.int (0 : Int32)) 2)
  refine own_st (T' := T6) (g' := (mkF m 29 #[.val (.int pa), .val (.int pb), .val (.int pc_), .val (.int pd), .val (.ref b1), .unset, .unset, .unset, .unset, .unset, .unset, .unset, .unset, .unset] [(.ref b6)])) st6 ?_
  refine own_st (T' := T6) (g' := (mkF m 37 #[.val (.int pa), .val (.int pb), .val (.int pc_), .val (.int pd), .val (.ref b1), .unset, .unset, .unset, .unset, .unset, .unset, .unset, .unset, .unset] [(.int ((pd &&& (255 : Int32)).toUInt32.toUInt16.toUInt32.toInt32)), (.int (0 : Int32)), (.ref b6), (.ref b6)])) (fun t k => ?_) ?_
  · show Steps p.tables e below (T6.setTop (mkF m 29 #[.val (.int pa), .val (.int pb), .val (.int pc_), .val (.int pd), .val (.ref b1), .unset, .unset, .unset, .unset, .unset, .unset, .unset, .unset, .unset] [(.ref b6)])) t
    refine XS.dup X6.here hx rfl (hb hby at_29) rfl rfl ?_
    show Steps p.tables e below (T6.setTop (mkF m 30 #[.val (.int pa), .val (.int pb), .val (.int pc_), .val (.int pd), .val (.ref b1), .unset, .unset, .unset, .unset, .unset, .unset, .unset, .unset, .unset] [(.ref b6), (.ref b6)])) t
    refine XS.iconst X6.here hx rfl (hb hby at_30) ?_
    show Steps p.tables e below (T6.setTop (mkF m 31 #[.val (.int pa), .val (.int pb), .val (.int pc_), .val (.int pd), .val (.ref b1), .unset, .unset, .unset, .unset, .unset, .unset, .unset, .unset, .unset] [(.int (0 : Int32)), (.ref b6), (.ref b6)])) t
    refine XS.iloadN X6.here hx rfl (hb hby at_31) rfl ?_
    show Steps p.tables e below (T6.setTop (mkF m 32 #[.val (.int pa), .val (.int pb), .val (.int pc_), .val (.int pd), .val (.ref b1), .unset, .unset, .unset, .unset, .unset, .unset, .unset, .unset, .unset] [(.int pd), (.int (0 : Int32)), (.ref b6), (.ref b6)])) t
    refine XS.sipush X6.here hx rfl (hb hby at_32) ?_
    show Steps p.tables e below (T6.setTop (mkF m 35 #[.val (.int pa), .val (.int pb), .val (.int pc_), .val (.int pd), .val (.ref b1), .unset, .unset, .unset, .unset, .unset, .unset, .unset, .unset, .unset] [(.int (255 : Int32)), (.int pd), (.int (0 : Int32)), (.ref b6), (.ref b6)])) t
    refine XS.iand X6.here hx rfl (hb hby at_35) rfl ?_
    show Steps p.tables e below (T6.setTop (mkF m 36 #[.val (.int pa), .val (.int pb), .val (.int pc_), .val (.int pd), .val (.ref b1), .unset, .unset, .unset, .unset, .unset, .unset, .unset, .unset, .unset] [(.int (pd &&& (255 : Int32))), (.int (0 : Int32)), (.ref b6), (.ref b6)])) t
    refine XS.i2c X6.here hx rfl (hb hby at_36) rfl ?_
    show Steps p.tables e below (T6.setTop (mkF m 37 #[.val (.int pa), .val (.int pb), .val (.int pc_), .val (.int pd), .val (.ref b1), .unset, .unset, .unset, .unset, .unset, .unset, .unset, .unset, .unset] [(.int ((pd &&& (255 : Int32)).toUInt32.toUInt16.toUInt32.toInt32)), (.int (0 : Int32)), (.ref b6), (.ref b6)])) t
    exact k
  obtain ⟨cl7, Ar7, q7, S7, M7, H7, G7⟩ := id V6
  obtain ⟨T8, h8, X8, e8, W8, st8⟩ := stC X6 hx hZ e6 Ar7 (j := (0 : Int32)) (inb_of S7 ⟨by decide, by decide⟩) (g := (mkF m 37 #[.val (.int pa), .val (.int pb), .val (.int pc_), .val (.int pd), .val (.ref b1), .unset, .unset, .unset, .unset, .unset, .unset, .unset, .unset, .unset] [(.int ((pd &&& (255 : Int32)).toUInt32.toUInt16.toUInt32.toInt32)), (.int (0 : Int32)), (.ref b6), (.ref b6)])) rfl rfl (hb hby at_37)
  have N8 := Fr.snoc X8 N5 g_b6
  have K8 : Keep h0 h8 [] := K6.wr W8 (Or.inr hz_b6)
  have Z8 : n0 ≤ h8.size := Nat.le_trans Z6 (Keep.of_wr W8).1
  have O8 := O6.wr W8 g_b6
  have fw8 := (show Arv Z h8 b6 k6 .char (2 : Int32) [(.int ((pd &&& (255 : Int32)).toUInt32.toUInt16.toUInt32.toInt32)), (.int (0 : Int32))] (.int (0 : Int32)) by have q : Arv Z h8 b6 k6 .char (2 : Int32) [(.int (((pd &&& (255 : Int32)).toUInt32.toUInt16.toUInt32.toInt32).toUInt32.toUInt16.toUInt32.toInt32)), (.int (0 : Int32))] (.int (0 : Int32)) := Arv.set Ar7 q7 S7 M7 H7 G7 (fits_nar_char _) W8 0 rfl (Nat.le_of_ble_eq_true rfl); rw [own_cc (pd &&& (255 : Int32))] at q; exact q)
  refine own_st (T' := T8) (g' := (mkF m 38 #[.val (.int pa), .val (.int pb), .val (.int pc_), .val (.int pd), .val (.ref b1), .unset, .unset, .unset, .unset, .unset, .unset, .unset, .unset, .unset] [(.ref b6)])) st8 ?_
  refine own_st (T' := T8) (g' := (mkF m 49 #[.val (.int pa), .val (.int pb), .val (.int pc_), .val (.int pd), .val (.ref b1), .unset, .unset, .unset, .unset, .unset, .unset, .unset, .unset, .unset] [(.int ((((pd.toUInt32 >>> ((8 : Int32) &&& 31).toUInt32).toInt32) &&& (255 : Int32)).toUInt32.toUInt16.toUInt32.toInt32)), (.int (1 : Int32)), (.ref b6), (.ref b6)])) (fun t k => ?_) ?_
  · show Steps p.tables e below (T8.setTop (mkF m 38 #[.val (.int pa), .val (.int pb), .val (.int pc_), .val (.int pd), .val (.ref b1), .unset, .unset, .unset, .unset, .unset, .unset, .unset, .unset, .unset] [(.ref b6)])) t
    refine XS.dup X8.here hx rfl (hb hby at_38) rfl rfl ?_
    show Steps p.tables e below (T8.setTop (mkF m 39 #[.val (.int pa), .val (.int pb), .val (.int pc_), .val (.int pd), .val (.ref b1), .unset, .unset, .unset, .unset, .unset, .unset, .unset, .unset, .unset] [(.ref b6), (.ref b6)])) t
    refine XS.iconst X8.here hx rfl (hb hby at_39) ?_
    show Steps p.tables e below (T8.setTop (mkF m 40 #[.val (.int pa), .val (.int pb), .val (.int pc_), .val (.int pd), .val (.ref b1), .unset, .unset, .unset, .unset, .unset, .unset, .unset, .unset, .unset] [(.int (1 : Int32)), (.ref b6), (.ref b6)])) t
    refine XS.iloadN X8.here hx rfl (hb hby at_40) rfl ?_
    show Steps p.tables e below (T8.setTop (mkF m 41 #[.val (.int pa), .val (.int pb), .val (.int pc_), .val (.int pd), .val (.ref b1), .unset, .unset, .unset, .unset, .unset, .unset, .unset, .unset, .unset] [(.int pd), (.int (1 : Int32)), (.ref b6), (.ref b6)])) t
    refine XS.bipush X8.here hx rfl (hb hby at_41) ?_
    show Steps p.tables e below (T8.setTop (mkF m 43 #[.val (.int pa), .val (.int pb), .val (.int pc_), .val (.int pd), .val (.ref b1), .unset, .unset, .unset, .unset, .unset, .unset, .unset, .unset, .unset] [(.int (8 : Int32)), (.int pd), (.int (1 : Int32)), (.ref b6), (.ref b6)])) t
    refine XS.iushr X8.here hx rfl (hb hby at_43) rfl ?_
    show Steps p.tables e below (T8.setTop (mkF m 44 #[.val (.int pa), .val (.int pb), .val (.int pc_), .val (.int pd), .val (.ref b1), .unset, .unset, .unset, .unset, .unset, .unset, .unset, .unset, .unset] [(.int ((pd.toUInt32 >>> ((8 : Int32) &&& 31).toUInt32).toInt32)), (.int (1 : Int32)), (.ref b6), (.ref b6)])) t
    refine XS.sipush X8.here hx rfl (hb hby at_44) ?_
    show Steps p.tables e below (T8.setTop (mkF m 47 #[.val (.int pa), .val (.int pb), .val (.int pc_), .val (.int pd), .val (.ref b1), .unset, .unset, .unset, .unset, .unset, .unset, .unset, .unset, .unset] [(.int (255 : Int32)), (.int ((pd.toUInt32 >>> ((8 : Int32) &&& 31).toUInt32).toInt32)), (.int (1 : Int32)), (.ref b6), (.ref b6)])) t
    refine XS.iand X8.here hx rfl (hb hby at_47) rfl ?_
    show Steps p.tables e below (T8.setTop (mkF m 48 #[.val (.int pa), .val (.int pb), .val (.int pc_), .val (.int pd), .val (.ref b1), .unset, .unset, .unset, .unset, .unset, .unset, .unset, .unset, .unset] [(.int (((pd.toUInt32 >>> ((8 : Int32) &&& 31).toUInt32).toInt32) &&& (255 : Int32))), (.int (1 : Int32)), (.ref b6), (.ref b6)])) t
    refine XS.i2c X8.here hx rfl (hb hby at_48) rfl ?_
    show Steps p.tables e below (T8.setTop (mkF m 49 #[.val (.int pa), .val (.int pb), .val (.int pc_), .val (.int pd), .val (.ref b1), .unset, .unset, .unset, .unset, .unset, .unset, .unset, .unset, .unset] [(.int ((((pd.toUInt32 >>> ((8 : Int32) &&& 31).toUInt32).toInt32) &&& (255 : Int32)).toUInt32.toUInt16.toUInt32.toInt32)), (.int (1 : Int32)), (.ref b6), (.ref b6)])) t
    exact k
  obtain ⟨cl9, Ar9, q9, S9, M9, H9, G9⟩ := id fw8
  obtain ⟨T10, h10, X10, e10, W10, st10⟩ := stC X8 hx hZ e8 Ar9 (j := (1 : Int32)) (inb_of S9 ⟨by decide, by decide⟩) (g := (mkF m 49 #[.val (.int pa), .val (.int pb), .val (.int pc_), .val (.int pd), .val (.ref b1), .unset, .unset, .unset, .unset, .unset, .unset, .unset, .unset, .unset] [(.int ((((pd.toUInt32 >>> ((8 : Int32) &&& 31).toUInt32).toInt32) &&& (255 : Int32)).toUInt32.toUInt16.toUInt32.toInt32)), (.int (1 : Int32)), (.ref b6), (.ref b6)])) rfl rfl (hb hby at_49)
  have N10 := Fr.snoc X10 N8 g_b6
  have K10 : Keep h0 h10 [] := K8.wr W10 (Or.inr hz_b6)
  have Z10 : n0 ≤ h10.size := Nat.le_trans Z8 (Keep.of_wr W10).1
  have O10 := O8.wr W10 g_b6
  have fw10 := (show Arv Z h10 b6 k6 .char (2 : Int32) [(.int ((pd &&& (255 : Int32)).toUInt32.toUInt16.toUInt32.toInt32)), (.int ((((pd.toUInt32 >>> ((8 : Int32) &&& 31).toUInt32).toInt32) &&& (255 : Int32)).toUInt32.toUInt16.toUInt32.toInt32))] (.int (0 : Int32)) by have q : Arv Z h10 b6 k6 .char (2 : Int32) [(.int ((pd &&& (255 : Int32)).toUInt32.toUInt16.toUInt32.toInt32)), (.int (((((pd.toUInt32 >>> ((8 : Int32) &&& 31).toUInt32).toInt32) &&& (255 : Int32)).toUInt32.toUInt16.toUInt32.toInt32).toUInt32.toUInt16.toUInt32.toInt32))] (.int (0 : Int32)) := Arv.set Ar9 q9 S9 M9 H9 G9 (fits_nar_char _) W10 1 rfl (Nat.le_of_ble_eq_true rfl); rw [own_cc (((pd.toUInt32 >>> ((8 : Int32) &&& 31).toUInt32).toInt32) &&& (255 : Int32))] at q; exact q)
  refine own_st (T' := T10) (g' := (mkF m 50 #[.val (.int pa), .val (.int pb), .val (.int pc_), .val (.int pd), .val (.ref b1), .unset, .unset, .unset, .unset, .unset, .unset, .unset, .unset, .unset] [(.ref b6)])) st10 ?_
  refine own_st (T' := T10) (g' := (mkF m 52 #[.val (.int pa), .val (.int pb), .val (.int pc_), .val (.int pd), .val (.ref b1), .val (.ref b6), .unset, .unset, .unset, .unset, .unset, .unset, .unset, .unset] [])) (fun t k => ?_) ?_
  · show Steps p.tables e below (T10.setTop (mkF m 50 #[.val (.int pa), .val (.int pb), .val (.int pc_), .val (.int pd), .val (.ref b1), .unset, .unset, .unset, .unset, .unset, .unset, .unset, .unset, .unset] [(.ref b6)])) t
    refine XS.astore X10.here hx rfl (hb hby at_50) rfl rfl (l' := #[.val (.int pa), .val (.int pb), .val (.int pc_), .val (.int pd), .val (.ref b1), .val (.ref b6), .unset, .unset, .unset, .unset, .unset, .unset, .unset, .unset]) rfl ?_
    show Steps p.tables e below (T10.setTop (mkF m 52 #[.val (.int pa), .val (.int pb), .val (.int pc_), .val (.int pd), .val (.ref b1), .val (.ref b6), .unset, .unset, .unset, .unset, .unset, .unset, .unset, .unset] [])) t
    exact k
  obtain ⟨T11, h11, X11, e11, E11, A11, D11, U11, st11⟩ := newO X10 hx hZ hown (hw _ (List.mem_of_getElem? (i := 1) rfl)) (hw _ (List.mem_of_getElem? (i := 2) rfl)) (hw _ (List.mem_of_getElem? (i := 3) rfl)) e10 (g := (mkF m 52 #[.val (.int pa), .val (.int pb), .val (.int pc_), .val (.int pd), .val (.ref b1), .val (.ref b6), .unset, .unset, .unset, .unset, .unset, .unset, .unset, .unset] [])) rfl (hb hby at_52) (by decide) (by decide)
  obtain ⟨b11, g11⟩ : ∃ z, z = h10.size := ⟨_, rfl⟩
  rw [← g11] at A11 D11 U11 st11
  have sz11 : h10.size ≤ b11 := Nat.le_of_eq g11.symm
  have f12 := ((fw5.ext E6).other W8 ne_b1_b6).other W10 ne_b1_b6
  have ne_b1_b11 : b1 ≠ b11 := Nat.ne_of_lt (Nat.lt_of_lt_of_le f12.lt sz11)
  have ne_b6_b11 : b6 ≠ b11 := Nat.ne_of_lt (Nat.lt_of_lt_of_le fw10.lt sz11)
  have g_b11 : n0 ≤ b11 := Nat.le_trans Z10 sz11
  have hz_b11 : h0.size ≤ b11 := Nat.le_trans K10.1 sz11
  have K11 : Keep h0 h11 [] := K10.ext E11
  have Z11 : n0 ≤ h11.size := Nat.le_trans Z10 E11.1
  have O11 := O10.ext E11
  refine own_st (T' := T11) (g' := (mkF m 55 #[.val (.int pa), .val (.int pb), .val (.int pc_), .val (.int pd), .val (.ref b1), .val (.ref b6), .unset, .unset, .unset, .unset, .unset, .unset, .unset, .unset] [(.ref b11)])) st11 ?_
  refine own_st (T' := T11) (g' := (mkF m 58 #[.val (.int pa), .val (.int pb), .val (.int pc_), .val (.int pd), .val (.ref b1), .val (.ref b6), .unset, .unset, .unset, .unset, .unset, .unset, .unset, .unset] [(.ref b1), (.ref b11), (.ref b11)])) (fun t k => ?_) ?_
  · show Steps p.tables e below (T11.setTop (mkF m 55 #[.val (.int pa), .val (.int pb), .val (.int pc_), .val (.int pd), .val (.ref b1), .val (.ref b6), .unset, .unset, .unset, .unset, .unset, .unset, .unset, .unset] [(.ref b11)])) t
    refine XS.dup X11.here hx rfl (hb hby at_55) rfl rfl ?_
    show Steps p.tables e below (T11.setTop (mkF m 56 #[.val (.int pa), .val (.int pb), .val (.int pc_), .val (.int pd), .val (.ref b1), .val (.ref b6), .unset, .unset, .unset, .unset, .unset, .unset, .unset, .unset] [(.ref b11), (.ref b11)])) t
    refine XS.aload X11.here hx rfl (hb hby at_56) rfl rfl ?_
    show Steps p.tables e below (T11.setTop (mkF m 58 #[.val (.int pa), .val (.int pb), .val (.int pc_), .val (.int pd), .val (.ref b1), .val (.ref b6), .unset, .unset, .unset, .unset, .unset, .unset, .unset, .unset] [(.ref b1), (.ref b11), (.ref b11)])) t
    exact k
  have f13 := f12.ext E11
  have f14 := S_cs.ext O11.2
  obtain ⟨_, _, ⟨T15, L15, c15, n15⟩, -, X15, ⟨Lc15, hQ15, l15, y15, z15⟩, st15⟩ := X11.specialBack hx (y := (⟨"java/lang/String", "<init>", "([C)V"⟩ : MethodName)) rfl hown (mvT hZ (hw _ (List.mem_of_getElem? (i := 4) rfl))) (mvT hZ (hw _ (List.mem_of_getElem? (i := 5) rfl))) (mvT hZ (hw _ (List.mem_of_getElem? (i := 6) rfl))) (by decide) (StrChars.Road.backV (W := 1) hZ hws (kI := 4) (hw _ (List.mem_of_getElem? (i := 2) rfl)) (cs := [((pc_ &&& (255 : Int32)).toUInt32.toUInt16.toUInt32.toInt32), ((((pc_.toUInt32 >>> ((8 : Int32) &&& 31).toUInt32).toInt32) &&& (255 : Int32)).toUInt32.toUInt16.toUInt32.toInt32)]) (bs := [(((pc_ &&& (255 : Int32)).toUInt32.toUInt16.toUInt32.toInt32)).toInt8.toInt32, (((((pc_.toUInt32 >>> ((8 : Int32) &&& 31).toUInt32).toInt32) &&& (255 : Int32)).toUInt32.toUInt16.toUInt32.toInt32)).toInt8.toInt32]) (n := 2) g_b11 Z11 A11 (D11 (Or.inr (hw _ (List.mem_of_getElem? (i := 29) rfl))) (ty := (.array .byte)) (by decide) : Fld Z h11 b11 "java/lang/String" "value" "[B" .null) (D11 (Or.inr (hw _ (List.mem_of_getElem? (i := 27) rfl))) (ty := .byte) (by decide) : Fld Z h11 b11 "java/lang/String" "coder" "B" (.int (0 : Int32))) f13 f14 hcs rfl rfl (by decide) (by decide) (own_all2 (own_ch _) (own_ch _)) rfl (by decide) (by decide)) (g := (mkF m 58 #[.val (.int pa), .val (.int pb), .val (.int pc_), .val (.int pd), .val (.ref b1), .val (.ref b6), .unset, .unset, .unset, .unset, .unset, .unset, .unset, .unset] [(.ref b1), (.ref b11), (.ref b11)])) rfl (by rw [hml]; rfl) (Steps.refl _) (a := b11) (argsL := [(.ref b1)]) (rest := [(.ref b11)]) (lenOf own_pd2 rfl) rfl (by show 2 * 0 + _ ≤ _; exact Nat.le_of_eq rfl) (hb hby at_58) (fun _ _ => ⟨rfl, e11, (by decide : 3 + 1 ≤ _), (by decide : 8 + 2 ≤ _)⟩)
  dsimp only [Pt.U, Pt.locs, Pt.cells, Pt.slots] at X15 l15 y15 z15 st15 hQ15
  subst l15 y15 z15
  obtain ⟨h15, e15⟩ : ∃ z, T15.heap = z := ⟨_, rfl⟩
  rw [e15] at hQ15
  obtain ⟨rfl, N15q, Kc15, Ec15, Cc15, t15, kb15, -, -, -, -, -⟩ := hQ15
  have N15 := Fr.app N10 N15q
  have K15 : Keep h0 h15 [] := K11.trans Kc15 (allS (Or.inr hz_b11) all0)
  have Z15 : n0 ≤ h15.size := Nat.le_trans Z11 Kc15.1
  have O15 := O11.keep Kc15 (allS g_b11 all0)
  refine own_tr (T' := T15) (g' := (mkF m 61 #[.val (.int pa), .val (.int pb), .val (.int pc_), .val (.int pd), .val (.ref b1), .val (.ref b6), .unset, .unset, .unset, .unset, .unset, .unset, .unset, .unset] [(.ref b11)])) st15 ?_
  refine own_st (T' := T15) (g' := (mkF m 63 #[.val (.int pa), .val (.int pb), .val (.int pc_), .val (.int pd), .val (.ref b1), .val (.ref b6), .val (.ref b11), .unset, .unset, .unset, .unset, .unset, .unset, .unset] [])) (fun t k => ?_) ?_
  · show Steps p.tables e below (T15.setTop (mkF m 61 #[.val (.int pa), .val (.int pb), .val (.int pc_), .val (.int pd), .val (.ref b1), .val (.ref b6), .unset, .unset, .unset, .unset, .unset, .unset, .unset, .unset] [(.ref b11)])) t
    refine XS.astore X15.here hx rfl (hb hby at_61) rfl rfl (l' := #[.val (.int pa), .val (.int pb), .val (.int pc_), .val (.int pd), .val (.ref b1), .val (.ref b6), .val (.ref b11), .unset, .unset, .unset, .unset, .unset, .unset, .unset]) rfl ?_
    show Steps p.tables e below (T15.setTop (mkF m 63 #[.val (.int pa), .val (.int pb), .val (.int pc_), .val (.int pd), .val (.ref b1), .val (.ref b6), .val (.ref b11), .unset, .unset, .unset, .unset, .unset, .unset, .unset] [])) t
    exact k
  obtain ⟨T16, h16, X16, e16, E16, A16, D16, U16, st16⟩ := newO X15 hx hZ hown (hw _ (List.mem_of_getElem? (i := 1) rfl)) (hw _ (List.mem_of_getElem? (i := 2) rfl)) (hw _ (List.mem_of_getElem? (i := 3) rfl)) e15 (g := (mkF m 63 #[.val (.int pa), .val (.int pb), .val (.int pc_), .val (.int pd), .val (.ref b1), .val (.ref b6), .val (.ref b11), .unset, .unset, .unset, .unset, .unset, .unset, .unset] [])) rfl (hb hby at_63) (by decide) (by decide)
  obtain ⟨b16, g16⟩ : ∃ z, z = h15.size := ⟨_, rfl⟩
  rw [← g16] at A16 D16 U16 st16
  have sz16 : h15.size ≤ b16 := Nat.le_of_eq g16.symm
  have f17 := f13.keep Kc15 (ninS ne_b1_b11 nin0)
  have ne_b1_b16 : b1 ≠ b16 := Nat.ne_of_lt (Nat.lt_of_lt_of_le f17.lt sz16)
  have f18 := (fw10.ext E11).keep Kc15 (ninS ne_b6_b11 nin0)
  have ne_b6_b16 : b6 ≠ b16 := Nat.ne_of_lt (Nat.lt_of_lt_of_le f18.lt sz16)
  have f19 := A11.keep Kc15
  have ne_b11_b16 : b11 ≠ b16 := Nat.ne_of_lt (Nat.lt_of_lt_of_le f19.lt sz16)
  have g_b16 : n0 ≤ b16 := Nat.le_trans Z15 sz16
  have hz_b16 : h0.size ≤ b16 := Nat.le_trans K15.1 sz16
  have K16 : Keep h0 h16 [] := K15.ext E16
  have Z16 : n0 ≤ h16.size := Nat.le_trans Z15 E16.1
  have O16 := O15.ext E16
  refine own_st (T' := T16) (g' := (mkF m 66 #[.val (.int pa), .val (.int pb), .val (.int pc_), .val (.int pd), .val (.ref b1), .val (.ref b6), .val (.ref b11), .unset, .unset, .unset, .unset, .unset, .unset, .unset] [(.ref b16)])) st16 ?_
  refine own_st (T' := T16) (g' := (mkF m 69 #[.val (.int pa), .val (.int pb), .val (.int pc_), .val (.int pd), .val (.ref b1), .val (.ref b6), .val (.ref b11), .unset, .unset, .unset, .unset, .unset, .unset, .unset] [(.ref b6), (.ref b16), (.ref b16)])) (fun t k => ?_) ?_
  · show Steps p.tables e below (T16.setTop (mkF m 66 #[.val (.int pa), .val (.int pb), .val (.int pc_), .val (.int pd), .val (.ref b1), .val (.ref b6), .val (.ref b11), .unset, .unset, .unset, .unset, .unset, .unset, .unset] [(.ref b16)])) t
    refine XS.dup X16.here hx rfl (hb hby at_66) rfl rfl ?_
    show Steps p.tables e below (T16.setTop (mkF m 67 #[.val (.int pa), .val (.int pb), .val (.int pc_), .val (.int pd), .val (.ref b1), .val (.ref b6), .val (.ref b11), .unset, .unset, .unset, .unset, .unset, .unset, .unset] [(.ref b16), (.ref b16)])) t
    refine XS.aload X16.here hx rfl (hb hby at_67) rfl rfl ?_
    show Steps p.tables e below (T16.setTop (mkF m 69 #[.val (.int pa), .val (.int pb), .val (.int pc_), .val (.int pd), .val (.ref b1), .val (.ref b6), .val (.ref b11), .unset, .unset, .unset, .unset, .unset, .unset, .unset] [(.ref b6), (.ref b16), (.ref b16)])) t
    exact k
  have f20 := f18.ext E16
  have f21 := S_cs.ext O16.2
  obtain ⟨_, _, ⟨T22, L22, c22, n22⟩, -, X22, ⟨Lc22, hQ22, l22, y22, z22⟩, st22⟩ := X16.specialBack hx (y := (⟨"java/lang/String", "<init>", "([C)V"⟩ : MethodName)) rfl hown (mvT hZ (hw _ (List.mem_of_getElem? (i := 4) rfl))) (mvT hZ (hw _ (List.mem_of_getElem? (i := 5) rfl))) (mvT hZ (hw _ (List.mem_of_getElem? (i := 6) rfl))) (by decide) (StrChars.Road.backV (W := 1) hZ hws (kI := 4) (hw _ (List.mem_of_getElem? (i := 2) rfl)) (cs := [((pd &&& (255 : Int32)).toUInt32.toUInt16.toUInt32.toInt32), ((((pd.toUInt32 >>> ((8 : Int32) &&& 31).toUInt32).toInt32) &&& (255 : Int32)).toUInt32.toUInt16.toUInt32.toInt32)]) (bs := [(((pd &&& (255 : Int32)).toUInt32.toUInt16.toUInt32.toInt32)).toInt8.toInt32, (((((pd.toUInt32 >>> ((8 : Int32) &&& 31).toUInt32).toInt32) &&& (255 : Int32)).toUInt32.toUInt16.toUInt32.toInt32)).toInt8.toInt32]) (n := 2) g_b16 Z16 A16 (D16 (Or.inr (hw _ (List.mem_of_getElem? (i := 29) rfl))) (ty := (.array .byte)) (by decide) : Fld Z h16 b16 "java/lang/String" "value" "[B" .null) (D16 (Or.inr (hw _ (List.mem_of_getElem? (i := 27) rfl))) (ty := .byte) (by decide) : Fld Z h16 b16 "java/lang/String" "coder" "B" (.int (0 : Int32))) f20 f21 hcs rfl rfl (by decide) (by decide) (own_all2 (own_ch _) (own_ch _)) rfl (by decide) (by decide)) (g := (mkF m 69 #[.val (.int pa), .val (.int pb), .val (.int pc_), .val (.int pd), .val (.ref b1), .val (.ref b6), .val (.ref b11), .unset, .unset, .unset, .unset, .unset, .unset, .unset] [(.ref b6), (.ref b16), (.ref b16)])) rfl (by rw [hml]; rfl) (Steps.refl _) (a := b16) (argsL := [(.ref b6)]) (rest := [(.ref b16)]) (lenOf own_pd2 rfl) rfl (by show 2 * 0 + _ ≤ _; exact Nat.le_of_eq rfl) (hb hby at_69) (fun _ _ => ⟨rfl, e16, (by decide : 5 + 1 ≤ _), (by decide : 14 + 2 ≤ _)⟩)
  dsimp only [Pt.U, Pt.locs, Pt.cells, Pt.slots] at X22 l22 y22 z22 st22 hQ22
  subst l22 y22 z22
  obtain ⟨h22, e22⟩ : ∃ z, T22.heap = z := ⟨_, rfl⟩
  rw [e22] at hQ22
  obtain ⟨rfl, N22q, Kc22, Ec22, Cc22, t22, kb22, -, -, -, -, -⟩ := hQ22
  have N22 := Fr.app N15 N22q
  have K22 : Keep h0 h22 [] := K16.trans Kc22 (allS (Or.inr hz_b16) all0)
  have Z22 : n0 ≤ h22.size := Nat.le_trans Z16 Kc22.1
  have O22 := O16.keep Kc22 (allS g_b16 all0)
  refine own_tr (T' := T22) (g' := (mkF m 72 #[.val (.int pa), .val (.int pb), .val (.int pc_), .val (.int pd), .val (.ref b1), .val (.ref b6), .val (.ref b11), .unset, .unset, .unset, .unset, .unset, .unset, .unset] [(.ref b16)])) st22 ?_
  refine own_st (T' := T22) (g' := (mkF m 74 #[.val (.int pa), .val (.int pb), .val (.int pc_), .val (.int pd), .val (.ref b1), .val (.ref b6), .val (.ref b11), .val (.ref b16), .unset, .unset, .unset, .unset, .unset, .unset] [])) (fun t k => ?_) ?_
  · show Steps p.tables e below (T22.setTop (mkF m 72 #[.val (.int pa), .val (.int pb), .val (.int pc_), .val (.int pd), .val (.ref b1), .val (.ref b6), .val (.ref b11), .unset, .unset, .unset, .unset, .unset, .unset, .unset] [(.ref b16)])) t
    refine XS.astore X22.here hx rfl (hb hby at_72) rfl rfl (l' := #[.val (.int pa), .val (.int pb), .val (.int pc_), .val (.int pd), .val (.ref b1), .val (.ref b6), .val (.ref b11), .val (.ref b16), .unset, .unset, .unset, .unset, .unset, .unset]) rfl ?_
    show Steps p.tables e below (T22.setTop (mkF m 74 #[.val (.int pa), .val (.int pb), .val (.int pc_), .val (.int pd), .val (.ref b1), .val (.ref b6), .val (.ref b11), .val (.ref b16), .unset, .unset, .unset, .unset, .unset, .unset] [])) t
    exact k
  obtain ⟨T23, h23, X23, e23, E23, A23, D23, U23, st23⟩ := newO X22 hx hZ hown (hw _ (List.mem_of_getElem? (i := 30) rfl)) (hw _ (List.mem_of_getElem? (i := 31) rfl)) (hw _ (List.mem_of_getElem? (i := 32) rfl)) e22 (g := (mkF m 74 #[.val (.int pa), .val (.int pb), .val (.int pc_), .val (.int pd), .val (.ref b1), .val (.ref b6), .val (.ref b11), .val (.ref b16), .unset, .unset, .unset, .unset, .unset, .unset] [])) rfl (hb hby at_74) (by decide) (by decide)
  obtain ⟨b23, g23⟩ : ∃ z, z = h22.size := ⟨_, rfl⟩
  rw [← g23] at A23 D23 U23 st23
  have sz23 : h22.size ≤ b23 := Nat.le_of_eq g23.symm
  have f24 := (f17.ext E16).keep Kc22 (ninS ne_b1_b16 nin0)
  have ne_b1_b23 : b1 ≠ b23 := Nat.ne_of_lt (Nat.lt_of_lt_of_le f24.lt sz23)
  have f25 := f20.keep Kc22 (ninS ne_b6_b16 nin0)
  have ne_b6_b23 : b6 ≠ b23 := Nat.ne_of_lt (Nat.lt_of_lt_of_le f25.lt sz23)
  have f26 := (f19.ext E16).keep Kc22
  have ne_b11_b23 : b11 ≠ b23 := Nat.ne_of_lt (Nat.lt_of_lt_of_le f26.lt sz23)
  have f27 := A16.keep Kc22
  have ne_b16_b23 : b16 ≠ b23 := Nat.ne_of_lt (Nat.lt_of_lt_of_le f27.lt sz23)
  have g_b23 : n0 ≤ b23 := Nat.le_trans Z22 sz23
  have hz_b23 : h0.size ≤ b23 := Nat.le_trans K22.1 sz23
  have K23 : Keep h0 h23 [] := K22.ext E23
  have Z23 : n0 ≤ h23.size := Nat.le_trans Z22 E23.1
  have O23 := O22.ext E23
  refine own_st (T' := T23) (g' := (mkF m 77 #[.val (.int pa), .val (.int pb), .val (.int pc_), .val (.int pd), .val (.ref b1), .val (.ref b6), .val (.ref b11), .val (.ref b16), .unset, .unset, .unset, .unset, .unset, .unset] [(.ref b23)])) st23 ?_
  refine own_st (T' := T23) (g' := (mkF m 83 #[.val (.int pa), .val (.int pb), .val (.int pc_), .val (.int pd), .val (.ref b1), .val (.ref b6), .val (.ref b11), .val (.ref b16), .unset, .unset, .unset, .unset, .unset, .unset] [(.ref b16), (.ref b11), (.int pa), (.ref b23), (.ref b23)])) (fun t k => ?_) ?_
  · show Steps p.tables e below (T23.setTop (mkF m 77 #[.val (.int pa), .val (.int pb), .val (.int pc_), .val (.int pd), .val (.ref b1), .val (.ref b6), .val (.ref b11), .val (.ref b16), .unset, .unset, .unset, .unset, .unset, .unset] [(.ref b23)])) t
    refine XS.dup X23.here hx rfl (hb hby at_77) rfl rfl ?_
    show Steps p.tables e below (T23.setTop (mkF m 78 #[.val (.int pa), .val (.int pb), .val (.int pc_), .val (.int pd), .val (.ref b1), .val (.ref b6), .val (.ref b11), .val (.ref b16), .unset, .unset, .unset, .unset, .unset, .unset] [(.ref b23), (.ref b23)])) t
    refine XS.iloadN X23.here hx rfl (hb hby at_78) rfl ?_
    show Steps p.tables e below (T23.setTop (mkF m 79 #[.val (.int pa), .val (.int pb), .val (.int pc_), .val (.int pd), .val (.ref b1), .val (.ref b6), .val (.ref b11), .val (.ref b16), .unset, .unset, .unset, .unset, .unset, .unset] [(.int pa), (.ref b23), (.ref b23)])) t
    refine XS.aload X23.here hx rfl (hb hby at_79) rfl rfl ?_
    show Steps p.tables e below (T23.setTop (mkF m 81 #[.val (.int pa), .val (.int pb), .val (.int pc_), .val (.int pd), .val (.ref b1), .val (.ref b6), .val (.ref b11), .val (.ref b16), .unset, .unset, .unset, .unset, .unset, .unset] [(.ref b11), (.int pa), (.ref b23), (.ref b23)])) t
    refine XS.aload X23.here hx rfl (hb hby at_81) rfl rfl ?_
    show Steps p.tables e below (T23.setTop (mkF m 83 #[.val (.int pa), .val (.int pb), .val (.int pc_), .val (.int pd), .val (.ref b1), .val (.ref b6), .val (.ref b11), .val (.ref b16), .unset, .unset, .unset, .unset, .unset, .unset] [(.ref b16), (.ref b11), (.int pa), (.ref b23), (.ref b23)])) t
    exact k
  obtain ⟨_, _, ⟨T28, L28, c28, n28⟩, -, X28, ⟨Lc28, hQ28, l28, y28, z28⟩, st28⟩ := X23.specialBack hx (y := (⟨"com/example/rolelint/rolelint/rules/Finding", "<init>", "(ILjava/lang/String;Ljava/lang/String;)V"⟩ : MethodName)) rfl hown (mvT hZ (hw _ (List.mem_of_getElem? (i := 33) rfl))) (mvT hZ (hw _ (List.mem_of_getElem? (i := 34) rfl))) (mvT hZ (hw _ (List.mem_of_getElem? (i := 35) rfl))) (by decide) (backOf (W := 1) (own_rm7 l Z a0 hw [] b23 pa (.ref b11) (.ref b16) h23 n0 Z23 rfl rfl A23 (D23 (Or.inr (hw _ (List.mem_of_getElem? (i := 43) rfl))) (ty := .int) (by decide) : Fld Z h23 b23 "com/example/rolelint/rolelint/rules/Finding" "line" "I" (.int (0 : Int32))) (D23 (Or.inr (hw _ (List.mem_of_getElem? (i := 45) rfl))) (ty := (.object "java/lang/String")) (by decide) : Fld Z h23 b23 "com/example/rolelint/rolelint/rules/Finding" "rule" "Ljava/lang/String;" .null) (D23 (Or.inr (hw _ (List.mem_of_getElem? (i := 47) rfl))) (ty := (.object "java/lang/String")) (by decide) : Fld Z h23 b23 "com/example/rolelint/rolelint/rules/Finding" "text" "Ljava/lang/String;" .null) g_b23) hZ (hw _ (List.mem_of_getElem? (i := 35) rfl)) (hw _ (List.mem_of_getElem? (i := 32) rfl)) (by decide) (by decide)) (g := (mkF m 83 #[.val (.int pa), .val (.int pb), .val (.int pc_), .val (.int pd), .val (.ref b1), .val (.ref b6), .val (.ref b11), .val (.ref b16), .unset, .unset, .unset, .unset, .unset, .unset] [(.ref b16), (.ref b11), (.int pa), (.ref b23), (.ref b23)])) rfl (by rw [hml]; rfl) (Steps.refl _) (a := b23) (argsL := [(.int pa), (.ref b11), (.ref b16)]) (rest := [(.ref b23)]) (lenOf own_pd1 rfl) rfl (by show 2 * 0 + _ ≤ _; exact Nat.le_of_eq rfl) (hb hby at_83) (fun _ _ => ⟨rfl, e23, (by decide : 7 + 0 ≤ _), (by decide : 19 + 0 ≤ _)⟩)
  dsimp only [Pt.U, Pt.locs, Pt.cells, Pt.slots] at X28 l28 y28 z28 st28 hQ28
  subst l28 y28 z28
  obtain ⟨h28, e28⟩ : ∃ z, T28.heap = z := ⟨_, rfl⟩
  rw [e28] at hQ28
  obtain ⟨rfl, N28q, Kc28, Fc28_0, Fc28_1, Fc28_2⟩ := hQ28
  have N28 := Fr.app N22 N28q
  have K28 : Keep h0 h28 [] := K23.trans Kc28 (allS (Or.inr hz_b23) all0)
  have Z28 : n0 ≤ h28.size := Nat.le_trans Z23 Kc28.1
  have O28 := O23.keep Kc28 (allS g_b23 all0)
  refine own_tr (T' := T28) (g' := (mkF m 86 #[.val (.int pa), .val (.int pb), .val (.int pc_), .val (.int pd), .val (.ref b1), .val (.ref b6), .val (.ref b11), .val (.ref b16), .unset, .unset, .unset, .unset, .unset, .unset] [(.ref b23)])) st28 ?_
  refine own_st (T' := T28) (g' := (mkF m 91 #[.val (.int pa), .val (.int pb), .val (.int pc_), .val (.int pd), .val (.ref b1), .val (.ref b6), .val (.ref b11), .val (.ref b16), .val (.ref b23), .unset, .unset, .unset, .unset, .unset] [(.int pb), (.ref b23)])) (fun t k => ?_) ?_
  · show Steps p.tables e below (T28.setTop (mkF m 86 #[.val (.int pa), .val (.int pb), .val (.int pc_), .val (.int pd), .val (.ref b1), .val (.ref b6), .val (.ref b11), .val (.ref b16), .unset, .unset, .unset, .unset, .unset, .unset] [(.ref b23)])) t
    refine XS.astore X28.here hx rfl (hb hby at_86) rfl rfl (l' := #[.val (.int pa), .val (.int pb), .val (.int pc_), .val (.int pd), .val (.ref b1), .val (.ref b6), .val (.ref b11), .val (.ref b16), .val (.ref b23), .unset, .unset, .unset, .unset, .unset]) rfl ?_
    show Steps p.tables e below (T28.setTop (mkF m 88 #[.val (.int pa), .val (.int pb), .val (.int pc_), .val (.int pd), .val (.ref b1), .val (.ref b6), .val (.ref b11), .val (.ref b16), .val (.ref b23), .unset, .unset, .unset, .unset, .unset] [])) t
    refine XS.aload X28.here hx rfl (hb hby at_88) rfl rfl ?_
    show Steps p.tables e below (T28.setTop (mkF m 90 #[.val (.int pa), .val (.int pb), .val (.int pc_), .val (.int pd), .val (.ref b1), .val (.ref b6), .val (.ref b11), .val (.ref b16), .val (.ref b23), .unset, .unset, .unset, .unset, .unset] [(.ref b23)])) t
    refine XS.iloadN X28.here hx rfl (hb hby at_90) rfl ?_
    show Steps p.tables e below (T28.setTop (mkF m 91 #[.val (.int pa), .val (.int pb), .val (.int pc_), .val (.int pd), .val (.ref b1), .val (.ref b6), .val (.ref b11), .val (.ref b16), .val (.ref b23), .unset, .unset, .unset, .unset, .unset] [(.int pb), (.ref b23)])) t
    exact k
  have f29 := A23.keep Kc28
  obtain ⟨cq30, kq30, q30a, q30b, q30c⟩ := isOf hZ e28 f29
  obtain ⟨_, _, ⟨T30, L30, c30, n30⟩, -, X30, ⟨Lc30, hQ30, l30, y30, z30⟩, st30⟩ := X28.virtualBack hx (y := (⟨"com/example/rolelint/rolelint/rules/Finding", "at", "(I)Lcom/example/rolelint/rolelint/rules/Finding;"⟩ : MethodName)) (z := (⟨"com/example/rolelint/rolelint/rules/Finding", "at", "(I)Lcom/example/rolelint/rolelint/rules/Finding;"⟩ : MethodName)) hown (mvT hZ (hw _ (List.mem_of_getElem? (i := 48) rfl))) (mvT hZ (hw _ (List.mem_of_getElem? (i := 49) rfl))) (notFace_of_selects (args := #[]) (mvT hZ (hw _ (List.mem_of_getElem? (i := 51) rfl)))) (mvT hZ (hw _ (List.mem_of_getElem? (i := 51) rfl))) (mvT hZ (hw _ (List.mem_of_getElem? (i := 50) rfl))) (by decide) (backOf (W := 0) (own_rm9 l Z a0 hw [] b23 b11 b16 pb h28 n0 Z28 f29 Fc28_1 Fc28_2) hZ (hw _ (List.mem_of_getElem? (i := 52) rfl)) (hw _ (List.mem_of_getElem? (i := 32) rfl)) (by decide) (by decide)) q30a q30c (g := (mkF m 91 #[.val (.int pa), .val (.int pb), .val (.int pc_), .val (.int pd), .val (.ref b1), .val (.ref b6), .val (.ref b11), .val (.ref b16), .val (.ref b23), .unset, .unset, .unset, .unset, .unset] [(.int pb), (.ref b23)])) rfl (by rw [hml]; rfl) (Steps.refl _) (argsL := [(.int pb)]) (rest := []) (lenOf own_pd3 rfl) rfl (by show 2 * 0 + _ ≤ _; exact Nat.le_of_eq rfl) (hb hby at_91) (fun _ _ => ⟨rfl, e28, (by decide : 7 + 1 ≤ _), (by decide : 19 + 3 ≤ _)⟩)
  dsimp only [Pt.U, Pt.locs, Pt.cells, Pt.slots] at X30 l30 y30 z30 st30 hQ30
  subst l30 y30 z30
  obtain ⟨h30, e30⟩ : ∃ z, T30.heap = z := ⟨_, rfl⟩
  rw [e30] at hQ30
  obtain ⟨r30, rfl, N30q, Kc30, g30, hz30, Ec30, Fc30_0, Fc30_1, Fc30_2⟩ := hQ30
  have N30 := Fr.app N28 N30q
  have f31 := (f24.ext E23).keep Kc28 (ninS ne_b1_b23 nin0)
  have ne_b1_r30 : b1 ≠ r30 := Nat.ne_of_lt (Nat.lt_of_lt_of_le f31.lt hz30)
  have f32 := (f25.ext E23).keep Kc28 (ninS ne_b6_b23 nin0)
  have ne_b6_r30 : b6 ≠ r30 := Nat.ne_of_lt (Nat.lt_of_lt_of_le f32.lt hz30)
  have f33 := (f26.ext E23).keep Kc28
  have ne_b11_r30 : b11 ≠ r30 := Nat.ne_of_lt (Nat.lt_of_lt_of_le f33.lt hz30)
  have f34 := (f27.ext E23).keep Kc28
  have ne_b16_r30 : b16 ≠ r30 := Nat.ne_of_lt (Nat.lt_of_lt_of_le f34.lt hz30)
  have ne_b23_r30 : b23 ≠ r30 := Nat.ne_of_lt (Nat.lt_of_lt_of_le f29.lt hz30)
  have hwr30 : h0.size ≤ r30 := Nat.le_trans K28.1 hz30
  have K30 : Keep h0 h30 [] := K28.trans Kc30 all0
  have Z30 : n0 ≤ h30.size := Nat.le_trans Z28 Kc30.1
  have O30 := O28.keep Kc30 all0
  refine own_tr (T' := T30) (g' := (mkF m 94 #[.val (.int pa), .val (.int pb), .val (.int pc_), .val (.int pd), .val (.ref b1), .val (.ref b6), .val (.ref b11), .val (.ref b16), .val (.ref b23), .unset, .unset, .unset, .unset, .unset] [(.ref r30)])) st30 ?_
  refine own_st (T' := T30) (g' := (mkF m 98 #[.val (.int pa), .val (.int pb), .val (.int pc_), .val (.int pd), .val (.ref b1), .val (.ref b6), .val (.ref b11), .val (.ref b16), .val (.ref b23), .val (.ref r30), .unset, .unset, .unset, .unset] [(.ref r30)])) (fun t k => ?_) ?_
  · show Steps p.tables e below (T30.setTop (mkF m 94 #[.val (.int pa), .val (.int pb), .val (.int pc_), .val (.int pd), .val (.ref b1), .val (.ref b6), .val (.ref b11), .val (.ref b16), .val (.ref b23), .unset, .unset, .unset, .unset, .unset] [(.ref r30)])) t
    refine XS.astore X30.here hx rfl (hb hby at_94) rfl rfl (l' := #[.val (.int pa), .val (.int pb), .val (.int pc_), .val (.int pd), .val (.ref b1), .val (.ref b6), .val (.ref b11), .val (.ref b16), .val (.ref b23), .val (.ref r30), .unset, .unset, .unset, .unset]) rfl ?_
    show Steps p.tables e below (T30.setTop (mkF m 96 #[.val (.int pa), .val (.int pb), .val (.int pc_), .val (.int pd), .val (.ref b1), .val (.ref b6), .val (.ref b11), .val (.ref b16), .val (.ref b23), .val (.ref r30), .unset, .unset, .unset, .unset] [])) t
    refine XS.aload X30.here hx rfl (hb hby at_96) rfl rfl ?_
    show Steps p.tables e below (T30.setTop (mkF m 98 #[.val (.int pa), .val (.int pb), .val (.int pc_), .val (.int pd), .val (.ref b1), .val (.ref b6), .val (.ref b11), .val (.ref b16), .val (.ref b23), .val (.ref r30), .unset, .unset, .unset, .unset] [(.ref r30)])) t
    exact k
  obtain ⟨cq35, kq35, q35a, q35b, q35c⟩ := isOf hZ e30 Ec30
  obtain ⟨_, _, ⟨T35, L35, c35, n35⟩, -, X35, ⟨Lc35, hQ35, l35, y35, z35⟩, st35⟩ := X30.virtualBack hx (y := (⟨"com/example/rolelint/rolelint/rules/Finding", "line", "()I"⟩ : MethodName)) (z := (⟨"com/example/rolelint/rolelint/rules/Finding", "line", "()I"⟩ : MethodName)) hown (mvT hZ (hw _ (List.mem_of_getElem? (i := 55) rfl))) (mvT hZ (hw _ (List.mem_of_getElem? (i := 56) rfl))) (notFace_of_selects (args := #[]) (mvT hZ (hw _ (List.mem_of_getElem? (i := 58) rfl)))) (mvT hZ (hw _ (List.mem_of_getElem? (i := 58) rfl))) (mvT hZ (hw _ (List.mem_of_getElem? (i := 57) rfl))) (by decide) (backOf (W := 0) (own_rm10 l Z a0 hw [] r30 pb h30 n0 Z30  Fc30_0) hZ (hw _ (List.mem_of_getElem? (i := 59) rfl)) (hw _ (List.mem_of_getElem? (i := 32) rfl)) (by decide) (by decide)) q35a q35c (g := (mkF m 98 #[.val (.int pa), .val (.int pb), .val (.int pc_), .val (.int pd), .val (.ref b1), .val (.ref b6), .val (.ref b11), .val (.ref b16), .val (.ref b23), .val (.ref r30), .unset, .unset, .unset, .unset] [(.ref r30)])) rfl (by rw [hml]; rfl) (Steps.refl _) (argsL := []) (rest := []) (lenOf own_pd4 rfl) rfl (by show 2 * 0 + _ ≤ _; exact Nat.le_of_eq rfl) (hb hby at_98) (fun _ _ => ⟨rfl, e30, (by decide : 8 + 0 ≤ _), (by decide : 22 + 0 ≤ _)⟩)
  dsimp only [Pt.U, Pt.locs, Pt.cells, Pt.slots] at X35 l35 y35 z35 st35 hQ35
  subst l35 y35 z35
  obtain ⟨rfl, N35q, e35⟩ := hQ35
  have N35 := Fr.app N30 N35q
  refine own_tr (T' := T35) (g' := (mkF m 101 #[.val (.int pa), .val (.int pb), .val (.int pc_), .val (.int pd), .val (.ref b1), .val (.ref b6), .val (.ref b11), .val (.ref b16), .val (.ref b23), .val (.ref r30), .unset, .unset, .unset, .unset] [(.int pb)])) st35 ?_
  refine own_st (T' := T35) (g' := (mkF m 116 #[.val (.int pa), .val (.int pb), .val (.int pc_), .val (.int pd), .val (.ref b1), .val (.ref b6), .val (.ref b11), .val (.ref b16), .val (.ref b23), .val (.ref r30), .val (.int (1 : Int32)), .unset, .unset, .unset] [(.ref r30), (.ref b11)])) (fun t k => ?_) ?_
  · show Steps p.tables e below (T35.setTop (mkF m 101 #[.val (.int pa), .val (.int pb), .val (.int pc_), .val (.int pd), .val (.ref b1), .val (.ref b6), .val (.ref b11), .val (.ref b16), .val (.ref b23), .val (.ref r30), .unset, .unset, .unset, .unset] [(.int pb)])) t
    refine XS.iloadN X35.here hx rfl (hb hby at_101) rfl ?_
    show Steps p.tables e below (T35.setTop (mkF m 102 #[.val (.int pa), .val (.int pb), .val (.int pc_), .val (.int pd), .val (.ref b1), .val (.ref b6), .val (.ref b11), .val (.ref b16), .val (.ref b23), .val (.ref r30), .unset, .unset, .unset, .unset] [(.int pb), (.int pb)])) t
    refine XS.icmpNo X35.here hx rfl (hb hby at_102) rfl (teq (rfl : pb = pb)).2 ?_
    show Steps p.tables e below (T35.setTop (mkF m 105 #[.val (.int pa), .val (.int pb), .val (.int pc_), .val (.int pd), .val (.ref b1), .val (.ref b6), .val (.ref b11), .val (.ref b16), .val (.ref b23), .val (.ref r30), .unset, .unset, .unset, .unset] [])) t
    refine XS.iconst X35.here hx rfl (hb hby at_105) ?_
    show Steps p.tables e below (T35.setTop (mkF m 106 #[.val (.int pa), .val (.int pb), .val (.int pc_), .val (.int pd), .val (.ref b1), .val (.ref b6), .val (.ref b11), .val (.ref b16), .val (.ref b23), .val (.ref r30), .unset, .unset, .unset, .unset] [(.int (1 : Int32))])) t
    refine XS.goto X35.here hx rfl (pc0 := 106) (pc' := 110) rfl (hb hby at_106) (by decide) (by decide) ?_
    show Steps p.tables e below (T35.setTop (mkF m 110 #[.val (.int pa), .val (.int pb), .val (.int pc_), .val (.int pd), .val (.ref b1), .val (.ref b6), .val (.ref b11), .val (.ref b16), .val (.ref b23), .val (.ref r30), .unset, .unset, .unset, .unset] [(.int (1 : Int32))])) t
    refine XS.istore X35.here hx rfl (hb hby at_110) rfl (l' := #[.val (.int pa), .val (.int pb), .val (.int pc_), .val (.int pd), .val (.ref b1), .val (.ref b6), .val (.ref b11), .val (.ref b16), .val (.ref b23), .val (.ref r30), .val (.int (1 : Int32)), .unset, .unset, .unset]) rfl ?_
    show Steps p.tables e below (T35.setTop (mkF m 112 #[.val (.int pa), .val (.int pb), .val (.int pc_), .val (.int pd), .val (.ref b1), .val (.ref b6), .val (.ref b11), .val (.ref b16), .val (.ref b23), .val (.ref r30), .val (.int (1 : Int32)), .unset, .unset, .unset] [])) t
    refine XS.aload X35.here hx rfl (hb hby at_112) rfl rfl ?_
    show Steps p.tables e below (T35.setTop (mkF m 114 #[.val (.int pa), .val (.int pb), .val (.int pc_), .val (.int pd), .val (.ref b1), .val (.ref b6), .val (.ref b11), .val (.ref b16), .val (.ref b23), .val (.ref r30), .val (.int (1 : Int32)), .unset, .unset, .unset] [(.ref b11)])) t
    refine XS.aload X35.here hx rfl (hb hby at_114) rfl rfl ?_
    show Steps p.tables e below (T35.setTop (mkF m 116 #[.val (.int pa), .val (.int pb), .val (.int pc_), .val (.int pd), .val (.ref b1), .val (.ref b6), .val (.ref b11), .val (.ref b16), .val (.ref b23), .val (.ref r30), .val (.int (1 : Int32)), .unset, .unset, .unset] [(.ref r30), (.ref b11)])) t
    exact k
  obtain ⟨cq36, kq36, q36a, q36b, q36c⟩ := isOf hZ e35 Ec30
  obtain ⟨_, _, ⟨T36, L36, c36, n36⟩, -, X36, ⟨Lc36, hQ36, l36, y36, z36⟩, st36⟩ := X35.virtualBack hx (y := (⟨"com/example/rolelint/rolelint/rules/Finding", "rule", "()Ljava/lang/String;"⟩ : MethodName)) (z := (⟨"com/example/rolelint/rolelint/rules/Finding", "rule", "()Ljava/lang/String;"⟩ : MethodName)) hown (mvT hZ (hw _ (List.mem_of_getElem? (i := 60) rfl))) (mvT hZ (hw _ (List.mem_of_getElem? (i := 61) rfl))) (notFace_of_selects (args := #[]) (mvT hZ (hw _ (List.mem_of_getElem? (i := 63) rfl)))) (mvT hZ (hw _ (List.mem_of_getElem? (i := 63) rfl))) (mvT hZ (hw _ (List.mem_of_getElem? (i := 62) rfl))) (by decide) (backOf (W := 1) (own_rm11 l Z a0 hw [] r30 (.ref b11) h30 n0 Z30 rfl Fc30_1) hZ (hw _ (List.mem_of_getElem? (i := 64) rfl)) (hw _ (List.mem_of_getElem? (i := 32) rfl)) (by decide) (by decide)) q36a q36c (g := (mkF m 116 #[.val (.int pa), .val (.int pb), .val (.int pc_), .val (.int pd), .val (.ref b1), .val (.ref b6), .val (.ref b11), .val (.ref b16), .val (.ref b23), .val (.ref r30), .val (.int (1 : Int32)), .unset, .unset, .unset] [(.ref r30), (.ref b11)])) rfl (by rw [hml]; rfl) (Steps.refl _) (argsL := []) (rest := [(.ref b11)]) (lenOf own_pd5 rfl) rfl (by show 2 * 0 + _ ≤ _; exact Nat.le_of_eq rfl) (hb hby at_116) (fun _ _ => ⟨rfl, e35, (by decide : 8 + 0 ≤ _), (by decide : 22 + 0 ≤ _)⟩)
  dsimp only [Pt.U, Pt.locs, Pt.cells, Pt.slots] at X36 l36 y36 z36 st36 hQ36
  subst l36 y36 z36
  obtain ⟨rfl, N36q, e36⟩ := hQ36
  have N36 := Fr.app N35 N36q
  refine own_tr (T' := T36) (g' := (mkF m 119 #[.val (.int pa), .val (.int pb), .val (.int pc_), .val (.int pd), .val (.ref b1), .val (.ref b6), .val (.ref b11), .val (.ref b16), .val (.ref b23), .val (.ref r30), .val (.int (1 : Int32)), .unset, .unset, .unset] [(.ref b11), (.ref b11)])) st36 ?_
  have f38 := f33.keep Kc30
  obtain ⟨cq37, kq37, q37a, q37b, q37c⟩ := isOf hZ e36 f38
  obtain ⟨_, _, ⟨T37, L37, c37, n37⟩, -, X37, ⟨Lc37, hQ37, l37, y37, z37⟩, st37⟩ := X36.virtualBack hx (y := (⟨"java/lang/String", "equals", "(Ljava/lang/Object;)Z"⟩ : MethodName)) (z := (⟨"java/lang/String", "equals", "(Ljava/lang/Object;)Z"⟩ : MethodName)) hown (mvT hZ (hw _ (List.mem_of_getElem? (i := 65) rfl))) (mvT hZ (hw _ (List.mem_of_getElem? (i := 66) rfl))) (notFace_of_selects (args := #[]) (mvT hZ (hw _ (List.mem_of_getElem? (i := 68) rfl)))) (mvT hZ (hw _ (List.mem_of_getElem? (i := 68) rfl))) (mvT hZ (hw _ (List.mem_of_getElem? (i := 67) rfl))) (by decide) (backOf (W := 0) (own_rm12 l Z a0 hw [] b11 h30 n0 Z30) hZ (hw _ (List.mem_of_getElem? (i := 69) rfl)) (hw _ (List.mem_of_getElem? (i := 3) rfl)) (by decide) (by decide)) q37a q37c (g := (mkF m 119 #[.val (.int pa), .val (.int pb), .val (.int pc_), .val (.int pd), .val (.ref b1), .val (.ref b6), .val (.ref b11), .val (.ref b16), .val (.ref b23), .val (.ref r30), .val (.int (1 : Int32)), .unset, .unset, .unset] [(.ref b11), (.ref b11)])) rfl (by rw [hml]; rfl) (Steps.refl _) (argsL := [(.ref b11)]) (rest := []) (lenOf own_pd6 rfl) rfl (by show 2 * 0 + _ ≤ _; exact Nat.le_of_eq rfl) (hb hby at_119) (fun _ _ => ⟨rfl, e36, (by decide : 8 + 0 ≤ _), (by decide : 22 + 0 ≤ _)⟩)
  dsimp only [Pt.U, Pt.locs, Pt.cells, Pt.slots] at X37 l37 y37 z37 st37 hQ37
  subst l37 y37 z37
  obtain ⟨rfl, N37q, e37⟩ := hQ37
  have N37 := Fr.app N36 N37q
  refine own_tr (T' := T37) (g' := (mkF m 122 #[.val (.int pa), .val (.int pb), .val (.int pc_), .val (.int pd), .val (.ref b1), .val (.ref b6), .val (.ref b11), .val (.ref b16), .val (.ref b23), .val (.ref r30), .val (.int (1 : Int32)), .unset, .unset, .unset] [(.int (1 : Int32))])) st37 ?_
  refine own_st (T' := T37) (g' := (mkF m 128 #[.val (.int pa), .val (.int pb), .val (.int pc_), .val (.int pd), .val (.ref b1), .val (.ref b6), .val (.ref b11), .val (.ref b16), .val (.ref b23), .val (.ref r30), .val (.int (1 : Int32)), .val (.int (1 : Int32)), .unset, .unset] [(.ref r30), (.ref b16)])) (fun t k => ?_) ?_
  · show Steps p.tables e below (T37.setTop (mkF m 122 #[.val (.int pa), .val (.int pb), .val (.int pc_), .val (.int pd), .val (.ref b1), .val (.ref b6), .val (.ref b11), .val (.ref b16), .val (.ref b23), .val (.ref r30), .val (.int (1 : Int32)), .unset, .unset, .unset] [(.int (1 : Int32))])) t
    refine XS.istore X37.here hx rfl (hb hby at_122) rfl (l' := #[.val (.int pa), .val (.int pb), .val (.int pc_), .val (.int pd), .val (.ref b1), .val (.ref b6), .val (.ref b11), .val (.ref b16), .val (.ref b23), .val (.ref r30), .val (.int (1 : Int32)), .val (.int (1 : Int32)), .unset, .unset]) rfl ?_
    show Steps p.tables e below (T37.setTop (mkF m 124 #[.val (.int pa), .val (.int pb), .val (.int pc_), .val (.int pd), .val (.ref b1), .val (.ref b6), .val (.ref b11), .val (.ref b16), .val (.ref b23), .val (.ref r30), .val (.int (1 : Int32)), .val (.int (1 : Int32)), .unset, .unset] [])) t
    refine XS.aload X37.here hx rfl (hb hby at_124) rfl rfl ?_
    show Steps p.tables e below (T37.setTop (mkF m 126 #[.val (.int pa), .val (.int pb), .val (.int pc_), .val (.int pd), .val (.ref b1), .val (.ref b6), .val (.ref b11), .val (.ref b16), .val (.ref b23), .val (.ref r30), .val (.int (1 : Int32)), .val (.int (1 : Int32)), .unset, .unset] [(.ref b16)])) t
    refine XS.aload X37.here hx rfl (hb hby at_126) rfl rfl ?_
    show Steps p.tables e below (T37.setTop (mkF m 128 #[.val (.int pa), .val (.int pb), .val (.int pc_), .val (.int pd), .val (.ref b1), .val (.ref b6), .val (.ref b11), .val (.ref b16), .val (.ref b23), .val (.ref r30), .val (.int (1 : Int32)), .val (.int (1 : Int32)), .unset, .unset] [(.ref r30), (.ref b16)])) t
    exact k
  obtain ⟨cq39, kq39, q39a, q39b, q39c⟩ := isOf hZ e37 Ec30
  obtain ⟨_, _, ⟨T39, L39, c39, n39⟩, -, X39, ⟨Lc39, hQ39, l39, y39, z39⟩, st39⟩ := X37.virtualBack hx (y := (⟨"com/example/rolelint/rolelint/rules/Finding", "text", "()Ljava/lang/String;"⟩ : MethodName)) (z := (⟨"com/example/rolelint/rolelint/rules/Finding", "text", "()Ljava/lang/String;"⟩ : MethodName)) hown (mvT hZ (hw _ (List.mem_of_getElem? (i := 70) rfl))) (mvT hZ (hw _ (List.mem_of_getElem? (i := 71) rfl))) (notFace_of_selects (args := #[]) (mvT hZ (hw _ (List.mem_of_getElem? (i := 73) rfl)))) (mvT hZ (hw _ (List.mem_of_getElem? (i := 73) rfl))) (mvT hZ (hw _ (List.mem_of_getElem? (i := 72) rfl))) (by decide) (backOf (W := 1) (own_rm13 l Z a0 hw [] r30 (.ref b16) h30 n0 Z30 rfl Fc30_2) hZ (hw _ (List.mem_of_getElem? (i := 74) rfl)) (hw _ (List.mem_of_getElem? (i := 32) rfl)) (by decide) (by decide)) q39a q39c (g := (mkF m 128 #[.val (.int pa), .val (.int pb), .val (.int pc_), .val (.int pd), .val (.ref b1), .val (.ref b6), .val (.ref b11), .val (.ref b16), .val (.ref b23), .val (.ref r30), .val (.int (1 : Int32)), .val (.int (1 : Int32)), .unset, .unset] [(.ref r30), (.ref b16)])) rfl (by rw [hml]; rfl) (Steps.refl _) (argsL := []) (rest := [(.ref b16)]) (lenOf own_pd5 rfl) rfl (by show 2 * 0 + _ ≤ _; exact Nat.le_of_eq rfl) (hb hby at_128) (fun _ _ => ⟨rfl, e37, (by decide : 8 + 0 ≤ _), (by decide : 22 + 0 ≤ _)⟩)
  dsimp only [Pt.U, Pt.locs, Pt.cells, Pt.slots] at X39 l39 y39 z39 st39 hQ39
  subst l39 y39 z39
  obtain ⟨rfl, N39q, e39⟩ := hQ39
  have N39 := Fr.app N37 N39q
  refine own_tr (T' := T39) (g' := (mkF m 131 #[.val (.int pa), .val (.int pb), .val (.int pc_), .val (.int pd), .val (.ref b1), .val (.ref b6), .val (.ref b11), .val (.ref b16), .val (.ref b23), .val (.ref r30), .val (.int (1 : Int32)), .val (.int (1 : Int32)), .unset, .unset] [(.ref b16), (.ref b16)])) st39 ?_
  have f41 := f34.keep Kc30
  obtain ⟨cq40, kq40, q40a, q40b, q40c⟩ := isOf hZ e39 f41
  obtain ⟨_, _, ⟨T40, L40, c40, n40⟩, -, X40, ⟨Lc40, hQ40, l40, y40, z40⟩, st40⟩ := X39.virtualBack hx (y := (⟨"java/lang/String", "equals", "(Ljava/lang/Object;)Z"⟩ : MethodName)) (z := (⟨"java/lang/String", "equals", "(Ljava/lang/Object;)Z"⟩ : MethodName)) hown (mvT hZ (hw _ (List.mem_of_getElem? (i := 65) rfl))) (mvT hZ (hw _ (List.mem_of_getElem? (i := 66) rfl))) (notFace_of_selects (args := #[]) (mvT hZ (hw _ (List.mem_of_getElem? (i := 68) rfl)))) (mvT hZ (hw _ (List.mem_of_getElem? (i := 68) rfl))) (mvT hZ (hw _ (List.mem_of_getElem? (i := 67) rfl))) (by decide) (backOf (W := 0) (own_rm12 l Z a0 hw [] b16 h30 n0 Z30) hZ (hw _ (List.mem_of_getElem? (i := 69) rfl)) (hw _ (List.mem_of_getElem? (i := 3) rfl)) (by decide) (by decide)) q40a q40c (g := (mkF m 131 #[.val (.int pa), .val (.int pb), .val (.int pc_), .val (.int pd), .val (.ref b1), .val (.ref b6), .val (.ref b11), .val (.ref b16), .val (.ref b23), .val (.ref r30), .val (.int (1 : Int32)), .val (.int (1 : Int32)), .unset, .unset] [(.ref b16), (.ref b16)])) rfl (by rw [hml]; rfl) (Steps.refl _) (argsL := [(.ref b16)]) (rest := []) (lenOf own_pd6 rfl) rfl (by show 2 * 0 + _ ≤ _; exact Nat.le_of_eq rfl) (hb hby at_131) (fun _ _ => ⟨rfl, e39, (by decide : 8 + 0 ≤ _), (by decide : 22 + 0 ≤ _)⟩)
  dsimp only [Pt.U, Pt.locs, Pt.cells, Pt.slots] at X40 l40 y40 z40 st40 hQ40
  subst l40 y40 z40
  obtain ⟨rfl, N40q, e40⟩ := hQ40
  have N40 := Fr.app N39 N40q
  refine own_tr (T' := T40) (g' := (mkF m 134 #[.val (.int pa), .val (.int pb), .val (.int pc_), .val (.int pd), .val (.ref b1), .val (.ref b6), .val (.ref b11), .val (.ref b16), .val (.ref b23), .val (.ref r30), .val (.int (1 : Int32)), .val (.int (1 : Int32)), .unset, .unset] [(.int (1 : Int32))])) st40 ?_
  refine own_st (T' := T40) (g' := (mkF m 138 #[.val (.int pa), .val (.int pb), .val (.int pc_), .val (.int pd), .val (.ref b1), .val (.ref b6), .val (.ref b11), .val (.ref b16), .val (.ref b23), .val (.ref r30), .val (.int (1 : Int32)), .val (.int (1 : Int32)), .val (.int (1 : Int32)), .unset] [(.ref b23)])) (fun t k => ?_) ?_
  · show Steps p.tables e below (T40.setTop (mkF m 134 #[.val (.int pa), .val (.int pb), .val (.int pc_), .val (.int pd), .val (.ref b1), .val (.ref b6), .val (.ref b11), .val (.ref b16), .val (.ref b23), .val (.ref r30), .val (.int (1 : Int32)), .val (.int (1 : Int32)), .unset, .unset] [(.int (1 : Int32))])) t
    refine XS.istore X40.here hx rfl (hb hby at_134) rfl (l' := #[.val (.int pa), .val (.int pb), .val (.int pc_), .val (.int pd), .val (.ref b1), .val (.ref b6), .val (.ref b11), .val (.ref b16), .val (.ref b23), .val (.ref r30), .val (.int (1 : Int32)), .val (.int (1 : Int32)), .val (.int (1 : Int32)), .unset]) rfl ?_
    show Steps p.tables e below (T40.setTop (mkF m 136 #[.val (.int pa), .val (.int pb), .val (.int pc_), .val (.int pd), .val (.ref b1), .val (.ref b6), .val (.ref b11), .val (.ref b16), .val (.ref b23), .val (.ref r30), .val (.int (1 : Int32)), .val (.int (1 : Int32)), .val (.int (1 : Int32)), .unset] [])) t
    refine XS.aload X40.here hx rfl (hb hby at_136) rfl rfl ?_
    show Steps p.tables e below (T40.setTop (mkF m 138 #[.val (.int pa), .val (.int pb), .val (.int pc_), .val (.int pd), .val (.ref b1), .val (.ref b6), .val (.ref b11), .val (.ref b16), .val (.ref b23), .val (.ref r30), .val (.int (1 : Int32)), .val (.int (1 : Int32)), .val (.int (1 : Int32)), .unset] [(.ref b23)])) t
    exact k
  have f42 := Fc28_0.keep Kc30 nin0
  have f44 := f29.keep Kc30
  obtain ⟨cq43, kq43, q43a, q43b, q43c⟩ := isOf hZ e40 f44
  obtain ⟨_, _, ⟨T43, L43, c43, n43⟩, -, X43, ⟨Lc43, hQ43, l43, y43, z43⟩, st43⟩ := X40.virtualBack hx (y := (⟨"com/example/rolelint/rolelint/rules/Finding", "line", "()I"⟩ : MethodName)) (z := (⟨"com/example/rolelint/rolelint/rules/Finding", "line", "()I"⟩ : MethodName)) hown (mvT hZ (hw _ (List.mem_of_getElem? (i := 55) rfl))) (mvT hZ (hw _ (List.mem_of_getElem? (i := 56) rfl))) (notFace_of_selects (args := #[]) (mvT hZ (hw _ (List.mem_of_getElem? (i := 58) rfl)))) (mvT hZ (hw _ (List.mem_of_getElem? (i := 58) rfl))) (mvT hZ (hw _ (List.mem_of_getElem? (i := 57) rfl))) (by decide) (backOf (W := 0) (own_rm10 l Z a0 hw [] b23 pa h30 n0 Z30  f42) hZ (hw _ (List.mem_of_getElem? (i := 59) rfl)) (hw _ (List.mem_of_getElem? (i := 32) rfl)) (by decide) (by decide)) q43a q43c (g := (mkF m 138 #[.val (.int pa), .val (.int pb), .val (.int pc_), .val (.int pd), .val (.ref b1), .val (.ref b6), .val (.ref b11), .val (.ref b16), .val (.ref b23), .val (.ref r30), .val (.int (1 : Int32)), .val (.int (1 : Int32)), .val (.int (1 : Int32)), .unset] [(.ref b23)])) rfl (by rw [hml]; rfl) (Steps.refl _) (argsL := []) (rest := []) (lenOf own_pd4 rfl) rfl (by show 2 * 0 + _ ≤ _; exact Nat.le_of_eq rfl) (hb hby at_138) (fun _ _ => ⟨rfl, e40, (by decide : 8 + 0 ≤ _), (by decide : 22 + 0 ≤ _)⟩)
  dsimp only [Pt.U, Pt.locs, Pt.cells, Pt.slots] at X43 l43 y43 z43 st43 hQ43
  subst l43 y43 z43
  obtain ⟨rfl, N43q, e43⟩ := hQ43
  have N43 := Fr.app N40 N43q
  refine own_tr (T' := T43) (g' := (mkF m 141 #[.val (.int pa), .val (.int pb), .val (.int pc_), .val (.int pd), .val (.ref b1), .val (.ref b6), .val (.ref b11), .val (.ref b16), .val (.ref b23), .val (.ref r30), .val (.int (1 : Int32)), .val (.int (1 : Int32)), .val (.int (1 : Int32)), .unset] [(.int pa)])) st43 ?_
  refine own_st (T' := T43) (g' := (mkF m 177 #[.val (.int pa), .val (.int pb), .val (.int pc_), .val (.int pd), .val (.ref b1), .val (.ref b6), .val (.ref b11), .val (.ref b16), .val (.ref b23), .val (.ref r30), .val (.int (1 : Int32)), .val (.int (1 : Int32)), .val (.int (1 : Int32)), .val (.int (1 : Int32))] [(.int (1 : Int32))])) (fun t k => ?_) ?_
  · show Steps p.tables e below (T43.setTop (mkF m 141 #[.val (.int pa), .val (.int pb), .val (.int pc_), .val (.int pd), .val (.ref b1), .val (.ref b6), .val (.ref b11), .val (.ref b16), .val (.ref b23), .val (.ref r30), .val (.int (1 : Int32)), .val (.int (1 : Int32)), .val (.int (1 : Int32)), .unset] [(.int pa)])) t
    refine XS.iloadN X43.here hx rfl (hb hby at_141) rfl ?_
    show Steps p.tables e below (T43.setTop (mkF m 142 #[.val (.int pa), .val (.int pb), .val (.int pc_), .val (.int pd), .val (.ref b1), .val (.ref b6), .val (.ref b11), .val (.ref b16), .val (.ref b23), .val (.ref r30), .val (.int (1 : Int32)), .val (.int (1 : Int32)), .val (.int (1 : Int32)), .unset] [(.int pa), (.int pa)])) t
    refine XS.icmpNo X43.here hx rfl (hb hby at_142) rfl (teq (rfl : pa = pa)).2 ?_
    show Steps p.tables e below (T43.setTop (mkF m 145 #[.val (.int pa), .val (.int pb), .val (.int pc_), .val (.int pd), .val (.ref b1), .val (.ref b6), .val (.ref b11), .val (.ref b16), .val (.ref b23), .val (.ref r30), .val (.int (1 : Int32)), .val (.int (1 : Int32)), .val (.int (1 : Int32)), .unset] [])) t
    refine XS.iconst X43.here hx rfl (hb hby at_145) ?_
    show Steps p.tables e below (T43.setTop (mkF m 146 #[.val (.int pa), .val (.int pb), .val (.int pc_), .val (.int pd), .val (.ref b1), .val (.ref b6), .val (.ref b11), .val (.ref b16), .val (.ref b23), .val (.ref r30), .val (.int (1 : Int32)), .val (.int (1 : Int32)), .val (.int (1 : Int32)), .unset] [(.int (1 : Int32))])) t
    refine XS.goto X43.here hx rfl (pc0 := 146) (pc' := 150) rfl (hb hby at_146) (by decide) (by decide) ?_
    show Steps p.tables e below (T43.setTop (mkF m 150 #[.val (.int pa), .val (.int pb), .val (.int pc_), .val (.int pd), .val (.ref b1), .val (.ref b6), .val (.ref b11), .val (.ref b16), .val (.ref b23), .val (.ref r30), .val (.int (1 : Int32)), .val (.int (1 : Int32)), .val (.int (1 : Int32)), .unset] [(.int (1 : Int32))])) t
    refine XS.istore X43.here hx rfl (hb hby at_150) rfl (l' := #[.val (.int pa), .val (.int pb), .val (.int pc_), .val (.int pd), .val (.ref b1), .val (.ref b6), .val (.ref b11), .val (.ref b16), .val (.ref b23), .val (.ref r30), .val (.int (1 : Int32)), .val (.int (1 : Int32)), .val (.int (1 : Int32)), .val (.int (1 : Int32))]) rfl ?_
    show Steps p.tables e below (T43.setTop (mkF m 152 #[.val (.int pa), .val (.int pb), .val (.int pc_), .val (.int pd), .val (.ref b1), .val (.ref b6), .val (.ref b11), .val (.ref b16), .val (.ref b23), .val (.ref r30), .val (.int (1 : Int32)), .val (.int (1 : Int32)), .val (.int (1 : Int32)), .val (.int (1 : Int32))] [])) t
    refine XS.iload X43.here hx rfl (hb hby at_152) rfl ?_
    show Steps p.tables e below (T43.setTop (mkF m 154 #[.val (.int pa), .val (.int pb), .val (.int pc_), .val (.int pd), .val (.ref b1), .val (.ref b6), .val (.ref b11), .val (.ref b16), .val (.ref b23), .val (.ref r30), .val (.int (1 : Int32)), .val (.int (1 : Int32)), .val (.int (1 : Int32)), .val (.int (1 : Int32))] [(.int (1 : Int32))])) t
    refine XS.ifNo X43.here hx rfl (hb hby at_154) rfl ((if0 _ _).trans (feq (by decide : ¬ ((1 : Int32) = (0 : Int32)))).1) ?_
    show Steps p.tables e below (T43.setTop (mkF m 157 #[.val (.int pa), .val (.int pb), .val (.int pc_), .val (.int pd), .val (.ref b1), .val (.ref b6), .val (.ref b11), .val (.ref b16), .val (.ref b23), .val (.ref r30), .val (.int (1 : Int32)), .val (.int (1 : Int32)), .val (.int (1 : Int32)), .val (.int (1 : Int32))] [])) t
    refine XS.iload X43.here hx rfl (hb hby at_157) rfl ?_
    show Steps p.tables e below (T43.setTop (mkF m 159 #[.val (.int pa), .val (.int pb), .val (.int pc_), .val (.int pd), .val (.ref b1), .val (.ref b6), .val (.ref b11), .val (.ref b16), .val (.ref b23), .val (.ref r30), .val (.int (1 : Int32)), .val (.int (1 : Int32)), .val (.int (1 : Int32)), .val (.int (1 : Int32))] [(.int (1 : Int32))])) t
    refine XS.ifNo X43.here hx rfl (hb hby at_159) rfl ((if0 _ _).trans (feq (by decide : ¬ ((1 : Int32) = (0 : Int32)))).1) ?_
    show Steps p.tables e below (T43.setTop (mkF m 162 #[.val (.int pa), .val (.int pb), .val (.int pc_), .val (.int pd), .val (.ref b1), .val (.ref b6), .val (.ref b11), .val (.ref b16), .val (.ref b23), .val (.ref r30), .val (.int (1 : Int32)), .val (.int (1 : Int32)), .val (.int (1 : Int32)), .val (.int (1 : Int32))] [])) t
    refine XS.iload X43.here hx rfl (hb hby at_162) rfl ?_
    show Steps p.tables e below (T43.setTop (mkF m 164 #[.val (.int pa), .val (.int pb), .val (.int pc_), .val (.int pd), .val (.ref b1), .val (.ref b6), .val (.ref b11), .val (.ref b16), .val (.ref b23), .val (.ref r30), .val (.int (1 : Int32)), .val (.int (1 : Int32)), .val (.int (1 : Int32)), .val (.int (1 : Int32))] [(.int (1 : Int32))])) t
    refine XS.ifNo X43.here hx rfl (hb hby at_164) rfl ((if0 _ _).trans (feq (by decide : ¬ ((1 : Int32) = (0 : Int32)))).1) ?_
    show Steps p.tables e below (T43.setTop (mkF m 167 #[.val (.int pa), .val (.int pb), .val (.int pc_), .val (.int pd), .val (.ref b1), .val (.ref b6), .val (.ref b11), .val (.ref b16), .val (.ref b23), .val (.ref r30), .val (.int (1 : Int32)), .val (.int (1 : Int32)), .val (.int (1 : Int32)), .val (.int (1 : Int32))] [])) t
    refine XS.iload X43.here hx rfl (hb hby at_167) rfl ?_
    show Steps p.tables e below (T43.setTop (mkF m 169 #[.val (.int pa), .val (.int pb), .val (.int pc_), .val (.int pd), .val (.ref b1), .val (.ref b6), .val (.ref b11), .val (.ref b16), .val (.ref b23), .val (.ref r30), .val (.int (1 : Int32)), .val (.int (1 : Int32)), .val (.int (1 : Int32)), .val (.int (1 : Int32))] [(.int (1 : Int32))])) t
    refine XS.ifNo X43.here hx rfl (hb hby at_169) rfl ((if0 _ _).trans (feq (by decide : ¬ ((1 : Int32) = (0 : Int32)))).1) ?_
    show Steps p.tables e below (T43.setTop (mkF m 172 #[.val (.int pa), .val (.int pb), .val (.int pc_), .val (.int pd), .val (.ref b1), .val (.ref b6), .val (.ref b11), .val (.ref b16), .val (.ref b23), .val (.ref r30), .val (.int (1 : Int32)), .val (.int (1 : Int32)), .val (.int (1 : Int32)), .val (.int (1 : Int32))] [])) t
    refine XS.iconst X43.here hx rfl (hb hby at_172) ?_
    show Steps p.tables e below (T43.setTop (mkF m 173 #[.val (.int pa), .val (.int pb), .val (.int pc_), .val (.int pd), .val (.ref b1), .val (.ref b6), .val (.ref b11), .val (.ref b16), .val (.ref b23), .val (.ref r30), .val (.int (1 : Int32)), .val (.int (1 : Int32)), .val (.int (1 : Int32)), .val (.int (1 : Int32))] [(.int (1 : Int32))])) t
    refine XS.goto X43.here hx rfl (pc0 := 173) (pc' := 177) rfl (hb hby at_173) (by decide) (by decide) ?_
    show Steps p.tables e below (T43.setTop (mkF m 177 #[.val (.int pa), .val (.int pb), .val (.int pc_), .val (.int pd), .val (.ref b1), .val (.ref b6), .val (.ref b11), .val (.ref b16), .val (.ref b23), .val (.ref r30), .val (.int (1 : Int32)), .val (.int (1 : Int32)), .val (.int (1 : Int32)), .val (.int (1 : Int32))] [(.int (1 : Int32))])) t
    exact k
  exact own_retN X43 hx Bd (t := .boolean) (by simp) rfl (hb hby at_177) e43 (⟨rfl, N43⟩) (by decide) (by decide)
set_option maxRecDepth 65536 in
set_option maxHeartbeats 40000000 in
theorem own_comes_1 {Post : Tables → Env → Array Value → State → Outcome → State → Prop} (hpost : ∀ tb e args s v u, (limb_1_1.after args s (.returned v) u = true ∧ limb_1_2.after args s (.returned v) u = true ∧ True) → FrameEnd s (.returned v) u (Jvm.fieldLocs frame_1_writes args s ++ Jvm.arrayLocs frame_1_arrays args s ++ Jvm.staticLocs frame_1_statics s) 24 128 → Post tb e args s (.returned v) u) :
    ArmFor flags0 classFile x code maxLocals ret World_1 tables_1 room_1 Calls_1 rest_1 Pre_1 Post := by
  intro l hfl _ _ p e ha hc hk s m args below hf hA hF happ hP
  obtain ⟨hcalls, hrest, hpre⟩ := hP
  obtain ⟨-, -, -, hnamed, -, -, -, hat⟩ := (Spec.applies_iff hf).mp happ
  obtain ⟨hg, hn⟩ := and_e (Cond.before_iff.mp (show (Jvm.Cond.and given_1 narrow_1).before args s = true from hpre))
  obtain ⟨hg0, hgr⟩ := and_e hg
  obtain ⟨ha0, hgr⟩ := and_e hgr
  obtain ⟨ha1, hgr⟩ := and_e hgr
  obtain ⟨ha2, hgr⟩ := and_e hgr
  have ha3 := hgr
  obtain ⟨w0, w1, w2, w3, rfl⟩ : ∃ w0 w1 w2 w3 : Value, args = #[w0, w1, w2, w3] := by
    have hs : args.size = 4 := by simpa [Cond.value, given_1] using hg0
    obtain ⟨L⟩ := args
    match L, hs with
    | [w0, w1, w2, w3], _ => exact ⟨w0, w1, w2, w3, rfl⟩
  have hw := fun d (hd : d ∈ tables_1) => atoms_spec (ws := Jvm.Cond.code x code maxLocals ret :: tables_1) hat d (List.mem_cons_of_mem _ hd)
  have hfit : Fit s := fun {y c} hc i hi => by
    obtain ⟨ha, rfl⟩ := Array.getElem?_eq_some_iff.mp hc
    have q := List.all_eq_true.mp ((Array.all_eq_true_iff_forall_mem.mp hF) _ (Array.getElem_mem ha)) i (List.mem_range.mpr hi)
    simpa [Array.getElem?_eq_getElem hi] using q
  obtain ⟨hsets, hown0⟩ := atoms_of _ (rest_1_c_eq ▸ (show rest_1_c.before _ s = true from hrest))
  obtain ⟨i0, ei0⟩ := is_v ha0
  obtain rfl : w0 = (.int i0) := Option.some.inj ei0
  obtain ⟨i1, ei1⟩ := is_v ha1
  obtain rfl : w1 = (.int i1) := Option.some.inj ei1
  obtain ⟨i2, ei2⟩ := is_v ha2
  obtain rfl : w2 = (.int i2) := Option.some.inj ei2
  obtain ⟨i3, ei3⟩ := is_v ha3
  obtain rfl : w3 = (.int i3) := Option.some.inj ei3
  obtain ⟨cs, ev_cs⟩ := is_v (Cond.before_iff.mp (hsets _ (List.mem_of_getElem? (i := 1) rfl)))
  have S_cs := Sta.start ev_cs (Or.inl (hsets _ (List.mem_of_getElem? (i := 0) rfl)))
  have hcs : ¬ cs = (0 : Int32) := gotF (Cond.eq_ints ev_cs (Term.int_eval 0)) (by have q := not_v (Cond.before_iff.mp (hsets _ (List.mem_of_getElem? (i := 2) rfl))); exact q)
  obtain ⟨n, o, h1, h2, h3, _, L, rfl, ⟨rfl, N⟩, hq⟩ := own_rm0 l s _ hw tables_1 i0 i1 i2 i3 cs s.heap s.heap.size (Nat.le_refl _) (Old.start s) S_cs hcs p e ha hc hk s m _ below hf ((Spec.applies_iff_loose hf).mp happ).1 ⟨rfl, State.Warmed39.refl s, rfl⟩ trivial
  refine ⟨n, _, h1, h2, h3, hpost _ _ _ _ _ _ ⟨Cond.after_iff.mpr rfl, Cond.after_iff.mpr (eq_i res_at (Term.int_eval (1)) rfl), trivial⟩ ⟨hq.1, hq.2.1, (hq.2.2.sift fun y hy => Or.inr (N y hy)).mono (by decide) (by decide)⟩⟩
theorem main_1_1 : Claimed_1_1 := own_comes_1 fun _ _ _ _ _ _ h hF => ⟨h.1, hF⟩
theorem main_1_2 : Claimed_1_2 := own_comes_1 fun _ _ _ _ _ _ h hF => ⟨h.2.1, hF⟩
end Jvm.Pilot.@@N@@
namespace Jvm.Pilot.@@N@@
open Jvm Jvm.ClassFile Sem Op Lib Jvm.Free Jvm.Stand Jvm.Pilot.@@N@@.Jvm.D
/-! MADE BY PROGRAM (witnessworld.py) out of the Statement's table words and the real class files: 21 classes; the members and pool entries that the words name. The judged class is class 1, her method 1. -/
namespace start1
open Jvm.ClassFile
def u (s : String) : CpInfo := .utf8 (stringToUtf16 s)
/-- a pool by its gaps: so many unusable entries, then the entry; so many at the end -/
def gap : Nat → List CpInfo → List CpInfo
  | 0, r => r
  | n + 1, r => .unusable :: gap n r
def poolList (es : List (Nat × CpInfo)) (last : Nat) : List CpInfo := es.foldr (fun e r => gap e.1 (e.2 :: r)) (gap last [])
def pool (es : List (Nat × CpInfo)) (last : Nat) : Array CpInfo := ⟨poolList es last⟩
def fileOf (pool : Array CpInfo) (this : Nat) (attrs : Array Attribute := #[]) (ms : Array MethodInfo := #[]) (fl : Nat := 33) (sup : Nat := 0) (ifs : Array Nat := #[]) (fds : Array FieldInfo := #[]) : ClassFile where
  minorVersion := 0
  majorVersion := 65
  constantPool := pool
  accessFlags := fl
  thisClass := this
  superClass := sup
  interfaces := ifs
  fields := fds
  methods := ms
  attributes := attrs
def plain (name : String) (sup : Option ClassId) : Class where
  name := name
  kind := .ordinary
  loader := none
  accessFlags := 33
  super := sup
  interfaces := #[]
  cf := none
  fields := #[]
  methods := #[]
  instanceTypes := #[]
  staticTypes := #[]
  resolved := #[]
  callSites := []
  init := .initialized
  statics := none
  mirror := none

def pool0 : Array CpInfo := pool [(5, u "<init>"), (0, u "()V"), (1, .class_ 10), (1, u "java/lang/Object")] 113

def k0c0 : Code := { maxStack := 0, maxLocals := 1, code := object_method_1_code, exceptionTable := #[], attributes := #[] }
def k0m0 : Method := { name := "<init>", desc := "()V", sig := { parameters := [], returnType := none }, accessFlags := 1, code := some k0c0 }
/-- java/lang/Object -/
def k0 : Class := { plain "java/lang/Object" none with
  accessFlags := 33
  interfaces := #[]
  cf := some (fileOf pool0 8 #[] #[{ accessFlags := 1, nameIndex := 5, descriptorIndex := 6, attributes := #[] }] 33 0 #[] #[])
  fields := #[]
  methods := #[k0m0]
  instanceTypes := #[]
  staticTypes := #[]
  resolved := Array.replicate 124 none
  statics := none }

def pool1 : Array CpInfo := pool [(2, .class_ 4), (1, u "java/lang/Object"), (0, u "<init>"), (0, u "()V"), (0, .class_ 8), (0, u "java/lang/String"), (0, .methodref 7 10), (0, .nameAndType 5 11), (0, u "([C)V"), (0, .class_ 13), (0, u "com/example/rolelint/rolelint/rules/Finding"), (0, .methodref 12 15), (0, .nameAndType 5 16), (0, u "(ILjava/lang/String;Ljava/lang/String;)V"), (0, .methodref 12 18), (0, .nameAndType 19 20), (0, u "at"), (0, u "(I)Lcom/example/rolelint/rolelint/rules/Finding;"), (0, .methodref 12 22), (0, .nameAndType 23 24), (0, u "line"), (0, u "()I"), (0, .methodref 12 26), (0, .nameAndType 27 28), (0, u "rule"), (0, u "()Ljava/lang/String;"), (0, .methodref 7 30), (0, .nameAndType 31 32), (0, u "equals"), (0, u "(Ljava/lang/Object;)Z"), (0, .methodref 12 34), (0, .nameAndType 35 28), (0, u "text"), (0, .class_ 37), (0, u "com/example/rolelint/rolelint/rules/FindingAtPinLaw"), (2, u "law"), (0, u "(IIII)Z")] 5

def k1m0 : Method := { name := "<init>", desc := "()V", sig := { parameters := [], returnType := none }, accessFlags := 1, code := none }
def k1c1 : Code := { maxStack := 5, maxLocals := 14, code := code, exceptionTable := #[], attributes := #[] }
def k1m1 : Method := { name := "law", desc := "(IIII)Z", sig := { parameters := [.int, .int, .int, .int], returnType := some .boolean }, accessFlags := 9, code := some k1c1 }
/-- com/example/rolelint/rolelint/rules/FindingAtPinLaw -/
def k1 : Class := { plain "com/example/rolelint/rolelint/rules/FindingAtPinLaw" (some 0) with
  accessFlags := 49
  interfaces := #[]
  cf := some (fileOf pool1 36 #[] #[{ accessFlags := 1, nameIndex := 5, descriptorIndex := 6, attributes := #[] }, { accessFlags := 9, nameIndex := 40, descriptorIndex := 41, attributes := #[] }] 49 2 #[] #[])
  fields := #[]
  methods := #[k1m0, k1m1]
  instanceTypes := #[]
  staticTypes := #[]
  resolved := Array.replicate 47 none
  statics := none }

def pool2 : Array CpInfo := pool [(1, .class_ 2), (0, u "java/io/Serializable"), (0, .class_ 4), (0, u "java/lang/Object")] 2

/-- java/io/Serializable -/
def k2 : Class := { plain "java/io/Serializable" (some 0) with
  accessFlags := 1537
  interfaces := #[]
  cf := some (fileOf pool2 1 #[] #[] 1537 3 #[] #[])
  fields := #[]
  methods := #[]
  instanceTypes := #[]
  staticTypes := #[]
  resolved := Array.replicate 7 none
  statics := none }

def pool3 : Array CpInfo := pool [(1, .class_ 2), (0, u "java/lang/Comparable"), (0, .class_ 4), (0, u "java/lang/Object")] 7

/-- java/lang/Comparable -/
def k3 : Class := { plain "java/lang/Comparable" (some 0) with
  accessFlags := 1537
  interfaces := #[]
  cf := some (fileOf pool3 1 #[] #[] 1537 3 #[] #[])
  fields := #[]
  methods := #[]
  instanceTypes := #[]
  staticTypes := #[]
  resolved := Array.replicate 12 none
  statics := none }

def pool4 : Array CpInfo := pool [(2, .class_ 4), (1, u "java/lang/CharSequence"), (42, .class_ 48), (0, u "java/lang/CharSequence$1CodePointIterator"), (10, .class_ 60), (0, u "java/lang/CharSequence$1CharIterator"), (5, .class_ 67), (0, u "java/lang/Object")] 63

/-- java/lang/CharSequence -/
def k4 : Class := { plain "java/lang/CharSequence" (some 0) with
  accessFlags := 1537
  interfaces := #[]
  cf := some (fileOf pool4 2 #[.nestMembers #[47, 59]] #[] 1537 66 #[] #[])
  fields := #[]
  methods := #[]
  instanceTypes := #[]
  staticTypes := #[]
  resolved := Array.replicate 131 none
  statics := none }

def pool5 : Array CpInfo := pool [(1, .class_ 2), (0, u "java/lang/constant/Constable"), (0, .class_ 4), (0, u "java/lang/Object")] 6

/-- java/lang/constant/Constable -/
def k5 : Class := { plain "java/lang/constant/Constable" (some 0) with
  accessFlags := 1537
  interfaces := #[]
  cf := some (fileOf pool5 1 #[] #[] 1537 3 #[] #[])
  fields := #[]
  methods := #[]
  instanceTypes := #[]
  staticTypes := #[]
  resolved := Array.replicate 11 none
  statics := none }

def pool6 : Array CpInfo := pool [(1, .class_ 2), (0, u "java/lang/constant/ConstantDesc"), (0, .class_ 4), (0, u "java/lang/Object")] 32

/-- java/lang/constant/ConstantDesc -/
def k6 : Class := { plain "java/lang/constant/ConstantDesc" (some 0) with
  accessFlags := 1537
  interfaces := #[]
  cf := some (fileOf pool6 1 #[] #[] 1537 3 #[] #[])
  fields := #[]
  methods := #[]
  instanceTypes := #[]
  staticTypes := #[]
  resolved := Array.replicate 37 none
  statics := none }

def pool7 : Array CpInfo := pool [(1, .methodref 2 3), (0, .class_ 4), (0, .nameAndType 5 6), (0, u "java/lang/Object"), (0, u "<init>"), (0, u "()V"), (2, .fieldref 10 11), (0, .class_ 12), (0, .nameAndType 13 14), (0, u "java/lang/String"), (0, u "value"), (0, u "[B"), (0, .fieldref 10 16), (0, .nameAndType 17 18), (0, u "coder"), (0, u "B"), (2, u "hash"), (0, u "I"), (2, u "hashIsZero"), (0, u "Z"), (0, .methodref 10 28), (0, .nameAndType 5 29), (0, u "([CIILjava/lang/Void;)V"), (8, .fieldref 10 39), (0, .nameAndType 40 26), (0, u "COMPACT_STRINGS"), (1, .class_ 44), (1, u "java/lang/StringUTF16"), (0, u "compress"), (1, .methodref 42 48), (0, .nameAndType 49 50), (0, u "coderFromArrayLen"), (0, u "([BI)B"), (126, .methodref 42 178), (0, .nameAndType 45 179), (0, u "([CII)[B"), (363, u "equals"), (29, u "(Ljava/lang/Object;)Z"), (1, .class_ 576), (0, u "java/lang/CharSequence"), (22, u "CASE_INSENSITIVE_ORDER"), (0, u "Ljava/util/Comparator;"), (409, u "([C)V"), (90, u "serialPersistentFields"), (0, u "[Ljava/io/ObjectStreamField;"), (0, .class_ 1104), (0, u "java/lang/String$CaseInsensitiveComparator"), (1, .class_ 1107), (0, u "java/io/Serializable"), (0, .class_ 1109), (0, u "java/lang/Comparable"), (0, .class_ 1111), (0, u "java/lang/constant/Constable"), (0, .class_ 1113), (0, u "java/lang/constant/ConstantDesc"), (2, u "serialVersionUID"), (0, u "J"), (3, u "REPL"), (0, u "C"), (2, u "LATIN1"), (1, u "UTF16")] 323

def k7m0 : Method := { name := "<init>", desc := "()V", sig := { parameters := [], returnType := none }, accessFlags := 1, code := none }
def k7c1 : Code := { maxStack := 5, maxLocals := 2, code := jdk_42_method_3_code, exceptionTable := #[], attributes := #[] }
def k7m1 : Method := { name := "<init>", desc := "([C)V", sig := { parameters := [(.array .char)], returnType := none }, accessFlags := 1, code := some k7c1 }
def k7c2 : Code := { maxStack := 2, maxLocals := 3, code := jdk_42_method_66_code, exceptionTable := #[], attributes := #[] }
def k7m2 : Method := { name := "equals", desc := "(Ljava/lang/Object;)Z", sig := { parameters := [(.object "java/lang/Object")], returnType := some .boolean }, accessFlags := 1, code := some k7c2 }
def k7c3 : Code := { maxStack := 4, maxLocals := 6, code := jdk_42_method_149_code, exceptionTable := #[], attributes := #[] }
def k7m3 : Method := { name := "<init>", desc := "([CIILjava/lang/Void;)V", sig := { parameters := [(.array .char), .int, .int, (.object "java/lang/Void")], returnType := none }, accessFlags := 2, code := some k7c3 }
/-- java/lang/String -/
def k7 : Class := { plain "java/lang/String" (some 0) with
  accessFlags := 49
  interfaces := #[2, 3, 4, 5, 6]
  cf := some (fileOf pool7 10 #[.nestMembers #[1103]] #[{ accessFlags := 1, nameIndex := 5, descriptorIndex := 6, attributes := #[] }, { accessFlags := 1, nameIndex := 5, descriptorIndex := 1010, attributes := #[] }, { accessFlags := 1, nameIndex := 543, descriptorIndex := 573, attributes := #[] }, { accessFlags := 2, nameIndex := 5, descriptorIndex := 29, attributes := #[] }] 49 2 #[1106, 1108, 575, 1110, 1112] #[{ accessFlags := 18, nameIndex := 13, descriptorIndex := 14, attributes := #[] }, { accessFlags := 18, nameIndex := 17, descriptorIndex := 18, attributes := #[] }, { accessFlags := 2, nameIndex := 21, descriptorIndex := 22, attributes := #[] }, { accessFlags := 2, nameIndex := 25, descriptorIndex := 26, attributes := #[] }, { accessFlags := 26, nameIndex := 1116, descriptorIndex := 1117, attributes := #[] }, { accessFlags := 24, nameIndex := 40, descriptorIndex := 26, attributes := #[] }, { accessFlags := 26, nameIndex := 1101, descriptorIndex := 1102, attributes := #[] }, { accessFlags := 26, nameIndex := 1121, descriptorIndex := 1122, attributes := #[] }, { accessFlags := 25, nameIndex := 599, descriptorIndex := 600, attributes := #[] }, { accessFlags := 24, nameIndex := 1125, descriptorIndex := 18, attributes := #[] }, { accessFlags := 24, nameIndex := 1127, descriptorIndex := 18, attributes := #[] }])
  fields := #[{ name := "value", type := (.array .byte), accessFlags := 18, slot := 0, constantValue := 0 }, { name := "coder", type := .byte, accessFlags := 18, slot := 1, constantValue := 0 }, { name := "hash", type := .int, accessFlags := 2, slot := 2, constantValue := 0 }, { name := "hashIsZero", type := .boolean, accessFlags := 2, slot := 3, constantValue := 0 }, { name := "serialVersionUID", type := .long, accessFlags := 26, slot := 0, constantValue := 0 }, { name := "COMPACT_STRINGS", type := .boolean, accessFlags := 24, slot := 1, constantValue := 0 }, { name := "serialPersistentFields", type := (.array (.object "java/io/ObjectStreamField")), accessFlags := 26, slot := 2, constantValue := 0 }, { name := "REPL", type := .char, accessFlags := 26, slot := 3, constantValue := 0 }, { name := "CASE_INSENSITIVE_ORDER", type := (.object "java/util/Comparator"), accessFlags := 25, slot := 4, constantValue := 0 }, { name := "LATIN1", type := .byte, accessFlags := 24, slot := 5, constantValue := 0 }, { name := "UTF16", type := .byte, accessFlags := 24, slot := 6, constantValue := 0 }]
  methods := #[k7m0, k7m1, k7m2, k7m3]
  instanceTypes := #[(.array .byte), .byte, .int, .boolean]
  staticTypes := #[.long, .boolean, (.array (.object "java/io/ObjectStreamField")), .char, (.object "java/util/Comparator"), .byte, .byte]
  resolved := Array.replicate 1451 none
  statics := some 0 }

def pool8 : Array CpInfo := pool [(6, .class_ 8), (1, u "java/lang/Object"), (0, u "<init>"), (0, u "()V"), (1, .class_ 14), (1, u "java/lang/StringUTF16"), (31, u "$assertionsDisabled"), (0, u "Z"), (13, u "HI_BYTE_SHIFT"), (0, u "I"), (2, u "LO_BYTE_SHIFT"), (49, .methodref 12 116), (0, .nameAndType 117 118), (0, u "compress"), (0, u "([CI[BII)I"), (3, u "([CII)[B"), (138, u "coderFromArrayLen"), (0, u "([BI)B"), (106, .class_ 371), (1, u "java/lang/StringUTF16$LinesSpliterator"), (58, u "MAX_LENGTH"), (196, .class_ 628), (0, u "java/lang/StringUTF16$CodePointsSpliterator"), (0, .class_ 630), (0, u "java/lang/StringUTF16$CharsSpliterator")] 4

def k8m0 : Method := { name := "<init>", desc := "()V", sig := { parameters := [], returnType := none }, accessFlags := 0, code := none }
def k8c1 : Code := { maxStack := 2, maxLocals := 2, code := jdk_52_method_15_code, exceptionTable := #[], attributes := #[] }
def k8m1 : Method := { name := "coderFromArrayLen", desc := "([BI)B", sig := { parameters := [(.array .byte), .int], returnType := some .byte }, accessFlags := 8, code := some k8c1 }
def k8c2 : Code := { maxStack := 5, maxLocals := 6, code := jdk_52_method_16_code, exceptionTable := #[], attributes := #[] }
def k8m2 : Method := { name := "compress", desc := "([CII)[B", sig := { parameters := [(.array .char), .int, .int], returnType := some (.array .byte) }, accessFlags := 9, code := some k8c2 }
def k8c3 : Code := { maxStack := 3, maxLocals := 7, code := jdk_52_method_21_code, exceptionTable := #[], attributes := #[] }
def k8m3 : Method := { name := "compress", desc := "([CI[BII)I", sig := { parameters := [(.array .char), .int, (.array .byte), .int, .int], returnType := some .int }, accessFlags := 9, code := some k8c3 }
/-- java/lang/StringUTF16 -/
def k8 : Class := { plain "java/lang/StringUTF16" (some 0) with
  accessFlags := 48
  interfaces := #[]
  cf := some (fileOf pool8 12 #[.nestMembers #[627, 629, 369]] #[{ accessFlags := 0, nameIndex := 9, descriptorIndex := 10, attributes := #[] }, { accessFlags := 8, nameIndex := 261, descriptorIndex := 262, attributes := #[] }, { accessFlags := 9, nameIndex := 117, descriptorIndex := 122, attributes := #[] }, { accessFlags := 9, nameIndex := 117, descriptorIndex := 118, attributes := #[] }] 48 6 #[] #[{ accessFlags := 26, nameIndex := 61, descriptorIndex := 62, attributes := #[] }, { accessFlags := 26, nameIndex := 65, descriptorIndex := 62, attributes := #[] }, { accessFlags := 24, nameIndex := 430, descriptorIndex := 62, attributes := #[] }, { accessFlags := 4120, nameIndex := 46, descriptorIndex := 47, attributes := #[] }])
  fields := #[{ name := "HI_BYTE_SHIFT", type := .int, accessFlags := 26, slot := 0, constantValue := 0 }, { name := "LO_BYTE_SHIFT", type := .int, accessFlags := 26, slot := 1, constantValue := 0 }, { name := "MAX_LENGTH", type := .int, accessFlags := 24, slot := 2, constantValue := 0 }, { name := "$assertionsDisabled", type := .boolean, accessFlags := 4120, slot := 3, constantValue := 0 }]
  methods := #[k8m0, k8m1, k8m2, k8m3]
  instanceTypes := #[]
  staticTypes := #[.int, .int, .int, .boolean]
  resolved := Array.replicate 635 none
  statics := none }

def pool9 : Array CpInfo := pool [(1, .methodref 2 3), (0, .class_ 4), (0, .nameAndType 5 6), (0, u "java/lang/Object"), (0, u "<init>"), (0, u "()V"), (0, .class_ 8), (0, u "java/lang/Record")] 13

def k9c0 : Code := { maxStack := 1, maxLocals := 1, code := jdk_30_method_1_code, exceptionTable := #[], attributes := #[] }
def k9m0 : Method := { name := "<init>", desc := "()V", sig := { parameters := [], returnType := none }, accessFlags := 4, code := some k9c0 }
/-- java/lang/Record -/
def k9 : Class := { plain "java/lang/Record" (some 0) with
  accessFlags := 1057
  interfaces := #[]
  cf := some (fileOf pool9 7 #[] #[{ accessFlags := 4, nameIndex := 5, descriptorIndex := 6, attributes := #[] }] 1057 2 #[] #[])
  fields := #[]
  methods := #[k9m0]
  instanceTypes := #[]
  staticTypes := #[]
  resolved := Array.replicate 22 none
  statics := none }

def pool10 : Array CpInfo := pool [(1, .methodref 2 3), (0, .class_ 4), (0, .nameAndType 5 6), (0, u "java/lang/Record"), (0, u "<init>"), (0, u "()V"), (0, .fieldref 8 9), (0, .class_ 10), (0, .nameAndType 11 12), (0, u "com/example/rolelint/rolelint/rules/Finding"), (0, u "line"), (0, u "I"), (0, .fieldref 8 14), (0, .nameAndType 15 16), (0, u "rule"), (0, u "Ljava/lang/String;"), (0, .fieldref 8 18), (0, .nameAndType 19 16), (0, u "text"), (4, .methodref 8 25), (0, .nameAndType 5 26), (0, u "(ILjava/lang/String;Ljava/lang/String;)V"), (9, u "()Ljava/lang/String;"), (20, .class_ 58), (0, u "java/lang/Comparable"), (3, u "at"), (0, u "(I)Lcom/example/rolelint/rolelint/rules/Finding;"), (1, u "()I")] 34

def k10c0 : Code := { maxStack := 2, maxLocals := 4, code := prog_70_method_1_code, exceptionTable := #[], attributes := #[] }
def k10m0 : Method := { name := "<init>", desc := "(ILjava/lang/String;Ljava/lang/String;)V", sig := { parameters := [.int, (.object "java/lang/String"), (.object "java/lang/String")], returnType := none }, accessFlags := 1, code := some k10c0 }
def k10c1 : Code := { maxStack := 5, maxLocals := 2, code := prog_70_method_3_code, exceptionTable := #[], attributes := #[] }
def k10m1 : Method := { name := "at", desc := "(I)Lcom/example/rolelint/rolelint/rules/Finding;", sig := { parameters := [.int], returnType := some (.object "com/example/rolelint/rolelint/rules/Finding") }, accessFlags := 1, code := some k10c1 }
def k10c2 : Code := { maxStack := 1, maxLocals := 1, code := prog_70_method_8_code, exceptionTable := #[], attributes := #[] }
def k10m2 : Method := { name := "line", desc := "()I", sig := { parameters := [], returnType := some .int }, accessFlags := 1, code := some k10c2 }
def k10c3 : Code := { maxStack := 1, maxLocals := 1, code := prog_70_method_9_code, exceptionTable := #[], attributes := #[] }
def k10m3 : Method := { name := "rule", desc := "()Ljava/lang/String;", sig := { parameters := [], returnType := some (.object "java/lang/String") }, accessFlags := 1, code := some k10c3 }
def k10c4 : Code := { maxStack := 1, maxLocals := 1, code := prog_70_method_10_code, exceptionTable := #[], attributes := #[] }
def k10m4 : Method := { name := "text", desc := "()Ljava/lang/String;", sig := { parameters := [], returnType := some (.object "java/lang/String") }, accessFlags := 1, code := some k10c4 }
/-- com/example/rolelint/rolelint/rules/Finding -/
def k10 : Class := { plain "com/example/rolelint/rolelint/rules/Finding" (some 9) with
  accessFlags := 49
  interfaces := #[3]
  cf := some (fileOf pool10 8 #[] #[{ accessFlags := 1, nameIndex := 5, descriptorIndex := 26, attributes := #[] }, { accessFlags := 1, nameIndex := 62, descriptorIndex := 63, attributes := #[] }, { accessFlags := 1, nameIndex := 11, descriptorIndex := 65, attributes := #[] }, { accessFlags := 1, nameIndex := 15, descriptorIndex := 36, attributes := #[] }, { accessFlags := 1, nameIndex := 19, descriptorIndex := 36, attributes := #[] }] 49 2 #[57] #[{ accessFlags := 18, nameIndex := 11, descriptorIndex := 12, attributes := #[] }, { accessFlags := 18, nameIndex := 15, descriptorIndex := 16, attributes := #[] }, { accessFlags := 18, nameIndex := 19, descriptorIndex := 16, attributes := #[] }])
  fields := #[{ name := "line", type := .int, accessFlags := 18, slot := 0, constantValue := 0 }, { name := "rule", type := (.object "java/lang/String"), accessFlags := 18, slot := 1, constantValue := 0 }, { name := "text", type := (.object "java/lang/String"), accessFlags := 18, slot := 2, constantValue := 0 }]
  methods := #[k10m0, k10m1, k10m2, k10m3, k10m4]
  instanceTypes := #[.int, (.object "java/lang/String"), (.object "java/lang/String")]
  staticTypes := #[]
  resolved := Array.replicate 100 none
  statics := none }

def pool11 : Array CpInfo := pool [(4, .class_ 6), (1, u "java/lang/Object"), (0, u "<init>"), (0, u "()V"), (5, .class_ 16), (1, u "java/lang/StringLatin1"), (104, u "$assertionsDisabled"), (0, u "Z"), (98, .class_ 223), (1, u "java/lang/StringLatin1$LinesSpliterator"), (166, .class_ 391), (0, u "java/lang/StringLatin1$CharsSpliterator")] 3

def k11m0 : Method := { name := "<init>", desc := "()V", sig := { parameters := [], returnType := none }, accessFlags := 0, code := none }
/-- java/lang/StringLatin1 -/
def k11 : Class := { plain "java/lang/StringLatin1" (some 0) with
  accessFlags := 48
  interfaces := #[]
  cf := some (fileOf pool11 14 #[.nestMembers #[390, 221]] #[{ accessFlags := 0, nameIndex := 7, descriptorIndex := 8, attributes := #[] }] 48 4 #[] #[{ accessFlags := 4120, nameIndex := 121, descriptorIndex := 122, attributes := #[] }])
  fields := #[{ name := "$assertionsDisabled", type := .boolean, accessFlags := 4120, slot := 0, constantValue := 0 }]
  methods := #[k11m0]
  instanceTypes := #[]
  staticTypes := #[.boolean]
  resolved := Array.replicate 395 none
  statics := none }

def pool12 : Array CpInfo := pool [(2, .class_ 4), (1, u "java/lang/Object"), (0, u "<init>"), (0, u "()V"), (17, .class_ 26), (1, u "jdk/internal/util/Preconditions"), (28, .class_ 56), (0, u "jdk/internal/util/Preconditions$4"), (57, .class_ 115), (0, u "jdk/internal/util/Preconditions$1"), (7, u "SIOOBE_FORMATTER"), (0, u "Ljava/util/function/BiFunction;"), (0, .class_ 126), (0, u "jdk/internal/util/Preconditions$2"), (3, u "AIOOBE_FORMATTER"), (0, .class_ 132), (0, u "jdk/internal/util/Preconditions$3"), (3, u "IOOBE_FORMATTER")] 57

def k12m0 : Method := { name := "<init>", desc := "()V", sig := { parameters := [], returnType := none }, accessFlags := 1, code := none }
/-- jdk/internal/util/Preconditions -/
def k12 : Class := { plain "jdk/internal/util/Preconditions" (some 0) with
  accessFlags := 33
  interfaces := #[]
  cf := some (fileOf pool12 24 #[.nestMembers #[55, 131, 125, 114]] #[{ accessFlags := 1, nameIndex := 5, descriptorIndex := 6, attributes := #[] }] 33 2 #[] #[{ accessFlags := 25, nameIndex := 123, descriptorIndex := 124, attributes := #[] }, { accessFlags := 25, nameIndex := 130, descriptorIndex := 124, attributes := #[] }, { accessFlags := 25, nameIndex := 136, descriptorIndex := 124, attributes := #[] }])
  fields := #[{ name := "SIOOBE_FORMATTER", type := (.object "java/util/function/BiFunction"), accessFlags := 25, slot := 0, constantValue := 0 }, { name := "AIOOBE_FORMATTER", type := (.object "java/util/function/BiFunction"), accessFlags := 25, slot := 1, constantValue := 0 }, { name := "IOOBE_FORMATTER", type := (.object "java/util/function/BiFunction"), accessFlags := 25, slot := 2, constantValue := 0 }]
  methods := #[k12m0]
  instanceTypes := #[]
  staticTypes := #[(.object "java/util/function/BiFunction"), (.object "java/util/function/BiFunction"), (.object "java/util/function/BiFunction")]
  resolved := Array.replicate 194 none
  statics := some 1 }

def pool13 : Array CpInfo := pool [(9, u "<init>"), (6, .class_ 18), (1, u "java/lang/Object"), (0, u "()V"), (1, .class_ 23), (1, u "jdk/internal/util/ArraysSupport"), (0, u "LOG2_ARRAY_LONG_INDEX_SCALE"), (0, u "I"), (2, u "U"), (0, u "Ljdk/internal/misc/Unsafe;"), (8, u "BIG_ENDIAN"), (0, u "Z"), (8, u "LOG2_BYTE_BIT_SIZE"), (4, u "LOG2_ARRAY_INT_INDEX_SCALE"), (54, u "JLA"), (0, u "Ljdk/internal/access/JavaLangAccess;"), (11, u "LOG2_ARRAY_BOOLEAN_INDEX_SCALE"), (9, u "LOG2_ARRAY_BYTE_INDEX_SCALE"), (5, u "LOG2_ARRAY_CHAR_INDEX_SCALE"), (5, u "LOG2_ARRAY_SHORT_INDEX_SCALE"), (18, u "LOG2_ARRAY_FLOAT_INDEX_SCALE"), (24, u "LOG2_ARRAY_DOUBLE_INDEX_SCALE"), (89, u "T_BOOLEAN"), (2, u "T_CHAR"), (1, u "T_FLOAT"), (1, u "T_DOUBLE"), (1, u "T_BYTE"), (1, u "T_SHORT"), (1, u "T_INT"), (1, u "T_LONG"), (1, u "SOFT_MAX_ARRAY_LENGTH")] 83

def k13m0 : Method := { name := "<init>", desc := "()V", sig := { parameters := [], returnType := none }, accessFlags := 2, code := none }
/-- jdk/internal/util/ArraysSupport -/
def k13 : Class := { plain "jdk/internal/util/ArraysSupport" (some 0) with
  accessFlags := 33
  interfaces := #[]
  cf := some (fileOf pool13 21 #[] #[{ accessFlags := 2, nameIndex := 9, descriptorIndex := 19, attributes := #[] }] 33 16 #[] #[{ accessFlags := 24, nameIndex := 28, descriptorIndex := 29, attributes := #[] }, { accessFlags := 26, nameIndex := 38, descriptorIndex := 39, attributes := #[] }, { accessFlags := 25, nameIndex := 121, descriptorIndex := 25, attributes := #[] }, { accessFlags := 25, nameIndex := 131, descriptorIndex := 25, attributes := #[] }, { accessFlags := 25, nameIndex := 137, descriptorIndex := 25, attributes := #[] }, { accessFlags := 25, nameIndex := 143, descriptorIndex := 25, attributes := #[] }, { accessFlags := 25, nameIndex := 53, descriptorIndex := 25, attributes := #[] }, { accessFlags := 25, nameIndex := 24, descriptorIndex := 25, attributes := #[] }, { accessFlags := 25, nameIndex := 162, descriptorIndex := 25, attributes := #[] }, { accessFlags := 25, nameIndex := 187, descriptorIndex := 25, attributes := #[] }, { accessFlags := 26, nameIndex := 48, descriptorIndex := 25, attributes := #[] }, { accessFlags := 25, nameIndex := 277, descriptorIndex := 25, attributes := #[] }, { accessFlags := 25, nameIndex := 280, descriptorIndex := 25, attributes := #[] }, { accessFlags := 25, nameIndex := 282, descriptorIndex := 25, attributes := #[] }, { accessFlags := 25, nameIndex := 284, descriptorIndex := 25, attributes := #[] }, { accessFlags := 25, nameIndex := 286, descriptorIndex := 25, attributes := #[] }, { accessFlags := 25, nameIndex := 288, descriptorIndex := 25, attributes := #[] }, { accessFlags := 25, nameIndex := 290, descriptorIndex := 25, attributes := #[] }, { accessFlags := 25, nameIndex := 292, descriptorIndex := 25, attributes := #[] }, { accessFlags := 26, nameIndex := 108, descriptorIndex := 109, attributes := #[] }, { accessFlags := 25, nameIndex := 294, descriptorIndex := 25, attributes := #[] }])
  fields := #[{ name := "U", type := (.object "jdk/internal/misc/Unsafe"), accessFlags := 24, slot := 0, constantValue := 0 }, { name := "BIG_ENDIAN", type := .boolean, accessFlags := 26, slot := 1, constantValue := 0 }, { name := "LOG2_ARRAY_BOOLEAN_INDEX_SCALE", type := .int, accessFlags := 25, slot := 2, constantValue := 0 }, { name := "LOG2_ARRAY_BYTE_INDEX_SCALE", type := .int, accessFlags := 25, slot := 3, constantValue := 0 }, { name := "LOG2_ARRAY_CHAR_INDEX_SCALE", type := .int, accessFlags := 25, slot := 4, constantValue := 0 }, { name := "LOG2_ARRAY_SHORT_INDEX_SCALE", type := .int, accessFlags := 25, slot := 5, constantValue := 0 }, { name := "LOG2_ARRAY_INT_INDEX_SCALE", type := .int, accessFlags := 25, slot := 6, constantValue := 0 }, { name := "LOG2_ARRAY_LONG_INDEX_SCALE", type := .int, accessFlags := 25, slot := 7, constantValue := 0 }, { name := "LOG2_ARRAY_FLOAT_INDEX_SCALE", type := .int, accessFlags := 25, slot := 8, constantValue := 0 }, { name := "LOG2_ARRAY_DOUBLE_INDEX_SCALE", type := .int, accessFlags := 25, slot := 9, constantValue := 0 }, { name := "LOG2_BYTE_BIT_SIZE", type := .int, accessFlags := 26, slot := 10, constantValue := 0 }, { name := "T_BOOLEAN", type := .int, accessFlags := 25, slot := 11, constantValue := 0 }, { name := "T_CHAR", type := .int, accessFlags := 25, slot := 12, constantValue := 0 }, { name := "T_FLOAT", type := .int, accessFlags := 25, slot := 13, constantValue := 0 }, { name := "T_DOUBLE", type := .int, accessFlags := 25, slot := 14, constantValue := 0 }, { name := "T_BYTE", type := .int, accessFlags := 25, slot := 15, constantValue := 0 }, { name := "T_SHORT", type := .int, accessFlags := 25, slot := 16, constantValue := 0 }, { name := "T_INT", type := .int, accessFlags := 25, slot := 17, constantValue := 0 }, { name := "T_LONG", type := .int, accessFlags := 25, slot := 18, constantValue := 0 }, { name := "JLA", type := (.object "jdk/internal/access/JavaLangAccess"), accessFlags := 26, slot := 19, constantValue := 0 }, { name := "SOFT_MAX_ARRAY_LENGTH", type := .int, accessFlags := 25, slot := 20, constantValue := 0 }]
  methods := #[k13m0]
  instanceTypes := #[]
  staticTypes := #[(.object "jdk/internal/misc/Unsafe"), .boolean, .int, .int, .int, .int, .int, .int, .int, .int, .int, .int, .int, .int, .int, .int, .int, .int, .int, (.object "jdk/internal/access/JavaLangAccess"), .int]
  resolved := Array.replicate 378 none
  statics := none }

def pool14 : Array CpInfo := pool [(1, u "java/lang/Cloneable"), (0, .class_ 1), (0, u "java/lang/Object"), (0, .class_ 3)] 3

/-- java/lang/Cloneable -/
def k14 : Class := { plain "java/lang/Cloneable" (some 0) with
  accessFlags := 1537
  interfaces := #[]
  cf := some (fileOf pool14 2 #[] #[] 1537 4 #[] #[])
  fields := #[]
  methods := #[]
  instanceTypes := #[]
  staticTypes := #[]
  resolved := Array.replicate 8 none
  statics := none }

/-- the primitive byte -/
def k15 : Class := { plain "byte" none with kind := .primitive 'B', accessFlags := 0x411 }
/-- [B -/
def k16 : Class := { plain "[B" (some 0) with kind := .array 15 .byte, interfaces := #[14, 2], accessFlags := 1041 }

/-- the primitive char -/
def k17 : Class := { plain "char" none with kind := .primitive 'C', accessFlags := 0x411 }
/-- [C -/
def k18 : Class := { plain "[C" (some 0) with kind := .array 17 .char, interfaces := #[14, 2], accessFlags := 1041 }

/-- the primitive int -/
def k19 : Class := { plain "int" none with kind := .primitive 'I', accessFlags := 0x411 }
/-- [I -/
def k20 : Class := { plain "[I" (some 0) with kind := .array 19 .int, interfaces := #[14, 2], accessFlags := 1041 }

def heap : Heap := #[{ cls := 7, slots := #[.long 0, .int 1, .null, .int 0, .null, .int 0, .int 0], vm := .statics 7 },
  { cls := 12, slots := #[.null, .null, .null], vm := .statics 12 }]
def classes : Array Class := #[k0, k1, k2, k3, k4, k5, k6, k7, k8, k9, k10, k11, k12, k13, k14, k15, k16, k17, k18, k19, k20]
def interned : List (Array UInt16 × Addr) := []
def slotsUsed : Nat := 10
def theMethod : MethodId := ⟨1, 1⟩
def args0 : Array Value := #[.int 1, .int 2, .int 3, .int 4]
def aboutOver (below : List Frame) : State where
  vm := { classes := classes, interned := interned.toArray }
  heap := heap
  slotsUsed := slotsUsed
  threads := #[{ frames := .invoking theMethod args0 :: below }]
def below0 : List Frame := [.native { method := ⟨0, 0⟩, args := #[] }]
def about1 : State := aboutOver below0
def p0 : Program := .bare "" "" ""
def e0 : Env := launch0.env 0 0 0
theorem w_frames : about1.frames = Frame.invoking theMethod args0 :: below0 := rfl
set_option maxRecDepth 65536 in
theorem w_args : argsFit about1.vm theMethod args0 = true := by decide +kernel
set_option maxRecDepth 65536 in
theorem w_heap : heapFits about1 = true := by decide +kernel
set_option maxRecDepth 65536 in
theorem w_runnable : about1.curStatus? = some .runnable := by decide +kernel
set_option maxRecDepth 65536 in
theorem w_alone : about1.alone = true := by decide +kernel
set_option maxRecDepth 65536 in
theorem w_named : about1.methodNamed? x = some theMethod := by decide +kernel
set_option maxRecDepth 65536 in
theorem w_hears : about1.hears theMethod below0 = true := by decide +kernel
set_option maxRecDepth 65536 in
theorem w_ripe : about1.ripe theMethod args0 below0 = true := by decide +kernel
theorem w_running : about1.status = .running := rfl
set_option maxRecDepth 65536 in
theorem w_room : about1.hasRoom e0.platform room_1 = true :=
  launch0.hasRoom_least _ room_1 (by decide +kernel) (by decide +kernel) (by decide +kernel) (by decide +kernel) (by decide +kernel) (by decide +kernel)
theorem allAtoms_all (ts : List Jvm.Cond) (a : Array Jvm.Value) (st : Jvm.State) : (allAtoms ts).before a st = ts.all (fun c => c.before a st) := by
  induction ts with
  | nil => rfl
  | cons c t ih =>
    show (Jvm.Cond.and c (allAtoms t)).before a st = _
    rw [Jvm.Cond.before_and, ih, List.all_cons]
def words1 : List Jvm.Cond := Jvm.Cond.code x code maxLocals ret :: tables_1
/-- a 'code' word, met by the world's own term for the bytes: nothing is compared byte by byte -/
theorem code_word {y : MethodName} {bytes : ByteArray} {mx : Nat} {rt : Option FieldType} {a : Array Value} {s : State} {m : MethodId} {meth : Method} {c : Code} (h1 : s.methodNamed? y = some m) (h2 : s.vm.method? m = some meth) (h3 : meth.code = some c) (h4 : c.code = bytes)
    (h5 : (c.maxLocals == mx && c.exceptionTable.isEmpty && decide (c.maxStack ≤ mostOperands) && decide (meth.sig.returnType = rt) && !meth.locks && decide (parseMethodDescriptor y.desc = some meth.sig)) = true) : (Jvm.Cond.code y bytes mx rt).before a s = true := by
  simp only [Bool.and_eq_true, beq_iff_eq, Bool.not_eq_true', decide_eq_true_eq] at h5
  obtain ⟨⟨⟨⟨⟨g1, g2⟩, g3⟩, g4⟩, g5⟩, g6⟩ := h5
  simp [Cond.before, Cond.holds, Cond.value, h1, h2, h3, h4, g1, g2, g3, g4, g5, g6]
def isCode : Jvm.Cond → Bool
  | .code _ _ _ _ => true
  | _ => false
theorem all_split {L : List Jvm.Cond} {P : Jvm.Cond → Bool} (h1 : L.all (fun c => isCode c || P c) = true) (h2 : ∀ c ∈ L.filter isCode, P c = true) : L.all P = true := by
  refine List.all_eq_true.mpr fun c hc => ?_
  have h := List.all_eq_true.mp h1 c hc
  rcases Bool.eq_false_or_eq_true (isCode c) with hi | hi
  · exact h2 c (List.mem_filter.mpr ⟨hc, hi⟩)
  · simpa [hi] using h
set_option maxRecDepth 65536 in
theorem w_c0 : (Jvm.Cond.code x code maxLocals ret).before args0 about1 = true := code_word (m := ⟨1, 1⟩) (meth := k1m1) (c := k1c1) (by decide +kernel) rfl rfl rfl (by decide +kernel)
set_option maxRecDepth 65536 in
theorem w_c1 : (Jvm.Cond.code ({ cls := "java/lang/String", name := "<init>", desc := "([C)V" } : Jvm.MethodName) jdk_42_method_3_code (2 : Nat) (Option.none : Option Jvm.ClassFile.FieldType)).before args0 about1 = true := code_word (m := ⟨7, 1⟩) (meth := k7m1) (c := k7c1) (by decide +kernel) rfl rfl rfl (by decide +kernel)
set_option maxRecDepth 65536 in
theorem w_c2 : (Jvm.Cond.code ({ cls := "java/lang/String", name := "<init>", desc := "([CIILjava/lang/Void;)V" } : Jvm.MethodName) jdk_42_method_149_code (6 : Nat) (Option.none : Option Jvm.ClassFile.FieldType)).before args0 about1 = true := code_word (m := ⟨7, 3⟩) (meth := k7m3) (c := k7c3) (by decide +kernel) rfl rfl rfl (by decide +kernel)
set_option maxRecDepth 65536 in
theorem w_c3 : (Jvm.Cond.code ({ cls := "java/lang/Object", name := "<init>", desc := "()V" } : Jvm.MethodName) object_method_1_code (1 : Nat) (Option.none : Option Jvm.ClassFile.FieldType)).before args0 about1 = true := code_word (m := ⟨0, 0⟩) (meth := k0m0) (c := k0c0) (by decide +kernel) rfl rfl rfl (by decide +kernel)
set_option maxRecDepth 65536 in
theorem w_c4 : (Jvm.Cond.code ({ cls := "java/lang/StringUTF16", name := "compress", desc := "([CII)[B" } : Jvm.MethodName) jdk_52_method_16_code (6 : Nat) (Option.some (Jvm.ClassFile.FieldType.array Jvm.ClassFile.FieldType.byte))).before args0 about1 = true := code_word (m := ⟨8, 2⟩) (meth := k8m2) (c := k8c2) (by decide +kernel) rfl rfl rfl (by decide +kernel)
set_option maxRecDepth 65536 in
theorem w_c5 : (Jvm.Cond.code ({ cls := "java/lang/StringUTF16", name := "compress", desc := "([CI[BII)I" } : Jvm.MethodName) jdk_52_method_21_code (7 : Nat) (Option.some Jvm.ClassFile.FieldType.int)).before args0 about1 = true := code_word (m := ⟨8, 3⟩) (meth := k8m3) (c := k8c3) (by decide +kernel) rfl rfl rfl (by decide +kernel)
set_option maxRecDepth 65536 in
theorem w_c6 : (Jvm.Cond.code ({ cls := "java/lang/StringUTF16", name := "coderFromArrayLen", desc := "([BI)B" } : Jvm.MethodName) jdk_52_method_15_code (2 : Nat) (Option.some Jvm.ClassFile.FieldType.byte)).before args0 about1 = true := code_word (m := ⟨8, 1⟩) (meth := k8m1) (c := k8c1) (by decide +kernel) rfl rfl rfl (by decide +kernel)
set_option maxRecDepth 65536 in
theorem w_c7 : (Jvm.Cond.code ({ cls := "com/example/rolelint/rolelint/rules/Finding", name := "<init>", desc := "(ILjava/lang/String;Ljava/lang/String;)V" } : Jvm.MethodName) prog_70_method_1_code (4 : Nat) (Option.none : Option Jvm.ClassFile.FieldType)).before args0 about1 = true := code_word (m := ⟨10, 0⟩) (meth := k10m0) (c := k10c0) (by decide +kernel) rfl rfl rfl (by decide +kernel)
set_option maxRecDepth 65536 in
theorem w_c8 : (Jvm.Cond.code ({ cls := "java/lang/Record", name := "<init>", desc := "()V" } : Jvm.MethodName) jdk_30_method_1_code (1 : Nat) (Option.none : Option Jvm.ClassFile.FieldType)).before args0 about1 = true := code_word (m := ⟨9, 0⟩) (meth := k9m0) (c := k9c0) (by decide +kernel) rfl rfl rfl (by decide +kernel)
set_option maxRecDepth 65536 in
theorem w_c9 : (Jvm.Cond.code ({ cls := "com/example/rolelint/rolelint/rules/Finding", name := "at", desc := "(I)Lcom/example/rolelint/rolelint/rules/Finding;" } : Jvm.MethodName) prog_70_method_3_code (2 : Nat) (Option.some (Jvm.ClassFile.FieldType.object "com/example/rolelint/rolelint/rules/Finding"))).before args0 about1 = true := code_word (m := ⟨10, 1⟩) (meth := k10m1) (c := k10c1) (by decide +kernel) rfl rfl rfl (by decide +kernel)
set_option maxRecDepth 65536 in
theorem w_c10 : (Jvm.Cond.code ({ cls := "com/example/rolelint/rolelint/rules/Finding", name := "line", desc := "()I" } : Jvm.MethodName) prog_70_method_8_code (1 : Nat) (Option.some Jvm.ClassFile.FieldType.int)).before args0 about1 = true := code_word (m := ⟨10, 2⟩) (meth := k10m2) (c := k10c2) (by decide +kernel) rfl rfl rfl (by decide +kernel)
set_option maxRecDepth 65536 in
theorem w_c11 : (Jvm.Cond.code ({ cls := "com/example/rolelint/rolelint/rules/Finding", name := "rule", desc := "()Ljava/lang/String;" } : Jvm.MethodName) prog_70_method_9_code (1 : Nat) (Option.some (Jvm.ClassFile.FieldType.object "java/lang/String"))).before args0 about1 = true := code_word (m := ⟨10, 3⟩) (meth := k10m3) (c := k10c3) (by decide +kernel) rfl rfl rfl (by decide +kernel)
set_option maxRecDepth 65536 in
theorem w_c12 : (Jvm.Cond.code ({ cls := "java/lang/String", name := "equals", desc := "(Ljava/lang/Object;)Z" } : Jvm.MethodName) jdk_42_method_66_code (3 : Nat) (Option.some Jvm.ClassFile.FieldType.boolean)).before args0 about1 = true := code_word (m := ⟨7, 2⟩) (meth := k7m2) (c := k7c2) (by decide +kernel) rfl rfl rfl (by decide +kernel)
set_option maxRecDepth 65536 in
theorem w_c13 : (Jvm.Cond.code ({ cls := "com/example/rolelint/rolelint/rules/Finding", name := "text", desc := "()Ljava/lang/String;" } : Jvm.MethodName) prog_70_method_10_code (1 : Nat) (Option.some (Jvm.ClassFile.FieldType.object "java/lang/String"))).before args0 about1 = true := code_word (m := ⟨10, 4⟩) (meth := k10m4) (c := k10c4) (by decide +kernel) rfl rfl rfl (by decide +kernel)
def codes1 : List Jvm.Cond := [Jvm.Cond.code x code maxLocals ret, Jvm.Cond.code ({ cls := "java/lang/String", name := "<init>", desc := "([C)V" } : Jvm.MethodName) jdk_42_method_3_code (2 : Nat) (Option.none : Option Jvm.ClassFile.FieldType), Jvm.Cond.code ({ cls := "java/lang/String", name := "<init>", desc := "([CIILjava/lang/Void;)V" } : Jvm.MethodName) jdk_42_method_149_code (6 : Nat) (Option.none : Option Jvm.ClassFile.FieldType), Jvm.Cond.code ({ cls := "java/lang/Object", name := "<init>", desc := "()V" } : Jvm.MethodName) object_method_1_code (1 : Nat) (Option.none : Option Jvm.ClassFile.FieldType), Jvm.Cond.code ({ cls := "java/lang/StringUTF16", name := "compress", desc := "([CII)[B" } : Jvm.MethodName) jdk_52_method_16_code (6 : Nat) (Option.some (Jvm.ClassFile.FieldType.array Jvm.ClassFile.FieldType.byte)), Jvm.Cond.code ({ cls := "java/lang/StringUTF16", name := "compress", desc := "([CI[BII)I" } : Jvm.MethodName) jdk_52_method_21_code (7 : Nat) (Option.some Jvm.ClassFile.FieldType.int), Jvm.Cond.code ({ cls := "java/lang/StringUTF16", name := "coderFromArrayLen", desc := "([BI)B" } : Jvm.MethodName) jdk_52_method_15_code (2 : Nat) (Option.some Jvm.ClassFile.FieldType.byte), Jvm.Cond.code ({ cls := "com/example/rolelint/rolelint/rules/Finding", name := "<init>", desc := "(ILjava/lang/String;Ljava/lang/String;)V" } : Jvm.MethodName) prog_70_method_1_code (4 : Nat) (Option.none : Option Jvm.ClassFile.FieldType), Jvm.Cond.code ({ cls := "java/lang/Record", name := "<init>", desc := "()V" } : Jvm.MethodName) jdk_30_method_1_code (1 : Nat) (Option.none : Option Jvm.ClassFile.FieldType), Jvm.Cond.code ({ cls := "com/example/rolelint/rolelint/rules/Finding", name := "at", desc := "(I)Lcom/example/rolelint/rolelint/rules/Finding;" } : Jvm.MethodName) prog_70_method_3_code (2 : Nat) (Option.some (Jvm.ClassFile.FieldType.object "com/example/rolelint/rolelint/rules/Finding")), Jvm.Cond.code ({ cls := "com/example/rolelint/rolelint/rules/Finding", name := "line", desc := "()I" } : Jvm.MethodName) prog_70_method_8_code (1 : Nat) (Option.some Jvm.ClassFile.FieldType.int), Jvm.Cond.code ({ cls := "com/example/rolelint/rolelint/rules/Finding", name := "rule", desc := "()Ljava/lang/String;" } : Jvm.MethodName) prog_70_method_9_code (1 : Nat) (Option.some (Jvm.ClassFile.FieldType.object "java/lang/String")), Jvm.Cond.code ({ cls := "java/lang/String", name := "equals", desc := "(Ljava/lang/Object;)Z" } : Jvm.MethodName) jdk_42_method_66_code (3 : Nat) (Option.some Jvm.ClassFile.FieldType.boolean), Jvm.Cond.code ({ cls := "com/example/rolelint/rolelint/rules/Finding", name := "text", desc := "()Ljava/lang/String;" } : Jvm.MethodName) prog_70_method_10_code (1 : Nat) (Option.some (Jvm.ClassFile.FieldType.object "java/lang/String"))]
set_option maxRecDepth 65536 in
theorem codes_eq : words1.filter isCode = codes1 := rfl
theorem w_codes : ∀ c ∈ words1.filter isCode, c.before args0 about1 = true := by
  rw [codes_eq]
  intro c hc
  simp only [codes1, List.mem_cons, List.not_mem_nil, or_false] at hc
  rcases hc with rfl | rfl | rfl | rfl | rfl | rfl | rfl | rfl | rfl | rfl | rfl | rfl | rfl | rfl
  · exact w_c0
  · exact w_c1
  · exact w_c2
  · exact w_c3
  · exact w_c4
  · exact w_c5
  · exact w_c6
  · exact w_c7
  · exact w_c8
  · exact w_c9
  · exact w_c10
  · exact w_c11
  · exact w_c12
  · exact w_c13
set_option maxRecDepth 65536 in
theorem w_t1 : (words1.take 24).all (fun c => isCode c || c.before args0 about1) = true := by decide +kernel
set_option maxRecDepth 65536 in
theorem w_t2 : ((words1.drop 24).take 24).all (fun c => isCode c || c.before args0 about1) = true := by decide +kernel
set_option maxRecDepth 65536 in
theorem w_t3 : (((words1.drop 24).drop 24).take 24).all (fun c => isCode c || c.before args0 about1) = true := by decide +kernel
set_option maxRecDepth 65536 in
theorem w_t4 : (((words1.drop 24).drop 24).drop 24).all (fun c => isCode c || c.before args0 about1) = true := by decide +kernel
theorem w_tables : (allAtoms (Jvm.Cond.code x code maxLocals ret :: tables_1)).before args0 about1 = true := by
  rw [allAtoms_all]
  show words1.all (fun c => c.before args0 about1) = true
  refine all_split ?_ w_codes
  rw [← List.take_append_drop 24 words1, List.all_append, w_t1, ← List.take_append_drop 24 (words1.drop 24), List.all_append, w_t2, ← List.take_append_drop 24 ((words1.drop 24).drop 24), List.all_append, w_t3, w_t4]
  rfl
set_option maxRecDepth 65536 in
theorem w_rest : rest_1_c.before args0 about1 = true := by decide +kernel
set_option maxRecDepth 65536 in
theorem w_case : (Jvm.Cond.and given_1 narrow_1).before args0 about1 = true := by decide +kernel
theorem w_applies : (headSpec (Jvm.Cond.code x code maxLocals ret :: tables_1) room_1).applies x e0.platform about1 = true :=
  (Spec.applies_iff w_frames).mpr ⟨w_running, w_runnable, w_alone, w_named, w_hears, w_ripe, w_room, w_tables⟩
theorem atStart : AtStart classFile x code maxLocals ret World_1 tables_1 room_1 Calls_1 rest_1 Pre_1 launch0 p0 e0 about1 theMethod args0 below0 :=
  ⟨lists_1, trivial, launch0.admits_env _ _ _, launch0.least_env, fairChoices_fair.cas, fairChoices_fair.clock, w_frames, w_args, w_heap, w_applies, trivial, w_rest, w_case⟩
end start1
theorem witness_1 : WitnessClaimed_1 := ⟨start1.p0, start1.e0, start1.about1, start1.theMethod, start1.args0, start1.below0, start1.atStart⟩
end Jvm.Pilot.@@N@@
