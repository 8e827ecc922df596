import JvmDerived
import JvmDerived.Pilot.@@N@@Statement
import JvmDerived.Pilot.@@N@@Code
set_option linter.unusedVariables false
set_option linter.unusedSimpArgs false
namespace Jvm.Pilot.@@N@@
open Jvm Jvm.ClassFile Sem Op Lib Jvm.Free Jvm.Stand Jvm.LawKit Jvm.RoadKit Bundle Jvm.Pilot.@@N@@.Jvm.D
theorem own_cast {tb : Tables} {e : Env} {below : List Frame} {T : State} {g g' : JFrame} {t : State} (q : g = g') (k : Steps tb e below (T.setTop g') t) : Steps tb e below (T.setTop g) t := q ▸ k
section Own
variable {p : Program} {l : Launch} {e : Env} {R : Room} {s : State} {m : MethodId} {args : Array Value} {below : List Frame} {meth : Method} {c : Code} {T T' : State} {locs : List Loc} {cells slots : Nat} {g g' : JFrame} {K : Outcome → State → Prop} {h : Heap}
/-- the run from T with g on top comes to an end at which K holds -/
def own_Go (p : Program) (e : Env) (below : List Frame) (K : Outcome → State → Prop) (T : State) (g : JFrame) : Prop := ∃ t o, Steps p.tables e below (T.setTop g) t ∧ t.status = .running ∧ Ended t below o ∧ K o t
def own_K (s : State) (Q : Option Value → Heap → List Loc → Prop) (kc ks : Nat) : Outcome → State → Prop := fun o t => ∃ v L, o = .returned v ∧ Q v t.heap L ∧ FrameEnd s o t L kc ks
theorem own_st (k : ∀ t, Steps p.tables e below (T'.setTop g') t → Steps p.tables e below (T.setTop g) t) (h : own_Go p e below K T' g') : own_Go p e below K T g := by
  obtain ⟨t, o, h1, h2⟩ := h; exact ⟨t, o, k t h1, h2⟩
theorem own_tr (k : Steps p.tables e below (T.setTop g) (T'.setTop g')) (h : own_Go p e below K T' g') : own_Go p e below K T g := by
  obtain ⟨t, o, h1, h2⟩ := h; exact ⟨t, o, k.trans h1, h2⟩
theorem own_in (q : g = g') (h : own_Go p e below K T g') : ∃ t o, Steps p.tables e below (T.setTop g) t ∧ t.status = .running ∧ Ended t below o ∧ K o t := by
  obtain ⟨t, o, h1, h2⟩ := h; exact ⟨t, o, own_cast q h1, h2⟩
variable {Q : Option Value → Heap → List Loc → Prop} {kc ks pc : Nat} {Ls : Array Slot} {rest : List Value} {x : MethodName} {S : Spec} {code : ByteArray} {maxLocals : Nat} {s₁ : State}
theorem own_end (X : Stand p l e R s m args below meth c T locs cells slots) {v : Option Value} (hv : meth.sig.returnType = none → v = none) (hlk : meth.locks = false) (eT : T.heap = h) (hQ : Q v h locs) (hc : cells ≤ kc) (hs : slots ≤ ks)
    (k : ∀ fs, (∀ (f : JFrame) (acts : List Action), f.method = m → f.locked = none → f.entered = [] → (doReturn e (T.setTop f) acts v).1 = T.setFrames fs) → Steps p.tables e below (T.setTop g) (T.setFrames fs)) : own_Go p e below (own_K s Q kc ks) T g := by
  obtain ⟨fs, hr, hrun, hended, hW, hsame⟩ := X.leave (v := v) hv hlk
  refine ⟨_, _, k fs hr, hrun, hended, v, locs, rfl, ?_, ⟨_, rfl⟩, hW, hsame.mono hc hs⟩
  show Q v T.heap locs
  rw [eT]; exact hQ
theorem own_retI (X : Stand p l e R s m args below meth c T locs cells slots) (hx : p.tables.exec = Jvm.exec) (Bd : BodyLoose p l x S code maxLocals (some .int) e s m args below meth c s₁) {z : Int32} (hd : decode c.code pc = .ok (.ireturn, 1)) (eT : T.heap = h) (hQ : Q (some (.int z)) h locs) (hc : cells ≤ kc) (hs : slots ≤ ks) :
    own_Go p e below (own_K s Q kc ks) T (mkF m pc Ls (.int z :: rest)) :=
  own_end X (fun h => by rw [Bd.returns] at h; cases h) Bd.notSynchronized eT hQ hc hs fun fs hr => retOut X hx Bd.returns rfl (Or.inl ⟨rfl, Or.inl rfl, z, rfl⟩) hd hr
theorem own_retJ (X : Stand p l e R s m args below meth c T locs cells slots) (hx : p.tables.exec = Jvm.exec) (Bd : BodyLoose p l x S code maxLocals (some .long) e s m args below meth c s₁) {z : Int64} (hd : decode c.code pc = .ok (.lreturn, 1)) (eT : T.heap = h) (hQ : Q (some (.long z)) h locs) (hc : cells ≤ kc) (hs : slots ≤ ks) :
    own_Go p e below (own_K s Q kc ks) T (mkF m pc Ls (.long z :: rest)) :=
  own_end X (fun h => by rw [Bd.returns] at h; cases h) Bd.notSynchronized eT hQ hc hs fun fs hr => retOut X hx Bd.returns rfl (Or.inr (Or.inl ⟨rfl, rfl, z, rfl⟩)) hd hr
theorem own_retN (X : Stand p l e R s m args below meth c T locs cells slots) (hx : p.tables.exec = Jvm.exec) {t : FieldType} (Bd : BodyLoose p l x S code maxLocals (some t) e s m args below meth c s₁) (ht : t = .boolean ∨ t = .byte ∨ t = .char ∨ t = .short) {z : Int32} (hn : narrow t (.int z) = .int z) (hd : decode c.code pc = .ok (.ireturn, 1)) (eT : T.heap = h) (hQ : Q (some (.int z)) h locs) (hc : cells ≤ kc) (hs : slots ≤ ks) :
    own_Go p e below (own_K s Q kc ks) T (mkF m pc Ls (.int z :: rest)) :=
  own_end X (fun h => by rw [Bd.returns] at h; cases h) Bd.notSynchronized eT hQ hc hs fun fs hr => retOut X hx Bd.returns hn (Or.inl ⟨rfl, Or.inr ht, z, rfl⟩) hd hr
theorem own_retA (X : Stand p l e R s m args below meth c T locs cells slots) (hx : p.tables.exec = Jvm.exec) {t : FieldType} (Bd : BodyLoose p l x S code maxLocals (some t) e s m args below meth c s₁) (ht : t.isReference = true) {w : Value} (hw : w.isRef = true) (hd : decode c.code pc = .ok (.areturn, 1)) (eT : T.heap = h) (hQ : Q (some w) h locs) (hc : cells ≤ kc) (hs : slots ≤ ks) :
    own_Go p e below (own_K s Q kc ks) T (mkF m pc Ls (w :: rest)) :=
  own_end X (fun h => by rw [Bd.returns] at h; cases h) Bd.notSynchronized eT hQ hc hs fun fs hr => retOut X hx Bd.returns (by cases t <;> first | (cases ht; done) | rfl) (Or.inr (Or.inr (Or.inr (Or.inr ⟨rfl, ht, hw⟩)))) hd hr
theorem own_retV (X : Stand p l e R s m args below meth c T locs cells slots) (hx : p.tables.exec = Jvm.exec) (Bd : BodyLoose p l x S code maxLocals none e s m args below meth c s₁) (hd : decode c.code pc = .ok (.return_, 1)) (eT : T.heap = h) (hQ : Q none h locs) (hc : cells ≤ kc) (hs : slots ≤ ks) :
    own_Go p e below (own_K s Q kc ks) T (mkF m pc Ls []) :=
  own_end X (fun _ => rfl) Bd.notSynchronized eT hQ hc hs fun fs hr => X.returnOut hx Bd.returns hd hr
end Own
theorem own_Sta_keep {Z : State} {h h' : Heap} {C n d : String} {v : Value} {ws : List Addr} (F : Sta Z h C n d v) (K : Keep h h' ws) (q : ∀ x ∈ ws, ∀ cell : Cell, h[x]? = some cell → cell.vm.isStatics = false) : Sta Z h' C n d v := by
  obtain ⟨cf, i, k, f, st, cell, h1, h2, h3, h4, h5, h6, h7⟩ := F
  exact ⟨cf, i, k, f, st, cell, h1, h2, h3, h4, K.2.1 _ _ h5 (fun hm => by rw [q _ hm _ h5] at h6; cases h6), h6, h7⟩
theorem own_Ins_keep {Z : State} {h h' : Heap} {a : Addr} {C : String} {b : Bool} {ws : List Addr} (F : Ins Z h a C b) (K : Keep h h' ws) : Ins Z h' a C b := by
  obtain ⟨cell, cT, h1, h2, h3⟩ := F
  obtain ⟨c', e1, e2, e3, -⟩ := K.2.2 _ _ h1
  exact ⟨c', cT, e1, h2, by rw [e2, e3]; exact h3⟩
theorem own_enum {Z : State} {args : Array Value} {C D n d : String} (h : (Cond.exactly (Term.static C n d) D).value args Z none Z [] = some true) (hi : (Cond.initializedFor C n d).before args Z = true ∨ ((Cond.initialized C).before args Z = true ∧ (Cond.laysStatic C n d).before args Z = true)) :
    ∃ a, (Term.static C n d).eval args Z none [] Z = some (.ref a) ∧ Sta Z Z.heap C n d (.ref a) ∧ Exa Z Z.heap a D := by
  obtain ⟨a, e⟩ := exa_v h
  exact ⟨a, e, Sta.start e hi, Exa.start e h⟩
theorem own_ord {Z : State} {args : Array Value} {t : Term} {a : Addr} {O n d : String} {k : Int32} (e : t.eval args Z none [] Z = some (.ref a)) (h : (Cond.eq (Term.field t O n d) (Term.int k)).value args Z none Z [] = some true) : Fld Z Z.heap a O n d (.int k) := by
  refine Fld.start ?_
  have q := fld_at (C := O) (n := n) (dd := d) (first := Z) (o := none) (idx := []) (args := args) e
  obtain ⟨x, y, h1, h2, -⟩ := cmp_v (Or.inl h)
  rw [q] at h1
  have h2' : some (Value.int k) = some y := h2
  cases h2'
  cases x <;> simp [Cond.value, Term.eval, e, h1] at h
  rw [h1, h]
section OwnW
variable {p : Program} {l : Launch} {e : Env} {R : Room} {s : State} {m : MethodId} {args : Array Value} {below : List Frame} {meth : Method} {c : Code} {T T' : State} {locs : List Loc} {cells slots : Nat} {g g' : JFrame} {h : Heap} {vm : Vm} {n : Nat}
def own_KW (s : State) (Q : Option Value → Heap → List Loc → Prop) (kc ks : Nat) : Outcome → State → Prop := fun o t => ∃ v L, o = .returned v ∧ Q v t.heap L ∧ ReturnedEndW s o t L kc ks
variable {Q : Option Value → Heap → List Loc → Prop} {kc ks pc : Nat} {Ls : Array Slot} {rest : List Value} {x : MethodName} {S : Spec} {code : ByteArray} {maxLocals : Nat} {s₁ : State}
theorem own_endW (X : Stand p l e R (s.setVm vm) m args below meth c T locs cells slots) {v : Option Value} (hv : meth.sig.returnType = none → v = none) (hlk : meth.locks = false) (eT : T.heap = h) (hQ : Q v h locs) (hS : s.Since vm n) (hn : n ≤ h.size) (hc : cells ≤ kc) (hs : slots ≤ ks)
    (k : ∀ fs, (∀ (f : JFrame) (acts : List Action), f.method = m → f.locked = none → f.entered = [] → (doReturn e (T.setTop f) acts v).1 = T.setFrames fs) → Steps p.tables e below (T.setTop g) (T.setFrames fs)) : own_Go p e below (own_KW s Q kc ks) T g := by
  obtain ⟨fs, hr, hrun, hended, h1, h2, h3, h4⟩ := X.leaveW hS (by rw [eT]; exact hn) (v := v) hv hlk
  refine ⟨_, _, k fs hr, hrun, hended, v, locs, rfl, ?_, h1, h2, h3, h4.mono hc hs⟩
  show Q v T.heap locs
  rw [eT]; exact hQ
theorem own_retIW (X : Stand p l e R (s.setVm vm) m args below meth c T locs cells slots) (hx : p.tables.exec = Jvm.exec) (Bd : BodyLoose p l x S code maxLocals (some .int) e s m args below meth c s₁) {z : Int32} (hd : decode c.code pc = .ok (.ireturn, 1)) (eT : T.heap = h) (hQ : Q (some (.int z)) h locs) (hS : s.Since vm n) (hn : n ≤ h.size) (hc : cells ≤ kc) (hs : slots ≤ ks) :
    own_Go p e below (own_KW s Q kc ks) T (mkF m pc Ls (.int z :: rest)) :=
  own_endW X (fun h => by rw [Bd.returns] at h; cases h) Bd.notSynchronized eT hQ hS hn hc hs fun fs hr => retOut X hx Bd.returns rfl (Or.inl ⟨rfl, Or.inl rfl, z, rfl⟩) hd hr
theorem own_retJW (X : Stand p l e R (s.setVm vm) m args below meth c T locs cells slots) (hx : p.tables.exec = Jvm.exec) (Bd : BodyLoose p l x S code maxLocals (some .long) e s m args below meth c s₁) {z : Int64} (hd : decode c.code pc = .ok (.lreturn, 1)) (eT : T.heap = h) (hQ : Q (some (.long z)) h locs) (hS : s.Since vm n) (hn : n ≤ h.size) (hc : cells ≤ kc) (hs : slots ≤ ks) :
    own_Go p e below (own_KW s Q kc ks) T (mkF m pc Ls (.long z :: rest)) :=
  own_endW X (fun h => by rw [Bd.returns] at h; cases h) Bd.notSynchronized eT hQ hS hn hc hs fun fs hr => retOut X hx Bd.returns rfl (Or.inr (Or.inl ⟨rfl, rfl, z, rfl⟩)) hd hr
theorem own_retNW (X : Stand p l e R (s.setVm vm) m args below meth c T locs cells slots) (hx : p.tables.exec = Jvm.exec) {t : FieldType} (Bd : BodyLoose p l x S code maxLocals (some t) e s m args below meth c s₁) (ht : t = .boolean ∨ t = .byte ∨ t = .char ∨ t = .short) {z : Int32} (hn' : narrow t (.int z) = .int z) (hd : decode c.code pc = .ok (.ireturn, 1)) (eT : T.heap = h) (hQ : Q (some (.int z)) h locs) (hS : s.Since vm n) (hn : n ≤ h.size) (hc : cells ≤ kc) (hs : slots ≤ ks) :
    own_Go p e below (own_KW s Q kc ks) T (mkF m pc Ls (.int z :: rest)) :=
  own_endW X (fun h => by rw [Bd.returns] at h; cases h) Bd.notSynchronized eT hQ hS hn hc hs fun fs hr => retOut X hx Bd.returns hn' (Or.inl ⟨rfl, Or.inr ht, z, rfl⟩) hd hr
theorem own_retAW (X : Stand p l e R (s.setVm vm) m args below meth c T locs cells slots) (hx : p.tables.exec = Jvm.exec) {t : FieldType} (Bd : BodyLoose p l x S code maxLocals (some t) e s m args below meth c s₁) (ht : t.isReference = true) {w : Value} (hw : w.isRef = true) (hd : decode c.code pc = .ok (.areturn, 1)) (eT : T.heap = h) (hQ : Q (some w) h locs) (hS : s.Since vm n) (hn : n ≤ h.size) (hc : cells ≤ kc) (hs : slots ≤ ks) :
    own_Go p e below (own_KW s Q kc ks) T (mkF m pc Ls (w :: rest)) :=
  own_endW X (fun h => by rw [Bd.returns] at h; cases h) Bd.notSynchronized eT hQ hS hn hc hs fun fs hr => retOut X hx Bd.returns (by cases t <;> first | (cases ht; done) | rfl) (Or.inr (Or.inr (Or.inr (Or.inr ⟨rfl, ht, hw⟩)))) hd hr
theorem own_retVW (X : Stand p l e R (s.setVm vm) m args below meth c T locs cells slots) (hx : p.tables.exec = Jvm.exec) (Bd : BodyLoose p l x S code maxLocals none e s m args below meth c s₁) (hd : decode c.code pc = .ok (.return_, 1)) (eT : T.heap = h) (hQ : Q none h locs) (hS : s.Since vm n) (hn : n ≤ h.size) (hc : cells ≤ kc) (hs : slots ≤ ks) :
    own_Go p e below (own_KW s Q kc ks) T (mkF m pc Ls []) :=
  own_endW X (fun _ => rfl) Bd.notSynchronized eT hQ hS hn hc hs fun fs hr => X.returnOut hx Bd.returns hd hr
end OwnW
theorem own_sa : ∀ d ∈ Bundle.stringAtoms, d ∈ tables_1 := by decide +kernel
theorem own_bb (x : Int32) : x.toInt8.toInt32.toInt8.toInt32 = x.toInt8.toInt32 := by simp
theorem own_cc (x : Int32) : x.toUInt32.toUInt16.toUInt32.toInt32.toUInt32.toUInt16.toUInt32.toInt32 = x.toUInt32.toUInt16.toUInt32.toInt32 := by simp only [UInt32.toUInt32_toInt32, UInt16.toUInt16_toUInt32]
theorem own_nar_ref {t : FieldType} {v : Value} (h : v.isRef = true) (ht : t.isReference = true) : narrow t v = v := by cases t <;> first | (cases ht; done) | rfl
theorem own_fits_ref {t : FieldType} {v : Value} (h : v.isRef = true) (ht : t.isReference = true) : fits t v = true := by rcases ref_cases h with rfl | ⟨a, rfl⟩ <;> cases t <;> first | (cases ht; done) | rfl
theorem own_nar_b {z : Int32} (h : z = 0 ∨ z = 1) : narrow .boolean (.int z) = .int z := by rcases h with rfl | rfl <;> rfl
theorem own_fits_b {z : Int32} (h : z = 0 ∨ z = 1) : fits .boolean (.int z) = true := by rcases h with rfl | rfl <;> rfl
theorem own_d7_0 : decode jdk_52_method_15_code 0 = .ok (.iload_n 1, 1) := by decide +kernel
theorem own_d7_1 : decode jdk_52_method_15_code 1 = .ok (.aload_n 0, 1) := by decide +kernel
theorem own_d7_2 : decode jdk_52_method_15_code 2 = .ok (.arraylength, 1) := by decide +kernel
theorem own_d7_3 : decode jdk_52_method_15_code 3 = .ok (.isub, 1) := by decide +kernel
theorem own_d7_4 : decode jdk_52_method_15_code 4 = .ok (.bipush 31, 2) := by decide +kernel
theorem own_d7_6 : decode jdk_52_method_15_code 6 = .ok (.iushr, 1) := by decide +kernel
theorem own_d7_7 : decode jdk_52_method_15_code 7 = .ok (.i2b, 1) := by decide +kernel
theorem own_d7_8 : decode jdk_52_method_15_code 8 = .ok (.ireturn, 1) := by decide +kernel
theorem own_pn0 : plainName "java/lang/StringUTF16" = true := by first | (simp [plainName, overriddenIn]; done) | decide +kernel
theorem own_d6_0 : decode jdk_52_method_21_code 0 = .ok (.iconst 0, 1) := by decide +kernel
theorem own_d6_1 : decode jdk_52_method_21_code 1 = .ok (.istore 5, 2) := by decide +kernel
theorem own_d6_3 : decode jdk_52_method_21_code 3 = .ok (.iload 5, 2) := by decide +kernel
theorem own_d6_5 : decode jdk_52_method_21_code 5 = .ok (.iload 4, 2) := by decide +kernel
theorem own_d6_7 : decode jdk_52_method_21_code 7 = .ok (.if_icmp .ge 37, 3) := by decide +kernel
theorem own_d6_10 : decode jdk_52_method_21_code 10 = .ok (.aload_n 0, 1) := by decide +kernel
theorem own_d6_11 : decode jdk_52_method_21_code 11 = .ok (.iload_n 1, 1) := by decide +kernel
theorem own_d6_12 : decode jdk_52_method_21_code 12 = .ok (.caload, 1) := by decide +kernel
theorem own_d6_13 : decode jdk_52_method_21_code 13 = .ok (.istore 6, 2) := by decide +kernel
theorem own_d6_15 : decode jdk_52_method_21_code 15 = .ok (.iload 6, 2) := by decide +kernel
theorem own_d6_17 : decode jdk_52_method_21_code 17 = .ok (.sipush 255, 3) := by decide +kernel
theorem own_d6_20 : decode jdk_52_method_21_code 20 = .ok (.if_icmp .le 6, 3) := by decide +kernel
theorem own_d6_26 : decode jdk_52_method_21_code 26 = .ok (.aload_n 2, 1) := by decide +kernel
theorem own_d6_27 : decode jdk_52_method_21_code 27 = .ok (.iload_n 3, 1) := by decide +kernel
theorem own_d6_28 : decode jdk_52_method_21_code 28 = .ok (.iload 6, 2) := by decide +kernel
theorem own_d6_30 : decode jdk_52_method_21_code 30 = .ok (.i2b, 1) := by decide +kernel
theorem own_d6_31 : decode jdk_52_method_21_code 31 = .ok (.bastore, 1) := by decide +kernel
theorem own_d6_32 : decode jdk_52_method_21_code 32 = .ok (.iinc 1 1, 3) := by decide +kernel
theorem own_d6_35 : decode jdk_52_method_21_code 35 = .ok (.iinc 3 1, 3) := by decide +kernel
theorem own_d6_38 : decode jdk_52_method_21_code 38 = .ok (.iinc 5 1, 3) := by decide +kernel
theorem own_d6_41 : decode jdk_52_method_21_code 41 = .ok (.goto (-38), 3) := by decide +kernel
theorem own_d6_44 : decode jdk_52_method_21_code 44 = .ok (.iload 4, 2) := by decide +kernel
theorem own_d6_46 : decode jdk_52_method_21_code 46 = .ok (.ireturn, 1) := by decide +kernel
theorem own_d5_0 : decode jdk_52_method_16_code 0 = .ok (.iload_n 2, 1) := by decide +kernel
theorem own_d5_1 : decode jdk_52_method_16_code 1 = .ok (.newarray .byte, 2) := by decide +kernel
theorem own_d5_3 : decode jdk_52_method_16_code 3 = .ok (.astore_n 3, 1) := by decide +kernel
theorem own_d5_4 : decode jdk_52_method_16_code 4 = .ok (.aload_n 0, 1) := by decide +kernel
theorem own_d5_5 : decode jdk_52_method_16_code 5 = .ok (.iload_n 1, 1) := by decide +kernel
theorem own_d5_6 : decode jdk_52_method_16_code 6 = .ok (.aload_n 3, 1) := by decide +kernel
theorem own_d5_7 : decode jdk_52_method_16_code 7 = .ok (.iconst 0, 1) := by decide +kernel
theorem own_d5_8 : decode jdk_52_method_16_code 8 = .ok (.iload_n 2, 1) := by decide +kernel
theorem own_d5_9 : decode jdk_52_method_16_code 9 = .ok (.invokestatic 115, 3) := by decide +kernel
theorem own_pd0 : parseMethodDescriptor "([CI[BII)I" = some ⟨[(.array .char), .int, (.array .byte), .int, .int], some .int⟩ := by decide +kernel
theorem own_d5_12 : decode jdk_52_method_16_code 12 = .ok (.istore 4, 2) := by decide +kernel
theorem own_d5_14 : decode jdk_52_method_16_code 14 = .ok (.iload 4, 2) := by decide +kernel
theorem own_d5_16 : decode jdk_52_method_16_code 16 = .ok (.iload_n 2, 1) := by decide +kernel
theorem own_d5_17 : decode jdk_52_method_16_code 17 = .ok (.if_icmp .eq 40, 3) := by decide +kernel
theorem own_d5_57 : decode jdk_52_method_16_code 57 = .ok (.aload_n 3, 1) := by decide +kernel
theorem own_d5_58 : decode jdk_52_method_16_code 58 = .ok (.areturn, 1) := by decide +kernel
theorem own_d3_0 : decode jdk_42_method_149_code 0 = .ok (.aload_n 0, 1) := by decide +kernel
theorem own_d3_1 : decode jdk_42_method_149_code 1 = .ok (.invokespecial 1, 3) := by decide +kernel
theorem own_d3_4 : decode jdk_42_method_149_code 4 = .ok (.iload_n 3, 1) := by decide +kernel
theorem own_d3_5 : decode jdk_42_method_149_code 5 = .ok (.ifCond .ne 22, 3) := by decide +kernel
theorem own_d3_27 : decode jdk_42_method_149_code 27 = .ok (.getstatic 38, 3) := by decide +kernel
theorem own_d3_30 : decode jdk_42_method_149_code 30 = .ok (.ifCond .eq 28, 3) := by decide +kernel
theorem own_d3_33 : decode jdk_42_method_149_code 33 = .ok (.aload_n 1, 1) := by decide +kernel
theorem own_d3_34 : decode jdk_42_method_149_code 34 = .ok (.iload_n 2, 1) := by decide +kernel
theorem own_d3_35 : decode jdk_42_method_149_code 35 = .ok (.iload_n 3, 1) := by decide +kernel
theorem own_d3_36 : decode jdk_42_method_149_code 36 = .ok (.invokestatic 177, 3) := by decide +kernel
theorem own_pd1 : parseMethodDescriptor "([CII)[B" = some ⟨[(.array .char), .int, .int], some (.array .byte)⟩ := by decide +kernel
theorem own_d3_39 : decode jdk_42_method_149_code 39 = .ok (.astore 5, 2) := by decide +kernel
theorem own_d3_41 : decode jdk_42_method_149_code 41 = .ok (.aload_n 0, 1) := by decide +kernel
theorem own_d3_42 : decode jdk_42_method_149_code 42 = .ok (.aload 5, 2) := by decide +kernel
theorem own_d3_44 : decode jdk_42_method_149_code 44 = .ok (.iload_n 3, 1) := by decide +kernel
theorem own_d3_45 : decode jdk_42_method_149_code 45 = .ok (.invokestatic 47, 3) := by decide +kernel
theorem own_pd2 : parseMethodDescriptor "([BI)B" = some ⟨[(.array .byte), .int], some .byte⟩ := by decide +kernel
theorem own_d3_48 : decode jdk_42_method_149_code 48 = .ok (.putfield 15, 3) := by decide +kernel
theorem own_d3_51 : decode jdk_42_method_149_code 51 = .ok (.aload_n 0, 1) := by decide +kernel
theorem own_d3_52 : decode jdk_42_method_149_code 52 = .ok (.aload 5, 2) := by decide +kernel
theorem own_d3_54 : decode jdk_42_method_149_code 54 = .ok (.putfield 9, 3) := by decide +kernel
theorem own_d3_57 : decode jdk_42_method_149_code 57 = .ok (.return_, 1) := by decide +kernel
theorem own_pn1 : plainName "java/lang/String" = true := by first | (simp [plainName, overriddenIn]; done) | decide +kernel
theorem own_d2_0 : decode jdk_42_method_3_code 0 = .ok (.aload_n 0, 1) := by decide +kernel
theorem own_d2_1 : decode jdk_42_method_3_code 1 = .ok (.aload_n 1, 1) := by decide +kernel
theorem own_d2_2 : decode jdk_42_method_3_code 2 = .ok (.iconst 0, 1) := by decide +kernel
theorem own_d2_3 : decode jdk_42_method_3_code 3 = .ok (.aload_n 1, 1) := by decide +kernel
theorem own_d2_4 : decode jdk_42_method_3_code 4 = .ok (.arraylength, 1) := by decide +kernel
theorem own_d2_5 : decode jdk_42_method_3_code 5 = .ok (.aconst_null, 1) := by decide +kernel
theorem own_d2_6 : decode jdk_42_method_3_code 6 = .ok (.invokespecial 27, 3) := by decide +kernel
theorem own_pd3 : parseMethodDescriptor "([CIILjava/lang/Void;)V" = some ⟨[(.array .char), .int, .int, (.object "java/lang/Void")], none⟩ := by decide +kernel
theorem own_d2_9 : decode jdk_42_method_3_code 9 = .ok (.return_, 1) := by decide +kernel
theorem own_d1_0 : decode method_2_code 0 = .ok (.iload_n 0, 1) := by decide +kernel
theorem own_d1_1 : decode method_2_code 1 = .ok (.sipush 255, 3) := by decide +kernel
theorem own_d1_4 : decode method_2_code 4 = .ok (.iand, 1) := by decide +kernel
theorem own_d1_5 : decode method_2_code 5 = .ok (.sipush 255, 3) := by decide +kernel
theorem own_d1_8 : decode method_2_code 8 = .ok (.irem, 1) := by decide +kernel
theorem own_d1_9 : decode method_2_code 9 = .ok (.istore_n 1, 1) := by decide +kernel
theorem own_d1_10 : decode method_2_code 10 = .ok (.iload_n 1, 1) := by decide +kernel
theorem own_d1_11 : decode method_2_code 11 = .ok (.bipush 46, 2) := by decide +kernel
theorem own_d1_13 : decode method_2_code 13 = .ok (.if_icmp .lt 7, 3) := by decide +kernel
theorem own_d1_20 : decode method_2_code 20 = .ok (.iload_n 1, 1) := by decide +kernel
theorem own_d1_21 : decode method_2_code 21 = .ok (.i2c, 1) := by decide +kernel
theorem own_d1_22 : decode method_2_code 22 = .ok (.ireturn, 1) := by decide +kernel
theorem own_d1_16 : decode method_2_code 16 = .ok (.iload_n 1, 1) := by decide +kernel
theorem own_d1_17 : decode method_2_code 17 = .ok (.iconst 1, 1) := by decide +kernel
theorem own_d1_18 : decode method_2_code 18 = .ok (.iadd, 1) := by decide +kernel
theorem own_d1_19 : decode method_2_code 19 = .ok (.istore_n 1, 1) := by decide +kernel
theorem own_pn2 : plainName "com/example/operation_tracker/operationtracker/model/TaskIdFirstPinLaw" = true := by first | (simp [plainName, overriddenIn]; done) | decide +kernel
theorem own_d11_0 : decode jdk_42_method_55_code 0 = .ok (.aload_n 0, 1) := by decide +kernel
theorem own_d11_1 : decode jdk_42_method_55_code 1 = .ok (.getfield 9, 3) := by decide +kernel
theorem own_d11_4 : decode jdk_42_method_55_code 4 = .ok (.arraylength, 1) := by decide +kernel
theorem own_d11_5 : decode jdk_42_method_55_code 5 = .ok (.ifCond .ne 7, 3) := by decide +kernel
theorem own_d11_12 : decode jdk_42_method_55_code 12 = .ok (.iconst 0, 1) := by decide +kernel
theorem own_d11_13 : decode jdk_42_method_55_code 13 = .ok (.ireturn, 1) := by decide +kernel
theorem own_d14_0 : decode jdk_42_method_154_code 0 = .ok (.getstatic 38, 3) := by decide +kernel
theorem own_d14_3 : decode jdk_42_method_154_code 3 = .ok (.ifCond .eq 14, 3) := by decide +kernel
theorem own_d14_6 : decode jdk_42_method_154_code 6 = .ok (.aload_n 0, 1) := by decide +kernel
theorem own_d14_7 : decode jdk_42_method_154_code 7 = .ok (.getfield 15, 3) := by decide +kernel
theorem own_d14_10 : decode jdk_42_method_154_code 10 = .ok (.ifCond .ne 7, 3) := by decide +kernel
theorem own_d14_13 : decode jdk_42_method_154_code 13 = .ok (.iconst 1, 1) := by decide +kernel
theorem own_d14_14 : decode jdk_42_method_154_code 14 = .ok (.goto 4, 3) := by decide +kernel
theorem own_d14_18 : decode jdk_42_method_154_code 18 = .ok (.ireturn, 1) := by decide +kernel
theorem own_d16_0 : decode jdk_42_method_152_code 0 = .ok (.getstatic 38, 3) := by decide +kernel
theorem own_d16_3 : decode jdk_42_method_152_code 3 = .ok (.ifCond .eq 10, 3) := by decide +kernel
theorem own_d16_6 : decode jdk_42_method_152_code 6 = .ok (.aload_n 0, 1) := by decide +kernel
theorem own_d16_7 : decode jdk_42_method_152_code 7 = .ok (.getfield 15, 3) := by decide +kernel
theorem own_d16_10 : decode jdk_42_method_152_code 10 = .ok (.goto 4, 3) := by decide +kernel
theorem own_d16_14 : decode jdk_42_method_152_code 14 = .ok (.ireturn, 1) := by decide +kernel
theorem own_d15_0 : decode jdk_42_method_54_code 0 = .ok (.aload_n 0, 1) := by decide +kernel
theorem own_d15_1 : decode jdk_42_method_54_code 1 = .ok (.getfield 9, 3) := by decide +kernel
theorem own_d15_4 : decode jdk_42_method_54_code 4 = .ok (.arraylength, 1) := by decide +kernel
theorem own_d15_5 : decode jdk_42_method_54_code 5 = .ok (.aload_n 0, 1) := by decide +kernel
theorem own_d15_6 : decode jdk_42_method_54_code 6 = .ok (.invokevirtual 335, 3) := by decide +kernel
theorem own_pd4 : parseMethodDescriptor "()B" = some ⟨[], some .byte⟩ := by decide +kernel
theorem own_d15_9 : decode jdk_42_method_54_code 9 = .ok (.ishr, 1) := by decide +kernel
theorem own_d15_10 : decode jdk_42_method_54_code 10 = .ok (.ireturn, 1) := by decide +kernel
theorem own_d19_0 : decode jdk_29_method_65_code 0 = .ok (.iload_n 0, 1) := by decide +kernel
theorem own_d19_1 : decode jdk_29_method_65_code 1 = .ok (.iload_n 1, 1) := by decide +kernel
theorem own_d19_2 : decode jdk_29_method_65_code 2 = .ok (.if_icmp .lt 7, 3) := by decide +kernel
theorem own_d19_5 : decode jdk_29_method_65_code 5 = .ok (.iload_n 0, 1) := by decide +kernel
theorem own_d19_6 : decode jdk_29_method_65_code 6 = .ok (.goto 4, 3) := by decide +kernel
theorem own_d19_10 : decode jdk_29_method_65_code 10 = .ok (.ireturn, 1) := by decide +kernel
theorem own_d20_0 : decode jdk_29_method_69_code 0 = .ok (.iload_n 0, 1) := by decide +kernel
theorem own_d20_1 : decode jdk_29_method_69_code 1 = .ok (.iload_n 1, 1) := by decide +kernel
theorem own_d20_2 : decode jdk_29_method_69_code 2 = .ok (.if_icmp .gt 7, 3) := by decide +kernel
theorem own_d20_5 : decode jdk_29_method_69_code 5 = .ok (.iload_n 0, 1) := by decide +kernel
theorem own_d20_6 : decode jdk_29_method_69_code 6 = .ok (.goto 4, 3) := by decide +kernel
theorem own_d20_10 : decode jdk_29_method_69_code 10 = .ok (.ireturn, 1) := by decide +kernel
theorem own_d18_0 : decode jdk_43_method_4_code 0 = .ok (.iload_n 0, 1) := by decide +kernel
theorem own_d18_1 : decode jdk_43_method_4_code 1 = .ok (.ifCond .lt 14, 3) := by decide +kernel
theorem own_d18_4 : decode jdk_43_method_4_code 4 = .ok (.iload_n 0, 1) := by decide +kernel
theorem own_d18_5 : decode jdk_43_method_4_code 5 = .ok (.sipush 255, 3) := by decide +kernel
theorem own_d18_8 : decode jdk_43_method_4_code 8 = .ok (.if_icmp .gt 7, 3) := by decide +kernel
theorem own_d18_11 : decode jdk_43_method_4_code 11 = .ok (.iconst 1, 1) := by decide +kernel
theorem own_d18_12 : decode jdk_43_method_4_code 12 = .ok (.goto 4, 3) := by decide +kernel
theorem own_d18_16 : decode jdk_43_method_4_code 16 = .ok (.ireturn, 1) := by decide +kernel
theorem own_pn3 : plainName "java/lang/StringLatin1" = true := by first | (simp [plainName, overriddenIn]; done) | decide +kernel
theorem own_d21_0 : decode jdk_43_method_23_code 0 = .ok (.iload_n 1, 1) := by decide +kernel
theorem own_d21_1 : decode jdk_43_method_23_code 1 = .ok (.i2b, 1) := by decide +kernel
theorem own_d21_2 : decode jdk_43_method_23_code 2 = .ok (.istore 4, 2) := by decide +kernel
theorem own_d21_4 : decode jdk_43_method_23_code 4 = .ok (.iload_n 2, 1) := by decide +kernel
theorem own_d21_5 : decode jdk_43_method_23_code 5 = .ok (.istore 5, 2) := by decide +kernel
theorem own_d21_7 : decode jdk_43_method_23_code 7 = .ok (.iload 5, 2) := by decide +kernel
theorem own_d21_9 : decode jdk_43_method_23_code 9 = .ok (.iload_n 3, 1) := by decide +kernel
theorem own_d21_10 : decode jdk_43_method_23_code 10 = .ok (.if_icmp .ge 21, 3) := by decide +kernel
theorem own_d21_13 : decode jdk_43_method_23_code 13 = .ok (.aload_n 0, 1) := by decide +kernel
theorem own_d21_14 : decode jdk_43_method_23_code 14 = .ok (.iload 5, 2) := by decide +kernel
theorem own_d21_16 : decode jdk_43_method_23_code 16 = .ok (.baload, 1) := by decide +kernel
theorem own_d21_17 : decode jdk_43_method_23_code 17 = .ok (.iload 4, 2) := by decide +kernel
theorem own_d21_19 : decode jdk_43_method_23_code 19 = .ok (.if_icmp .ne 6, 3) := by decide +kernel
theorem own_d21_25 : decode jdk_43_method_23_code 25 = .ok (.iinc 5 1, 3) := by decide +kernel
theorem own_d21_28 : decode jdk_43_method_23_code 28 = .ok (.goto (-21), 3) := by decide +kernel
theorem own_d21_31 : decode jdk_43_method_23_code 31 = .ok (.iconst (-1), 1) := by decide +kernel
theorem own_d21_32 : decode jdk_43_method_23_code 32 = .ok (.ireturn, 1) := by decide +kernel
theorem own_d17_0 : decode jdk_43_method_22_code 0 = .ok (.iload_n 1, 1) := by decide +kernel
theorem own_d17_1 : decode jdk_43_method_22_code 1 = .ok (.invokestatic 88, 3) := by decide +kernel
theorem own_pd5 : parseMethodDescriptor "(I)Z" = some ⟨[.int], some .boolean⟩ := by decide +kernel
theorem own_d17_4 : decode jdk_43_method_22_code 4 = .ok (.ifCond .ne 5, 3) := by decide +kernel
theorem own_d17_9 : decode jdk_43_method_22_code 9 = .ok (.iload_n 2, 1) := by decide +kernel
theorem own_d17_10 : decode jdk_43_method_22_code 10 = .ok (.iconst 0, 1) := by decide +kernel
theorem own_d17_11 : decode jdk_43_method_22_code 11 = .ok (.invokestatic 92, 3) := by decide +kernel
theorem own_pd6 : parseMethodDescriptor "(II)I" = some ⟨[.int, .int], some .int⟩ := by decide +kernel
theorem own_d17_14 : decode jdk_43_method_22_code 14 = .ok (.istore_n 2, 1) := by decide +kernel
theorem own_d17_15 : decode jdk_43_method_22_code 15 = .ok (.iload_n 3, 1) := by decide +kernel
theorem own_d17_16 : decode jdk_43_method_22_code 16 = .ok (.aload_n 0, 1) := by decide +kernel
theorem own_d17_17 : decode jdk_43_method_22_code 17 = .ok (.arraylength, 1) := by decide +kernel
theorem own_d17_18 : decode jdk_43_method_22_code 18 = .ok (.invokestatic 38, 3) := by decide +kernel
theorem own_d17_21 : decode jdk_43_method_22_code 21 = .ok (.istore_n 3, 1) := by decide +kernel
theorem own_d17_22 : decode jdk_43_method_22_code 22 = .ok (.iload_n 2, 1) := by decide +kernel
theorem own_d17_23 : decode jdk_43_method_22_code 23 = .ok (.iload_n 3, 1) := by decide +kernel
theorem own_d17_24 : decode jdk_43_method_22_code 24 = .ok (.if_icmp .lt 5, 3) := by decide +kernel
theorem own_d17_29 : decode jdk_43_method_22_code 29 = .ok (.aload_n 0, 1) := by decide +kernel
theorem own_d17_30 : decode jdk_43_method_22_code 30 = .ok (.iload_n 1, 1) := by decide +kernel
theorem own_d17_31 : decode jdk_43_method_22_code 31 = .ok (.iload_n 2, 1) := by decide +kernel
theorem own_d17_32 : decode jdk_43_method_22_code 32 = .ok (.iload_n 3, 1) := by decide +kernel
theorem own_d17_33 : decode jdk_43_method_22_code 33 = .ok (.invokestatic 95, 3) := by decide +kernel
theorem own_pd7 : parseMethodDescriptor "([BIII)I" = some ⟨[(.array .byte), .int, .int, .int], some .int⟩ := by decide +kernel
theorem own_d17_36 : decode jdk_43_method_22_code 36 = .ok (.ireturn, 1) := by decide +kernel
theorem own_d13_0 : decode jdk_42_method_80_code 0 = .ok (.aload_n 0, 1) := by decide +kernel
theorem own_d13_1 : decode jdk_42_method_80_code 1 = .ok (.invokevirtual 492, 3) := by decide +kernel
theorem own_pd8 : parseMethodDescriptor "()Z" = some ⟨[], some .boolean⟩ := by decide +kernel
theorem own_d13_4 : decode jdk_42_method_80_code 4 = .ok (.ifCond .eq 19, 3) := by decide +kernel
theorem own_d13_7 : decode jdk_42_method_80_code 7 = .ok (.aload_n 0, 1) := by decide +kernel
theorem own_d13_8 : decode jdk_42_method_80_code 8 = .ok (.getfield 9, 3) := by decide +kernel
theorem own_d13_11 : decode jdk_42_method_80_code 11 = .ok (.iload_n 1, 1) := by decide +kernel
theorem own_d13_12 : decode jdk_42_method_80_code 12 = .ok (.iload_n 2, 1) := by decide +kernel
theorem own_d13_13 : decode jdk_42_method_80_code 13 = .ok (.aload_n 0, 1) := by decide +kernel
theorem own_d13_14 : decode jdk_42_method_80_code 14 = .ok (.invokevirtual 505, 3) := by decide +kernel
theorem own_pd9 : parseMethodDescriptor "()I" = some ⟨[], some .int⟩ := by decide +kernel
theorem own_d13_17 : decode jdk_42_method_80_code 17 = .ok (.invokestatic 637, 3) := by decide +kernel
theorem own_d13_20 : decode jdk_42_method_80_code 20 = .ok (.goto 16, 3) := by decide +kernel
theorem own_d13_36 : decode jdk_42_method_80_code 36 = .ok (.ireturn, 1) := by decide +kernel
theorem own_d12_0 : decode jdk_42_method_79_code 0 = .ok (.aload_n 0, 1) := by decide +kernel
theorem own_d12_1 : decode jdk_42_method_79_code 1 = .ok (.iload_n 1, 1) := by decide +kernel
theorem own_d12_2 : decode jdk_42_method_79_code 2 = .ok (.iconst 0, 1) := by decide +kernel
theorem own_d12_3 : decode jdk_42_method_79_code 3 = .ok (.invokevirtual 633, 3) := by decide +kernel
theorem own_d12_6 : decode jdk_42_method_79_code 6 = .ok (.ireturn, 1) := by decide +kernel
theorem own_d25_0 : decode jdk_43_method_13_code 0 = .ok (.aload_n 0, 1) := by decide +kernel
theorem own_d25_1 : decode jdk_43_method_13_code 1 = .ok (.arraylength, 1) := by decide +kernel
theorem own_d25_2 : decode jdk_43_method_13_code 2 = .ok (.aload_n 1, 1) := by decide +kernel
theorem own_d25_3 : decode jdk_43_method_13_code 3 = .ok (.arraylength, 1) := by decide +kernel
theorem own_d25_4 : decode jdk_43_method_13_code 4 = .ok (.if_icmp .ne 30, 3) := by decide +kernel
theorem own_d25_7 : decode jdk_43_method_13_code 7 = .ok (.iconst 0, 1) := by decide +kernel
theorem own_d25_8 : decode jdk_43_method_13_code 8 = .ok (.istore_n 2, 1) := by decide +kernel
theorem own_d25_9 : decode jdk_43_method_13_code 9 = .ok (.iload_n 2, 1) := by decide +kernel
theorem own_d25_10 : decode jdk_43_method_13_code 10 = .ok (.aload_n 0, 1) := by decide +kernel
theorem own_d25_11 : decode jdk_43_method_13_code 11 = .ok (.arraylength, 1) := by decide +kernel
theorem own_d25_12 : decode jdk_43_method_13_code 12 = .ok (.if_icmp .ge 20, 3) := by decide +kernel
theorem own_d25_15 : decode jdk_43_method_13_code 15 = .ok (.aload_n 0, 1) := by decide +kernel
theorem own_d25_16 : decode jdk_43_method_13_code 16 = .ok (.iload_n 2, 1) := by decide +kernel
theorem own_d25_17 : decode jdk_43_method_13_code 17 = .ok (.baload, 1) := by decide +kernel
theorem own_d25_18 : decode jdk_43_method_13_code 18 = .ok (.aload_n 1, 1) := by decide +kernel
theorem own_d25_19 : decode jdk_43_method_13_code 19 = .ok (.iload_n 2, 1) := by decide +kernel
theorem own_d25_20 : decode jdk_43_method_13_code 20 = .ok (.baload, 1) := by decide +kernel
theorem own_d25_21 : decode jdk_43_method_13_code 21 = .ok (.if_icmp .eq 5, 3) := by decide +kernel
theorem own_d25_26 : decode jdk_43_method_13_code 26 = .ok (.iinc 2 1, 3) := by decide +kernel
theorem own_d25_29 : decode jdk_43_method_13_code 29 = .ok (.goto (-20), 3) := by decide +kernel
theorem own_d25_32 : decode jdk_43_method_13_code 32 = .ok (.iconst 1, 1) := by decide +kernel
theorem own_d25_33 : decode jdk_43_method_13_code 33 = .ok (.ireturn, 1) := by decide +kernel
theorem own_d24_0 : decode jdk_42_method_66_code 0 = .ok (.aload_n 0, 1) := by decide +kernel
theorem own_d24_1 : decode jdk_42_method_66_code 1 = .ok (.aload_n 1, 1) := by decide +kernel
theorem own_d24_2 : decode jdk_42_method_66_code 2 = .ok (.if_acmp .ne 5, 3) := by decide +kernel
theorem own_d24_7 : decode jdk_42_method_66_code 7 = .ok (.aload_n 1, 1) := by decide +kernel
theorem own_d24_8 : decode jdk_42_method_66_code 8 = .ok (.instanceof 10, 3) := by decide +kernel
theorem own_d24_11 : decode jdk_42_method_66_code 11 = .ok (.ifCond .eq 43, 3) := by decide +kernel
theorem own_d24_14 : decode jdk_42_method_66_code 14 = .ok (.aload_n 1, 1) := by decide +kernel
theorem own_d24_15 : decode jdk_42_method_66_code 15 = .ok (.checkcast 10, 3) := by decide +kernel
theorem own_d24_18 : decode jdk_42_method_66_code 18 = .ok (.astore_n 2, 1) := by decide +kernel
theorem own_d24_19 : decode jdk_42_method_66_code 19 = .ok (.getstatic 38, 3) := by decide +kernel
theorem own_d24_22 : decode jdk_42_method_66_code 22 = .ok (.ifCond .eq 14, 3) := by decide +kernel
theorem own_d24_25 : decode jdk_42_method_66_code 25 = .ok (.aload_n 0, 1) := by decide +kernel
theorem own_d24_26 : decode jdk_42_method_66_code 26 = .ok (.getfield 15, 3) := by decide +kernel
theorem own_d24_29 : decode jdk_42_method_66_code 29 = .ok (.aload_n 2, 1) := by decide +kernel
theorem own_d24_30 : decode jdk_42_method_66_code 30 = .ok (.getfield 15, 3) := by decide +kernel
theorem own_d24_33 : decode jdk_42_method_66_code 33 = .ok (.if_icmp .ne 21, 3) := by decide +kernel
theorem own_d24_36 : decode jdk_42_method_66_code 36 = .ok (.aload_n 0, 1) := by decide +kernel
theorem own_d24_37 : decode jdk_42_method_66_code 37 = .ok (.getfield 9, 3) := by decide +kernel
theorem own_d24_40 : decode jdk_42_method_66_code 40 = .ok (.aload_n 2, 1) := by decide +kernel
theorem own_d24_41 : decode jdk_42_method_66_code 41 = .ok (.getfield 9, 3) := by decide +kernel
theorem own_d24_44 : decode jdk_42_method_66_code 44 = .ok (.invokestatic 541, 3) := by decide +kernel
theorem own_pd10 : parseMethodDescriptor "([B[B)Z" = some ⟨[(.array .byte), (.array .byte)], some .boolean⟩ := by decide +kernel
theorem own_d24_47 : decode jdk_42_method_66_code 47 = .ok (.ifCond .eq 7, 3) := by decide +kernel
theorem own_d24_50 : decode jdk_42_method_66_code 50 = .ok (.iconst 1, 1) := by decide +kernel
theorem own_d24_51 : decode jdk_42_method_66_code 51 = .ok (.goto 4, 3) := by decide +kernel
theorem own_d24_55 : decode jdk_42_method_66_code 55 = .ok (.ireturn, 1) := by decide +kernel
theorem own_d10_0 : decode jdk_31_method_11_code 0 = .ok (.aload_n 0, 1) := by decide +kernel
theorem own_d10_1 : decode jdk_31_method_11_code 1 = .ok (.ifnonnull 12, 3) := by decide +kernel
theorem own_d10_13 : decode jdk_31_method_11_code 13 = .ok (.aload_n 0, 1) := by decide +kernel
theorem own_d10_14 : decode jdk_31_method_11_code 14 = .ok (.areturn, 1) := by decide +kernel
theorem own_pn4 : plainName "java/util/Objects" = true := by first | (simp [plainName, overriddenIn]; done) | decide +kernel
theorem own_d9_0 : decode prog_12_method_4_code 0 = .ok (.aload_n 0, 1) := by decide +kernel
theorem own_d9_1 : decode prog_12_method_4_code 1 = .ok (.ldc 68, 2) := by decide +kernel
theorem own_d9_3 : decode prog_12_method_4_code 3 = .ok (.invokestatic 28, 3) := by decide +kernel
theorem own_pd11 : parseMethodDescriptor "(Ljava/lang/Object;Ljava/lang/String;)Ljava/lang/Object;" = some ⟨[(.object "java/lang/Object"), (.object "java/lang/String")], some (.object "java/lang/Object")⟩ := by decide +kernel
theorem own_d9_6 : decode prog_12_method_4_code 6 = .ok (.pop, 1) := by decide +kernel
theorem own_d9_7 : decode prog_12_method_4_code 7 = .ok (.aload_n 0, 1) := by decide +kernel
theorem own_d9_8 : decode prog_12_method_4_code 8 = .ok (.invokevirtual 69, 3) := by decide +kernel
theorem own_d9_11 : decode prog_12_method_4_code 11 = .ok (.ifCond .ne 12, 3) := by decide +kernel
theorem own_d9_14 : decode prog_12_method_4_code 14 = .ok (.aload_n 0, 1) := by decide +kernel
theorem own_d9_15 : decode prog_12_method_4_code 15 = .ok (.bipush 46, 2) := by decide +kernel
theorem own_d9_17 : decode prog_12_method_4_code 17 = .ok (.invokevirtual 73, 3) := by decide +kernel
theorem own_pd12 : parseMethodDescriptor "(I)I" = some ⟨[.int], some .int⟩ := by decide +kernel
theorem own_d9_20 : decode prog_12_method_4_code 20 = .ok (.ifCond .lt 13, 3) := by decide +kernel
theorem own_d9_33 : decode prog_12_method_4_code 33 = .ok (.return_, 1) := by decide +kernel
theorem own_pn5 : plainName "com/example/operation_tracker/operationtracker/model/TaskId" = true := by first | (simp [plainName, overriddenIn]; done) | decide +kernel
theorem own_d22_0 : decode prog_12_method_1_code 0 = .ok (.aload_n 0, 1) := by decide +kernel
theorem own_d22_1 : decode prog_12_method_1_code 1 = .ok (.invokespecial 1, 3) := by decide +kernel
theorem own_d22_4 : decode prog_12_method_1_code 4 = .ok (.aload_n 0, 1) := by decide +kernel
theorem own_d22_5 : decode prog_12_method_1_code 5 = .ok (.aload_n 1, 1) := by decide +kernel
theorem own_d22_6 : decode prog_12_method_1_code 6 = .ok (.putfield 7, 3) := by decide +kernel
theorem own_d22_9 : decode prog_12_method_1_code 9 = .ok (.aload_n 0, 1) := by decide +kernel
theorem own_d22_10 : decode prog_12_method_1_code 10 = .ok (.aload_n 2, 1) := by decide +kernel
theorem own_d22_11 : decode prog_12_method_1_code 11 = .ok (.putfield 13, 3) := by decide +kernel
theorem own_d22_14 : decode prog_12_method_1_code 14 = .ok (.aload_n 0, 1) := by decide +kernel
theorem own_d22_15 : decode prog_12_method_1_code 15 = .ok (.aload_n 3, 1) := by decide +kernel
theorem own_d22_16 : decode prog_12_method_1_code 16 = .ok (.putfield 17, 3) := by decide +kernel
theorem own_d22_19 : decode prog_12_method_1_code 19 = .ok (.return_, 1) := by decide +kernel
theorem own_d23_0 : decode prog_12_method_11_code 0 = .ok (.aload_n 0, 1) := by decide +kernel
theorem own_d23_1 : decode prog_12_method_11_code 1 = .ok (.getfield 17, 3) := by decide +kernel
theorem own_d23_4 : decode prog_12_method_11_code 4 = .ok (.areturn, 1) := by decide +kernel
theorem own_d26_0 : decode prog_12_method_10_code 0 = .ok (.aload_n 0, 1) := by decide +kernel
theorem own_d26_1 : decode prog_12_method_10_code 1 = .ok (.getfield 7, 3) := by decide +kernel
theorem own_d26_4 : decode prog_12_method_10_code 4 = .ok (.areturn, 1) := by decide +kernel
theorem own_d27_0 : decode prog_12_method_9_code 0 = .ok (.aload_n 0, 1) := by decide +kernel
theorem own_d27_1 : decode prog_12_method_9_code 1 = .ok (.getfield 13, 3) := by decide +kernel
theorem own_d27_4 : decode prog_12_method_9_code 4 = .ok (.arraylength, 1) := by decide +kernel
theorem own_d27_5 : decode prog_12_method_9_code 5 = .ok (.ireturn, 1) := by decide +kernel
theorem own_d8_0 : decode prog_12_method_2_code 0 = .ok (.aload_n 0, 1) := by decide +kernel
theorem own_d8_1 : decode prog_12_method_2_code 1 = .ok (.invokestatic 20, 3) := by decide +kernel
theorem own_pd13 : parseMethodDescriptor "(Ljava/lang/String;)V" = some ⟨[(.object "java/lang/String")], none⟩ := by decide +kernel
theorem own_d8_4 : decode prog_12_method_2_code 4 = .ok (.new 8, 3) := by decide +kernel
theorem own_d8_7 : decode prog_12_method_2_code 7 = .ok (.dup, 1) := by decide +kernel
theorem own_d8_8 : decode prog_12_method_2_code 8 = .ok (.aload_n 0, 1) := by decide +kernel
theorem own_d8_9 : decode prog_12_method_2_code 9 = .ok (.iconst 0, 1) := by decide +kernel
theorem own_d8_10 : decode prog_12_method_2_code 10 = .ok (.newarray .int, 2) := by decide +kernel
theorem own_d8_12 : decode prog_12_method_2_code 12 = .ok (.aload_n 0, 1) := by decide +kernel
theorem own_d8_13 : decode prog_12_method_2_code 13 = .ok (.invokespecial 24, 3) := by decide +kernel
theorem own_pd14 : parseMethodDescriptor "(Ljava/lang/String;[ILjava/lang/String;)V" = some ⟨[(.object "java/lang/String"), (.array .int), (.object "java/lang/String")], none⟩ := by decide +kernel
theorem own_d8_16 : decode prog_12_method_2_code 16 = .ok (.areturn, 1) := by decide +kernel
theorem own_pd15 : parseMethodDescriptor "(I)C" = some ⟨[.int], some .char⟩ := by decide +kernel
theorem own_pd16 : parseMethodDescriptor "([C)V" = some ⟨[(.array .char)], none⟩ := by decide +kernel
theorem own_pd17 : parseMethodDescriptor "(Ljava/lang/String;)Lcom/example/operation_tracker/operationtracker/model/TaskId;" = some ⟨[(.object "java/lang/String")], some (.object "com/example/operation_tracker/operationtracker/model/TaskId")⟩ := by decide +kernel
theorem own_pd18 : parseMethodDescriptor "()Ljava/lang/String;" = some ⟨[], some (.object "java/lang/String")⟩ := by decide +kernel
theorem own_pd19 : parseMethodDescriptor "(Ljava/lang/Object;)Z" = some ⟨[(.object "java/lang/Object")], some .boolean⟩ := by decide +kernel
def own_dr (z : Int32) : Prop := 0 ≤ z.toInt ∧ z.toInt ≤ 255 ∧ z.toInt ≠ 46
theorem own_dr_id {z : Int32} (h : own_dr z) : z.toUInt32.toUInt16.toUInt32.toInt32 = z := by
  have q := c_i2c z; obtain ⟨h1, h2, -⟩ := h; apply Int32.toInt_inj.mp; omega
theorem own_dr_l {z : Int32} (h : own_dr z) : ¬ (255 : Int32) < z := by
  rw [Int32.lt_iff_toInt_lt]; have a : (255 : Int32).toInt = 255 := rfl; obtain ⟨h1, h2, -⟩ := h; omega
theorem own_dr_46 {z : Int32} (h : own_dr z) : ¬ z.toInt8.toInt32 = (46 : Int32) := fun e => by
  have q := c_i2b z; rw [e] at q; have a : (46 : Int32).toInt = 46 := rfl; obtain ⟨h1, h2, h3⟩ := h; omega
theorem own_v (x : Int32) : 0 ≤ ((x &&& (255 : Int32)) % (255 : Int32)).toInt ∧ ((x &&& (255 : Int32)) % (255 : Int32)).toInt ≤ 254 := by
  have h := c_and x 255 (by decide); have k := (c_iremV (x &&& 255) 255).1 h.1 (by decide); have a : (255 : Int32).toInt = 255 := rfl; omega
theorem own_dr_lo {x : Int32} (h : (x &&& (255 : Int32)) % (255 : Int32) < (46 : Int32)) : own_dr ((x &&& (255 : Int32)) % (255 : Int32)).toUInt32.toUInt16.toUInt32.toInt32 := by
  have v := own_v x; have q := c_i2c ((x &&& (255 : Int32)) % (255 : Int32)); rw [Int32.lt_iff_toInt_lt] at h; have a : (46 : Int32).toInt = 46 := rfl
  unfold own_dr; omega
theorem own_dr_hi {x : Int32} (h : ¬ (x &&& (255 : Int32)) % (255 : Int32) < (46 : Int32)) : own_dr ((x &&& (255 : Int32)) % (255 : Int32) + (1 : Int32)).toUInt32.toUInt16.toUInt32.toInt32 := by
  have v := own_v x; have q := c_i2c ((x &&& (255 : Int32)) % (255 : Int32) + 1); have k := c_iadd ((x &&& (255 : Int32)) % (255 : Int32)) 1; rw [Int32.lt_iff_toInt_lt] at h; have a : (46 : Int32).toInt = 46 := rfl; have b : (1 : Int32).toInt = 1 := rfl
  have r := rng32 ((x &&& (255 : Int32)) % (255 : Int32) + 1)
  unfold own_dr; omega
theorem own_len3 {n : Int32} (h1 : ¬ (1 : Int32) + (n &&& (2147483647 : Int32)) % (3 : Int32) = (1 : Int32)) (h2 : ¬ (1 : Int32) + (n &&& (2147483647 : Int32)) % (3 : Int32) = (2 : Int32)) : (1 : Int32) + (n &&& (2147483647 : Int32)) % (3 : Int32) = (3 : Int32) := by
  have h := c_and n 2147483647 (by decide); have k := (c_iremV (n &&& 2147483647) 3).1 h.1 (by decide); have q := c_iadd 1 ((n &&& (2147483647 : Int32)) % (3 : Int32)); have r := rng32 ((1 : Int32) + (n &&& (2147483647 : Int32)) % (3 : Int32))
  rw [← Int32.toInt_inj] at h1 h2 ⊢
  have a : (3 : Int32).toInt = 3 := rfl; have b : (1 : Int32).toInt = 1 := rfl; have c : (2 : Int32).toInt = 2 := rfl
  omega

def own_r7_1 : Room := { frames := 0, cells := 0, slots := 0, locals := 0 }
theorem own_ef7_1 (m : MethodId) (x0 : Addr) : entryFrame m #[(.ref x0), (.int (1 : Int32))] 2 = mkF m 0 #[.val (.ref x0), .val (.int (1 : Int32))] [] := by first | (simp [entryFrame, mkF, argsToLocals, Value.category]; done) | rfl
def own_Q7_1 (Z : State) (arr : Addr) (ka : ClassId) (x0 : Int32) (cs : Int32) (h0 : Heap) (n0 : Nat) : Option Value → Heap → List Loc → Prop := fun v h L => v = some (.int (0 : Int32)) ∧ Fr n0 L ∧ h = h0
set_option maxRecDepth 65536 in
set_option maxHeartbeats 40000000 in
theorem own_rm7_1 (l : Launch) (Z : State) (a0 : Array Value) (hw : ∀ d ∈ tables_1, d.before a0 Z = true) (ws : List Jvm.Cond) (arr : Addr) (ka : ClassId) (x0 : Int32) (cs : Int32) (h0 : Heap) (n0 : Nat) (Z0 : n0 ≤ h0.size) (O0 : Old Z n0 h0) (V_a : Arv Z h0 arr ka .byte (1 : Int32) [(.int x0)] (.int (0 : Int32))) (hcs : ¬ cs = (0 : Int32)) (S_cs : Sta Z Z.heap "java/lang/String" "COMPACT_STRINGS" "Z" (.int cs)) :
    MetFree l (⟨"java/lang/StringUTF16", "coderFromArrayLen", "([BI)B"⟩ : MethodName) (head1 (Jvm.Cond.code (⟨"java/lang/StringUTF16", "coderFromArrayLen", "([BI)B"⟩ : MethodName) jdk_52_method_15_code 2 (some .byte) :: ws) own_r7_1) (fun a_ U_ => a_ = #[(.ref arr), (.int (1 : Int32))] ∧ Z.Warmed39 U_.vm ∧ U_.heap = h0) (fun _ _ _ _ _ => True) (fun _ U_ o_ U'_ => ∃ v_ L_, o_ = .returned v_ ∧ own_Q7_1 Z arr  ka  x0  cs  h0 n0 v_ U'_.heap L_ ∧ FrameEnd U_ o_ U'_ L_ own_r7_1.cells own_r7_1.slots) := by
  refine MetFree.of_bodySF (plainFor_of_name own_pn0) hisR ?_
  intro p e s m args below meth c s₁ Bd hml0 hP hK
  obtain ⟨rfl, hZ, hh⟩ := hP
  have hx := Bd.exec
  have hby := Bd.bytes
  have hml : c.maxLocals = 2 := hml0
  have hown : s.vm.findClass "java/lang/StringUTF16" = some m.cls := findClass_of_methodNamed Bd.named
  have hnm := (name_of_methodNamed Bd.named Bd.method).1
  have X0 : Stand p l e own_r7_1 s m #[(.ref arr), (.int (1 : Int32))] below meth c s₁ [] 0 0 := Stand.of_body Bd
  have e0 : s₁.heap = h0 := by rw [← hh, Bd.state]; rfl
  have N0 := Fr.nil n0
  refine own_in (own_ef7_1 m arr) ?_
  show own_Go p e below (own_K s (own_Q7_1 Z arr  ka  x0  cs  h0 n0) own_r7_1.cells own_r7_1.slots) s₁ (mkF m 0 #[.val (.ref arr), .val (.int (1 : Int32))] [])
  refine own_st (T' := s₁) (g' := (mkF m 2 #[.val (.ref arr), .val (.int (1 : Int32))] [(.ref arr), (.int (1 : Int32))])) (fun t k => ?_) ?_
  · show Steps p.tables e below (s₁.setTop (mkF m 0 #[.val (.ref arr), .val (.int (1 : Int32))] [])) t
    refine XS.iloadN X0.here hx rfl (hb hby own_d7_0) rfl ?_
    refine XS.aloadN X0.here hx rfl (hb hby own_d7_1) rfl rfl ?_
    exact k
  obtain ⟨cl1, Ar1, q1, S1, M1, H1, G1⟩ := id V_a
  refine own_st (T' := s₁) (g' := (mkF m 8 #[.val (.ref arr), .val (.int (1 : Int32))] [(.int (0 : Int32))])) (fun t k => ?_) ?_
  · show Steps p.tables e below (s₁.setTop (mkF m 2 #[.val (.ref arr), .val (.int (1 : Int32))] [(.ref arr), (.int (1 : Int32))])) t
    refine X0.arraylength hx (by rw [e0]; exact Ar1.1) (State.isArrayOf_alike hZ.alike Ar1.2.1) (g := (mkF m 2 #[.val (.ref arr), .val (.int (1 : Int32))] [(.ref arr), (.int (1 : Int32))])) rfl rfl (hb hby own_d7_2) _ ?_
    rw [len_of S1 M1]
    show Steps p.tables e below (s₁.setTop (mkF m 3 #[.val (.ref arr), .val (.int (1 : Int32))] [(.int (1 : Int32)), (.int (1 : Int32))])) t
    refine XS.isub X0.here hx rfl (hb hby own_d7_3) rfl ?_
    refine XS.bipush X0.here hx rfl (hb hby own_d7_4) ?_
    refine XS.iushr X0.here hx rfl (hb hby own_d7_6) rfl ?_
    refine XS.i2b X0.here hx rfl (hb hby own_d7_7) rfl ?_
    exact k
  exact own_retN X0 hx Bd (t := .byte) (by simp) rfl (hb hby own_d7_8) e0 (⟨rfl, N0, rfl⟩) (by decide) (by decide)
def own_r6_1 : Room := { frames := 0, cells := 0, slots := 0, locals := 0 }
theorem own_ef6_1 (m : MethodId) (x0 : Addr) (x2 : Addr) : entryFrame m #[(.ref x0), (.int (0 : Int32)), (.ref x2), (.int (0 : Int32)), (.int (1 : Int32))] 7 = mkF m 0 #[.val (.ref x0), .val (.int (0 : Int32)), .val (.ref x2), .val (.int (0 : Int32)), .val (.int (1 : Int32)), .unset, .unset] [] := by first | (simp [entryFrame, mkF, argsToLocals, Value.category]; done) | rfl
def own_Q6_1 (Z : State) (ca : Addr) (kc : ClassId) (c0 : Int32) (da : Addr) (kd : ClassId) (cs : Int32) (h0 : Heap) (n0 : Nat) : Option Value → Heap → List Loc → Prop := fun v h L => v = some (.int (1 : Int32)) ∧ Fr n0 L ∧ Keep h0 h [da] ∧ Arv Z h da kd .byte (1 : Int32) [(.int (c0.toInt8.toInt32))] (.int (0 : Int32))
set_option maxRecDepth 65536 in
set_option maxHeartbeats 40000000 in
theorem own_rm6_1 (l : Launch) (Z : State) (a0 : Array Value) (hw : ∀ d ∈ tables_1, d.before a0 Z = true) (ws : List Jvm.Cond) (ca : Addr) (kc : ClassId) (c0 : Int32) (da : Addr) (kd : ClassId) (cs : Int32) (h0 : Heap) (n0 : Nat) (Z0 : n0 ≤ h0.size) (O0 : Old Z n0 h0) (V_c : Arv Z h0 ca kc .char (1 : Int32) [(.int c0)] (.int (0 : Int32))) (V_d : Arv Z h0 da kd .byte (1 : Int32) [(.int (0 : Int32))] (.int (0 : Int32))) (g_d : n0 ≤ da) (ncd : ca ≠ da) (hl0 : ¬ (255 : Int32) < c0) (hcs : ¬ cs = (0 : Int32)) (S_cs : Sta Z Z.heap "java/lang/String" "COMPACT_STRINGS" "Z" (.int cs)) :
    MetFree l (⟨"java/lang/StringUTF16", "compress", "([CI[BII)I"⟩ : MethodName) (head1 (Jvm.Cond.code (⟨"java/lang/StringUTF16", "compress", "([CI[BII)I"⟩ : MethodName) jdk_52_method_21_code 7 (some .int) :: ws) own_r6_1) (fun a_ U_ => a_ = #[(.ref ca), (.int (0 : Int32)), (.ref da), (.int (0 : Int32)), (.int (1 : Int32))] ∧ Z.Warmed39 U_.vm ∧ U_.heap = h0) (fun _ _ _ _ _ => True) (fun _ U_ o_ U'_ => ∃ v_ L_, o_ = .returned v_ ∧ own_Q6_1 Z ca  kc  c0  da  kd  cs  h0 n0 v_ U'_.heap L_ ∧ FrameEnd U_ o_ U'_ L_ own_r6_1.cells own_r6_1.slots) := by
  refine MetFree.of_bodySF (plainFor_of_name own_pn0) hisR ?_
  intro p e s m args below meth c s₁ Bd hml0 hP hK
  obtain ⟨rfl, hZ, hh⟩ := hP
  have hx := Bd.exec
  have hby := Bd.bytes
  have hml : c.maxLocals = 7 := hml0
  have hown : s.vm.findClass "java/lang/StringUTF16" = some m.cls := findClass_of_methodNamed Bd.named
  have hnm := (name_of_methodNamed Bd.named Bd.method).1
  have X0 : Stand p l e own_r6_1 s m #[(.ref ca), (.int (0 : Int32)), (.ref da), (.int (0 : Int32)), (.int (1 : Int32))] below meth c s₁ [] 0 0 := Stand.of_body Bd
  have e0 : s₁.heap = h0 := by rw [← hh, Bd.state]; rfl
  have N0 := Fr.nil n0
  refine own_in (own_ef6_1 m ca da) ?_
  show own_Go p e below (own_K s (own_Q6_1 Z ca  kc  c0  da  kd  cs  h0 n0) own_r6_1.cells own_r6_1.slots) s₁ (mkF m 0 #[.val (.ref ca), .val (.int (0 : Int32)), .val (.ref da), .val (.int (0 : Int32)), .val (.int (1 : Int32)), .unset, .unset] [])
  refine own_st (T' := s₁) (g' := (mkF m 12 #[.val (.ref ca), .val (.int (0 : Int32)), .val (.ref da), .val (.int (0 : Int32)), .val (.int (1 : Int32)), .val (.int (0 : Int32)), .unset] [(.int (0 : Int32)), (.ref ca)])) (fun t k => ?_) ?_
  · show Steps p.tables e below (s₁.setTop (mkF m 0 #[.val (.ref ca), .val (.int (0 : Int32)), .val (.ref da), .val (.int (0 : Int32)), .val (.int (1 : Int32)), .unset, .unset] [])) t
    refine XS.iconst X0.here hx rfl (hb hby own_d6_0) ?_
    refine XS.istore X0.here hx rfl (hb hby own_d6_1) rfl (l' := #[.val (.ref ca), .val (.int (0 : Int32)), .val (.ref da), .val (.int (0 : Int32)), .val (.int (1 : Int32)), .val (.int (0 : Int32)), .unset]) rfl ?_
    refine XS.iload X0.here hx rfl (hb hby own_d6_3) rfl ?_
    refine XS.iload X0.here hx rfl (hb hby own_d6_5) rfl ?_
    refine XS.icmpNo X0.here hx rfl (hb hby own_d6_7) rfl (tlt (by decide : (0 : Int32) < (1 : Int32))).2.1 ?_
    refine XS.aloadN X0.here hx rfl (hb hby own_d6_10) rfl rfl ?_
    refine XS.iloadN X0.here hx rfl (hb hby own_d6_11) rfl ?_
    exact k
  obtain ⟨cl1, Ar1, q1, S1, M1, H1, G1⟩ := id V_c
  refine own_st (T' := s₁) (g' := (mkF m 31 #[.val (.ref ca), .val (.int (0 : Int32)), .val (.ref da), .val (.int (0 : Int32)), .val (.int (1 : Int32)), .val (.int (0 : Int32)), .val (.int c0)] [(.int (c0.toInt8.toInt32)), (.int (0 : Int32)), (.ref da)])) (fun t k => ?_) ?_
  · show Steps p.tables e below (s₁.setTop (mkF m 12 #[.val (.ref ca), .val (.int (0 : Int32)), .val (.ref da), .val (.int (0 : Int32)), .val (.int (1 : Int32)), .val (.int (0 : Int32)), .unset] [(.int (0 : Int32)), (.ref ca)])) t
    refine X0.caload hx (j := (0 : Int32)) (v := (.int c0)) (by rw [e0]; exact Ar1.1) (State.isArrayOf_alike hZ.alike Ar1.2.1) Ar1.2.2 (inb_of S1 ⟨by decide, by decide⟩) (Has.at H1 (inb_of S1 ⟨by decide, by decide⟩) rfl) (g := (mkF m 12 #[.val (.ref ca), .val (.int (0 : Int32)), .val (.ref da), .val (.int (0 : Int32)), .val (.int (1 : Int32)), .val (.int (0 : Int32)), .unset] [(.int (0 : Int32)), (.ref ca)])) rfl rfl (hb hby own_d6_12) _ ?_
    show Steps p.tables e below (s₁.setTop (mkF m 13 #[.val (.ref ca), .val (.int (0 : Int32)), .val (.ref da), .val (.int (0 : Int32)), .val (.int (1 : Int32)), .val (.int (0 : Int32)), .unset] [(.int c0)])) t
    refine XS.istore X0.here hx rfl (hb hby own_d6_13) rfl (l' := #[.val (.ref ca), .val (.int (0 : Int32)), .val (.ref da), .val (.int (0 : Int32)), .val (.int (1 : Int32)), .val (.int (0 : Int32)), .val (.int c0)]) rfl ?_
    refine XS.iload X0.here hx rfl (hb hby own_d6_15) rfl ?_
    refine XS.sipush X0.here hx rfl (hb hby own_d6_17) ?_
    refine XS.icmpYes X0.here hx rfl (pc0 := 20) (pc' := 26) rfl (hb hby own_d6_20) rfl (flt hl0).2.2.2 (by decide) (by decide) ?_
    refine XS.aloadN X0.here hx rfl (hb hby own_d6_26) rfl rfl ?_
    refine XS.iloadN X0.here hx rfl (hb hby own_d6_27) rfl ?_
    refine XS.iload X0.here hx rfl (hb hby own_d6_28) rfl ?_
    refine XS.i2b X0.here hx rfl (hb hby own_d6_30) rfl ?_
    exact k
  obtain ⟨cl2, Ar2, q2, S2, M2, H2, G2⟩ := id V_d
  obtain ⟨T3, h3, X3, e3, W3, st3⟩ := stB X0 hx hZ e0 Ar2 (j := (0 : Int32)) (inb_of S2 ⟨by decide, by decide⟩) (g := (mkF m 31 #[.val (.ref ca), .val (.int (0 : Int32)), .val (.ref da), .val (.int (0 : Int32)), .val (.int (1 : Int32)), .val (.int (0 : Int32)), .val (.int c0)] [(.int (c0.toInt8.toInt32)), (.int (0 : Int32)), (.ref da)])) rfl rfl (hb hby own_d6_31)
  have N3 := Fr.snoc X3 N0 g_d
  have K3 : Keep h0 h3 [da] := (Keep.refl h0 [da]).wr W3 (Or.inl (List.mem_of_getElem? (i := 0) rfl))
  have Z3 : n0 ≤ h3.size := Nat.le_trans Z0 (Keep.of_wr W3).1
  have O3 := O0.wr W3 g_d
  have fw3 := (show Arv Z h3 da kd .byte (1 : Int32) [(.int (c0.toInt8.toInt32))] (.int (0 : Int32)) by have q : Arv Z h3 da kd .byte (1 : Int32) [(.int ((c0.toInt8.toInt32).toInt8.toInt32))] (.int (0 : Int32)) := Arv.set Ar2 q2 S2 M2 H2 G2 (fits_nar_byte _) W3 0 rfl (Nat.le_of_ble_eq_true rfl); rw [own_bb c0] at q; exact q)
  refine own_st (T' := T3) (g' := (mkF m 32 #[.val (.ref ca), .val (.int (0 : Int32)), .val (.ref da), .val (.int (0 : Int32)), .val (.int (1 : Int32)), .val (.int (0 : Int32)), .val (.int c0)] [])) st3 ?_
  refine own_st (T' := T3) (g' := (mkF m 46 #[.val (.ref ca), .val (.int (1 : Int32)), .val (.ref da), .val (.int (1 : Int32)), .val (.int (1 : Int32)), .val (.int (1 : Int32)), .val (.int c0)] [(.int (1 : Int32))])) (fun t k => ?_) ?_
  · show Steps p.tables e below (T3.setTop (mkF m 32 #[.val (.ref ca), .val (.int (0 : Int32)), .val (.ref da), .val (.int (0 : Int32)), .val (.int (1 : Int32)), .val (.int (0 : Int32)), .val (.int c0)] [])) t
    refine XS.iinc X3.here hx rfl (hb hby own_d6_32) rfl (l' := #[.val (.ref ca), .val (.int (1 : Int32)), .val (.ref da), .val (.int (0 : Int32)), .val (.int (1 : Int32)), .val (.int (0 : Int32)), .val (.int c0)]) rfl ?_
    refine XS.iinc X3.here hx rfl (hb hby own_d6_35) rfl (l' := #[.val (.ref ca), .val (.int (1 : Int32)), .val (.ref da), .val (.int (1 : Int32)), .val (.int (1 : Int32)), .val (.int (0 : Int32)), .val (.int c0)]) rfl ?_
    refine XS.iinc X3.here hx rfl (hb hby own_d6_38) rfl (l' := #[.val (.ref ca), .val (.int (1 : Int32)), .val (.ref da), .val (.int (1 : Int32)), .val (.int (1 : Int32)), .val (.int (1 : Int32)), .val (.int c0)]) rfl ?_
    refine XS.goto X3.here hx rfl (pc0 := 41) (pc' := 3) rfl (hb hby own_d6_41) (by decide) (by decide) ?_
    refine XS.iload X3.here hx rfl (hb hby own_d6_3) rfl ?_
    refine XS.iload X3.here hx rfl (hb hby own_d6_5) rfl ?_
    refine XS.icmpYes X3.here hx rfl (pc0 := 7) (pc' := 44) rfl (hb hby own_d6_7) rfl (flt Int32.lt_irrefl).2.1 (by decide) (by decide) ?_
    refine XS.iload X3.here hx rfl (hb hby own_d6_44) rfl ?_
    exact k
  exact own_retI X3 hx Bd (hb hby own_d6_46) e3 (⟨rfl, N3, K3, fw3⟩) (by decide) (by decide)
def own_r5_1 : Room := { frames := 1, cells := 1, slots := 1, locals := 18 }
theorem own_ef5_1 (m : MethodId) (x0 : Addr) : entryFrame m #[(.ref x0), (.int (0 : Int32)), (.int (1 : Int32))] 6 = mkF m 0 #[.val (.ref x0), .val (.int (0 : Int32)), .val (.int (1 : Int32)), .unset, .unset, .unset] [] := by first | (simp [entryFrame, mkF, argsToLocals, Value.category]; done) | rfl
def own_Q5_1 (Z : State) (ca : Addr) (kc : ClassId) (c0 : Int32) (cs : Int32) (h0 : Heap) (n0 : Nat) : Option Value → Heap → List Loc → Prop := fun v h L => ∃ r k, v = some (.ref r) ∧ Fr n0 L ∧ Keep h0 h [] ∧ n0 ≤ r ∧ h0.size ≤ r ∧ Arv Z h r k .byte (1 : Int32) [(.int (c0.toInt8.toInt32))] (.int (0 : Int32))
set_option maxRecDepth 65536 in
set_option maxHeartbeats 40000000 in
theorem own_rm5_1 (l : Launch) (Z : State) (a0 : Array Value) (hw : ∀ d ∈ tables_1, d.before a0 Z = true) (ws : List Jvm.Cond) (ca : Addr) (kc : ClassId) (c0 : Int32) (cs : Int32) (h0 : Heap) (n0 : Nat) (Z0 : n0 ≤ h0.size) (O0 : Old Z n0 h0) (V_c : Arv Z h0 ca kc .char (1 : Int32) [(.int c0)] (.int (0 : Int32))) (hl0 : ¬ (255 : Int32) < c0) (hcs : ¬ cs = (0 : Int32)) (S_cs : Sta Z Z.heap "java/lang/String" "COMPACT_STRINGS" "Z" (.int cs)) :
    MetFree l (⟨"java/lang/StringUTF16", "compress", "([CII)[B"⟩ : MethodName) (head1 (Jvm.Cond.code (⟨"java/lang/StringUTF16", "compress", "([CII)[B"⟩ : MethodName) jdk_52_method_16_code 6 (some (.array .byte)) :: ws) own_r5_1) (fun a_ U_ => a_ = #[(.ref ca), (.int (0 : Int32)), (.int (1 : Int32))] ∧ Z.Warmed39 U_.vm ∧ U_.heap = h0) (fun _ _ _ _ _ => True) (fun _ U_ o_ U'_ => ∃ v_ L_, o_ = .returned v_ ∧ own_Q5_1 Z ca  kc  c0  cs  h0 n0 v_ U'_.heap L_ ∧ FrameEnd U_ o_ U'_ L_ own_r5_1.cells own_r5_1.slots) := by
  refine MetFree.of_bodySF (plainFor_of_name own_pn0) hisR ?_
  intro p e s m args below meth c s₁ Bd hml0 hP hK
  obtain ⟨rfl, hZ, hh⟩ := hP
  have hx := Bd.exec
  have hby := Bd.bytes
  have hml : c.maxLocals = 6 := hml0
  have hown : s.vm.findClass "java/lang/StringUTF16" = some m.cls := findClass_of_methodNamed Bd.named
  have hnm := (name_of_methodNamed Bd.named Bd.method).1
  have X0 : Stand p l e own_r5_1 s m #[(.ref ca), (.int (0 : Int32)), (.int (1 : Int32))] below meth c s₁ [] 0 0 := Stand.of_body Bd
  have e0 : s₁.heap = h0 := by rw [← hh, Bd.state]; rfl
  have N0 := Fr.nil n0
  refine own_in (own_ef5_1 m ca) ?_
  show own_Go p e below (own_K s (own_Q5_1 Z ca  kc  c0  cs  h0 n0) own_r5_1.cells own_r5_1.slots) s₁ (mkF m 0 #[.val (.ref ca), .val (.int (0 : Int32)), .val (.int (1 : Int32)), .unset, .unset, .unset] [])
  refine own_st (T' := s₁) (g' := (mkF m 1 #[.val (.ref ca), .val (.int (0 : Int32)), .val (.int (1 : Int32)), .unset, .unset, .unset] [(.int (1 : Int32))])) (fun t k => ?_) ?_
  · show Steps p.tables e below (s₁.setTop (mkF m 0 #[.val (.ref ca), .val (.int (0 : Int32)), .val (.int (1 : Int32)), .unset, .unset, .unset] [])) t
    refine XS.iloadN X0.here hx rfl (hb hby own_d5_0) rfl ?_
    exact k
  obtain ⟨T1, h1, k1, X1, e1, E1, A1, st1⟩ := newP X0 hx hZ (hw _ (List.mem_of_getElem? (i := 24) rfl)) e0 (g := (mkF m 1 #[.val (.ref ca), .val (.int (0 : Int32)), .val (.int (1 : Int32)), .unset, .unset, .unset] [(.int (1 : Int32))])) rfl (hb hby own_d5_1) rfl (by decide) (cap := 1) (by decide) (by decide) (by decide) (by decide)
  obtain ⟨b1, g1⟩ : ∃ z, z = h0.size := ⟨_, rfl⟩
  rw [← g1] at A1 st1
  have sz1 : h0.size ≤ b1 := Nat.le_of_eq g1.symm
  have ne_ca_b1 : ca ≠ b1 := Nat.ne_of_lt (Nat.lt_of_lt_of_le V_c.lt sz1)
  have g_b1 : n0 ≤ b1 := Nat.le_trans Z0 sz1
  have hz_b1 : h0.size ≤ b1 := Nat.le_trans (Keep.refl h0 []).1 sz1
  have K1 : Keep h0 h1 [] := (Keep.refl h0 []).ext E1
  have Z1 : n0 ≤ h1.size := Nat.le_trans Z0 E1.1
  have O1 := O0.ext E1
  have V1 : Arv Z h1 b1 k1 .byte (1 : Int32) [(.int (0 : Int32))] (.int (0 : Int32)) := (Arv.new A1 (by decide)).pad (pad_rep [] (.int (0 : Int32)) 1)
  refine own_st (T' := T1) (g' := (mkF m 3 #[.val (.ref ca), .val (.int (0 : Int32)), .val (.int (1 : Int32)), .unset, .unset, .unset] [(.ref b1)])) st1 ?_
  refine own_st (T' := T1) (g' := (mkF m 9 #[.val (.ref ca), .val (.int (0 : Int32)), .val (.int (1 : Int32)), .val (.ref b1), .unset, .unset] [(.int (1 : Int32)), (.int (0 : Int32)), (.ref b1), (.int (0 : Int32)), (.ref ca)])) (fun t k => ?_) ?_
  · show Steps p.tables e below (T1.setTop (mkF m 3 #[.val (.ref ca), .val (.int (0 : Int32)), .val (.int (1 : Int32)), .unset, .unset, .unset] [(.ref b1)])) t
    refine XS.astoreN X1.here hx rfl (hb hby own_d5_3) rfl rfl (l' := #[.val (.ref ca), .val (.int (0 : Int32)), .val (.int (1 : Int32)), .val (.ref b1), .unset, .unset]) rfl ?_
    refine XS.aloadN X1.here hx rfl (hb hby own_d5_4) rfl rfl ?_
    refine XS.iloadN X1.here hx rfl (hb hby own_d5_5) rfl ?_
    refine XS.aloadN X1.here hx rfl (hb hby own_d5_6) rfl rfl ?_
    refine XS.iconst X1.here hx rfl (hb hby own_d5_7) ?_
    refine XS.iloadN X1.here hx rfl (hb hby own_d5_8) rfl ?_
    exact k
  have f2 := V_c.ext E1
  obtain ⟨_, _, ⟨T3, L3, c3, n3⟩, -, X3, ⟨Lc3, hQ3, l3, y3, z3⟩, st3⟩ := Jvm.LawKit.callS X1 hx (y := (⟨"java/lang/StringUTF16", "compress", "([CI[BII)I"⟩ : MethodName)) hown (mvT hZ (hw _ (List.mem_of_getElem? (i := 25) rfl))) (mvT hZ (hw _ (List.mem_of_getElem? (i := 26) rfl))) (mvT hZ (hw _ (List.mem_of_getElem? (i := 22) rfl))) (mvT hZ (hw _ (List.mem_of_getElem? (i := 27) rfl))) (by decide) (backOf (W := 0) (own_rm6_1 l Z a0 hw [] ca kc c0 b1 k1 cs h1 n0 Z1 O1 f2 V1 g_b1 ne_ca_b1 hl0 hcs S_cs) hZ (hw _ (List.mem_of_getElem? (i := 27) rfl)) (hw _ (List.mem_of_getElem? (i := 22) rfl)) (by decide) (by decide)) (g := (mkF m 9 #[.val (.ref ca), .val (.int (0 : Int32)), .val (.int (1 : Int32)), .val (.ref b1), .unset, .unset] [(.int (1 : Int32)), (.int (0 : Int32)), (.ref b1), (.int (0 : Int32)), (.ref ca)])) rfl (by rw [hml]; rfl) (argsL := [(.ref ca), (.int (0 : Int32)), (.ref b1), (.int (0 : Int32)), (.int (1 : Int32))]) (rest := []) (lenOf own_pd0 rfl) rfl (by show 2 * 0 + _ ≤ _; exact Nat.le_of_eq rfl) (hb hby own_d5_9) (fun _ _ => ⟨rfl, e1, (by decide : 1 + 0 ≤ _), (by decide : 1 + 0 ≤ _)⟩)
  dsimp only [Pt.U, Pt.locs, Pt.cells, Pt.slots] at X3 l3 y3 z3 st3 hQ3
  subst l3 y3 z3
  obtain ⟨h3, e3⟩ : ∃ z, T3.heap = z := ⟨_, rfl⟩
  rw [e3] at hQ3
  obtain ⟨rfl, N3q, Kc3, Vc3⟩ := hQ3
  have N3 := Fr.app N0 N3q
  have K3 : Keep h0 h3 [] := K1.trans Kc3 (allS (Or.inr hz_b1) all0)
  have Z3 : n0 ≤ h3.size := Nat.le_trans Z1 Kc3.1
  have O3 := O1.keep Kc3 (allS g_b1 all0)
  refine own_st (T' := T3) (g' := (mkF m 12 #[.val (.ref ca), .val (.int (0 : Int32)), .val (.int (1 : Int32)), .val (.ref b1), .unset, .unset] [(.int (1 : Int32))])) st3 ?_
  refine own_st (T' := T3) (g' := (mkF m 58 #[.val (.ref ca), .val (.int (0 : Int32)), .val (.int (1 : Int32)), .val (.ref b1), .val (.int (1 : Int32)), .unset] [(.ref b1)])) (fun t k => ?_) ?_
  · show Steps p.tables e below (T3.setTop (mkF m 12 #[.val (.ref ca), .val (.int (0 : Int32)), .val (.int (1 : Int32)), .val (.ref b1), .unset, .unset] [(.int (1 : Int32))])) t
    refine XS.istore X3.here hx rfl (hb hby own_d5_12) rfl (l' := #[.val (.ref ca), .val (.int (0 : Int32)), .val (.int (1 : Int32)), .val (.ref b1), .val (.int (1 : Int32)), .unset]) rfl ?_
    refine XS.iload X3.here hx rfl (hb hby own_d5_14) rfl ?_
    refine XS.iloadN X3.here hx rfl (hb hby own_d5_16) rfl ?_
    refine XS.icmpYes X3.here hx rfl (pc0 := 17) (pc' := 57) rfl (hb hby own_d5_17) rfl (teq (rfl : (1 : Int32) = (1 : Int32))).1 (by decide) (by decide) ?_
    refine XS.aloadN X3.here hx rfl (hb hby own_d5_57) rfl rfl ?_
    exact k
  exact own_retA X3 hx Bd rfl rfl (hb hby own_d5_58) e3 (⟨b1, k1, rfl, N3, K3, g_b1, hz_b1, Vc3⟩) (by decide) (by decide)
def own_r3_1 : Room := { frames := 2, cells := 1, slots := 1, locals := 35 }
theorem own_ef3_1 (m : MethodId) (x0 : Addr) (x1 : Addr) : entryFrame m #[(.ref x0), (.ref x1), (.int (0 : Int32)), (.int (1 : Int32)), .null] 6 = mkF m 0 #[.val (.ref x0), .val (.ref x1), .val (.int (0 : Int32)), .val (.int (1 : Int32)), .val .null, .unset] [] := by first | (simp [entryFrame, mkF, argsToLocals, Value.category]; done) | rfl
def own_Q3_1 (Z : State) (b : Addr) (ca : Addr) (kc : ClassId) (c0 : Int32) (cs : Int32) (h0 : Heap) (n0 : Nat) : Option Value → Heap → List Loc → Prop := fun v h L => ∃ t k, v = none ∧ Fr n0 L ∧ Keep h0 h [b] ∧ n0 ≤ t ∧ h0.size ≤ t ∧ Fld Z h b "java/lang/String" "value" "[B" (.ref t) ∧ Fld Z h b "java/lang/String" "coder" "B" (.int (0 : Int32)) ∧ Arv Z h t k .byte (1 : Int32) [(.int (c0.toInt8.toInt32))] (.int (0 : Int32))
set_option maxRecDepth 65536 in
set_option maxHeartbeats 40000000 in
theorem own_rm3_1 (l : Launch) (Z : State) (a0 : Array Value) (hw : ∀ d ∈ tables_1, d.before a0 Z = true) (ws : List Jvm.Cond) (b : Addr) (ca : Addr) (kc : ClassId) (c0 : Int32) (cs : Int32) (h0 : Heap) (n0 : Nat) (Z0 : n0 ≤ h0.size) (O0 : Old Z n0 h0) (E_b : Exa Z h0 b "java/lang/String") (F_v : Fld Z h0 b "java/lang/String" "value" "[B" .null) (F_c : Fld Z h0 b "java/lang/String" "coder" "B" (.int (0 : Int32))) (g_b : n0 ≤ b) (V_c : Arv Z h0 ca kc .char (1 : Int32) [(.int c0)] (.int (0 : Int32))) (nbc : b ≠ ca) (hl0 : ¬ (255 : Int32) < c0) (hcs : ¬ cs = (0 : Int32)) (S_cs : Sta Z Z.heap "java/lang/String" "COMPACT_STRINGS" "Z" (.int cs)) :
    MetFree l (⟨"java/lang/String", "<init>", "([CIILjava/lang/Void;)V"⟩ : MethodName) (head1 (Jvm.Cond.code (⟨"java/lang/String", "<init>", "([CIILjava/lang/Void;)V"⟩ : MethodName) jdk_42_method_149_code 6 none :: ws) own_r3_1) (fun a_ U_ => a_ = #[(.ref b), (.ref ca), (.int (0 : Int32)), (.int (1 : Int32)), .null] ∧ Z.Warmed39 U_.vm ∧ U_.heap = h0) (fun _ _ _ _ _ => True) (fun _ U_ o_ U'_ => ∃ v_ L_, o_ = .returned v_ ∧ own_Q3_1 Z b  ca  kc  c0  cs  h0 n0 v_ U'_.heap L_ ∧ FrameEnd U_ o_ U'_ L_ own_r3_1.cells own_r3_1.slots) := by
  refine MetFree.of_bodySF (plainFor_of_name own_pn1) hisR ?_
  intro p e s m args below meth c s₁ Bd hml0 hP hK
  obtain ⟨rfl, hZ, hh⟩ := hP
  have hx := Bd.exec
  have hby := Bd.bytes
  have hml : c.maxLocals = 6 := hml0
  have hown : s.vm.findClass "java/lang/String" = some m.cls := findClass_of_methodNamed Bd.named
  have hnm := (name_of_methodNamed Bd.named Bd.method).1
  have X0 : Stand p l e own_r3_1 s m #[(.ref b), (.ref ca), (.int (0 : Int32)), (.int (1 : Int32)), .null] below meth c s₁ [] 0 0 := Stand.of_body Bd
  have e0 : s₁.heap = h0 := by rw [← hh, Bd.state]; rfl
  have N0 := Fr.nil n0
  refine own_in (own_ef3_1 m b ca) ?_
  show own_Go p e below (own_K s (own_Q3_1 Z b  ca  kc  c0  cs  h0 n0) own_r3_1.cells own_r3_1.slots) s₁ (mkF m 0 #[.val (.ref b), .val (.ref ca), .val (.int (0 : Int32)), .val (.int (1 : Int32)), .val .null, .unset] [])
  refine own_st (T' := s₁) (g' := (mkF m 1 #[.val (.ref b), .val (.ref ca), .val (.int (0 : Int32)), .val (.int (1 : Int32)), .val .null, .unset] [(.ref b)])) (fun t k => ?_) ?_
  · show Steps p.tables e below (s₁.setTop (mkF m 0 #[.val (.ref b), .val (.ref ca), .val (.int (0 : Int32)), .val (.int (1 : Int32)), .val .null, .unset] [])) t
    refine XS.aloadN X0.here hx rfl (hb hby own_d3_0) rfl rfl ?_
    exact k
  obtain ⟨T1, X1, e1, st1⟩ := initO X0 hx hZ hown (hw _ (List.mem_of_getElem? (i := 16) rfl)) (hw _ (List.mem_of_getElem? (i := 17) rfl)) (hw _ (List.mem_of_getElem? (i := 18) rfl)) e0 (g := (mkF m 1 #[.val (.ref b), .val (.ref ca), .val (.int (0 : Int32)), .val (.int (1 : Int32)), .val .null, .unset] [(.ref b)])) rfl (by rw [hml]; rfl) rfl (hb hby own_d3_1) (by decide) (W := 0) (by show 2 * 0 + _ ≤ _; exact Nat.le_of_eq rfl) (by decide)
  refine own_st (T' := T1) (g' := (mkF m 4 #[.val (.ref b), .val (.ref ca), .val (.int (0 : Int32)), .val (.int (1 : Int32)), .val .null, .unset] [])) st1 ?_
  refine own_st (T' := T1) (g' := (mkF m 27 #[.val (.ref b), .val (.ref ca), .val (.int (0 : Int32)), .val (.int (1 : Int32)), .val .null, .unset] [])) (fun t k => ?_) ?_
  · show Steps p.tables e below (T1.setTop (mkF m 4 #[.val (.ref b), .val (.ref ca), .val (.int (0 : Int32)), .val (.int (1 : Int32)), .val .null, .unset] [])) t
    refine XS.iloadN X1.here hx rfl (hb hby own_d3_4) rfl ?_
    refine XS.ifYes X1.here hx rfl (pc0 := 5) (pc' := 27) rfl (hb hby own_d3_5) rfl ((if0 _ _).trans (feq (by decide : ¬ ((1 : Int32) = (0 : Int32)))).2) (by decide) (by decide) ?_
    exact k
  have f2 := S_cs.ext O0.2
  obtain ⟨T3, X3, e3, st3⟩ := getS2 X1 hx hZ hown (host := "") (Or.inl (hw _ (List.mem_of_getElem? (i := 19) rfl))) Via.refl e1 f2 (g := (mkF m 27 #[.val (.ref b), .val (.ref ca), .val (.int (0 : Int32)), .val (.int (1 : Int32)), .val .null, .unset] [])) rfl (hb hby own_d3_27)
  refine own_st (T' := T3) (g' := (mkF m 30 #[.val (.ref b), .val (.ref ca), .val (.int (0 : Int32)), .val (.int (1 : Int32)), .val .null, .unset] [(.int cs)])) st3 ?_
  refine own_st (T' := T3) (g' := (mkF m 36 #[.val (.ref b), .val (.ref ca), .val (.int (0 : Int32)), .val (.int (1 : Int32)), .val .null, .unset] [(.int (1 : Int32)), (.int (0 : Int32)), (.ref ca)])) (fun t k => ?_) ?_
  · show Steps p.tables e below (T3.setTop (mkF m 30 #[.val (.ref b), .val (.ref ca), .val (.int (0 : Int32)), .val (.int (1 : Int32)), .val .null, .unset] [(.int cs)])) t
    refine XS.ifNo X3.here hx rfl (hb hby own_d3_30) rfl ((if0 _ _).trans (feq hcs).1) ?_
    refine XS.aloadN X3.here hx rfl (hb hby own_d3_33) rfl rfl ?_
    refine XS.iloadN X3.here hx rfl (hb hby own_d3_34) rfl ?_
    refine XS.iloadN X3.here hx rfl (hb hby own_d3_35) rfl ?_
    exact k
  obtain ⟨_, _, ⟨T4, L4, c4, n4⟩, -, X4, ⟨Lc4, hQ4, l4, y4, z4⟩, st4⟩ := Jvm.LawKit.callS X3 hx (y := (⟨"java/lang/StringUTF16", "compress", "([CII)[B"⟩ : MethodName)) hown (mvT hZ (hw _ (List.mem_of_getElem? (i := 20) rfl))) (mvT hZ (hw _ (List.mem_of_getElem? (i := 21) rfl))) (mvT hZ (hw _ (List.mem_of_getElem? (i := 22) rfl))) (mvT hZ (hw _ (List.mem_of_getElem? (i := 23) rfl))) (by decide) (backOf (W := 0) (own_rm5_1 l Z a0 hw [] ca kc c0 cs h0 n0 Z0 O0 V_c hl0 hcs S_cs) hZ (hw _ (List.mem_of_getElem? (i := 23) rfl)) (hw _ (List.mem_of_getElem? (i := 22) rfl)) (by decide) (by decide)) (g := (mkF m 36 #[.val (.ref b), .val (.ref ca), .val (.int (0 : Int32)), .val (.int (1 : Int32)), .val .null, .unset] [(.int (1 : Int32)), (.int (0 : Int32)), (.ref ca)])) rfl (by rw [hml]; rfl) (argsL := [(.ref ca), (.int (0 : Int32)), (.int (1 : Int32))]) (rest := []) (lenOf own_pd1 rfl) rfl (by show 2 * 0 + _ ≤ _; exact Nat.le_of_eq rfl) (hb hby own_d3_36) (fun _ _ => ⟨rfl, e3, (by decide : 0 + 1 ≤ _), (by decide : 0 + 1 ≤ _)⟩)
  dsimp only [Pt.U, Pt.locs, Pt.cells, Pt.slots] at X4 l4 y4 z4 st4 hQ4
  subst l4 y4 z4
  obtain ⟨h4, e4⟩ : ∃ z, T4.heap = z := ⟨_, rfl⟩
  rw [e4] at hQ4
  obtain ⟨r4, k4, rfl, N4q, Kc4, g4, hz4, Vc4⟩ := hQ4
  have N4 := Fr.app N0 N4q
  have ne_b_r4 : b ≠ r4 := Nat.ne_of_lt (Nat.lt_of_lt_of_le E_b.lt hz4)
  have ne_ca_r4 : ca ≠ r4 := Nat.ne_of_lt (Nat.lt_of_lt_of_le V_c.lt hz4)
  have hwr4 : h0.size ≤ r4 := Nat.le_trans (Keep.refl h0 [b]).1 hz4
  have K4 : Keep h0 h4 [b] := (Keep.refl h0 [b]).trans Kc4 all0
  have Z4 : n0 ≤ h4.size := Nat.le_trans Z0 Kc4.1
  have O4 := O0.keep Kc4 all0
  refine own_st (T' := T4) (g' := (mkF m 39 #[.val (.ref b), .val (.ref ca), .val (.int (0 : Int32)), .val (.int (1 : Int32)), .val .null, .unset] [(.ref r4)])) st4 ?_
  refine own_st (T' := T4) (g' := (mkF m 45 #[.val (.ref b), .val (.ref ca), .val (.int (0 : Int32)), .val (.int (1 : Int32)), .val .null, .val (.ref r4)] [(.int (1 : Int32)), (.ref r4), (.ref b)])) (fun t k => ?_) ?_
  · show Steps p.tables e below (T4.setTop (mkF m 39 #[.val (.ref b), .val (.ref ca), .val (.int (0 : Int32)), .val (.int (1 : Int32)), .val .null, .unset] [(.ref r4)])) t
    refine XS.astore X4.here hx rfl (hb hby own_d3_39) rfl rfl (l' := #[.val (.ref b), .val (.ref ca), .val (.int (0 : Int32)), .val (.int (1 : Int32)), .val .null, .val (.ref r4)]) rfl ?_
    refine XS.aloadN X4.here hx rfl (hb hby own_d3_41) rfl rfl ?_
    refine XS.aload X4.here hx rfl (hb hby own_d3_42) rfl rfl ?_
    refine XS.iloadN X4.here hx rfl (hb hby own_d3_44) rfl ?_
    exact k
  obtain ⟨_, _, ⟨T5, L5, c5, n5⟩, -, X5, ⟨Lc5, hQ5, l5, y5, z5⟩, st5⟩ := Jvm.LawKit.callS X4 hx (y := (⟨"java/lang/StringUTF16", "coderFromArrayLen", "([BI)B"⟩ : MethodName)) hown (mvT hZ (hw _ (List.mem_of_getElem? (i := 28) rfl))) (mvT hZ (hw _ (List.mem_of_getElem? (i := 29) rfl))) (mvT hZ (hw _ (List.mem_of_getElem? (i := 22) rfl))) (mvT hZ (hw _ (List.mem_of_getElem? (i := 30) rfl))) (by decide) (backOf (W := 1) (own_rm7_1 l Z a0 hw [] r4 k4 (c0.toInt8.toInt32) cs h4 n0 Z4 O4 Vc4 hcs S_cs) hZ (hw _ (List.mem_of_getElem? (i := 30) rfl)) (hw _ (List.mem_of_getElem? (i := 22) rfl)) (by decide) (by decide)) (g := (mkF m 45 #[.val (.ref b), .val (.ref ca), .val (.int (0 : Int32)), .val (.int (1 : Int32)), .val .null, .val (.ref r4)] [(.int (1 : Int32)), (.ref r4), (.ref b)])) rfl (by rw [hml]; rfl) (argsL := [(.ref r4), (.int (1 : Int32))]) (rest := [(.ref b)]) (lenOf own_pd2 rfl) rfl (by show 2 * 0 + _ ≤ _; exact Nat.le_of_eq rfl) (hb hby own_d3_45) (fun _ _ => ⟨rfl, e4, (by decide : 1 + 0 ≤ _), (by decide : 1 + 0 ≤ _)⟩)
  dsimp only [Pt.U, Pt.locs, Pt.cells, Pt.slots] at X5 l5 y5 z5 st5 hQ5
  subst l5 y5 z5
  obtain ⟨rfl, N5q, e5⟩ := hQ5
  have N5 := Fr.app N4 N5q
  refine own_st (T' := T5) (g' := (mkF m 48 #[.val (.ref b), .val (.ref ca), .val (.int (0 : Int32)), .val (.int (1 : Int32)), .val .null, .val (.ref r4)] [(.int (0 : Int32)), (.ref b)])) st5 ?_
  have f6 := F_c.keep Kc4 nin0
  have f7 := E_b.keep Kc4
  obtain ⟨T8, h8, X8, e8, W8, st8⟩ := putFN X5 hx hZ hown (hw _ (List.mem_of_getElem? (i := 31) rfl)) Via.refl e5 f6 f7 (Or.inr ⟨(hw _ (List.mem_of_getElem? (i := 32) rfl)), rfl, hnm⟩) (hw _ (List.mem_of_getElem? (i := 7) rfl)) (ty := .byte) (v' := (.int (0 : Int32))) (by decide) rfl rfl (g := (mkF m 48 #[.val (.ref b), .val (.ref ca), .val (.int (0 : Int32)), .val (.int (1 : Int32)), .val .null, .val (.ref r4)] [(.int (0 : Int32)), (.ref b)])) rfl rfl (hb hby own_d3_48)
  have N8 := Fr.snoc X8 N5 g_b
  have K8 : Keep h0 h8 [b] := K4.wr W8 (Or.inl (List.mem_of_getElem? (i := 0) rfl))
  have Z8 : n0 ≤ h8.size := Nat.le_trans Z4 (Keep.of_wr W8).1
  have O8 := O4.wr W8 g_b
  have fw8 := (f6.same W8)
  refine own_st (T' := T8) (g' := (mkF m 51 #[.val (.ref b), .val (.ref ca), .val (.int (0 : Int32)), .val (.int (1 : Int32)), .val .null, .val (.ref r4)] [])) st8 ?_
  refine own_st (T' := T8) (g' := (mkF m 54 #[.val (.ref b), .val (.ref ca), .val (.int (0 : Int32)), .val (.int (1 : Int32)), .val .null, .val (.ref r4)] [(.ref r4), (.ref b)])) (fun t k => ?_) ?_
  · show Steps p.tables e below (T8.setTop (mkF m 51 #[.val (.ref b), .val (.ref ca), .val (.int (0 : Int32)), .val (.int (1 : Int32)), .val .null, .val (.ref r4)] [])) t
    refine XS.aloadN X8.here hx rfl (hb hby own_d3_51) rfl rfl ?_
    refine XS.aload X8.here hx rfl (hb hby own_d3_52) rfl rfl ?_
    exact k
  have f9 := (F_v.keep Kc4 nin0).other W8 (Or.inr (slot_ne (Or.inr (hw _ (List.mem_of_getElem? (i := 34) rfl))) (Or.inr (hw _ (List.mem_of_getElem? (i := 32) rfl))) (by decide) (t := (.array .byte)) (t' := .byte) (by decide) (by decide)))
  have f10 := f7.wr W8
  obtain ⟨T11, h11, X11, e11, W11, st11⟩ := putF X8 hx hZ hown (host := "") (Or.inl (hw _ (List.mem_of_getElem? (i := 33) rfl))) Via.refl e8 f9 f10 (Or.inr ⟨(hw _ (List.mem_of_getElem? (i := 34) rfl)), rfl, hnm⟩) (hw _ (List.mem_of_getElem? (i := 7) rfl)) (ty := (.array .byte)) (by decide) rfl rfl (g := (mkF m 54 #[.val (.ref b), .val (.ref ca), .val (.int (0 : Int32)), .val (.int (1 : Int32)), .val .null, .val (.ref r4)] [(.ref r4), (.ref b)])) rfl rfl (hb hby own_d3_54)
  have N11 := Fr.snoc X11 N8 g_b
  have K11 : Keep h0 h11 [b] := K8.wr W11 (Or.inl (List.mem_of_getElem? (i := 0) rfl))
  have Z11 : n0 ≤ h11.size := Nat.le_trans Z8 (Keep.of_wr W11).1
  have O11 := O8.wr W11 g_b
  have fw11 := (f9.same W11)
  refine own_st (T' := T11) (g' := (mkF m 57 #[.val (.ref b), .val (.ref ca), .val (.int (0 : Int32)), .val (.int (1 : Int32)), .val .null, .val (.ref r4)] [])) st11 ?_
  have f12 := fw8.other W11 (Or.inr (slot_ne (Or.inr (hw _ (List.mem_of_getElem? (i := 32) rfl))) (Or.inr (hw _ (List.mem_of_getElem? (i := 34) rfl))) (by decide) (t := .byte) (t' := (.array .byte)) (by decide) (by decide)))
  have f13 := (Vc4.other W8 (Ne.symm ne_b_r4)).other W11 (Ne.symm ne_b_r4)
  exact own_retV X11 hx Bd (hb hby own_d3_57) e11 (⟨r4, k4, rfl, N11, K11, g4, hwr4, fw11, f12, f13⟩) (by decide) (by decide)
def own_r2_1 : Room := { frames := 3, cells := 1, slots := 1, locals := 52 }
theorem own_ef2_1 (m : MethodId) (x0 : Addr) (x1 : Addr) : entryFrame m #[(.ref x0), (.ref x1)] 2 = mkF m 0 #[.val (.ref x0), .val (.ref x1)] [] := by first | (simp [entryFrame, mkF, argsToLocals, Value.category]; done) | rfl
def own_Q2_1 (Z : State) (b : Addr) (ca : Addr) (kc : ClassId) (c0 : Int32) (cs : Int32) (h0 : Heap) (n0 : Nat) : Option Value → Heap → List Loc → Prop := fun v h L => ∃ t k, v = none ∧ Fr n0 L ∧ Keep h0 h [b] ∧ n0 ≤ t ∧ h0.size ≤ t ∧ Fld Z h b "java/lang/String" "value" "[B" (.ref t) ∧ Fld Z h b "java/lang/String" "coder" "B" (.int (0 : Int32)) ∧ Arv Z h t k .byte (1 : Int32) [(.int (c0.toInt8.toInt32))] (.int (0 : Int32))
set_option maxRecDepth 65536 in
set_option maxHeartbeats 40000000 in
theorem own_rm2_1 (l : Launch) (Z : State) (a0 : Array Value) (hw : ∀ d ∈ tables_1, d.before a0 Z = true) (ws : List Jvm.Cond) (b : Addr) (ca : Addr) (kc : ClassId) (c0 : Int32) (cs : Int32) (h0 : Heap) (n0 : Nat) (Z0 : n0 ≤ h0.size) (O0 : Old Z n0 h0) (E_b : Exa Z h0 b "java/lang/String") (F_v : Fld Z h0 b "java/lang/String" "value" "[B" .null) (F_c : Fld Z h0 b "java/lang/String" "coder" "B" (.int (0 : Int32))) (g_b : n0 ≤ b) (V_c : Arv Z h0 ca kc .char (1 : Int32) [(.int c0)] (.int (0 : Int32))) (nbc : b ≠ ca) (hl0 : ¬ (255 : Int32) < c0) (hcs : ¬ cs = (0 : Int32)) (S_cs : Sta Z Z.heap "java/lang/String" "COMPACT_STRINGS" "Z" (.int cs)) :
    MetFree l (⟨"java/lang/String", "<init>", "([C)V"⟩ : MethodName) (head1 (Jvm.Cond.code (⟨"java/lang/String", "<init>", "([C)V"⟩ : MethodName) jdk_42_method_3_code 2 none :: ws) own_r2_1) (fun a_ U_ => a_ = #[(.ref b), (.ref ca)] ∧ Z.Warmed39 U_.vm ∧ U_.heap = h0) (fun _ _ _ _ _ => True) (fun _ U_ o_ U'_ => ∃ v_ L_, o_ = .returned v_ ∧ own_Q2_1 Z b  ca  kc  c0  cs  h0 n0 v_ U'_.heap L_ ∧ FrameEnd U_ o_ U'_ L_ own_r2_1.cells own_r2_1.slots) := by
  refine MetFree.of_bodySF (plainFor_of_name own_pn1) hisR ?_
  intro p e s m args below meth c s₁ Bd hml0 hP hK
  obtain ⟨rfl, hZ, hh⟩ := hP
  have hx := Bd.exec
  have hby := Bd.bytes
  have hml : c.maxLocals = 2 := hml0
  have hown : s.vm.findClass "java/lang/String" = some m.cls := findClass_of_methodNamed Bd.named
  have hnm := (name_of_methodNamed Bd.named Bd.method).1
  have X0 : Stand p l e own_r2_1 s m #[(.ref b), (.ref ca)] below meth c s₁ [] 0 0 := Stand.of_body Bd
  have e0 : s₁.heap = h0 := by rw [← hh, Bd.state]; rfl
  have N0 := Fr.nil n0
  refine own_in (own_ef2_1 m b ca) ?_
  show own_Go p e below (own_K s (own_Q2_1 Z b  ca  kc  c0  cs  h0 n0) own_r2_1.cells own_r2_1.slots) s₁ (mkF m 0 #[.val (.ref b), .val (.ref ca)] [])
  refine own_st (T' := s₁) (g' := (mkF m 4 #[.val (.ref b), .val (.ref ca)] [(.ref ca), (.int (0 : Int32)), (.ref ca), (.ref b)])) (fun t k => ?_) ?_
  · show Steps p.tables e below (s₁.setTop (mkF m 0 #[.val (.ref b), .val (.ref ca)] [])) t
    refine XS.aloadN X0.here hx rfl (hb hby own_d2_0) rfl rfl ?_
    refine XS.aloadN X0.here hx rfl (hb hby own_d2_1) rfl rfl ?_
    refine XS.iconst X0.here hx rfl (hb hby own_d2_2) ?_
    refine XS.aloadN X0.here hx rfl (hb hby own_d2_3) rfl rfl ?_
    exact k
  obtain ⟨cl1, Ar1, q1, S1, M1, H1, G1⟩ := id V_c
  refine own_st (T' := s₁) (g' := (mkF m 6 #[.val (.ref b), .val (.ref ca)] [.null, (.int (1 : Int32)), (.int (0 : Int32)), (.ref ca), (.ref b)])) (fun t k => ?_) ?_
  · show Steps p.tables e below (s₁.setTop (mkF m 4 #[.val (.ref b), .val (.ref ca)] [(.ref ca), (.int (0 : Int32)), (.ref ca), (.ref b)])) t
    refine X0.arraylength hx (by rw [e0]; exact Ar1.1) (State.isArrayOf_alike hZ.alike Ar1.2.1) (g := (mkF m 4 #[.val (.ref b), .val (.ref ca)] [(.ref ca), (.int (0 : Int32)), (.ref ca), (.ref b)])) rfl rfl (hb hby own_d2_4) _ ?_
    rw [len_of S1 M1]
    show Steps p.tables e below (s₁.setTop (mkF m 5 #[.val (.ref b), .val (.ref ca)] [(.int (1 : Int32)), (.int (0 : Int32)), (.ref ca), (.ref b)])) t
    refine XS.aconstNull X0.here hx rfl (hb hby own_d2_5) ?_
    exact k
  obtain ⟨_, _, ⟨T2, L2, c2, n2⟩, -, X2, ⟨Lc2, hQ2, l2, y2, z2⟩, st2⟩ := X0.specialBack hx (y := (⟨"java/lang/String", "<init>", "([CIILjava/lang/Void;)V"⟩ : MethodName)) rfl hown (mvT hZ (hw _ (List.mem_of_getElem? (i := 12) rfl))) (mvT hZ (hw _ (List.mem_of_getElem? (i := 13) rfl))) (mvT hZ (hw _ (List.mem_of_getElem? (i := 15) rfl))) (by decide) (backOf (W := 0) (own_rm3_1 l Z a0 hw [] b ca kc c0 cs h0 n0 Z0 O0 E_b F_v F_c g_b V_c nbc hl0 hcs S_cs) hZ (hw _ (List.mem_of_getElem? (i := 15) rfl)) (hw _ (List.mem_of_getElem? (i := 8) rfl)) (by decide) (by decide)) (g := (mkF m 6 #[.val (.ref b), .val (.ref ca)] [.null, (.int (1 : Int32)), (.int (0 : Int32)), (.ref ca), (.ref b)])) rfl (by rw [hml]; rfl) (Steps.refl _) (a := b) (argsL := [(.ref ca), (.int (0 : Int32)), (.int (1 : Int32)), .null]) (rest := []) (lenOf own_pd3 rfl) rfl (by show 2 * 0 + _ ≤ _; exact Nat.le_of_eq rfl) (hb hby own_d2_6) (fun _ _ => ⟨rfl, e0, (by decide : 0 + 1 ≤ _), (by decide : 0 + 1 ≤ _)⟩)
  dsimp only [Pt.U, Pt.locs, Pt.cells, Pt.slots] at X2 l2 y2 z2 st2 hQ2
  subst l2 y2 z2
  obtain ⟨h2, e2⟩ : ∃ z, T2.heap = z := ⟨_, rfl⟩
  rw [e2] at hQ2
  obtain ⟨t2, k2, rfl, N2q, Kc2, g2, hz2, Fv2, Fo2, Vc2⟩ := hQ2
  have N2 := Fr.app N0 N2q
  have ne_b_t2 : b ≠ t2 := Nat.ne_of_lt (Nat.lt_of_lt_of_le E_b.lt hz2)
  have ne_ca_t2 : ca ≠ t2 := Nat.ne_of_lt (Nat.lt_of_lt_of_le V_c.lt hz2)
  have hwt2 : h0.size ≤ t2 := Nat.le_trans (Keep.refl h0 [b]).1 hz2
  have K2 : Keep h0 h2 [b] := (Keep.refl h0 [b]).trans Kc2 (allS (Or.inl (List.mem_of_getElem? (i := 0) rfl)) all0)
  have Z2 : n0 ≤ h2.size := Nat.le_trans Z0 Kc2.1
  have O2 := O0.keep Kc2 (allS g_b all0)
  refine own_tr (T' := T2) (g' := (mkF m 9 #[.val (.ref b), .val (.ref ca)] [])) st2 ?_
  exact own_retV X2 hx Bd (hb hby own_d2_9) e2 (⟨t2, k2, rfl, N2, K2, g2, hwt2, Fv2, Fo2, Vc2⟩) (by decide) (by decide)
def own_r7_2 : Room := { frames := 0, cells := 0, slots := 0, locals := 0 }
theorem own_ef7_2 (m : MethodId) (x0 : Addr) : entryFrame m #[(.ref x0), (.int (2 : Int32))] 2 = mkF m 0 #[.val (.ref x0), .val (.int (2 : Int32))] [] := by first | (simp [entryFrame, mkF, argsToLocals, Value.category]; done) | rfl
def own_Q7_2 (Z : State) (arr : Addr) (ka : ClassId) (x0 x1 : Int32) (cs : Int32) (h0 : Heap) (n0 : Nat) : Option Value → Heap → List Loc → Prop := fun v h L => v = some (.int (0 : Int32)) ∧ Fr n0 L ∧ h = h0
set_option maxRecDepth 65536 in
set_option maxHeartbeats 40000000 in
theorem own_rm7_2 (l : Launch) (Z : State) (a0 : Array Value) (hw : ∀ d ∈ tables_1, d.before a0 Z = true) (ws : List Jvm.Cond) (arr : Addr) (ka : ClassId) (x0 x1 : Int32) (cs : Int32) (h0 : Heap) (n0 : Nat) (Z0 : n0 ≤ h0.size) (O0 : Old Z n0 h0) (V_a : Arv Z h0 arr ka .byte (2 : Int32) [(.int x0), (.int x1)] (.int (0 : Int32))) (hcs : ¬ cs = (0 : Int32)) (S_cs : Sta Z Z.heap "java/lang/String" "COMPACT_STRINGS" "Z" (.int cs)) :
    MetFree l (⟨"java/lang/StringUTF16", "coderFromArrayLen", "([BI)B"⟩ : MethodName) (head1 (Jvm.Cond.code (⟨"java/lang/StringUTF16", "coderFromArrayLen", "([BI)B"⟩ : MethodName) jdk_52_method_15_code 2 (some .byte) :: ws) own_r7_2) (fun a_ U_ => a_ = #[(.ref arr), (.int (2 : Int32))] ∧ Z.Warmed39 U_.vm ∧ U_.heap = h0) (fun _ _ _ _ _ => True) (fun _ U_ o_ U'_ => ∃ v_ L_, o_ = .returned v_ ∧ own_Q7_2 Z arr  ka  x0 x1  cs  h0 n0 v_ U'_.heap L_ ∧ FrameEnd U_ o_ U'_ L_ own_r7_2.cells own_r7_2.slots) := by
  refine MetFree.of_bodySF (plainFor_of_name own_pn0) hisR ?_
  intro p e s m args below meth c s₁ Bd hml0 hP hK
  obtain ⟨rfl, hZ, hh⟩ := hP
  have hx := Bd.exec
  have hby := Bd.bytes
  have hml : c.maxLocals = 2 := hml0
  have hown : s.vm.findClass "java/lang/StringUTF16" = some m.cls := findClass_of_methodNamed Bd.named
  have hnm := (name_of_methodNamed Bd.named Bd.method).1
  have X0 : Stand p l e own_r7_2 s m #[(.ref arr), (.int (2 : Int32))] below meth c s₁ [] 0 0 := Stand.of_body Bd
  have e0 : s₁.heap = h0 := by rw [← hh, Bd.state]; rfl
  have N0 := Fr.nil n0
  refine own_in (own_ef7_2 m arr) ?_
  show own_Go p e below (own_K s (own_Q7_2 Z arr  ka  x0 x1  cs  h0 n0) own_r7_2.cells own_r7_2.slots) s₁ (mkF m 0 #[.val (.ref arr), .val (.int (2 : Int32))] [])
  refine own_st (T' := s₁) (g' := (mkF m 2 #[.val (.ref arr), .val (.int (2 : Int32))] [(.ref arr), (.int (2 : Int32))])) (fun t k => ?_) ?_
  · show Steps p.tables e below (s₁.setTop (mkF m 0 #[.val (.ref arr), .val (.int (2 : Int32))] [])) t
    refine XS.iloadN X0.here hx rfl (hb hby own_d7_0) rfl ?_
    refine XS.aloadN X0.here hx rfl (hb hby own_d7_1) rfl rfl ?_
    exact k
  obtain ⟨cl1, Ar1, q1, S1, M1, H1, G1⟩ := id V_a
  refine own_st (T' := s₁) (g' := (mkF m 8 #[.val (.ref arr), .val (.int (2 : Int32))] [(.int (0 : Int32))])) (fun t k => ?_) ?_
  · show Steps p.tables e below (s₁.setTop (mkF m 2 #[.val (.ref arr), .val (.int (2 : Int32))] [(.ref arr), (.int (2 : Int32))])) t
    refine X0.arraylength hx (by rw [e0]; exact Ar1.1) (State.isArrayOf_alike hZ.alike Ar1.2.1) (g := (mkF m 2 #[.val (.ref arr), .val (.int (2 : Int32))] [(.ref arr), (.int (2 : Int32))])) rfl rfl (hb hby own_d7_2) _ ?_
    rw [len_of S1 M1]
    show Steps p.tables e below (s₁.setTop (mkF m 3 #[.val (.ref arr), .val (.int (2 : Int32))] [(.int (2 : Int32)), (.int (2 : Int32))])) t
    refine XS.isub X0.here hx rfl (hb hby own_d7_3) rfl ?_
    refine XS.bipush X0.here hx rfl (hb hby own_d7_4) ?_
    refine XS.iushr X0.here hx rfl (hb hby own_d7_6) rfl ?_
    refine XS.i2b X0.here hx rfl (hb hby own_d7_7) rfl ?_
    exact k
  exact own_retN X0 hx Bd (t := .byte) (by simp) rfl (hb hby own_d7_8) e0 (⟨rfl, N0, rfl⟩) (by decide) (by decide)
def own_r6_2 : Room := { frames := 0, cells := 0, slots := 0, locals := 0 }
theorem own_ef6_2 (m : MethodId) (x0 : Addr) (x2 : Addr) : entryFrame m #[(.ref x0), (.int (0 : Int32)), (.ref x2), (.int (0 : Int32)), (.int (2 : Int32))] 7 = mkF m 0 #[.val (.ref x0), .val (.int (0 : Int32)), .val (.ref x2), .val (.int (0 : Int32)), .val (.int (2 : Int32)), .unset, .unset] [] := by first | (simp [entryFrame, mkF, argsToLocals, Value.category]; done) | rfl
def own_Q6_2 (Z : State) (ca : Addr) (kc : ClassId) (c0 c1 : Int32) (da : Addr) (kd : ClassId) (cs : Int32) (h0 : Heap) (n0 : Nat) : Option Value → Heap → List Loc → Prop := fun v h L => v = some (.int (2 : Int32)) ∧ Fr n0 L ∧ Keep h0 h [da] ∧ Arv Z h da kd .byte (2 : Int32) [(.int (c0.toInt8.toInt32)), (.int (c1.toInt8.toInt32))] (.int (0 : Int32))
set_option maxRecDepth 65536 in
set_option maxHeartbeats 40000000 in
theorem own_rm6_2 (l : Launch) (Z : State) (a0 : Array Value) (hw : ∀ d ∈ tables_1, d.before a0 Z = true) (ws : List Jvm.Cond) (ca : Addr) (kc : ClassId) (c0 c1 : Int32) (da : Addr) (kd : ClassId) (cs : Int32) (h0 : Heap) (n0 : Nat) (Z0 : n0 ≤ h0.size) (O0 : Old Z n0 h0) (V_c : Arv Z h0 ca kc .char (2 : Int32) [(.int c0), (.int c1)] (.int (0 : Int32))) (V_d : Arv Z h0 da kd .byte (2 : Int32) [(.int (0 : Int32)), (.int (0 : Int32))] (.int (0 : Int32))) (g_d : n0 ≤ da) (ncd : ca ≠ da) (hl0 : ¬ (255 : Int32) < c0) (hl1 : ¬ (255 : Int32) < c1) (hcs : ¬ cs = (0 : Int32)) (S_cs : Sta Z Z.heap "java/lang/String" "COMPACT_STRINGS" "Z" (.int cs)) :
    MetFree l (⟨"java/lang/StringUTF16", "compress", "([CI[BII)I"⟩ : MethodName) (head1 (Jvm.Cond.code (⟨"java/lang/StringUTF16", "compress", "([CI[BII)I"⟩ : MethodName) jdk_52_method_21_code 7 (some .int) :: ws) own_r6_2) (fun a_ U_ => a_ = #[(.ref ca), (.int (0 : Int32)), (.ref da), (.int (0 : Int32)), (.int (2 : Int32))] ∧ Z.Warmed39 U_.vm ∧ U_.heap = h0) (fun _ _ _ _ _ => True) (fun _ U_ o_ U'_ => ∃ v_ L_, o_ = .returned v_ ∧ own_Q6_2 Z ca  kc  c0 c1  da  kd  cs  h0 n0 v_ U'_.heap L_ ∧ FrameEnd U_ o_ U'_ L_ own_r6_2.cells own_r6_2.slots) := by
  refine MetFree.of_bodySF (plainFor_of_name own_pn0) hisR ?_
  intro p e s m args below meth c s₁ Bd hml0 hP hK
  obtain ⟨rfl, hZ, hh⟩ := hP
  have hx := Bd.exec
  have hby := Bd.bytes
  have hml : c.maxLocals = 7 := hml0
  have hown : s.vm.findClass "java/lang/StringUTF16" = some m.cls := findClass_of_methodNamed Bd.named
  have hnm := (name_of_methodNamed Bd.named Bd.method).1
  have X0 : Stand p l e own_r6_2 s m #[(.ref ca), (.int (0 : Int32)), (.ref da), (.int (0 : Int32)), (.int (2 : Int32))] below meth c s₁ [] 0 0 := Stand.of_body Bd
  have e0 : s₁.heap = h0 := by rw [← hh, Bd.state]; rfl
  have N0 := Fr.nil n0
  refine own_in (own_ef6_2 m ca da) ?_
  show own_Go p e below (own_K s (own_Q6_2 Z ca  kc  c0 c1  da  kd  cs  h0 n0) own_r6_2.cells own_r6_2.slots) s₁ (mkF m 0 #[.val (.ref ca), .val (.int (0 : Int32)), .val (.ref da), .val (.int (0 : Int32)), .val (.int (2 : Int32)), .unset, .unset] [])
  refine own_st (T' := s₁) (g' := (mkF m 12 #[.val (.ref ca), .val (.int (0 : Int32)), .val (.ref da), .val (.int (0 : Int32)), .val (.int (2 : Int32)), .val (.int (0 : Int32)), .unset] [(.int (0 : Int32)), (.ref ca)])) (fun t k => ?_) ?_
  · show Steps p.tables e below (s₁.setTop (mkF m 0 #[.val (.ref ca), .val (.int (0 : Int32)), .val (.ref da), .val (.int (0 : Int32)), .val (.int (2 : Int32)), .unset, .unset] [])) t
    refine XS.iconst X0.here hx rfl (hb hby own_d6_0) ?_
    refine XS.istore X0.here hx rfl (hb hby own_d6_1) rfl (l' := #[.val (.ref ca), .val (.int (0 : Int32)), .val (.ref da), .val (.int (0 : Int32)), .val (.int (2 : Int32)), .val (.int (0 : Int32)), .unset]) rfl ?_
    refine XS.iload X0.here hx rfl (hb hby own_d6_3) rfl ?_
    refine XS.iload X0.here hx rfl (hb hby own_d6_5) rfl ?_
    refine XS.icmpNo X0.here hx rfl (hb hby own_d6_7) rfl (tlt (by decide : (0 : Int32) < (2 : Int32))).2.1 ?_
    refine XS.aloadN X0.here hx rfl (hb hby own_d6_10) rfl rfl ?_
    refine XS.iloadN X0.here hx rfl (hb hby own_d6_11) rfl ?_
    exact k
  obtain ⟨cl1, Ar1, q1, S1, M1, H1, G1⟩ := id V_c
  refine own_st (T' := s₁) (g' := (mkF m 31 #[.val (.ref ca), .val (.int (0 : Int32)), .val (.ref da), .val (.int (0 : Int32)), .val (.int (2 : Int32)), .val (.int (0 : Int32)), .val (.int c0)] [(.int (c0.toInt8.toInt32)), (.int (0 : Int32)), (.ref da)])) (fun t k => ?_) ?_
  · show Steps p.tables e below (s₁.setTop (mkF m 12 #[.val (.ref ca), .val (.int (0 : Int32)), .val (.ref da), .val (.int (0 : Int32)), .val (.int (2 : Int32)), .val (.int (0 : Int32)), .unset] [(.int (0 : Int32)), (.ref ca)])) t
    refine X0.caload hx (j := (0 : Int32)) (v := (.int c0)) (by rw [e0]; exact Ar1.1) (State.isArrayOf_alike hZ.alike Ar1.2.1) Ar1.2.2 (inb_of S1 ⟨by decide, by decide⟩) (Has.at H1 (inb_of S1 ⟨by decide, by decide⟩) rfl) (g := (mkF m 12 #[.val (.ref ca), .val (.int (0 : Int32)), .val (.ref da), .val (.int (0 : Int32)), .val (.int (2 : Int32)), .val (.int (0 : Int32)), .unset] [(.int (0 : Int32)), (.ref ca)])) rfl rfl (hb hby own_d6_12) _ ?_
    show Steps p.tables e below (s₁.setTop (mkF m 13 #[.val (.ref ca), .val (.int (0 : Int32)), .val (.ref da), .val (.int (0 : Int32)), .val (.int (2 : Int32)), .val (.int (0 : Int32)), .unset] [(.int c0)])) t
    refine XS.istore X0.here hx rfl (hb hby own_d6_13) rfl (l' := #[.val (.ref ca), .val (.int (0 : Int32)), .val (.ref da), .val (.int (0 : Int32)), .val (.int (2 : Int32)), .val (.int (0 : Int32)), .val (.int c0)]) rfl ?_
    refine XS.iload X0.here hx rfl (hb hby own_d6_15) rfl ?_
    refine XS.sipush X0.here hx rfl (hb hby own_d6_17) ?_
    refine XS.icmpYes X0.here hx rfl (pc0 := 20) (pc' := 26) rfl (hb hby own_d6_20) rfl (flt hl0).2.2.2 (by decide) (by decide) ?_
    refine XS.aloadN X0.here hx rfl (hb hby own_d6_26) rfl rfl ?_
    refine XS.iloadN X0.here hx rfl (hb hby own_d6_27) rfl ?_
    refine XS.iload X0.here hx rfl (hb hby own_d6_28) rfl ?_
    refine XS.i2b X0.here hx rfl (hb hby own_d6_30) rfl ?_
    exact k
  obtain ⟨cl2, Ar2, q2, S2, M2, H2, G2⟩ := id V_d
  obtain ⟨T3, h3, X3, e3, W3, st3⟩ := stB X0 hx hZ e0 Ar2 (j := (0 : Int32)) (inb_of S2 ⟨by decide, by decide⟩) (g := (mkF m 31 #[.val (.ref ca), .val (.int (0 : Int32)), .val (.ref da), .val (.int (0 : Int32)), .val (.int (2 : Int32)), .val (.int (0 : Int32)), .val (.int c0)] [(.int (c0.toInt8.toInt32)), (.int (0 : Int32)), (.ref da)])) rfl rfl (hb hby own_d6_31)
  have N3 := Fr.snoc X3 N0 g_d
  have K3 : Keep h0 h3 [da] := (Keep.refl h0 [da]).wr W3 (Or.inl (List.mem_of_getElem? (i := 0) rfl))
  have Z3 : n0 ≤ h3.size := Nat.le_trans Z0 (Keep.of_wr W3).1
  have O3 := O0.wr W3 g_d
  have fw3 := (show Arv Z h3 da kd .byte (2 : Int32) [(.int (c0.toInt8.toInt32)), (.int (0 : Int32))] (.int (0 : Int32)) by have q : Arv Z h3 da kd .byte (2 : Int32) [(.int ((c0.toInt8.toInt32).toInt8.toInt32)), (.int (0 : Int32))] (.int (0 : Int32)) := Arv.set Ar2 q2 S2 M2 H2 G2 (fits_nar_byte _) W3 0 rfl (Nat.le_of_ble_eq_true rfl); rw [own_bb c0] at q; exact q)
  refine own_st (T' := T3) (g' := (mkF m 32 #[.val (.ref ca), .val (.int (0 : Int32)), .val (.ref da), .val (.int (0 : Int32)), .val (.int (2 : Int32)), .val (.int (0 : Int32)), .val (.int c0)] [])) st3 ?_
  refine own_st (T' := T3) (g' := (mkF m 12 #[.val (.ref ca), .val (.int (1 : Int32)), .val (.ref da), .val (.int (1 : Int32)), .val (.int (2 : Int32)), .val (.int (1 : Int32)), .val (.int c0)] [(.int (1 : Int32)), (.ref ca)])) (fun t k => ?_) ?_
  · show Steps p.tables e below (T3.setTop (mkF m 32 #[.val (.ref ca), .val (.int (0 : Int32)), .val (.ref da), .val (.int (0 : Int32)), .val (.int (2 : Int32)), .val (.int (0 : Int32)), .val (.int c0)] [])) t
    refine XS.iinc X3.here hx rfl (hb hby own_d6_32) rfl (l' := #[.val (.ref ca), .val (.int (1 : Int32)), .val (.ref da), .val (.int (0 : Int32)), .val (.int (2 : Int32)), .val (.int (0 : Int32)), .val (.int c0)]) rfl ?_
    refine XS.iinc X3.here hx rfl (hb hby own_d6_35) rfl (l' := #[.val (.ref ca), .val (.int (1 : Int32)), .val (.ref da), .val (.int (1 : Int32)), .val (.int (2 : Int32)), .val (.int (0 : Int32)), .val (.int c0)]) rfl ?_
    refine XS.iinc X3.here hx rfl (hb hby own_d6_38) rfl (l' := #[.val (.ref ca), .val (.int (1 : Int32)), .val (.ref da), .val (.int (1 : Int32)), .val (.int (2 : Int32)), .val (.int (1 : Int32)), .val (.int c0)]) rfl ?_
    refine XS.goto X3.here hx rfl (pc0 := 41) (pc' := 3) rfl (hb hby own_d6_41) (by decide) (by decide) ?_
    refine XS.iload X3.here hx rfl (hb hby own_d6_3) rfl ?_
    refine XS.iload X3.here hx rfl (hb hby own_d6_5) rfl ?_
    refine XS.icmpNo X3.here hx rfl (hb hby own_d6_7) rfl (tlt (by decide : (1 : Int32) < (2 : Int32))).2.1 ?_
    refine XS.aloadN X3.here hx rfl (hb hby own_d6_10) rfl rfl ?_
    refine XS.iloadN X3.here hx rfl (hb hby own_d6_11) rfl ?_
    exact k
  have f4 := V_c.other W3 ncd
  obtain ⟨cl5, Ar5, q5, S5, M5, H5, G5⟩ := id f4
  refine own_st (T' := T3) (g' := (mkF m 31 #[.val (.ref ca), .val (.int (1 : Int32)), .val (.ref da), .val (.int (1 : Int32)), .val (.int (2 : Int32)), .val (.int (1 : Int32)), .val (.int c1)] [(.int (c1.toInt8.toInt32)), (.int (1 : Int32)), (.ref da)])) (fun t k => ?_) ?_
  · show Steps p.tables e below (T3.setTop (mkF m 12 #[.val (.ref ca), .val (.int (1 : Int32)), .val (.ref da), .val (.int (1 : Int32)), .val (.int (2 : Int32)), .val (.int (1 : Int32)), .val (.int c0)] [(.int (1 : Int32)), (.ref ca)])) t
    refine X3.caload hx (j := (1 : Int32)) (v := (.int c1)) (by rw [e3]; exact Ar5.1) (State.isArrayOf_alike hZ.alike Ar5.2.1) Ar5.2.2 (inb_of S5 ⟨by decide, by decide⟩) (Has.at H5 (inb_of S5 ⟨by decide, by decide⟩) rfl) (g := (mkF m 12 #[.val (.ref ca), .val (.int (1 : Int32)), .val (.ref da), .val (.int (1 : Int32)), .val (.int (2 : Int32)), .val (.int (1 : Int32)), .val (.int c0)] [(.int (1 : Int32)), (.ref ca)])) rfl rfl (hb hby own_d6_12) _ ?_
    show Steps p.tables e below (T3.setTop (mkF m 13 #[.val (.ref ca), .val (.int (1 : Int32)), .val (.ref da), .val (.int (1 : Int32)), .val (.int (2 : Int32)), .val (.int (1 : Int32)), .val (.int c0)] [(.int c1)])) t
    refine XS.istore X3.here hx rfl (hb hby own_d6_13) rfl (l' := #[.val (.ref ca), .val (.int (1 : Int32)), .val (.ref da), .val (.int (1 : Int32)), .val (.int (2 : Int32)), .val (.int (1 : Int32)), .val (.int c1)]) rfl ?_
    refine XS.iload X3.here hx rfl (hb hby own_d6_15) rfl ?_
    refine XS.sipush X3.here hx rfl (hb hby own_d6_17) ?_
    refine XS.icmpYes X3.here hx rfl (pc0 := 20) (pc' := 26) rfl (hb hby own_d6_20) rfl (flt hl1).2.2.2 (by decide) (by decide) ?_
    refine XS.aloadN X3.here hx rfl (hb hby own_d6_26) rfl rfl ?_
    refine XS.iloadN X3.here hx rfl (hb hby own_d6_27) rfl ?_
    refine XS.iload X3.here hx rfl (hb hby own_d6_28) rfl ?_
    refine XS.i2b X3.here hx rfl (hb hby own_d6_30) rfl ?_
    exact k
  obtain ⟨cl6, Ar6, q6, S6, M6, H6, G6⟩ := id fw3
  obtain ⟨T7, h7, X7, e7, W7, st7⟩ := stB X3 hx hZ e3 Ar6 (j := (1 : Int32)) (inb_of S6 ⟨by decide, by decide⟩) (g := (mkF m 31 #[.val (.ref ca), .val (.int (1 : Int32)), .val (.ref da), .val (.int (1 : Int32)), .val (.int (2 : Int32)), .val (.int (1 : Int32)), .val (.int c1)] [(.int (c1.toInt8.toInt32)), (.int (1 : Int32)), (.ref da)])) rfl rfl (hb hby own_d6_31)
  have N7 := Fr.snoc X7 N3 g_d
  have K7 : Keep h0 h7 [da] := K3.wr W7 (Or.inl (List.mem_of_getElem? (i := 0) rfl))
  have Z7 : n0 ≤ h7.size := Nat.le_trans Z3 (Keep.of_wr W7).1
  have O7 := O3.wr W7 g_d
  have fw7 := (show Arv Z h7 da kd .byte (2 : Int32) [(.int (c0.toInt8.toInt32)), (.int (c1.toInt8.toInt32))] (.int (0 : Int32)) by have q : Arv Z h7 da kd .byte (2 : Int32) [(.int (c0.toInt8.toInt32)), (.int ((c1.toInt8.toInt32).toInt8.toInt32))] (.int (0 : Int32)) := Arv.set Ar6 q6 S6 M6 H6 G6 (fits_nar_byte _) W7 1 rfl (Nat.le_of_ble_eq_true rfl); rw [own_bb c1] at q; exact q)
  refine own_st (T' := T7) (g' := (mkF m 32 #[.val (.ref ca), .val (.int (1 : Int32)), .val (.ref da), .val (.int (1 : Int32)), .val (.int (2 : Int32)), .val (.int (1 : Int32)), .val (.int c1)] [])) st7 ?_
  refine own_st (T' := T7) (g' := (mkF m 46 #[.val (.ref ca), .val (.int (2 : Int32)), .val (.ref da), .val (.int (2 : Int32)), .val (.int (2 : Int32)), .val (.int (2 : Int32)), .val (.int c1)] [(.int (2 : Int32))])) (fun t k => ?_) ?_
  · show Steps p.tables e below (T7.setTop (mkF m 32 #[.val (.ref ca), .val (.int (1 : Int32)), .val (.ref da), .val (.int (1 : Int32)), .val (.int (2 : Int32)), .val (.int (1 : Int32)), .val (.int c1)] [])) t
    refine XS.iinc X7.here hx rfl (hb hby own_d6_32) rfl (l' := #[.val (.ref ca), .val (.int (2 : Int32)), .val (.ref da), .val (.int (1 : Int32)), .val (.int (2 : Int32)), .val (.int (1 : Int32)), .val (.int c1)]) rfl ?_
    refine XS.iinc X7.here hx rfl (hb hby own_d6_35) rfl (l' := #[.val (.ref ca), .val (.int (2 : Int32)), .val (.ref da), .val (.int (2 : Int32)), .val (.int (2 : Int32)), .val (.int (1 : Int32)), .val (.int c1)]) rfl ?_
    refine XS.iinc X7.here hx rfl (hb hby own_d6_38) rfl (l' := #[.val (.ref ca), .val (.int (2 : Int32)), .val (.ref da), .val (.int (2 : Int32)), .val (.int (2 : Int32)), .val (.int (2 : Int32)), .val (.int c1)]) rfl ?_
    refine XS.goto X7.here hx rfl (pc0 := 41) (pc' := 3) rfl (hb hby own_d6_41) (by decide) (by decide) ?_
    refine XS.iload X7.here hx rfl (hb hby own_d6_3) rfl ?_
    refine XS.iload X7.here hx rfl (hb hby own_d6_5) rfl ?_
    refine XS.icmpYes X7.here hx rfl (pc0 := 7) (pc' := 44) rfl (hb hby own_d6_7) rfl (flt Int32.lt_irrefl).2.1 (by decide) (by decide) ?_
    refine XS.iload X7.here hx rfl (hb hby own_d6_44) rfl ?_
    exact k
  exact own_retI X7 hx Bd (hb hby own_d6_46) e7 (⟨rfl, N7, K7, fw7⟩) (by decide) (by decide)
def own_r5_2 : Room := { frames := 1, cells := 1, slots := 2, locals := 18 }
theorem own_ef5_2 (m : MethodId) (x0 : Addr) : entryFrame m #[(.ref x0), (.int (0 : Int32)), (.int (2 : Int32))] 6 = mkF m 0 #[.val (.ref x0), .val (.int (0 : Int32)), .val (.int (2 : Int32)), .unset, .unset, .unset] [] := by first | (simp [entryFrame, mkF, argsToLocals, Value.category]; done) | rfl
def own_Q5_2 (Z : State) (ca : Addr) (kc : ClassId) (c0 c1 : Int32) (cs : Int32) (h0 : Heap) (n0 : Nat) : Option Value → Heap → List Loc → Prop := fun v h L => ∃ r k, v = some (.ref r) ∧ Fr n0 L ∧ Keep h0 h [] ∧ n0 ≤ r ∧ h0.size ≤ r ∧ Arv Z h r k .byte (2 : Int32) [(.int (c0.toInt8.toInt32)), (.int (c1.toInt8.toInt32))] (.int (0 : Int32))
set_option maxRecDepth 65536 in
set_option maxHeartbeats 40000000 in
theorem own_rm5_2 (l : Launch) (Z : State) (a0 : Array Value) (hw : ∀ d ∈ tables_1, d.before a0 Z = true) (ws : List Jvm.Cond) (ca : Addr) (kc : ClassId) (c0 c1 : Int32) (cs : Int32) (h0 : Heap) (n0 : Nat) (Z0 : n0 ≤ h0.size) (O0 : Old Z n0 h0) (V_c : Arv Z h0 ca kc .char (2 : Int32) [(.int c0), (.int c1)] (.int (0 : Int32))) (hl0 : ¬ (255 : Int32) < c0) (hl1 : ¬ (255 : Int32) < c1) (hcs : ¬ cs = (0 : Int32)) (S_cs : Sta Z Z.heap "java/lang/String" "COMPACT_STRINGS" "Z" (.int cs)) :
    MetFree l (⟨"java/lang/StringUTF16", "compress", "([CII)[B"⟩ : MethodName) (head1 (Jvm.Cond.code (⟨"java/lang/StringUTF16", "compress", "([CII)[B"⟩ : MethodName) jdk_52_method_16_code 6 (some (.array .byte)) :: ws) own_r5_2) (fun a_ U_ => a_ = #[(.ref ca), (.int (0 : Int32)), (.int (2 : Int32))] ∧ Z.Warmed39 U_.vm ∧ U_.heap = h0) (fun _ _ _ _ _ => True) (fun _ U_ o_ U'_ => ∃ v_ L_, o_ = .returned v_ ∧ own_Q5_2 Z ca  kc  c0 c1  cs  h0 n0 v_ U'_.heap L_ ∧ FrameEnd U_ o_ U'_ L_ own_r5_2.cells own_r5_2.slots) := by
  refine MetFree.of_bodySF (plainFor_of_name own_pn0) hisR ?_
  intro p e s m args below meth c s₁ Bd hml0 hP hK
  obtain ⟨rfl, hZ, hh⟩ := hP
  have hx := Bd.exec
  have hby := Bd.bytes
  have hml : c.maxLocals = 6 := hml0
  have hown : s.vm.findClass "java/lang/StringUTF16" = some m.cls := findClass_of_methodNamed Bd.named
  have hnm := (name_of_methodNamed Bd.named Bd.method).1
  have X0 : Stand p l e own_r5_2 s m #[(.ref ca), (.int (0 : Int32)), (.int (2 : Int32))] below meth c s₁ [] 0 0 := Stand.of_body Bd
  have e0 : s₁.heap = h0 := by rw [← hh, Bd.state]; rfl
  have N0 := Fr.nil n0
  refine own_in (own_ef5_2 m ca) ?_
  show own_Go p e below (own_K s (own_Q5_2 Z ca  kc  c0 c1  cs  h0 n0) own_r5_2.cells own_r5_2.slots) s₁ (mkF m 0 #[.val (.ref ca), .val (.int (0 : Int32)), .val (.int (2 : Int32)), .unset, .unset, .unset] [])
  refine own_st (T' := s₁) (g' := (mkF m 1 #[.val (.ref ca), .val (.int (0 : Int32)), .val (.int (2 : Int32)), .unset, .unset, .unset] [(.int (2 : Int32))])) (fun t k => ?_) ?_
  · show Steps p.tables e below (s₁.setTop (mkF m 0 #[.val (.ref ca), .val (.int (0 : Int32)), .val (.int (2 : Int32)), .unset, .unset, .unset] [])) t
    refine XS.iloadN X0.here hx rfl (hb hby own_d5_0) rfl ?_
    exact k
  obtain ⟨T1, h1, k1, X1, e1, E1, A1, st1⟩ := newP X0 hx hZ (hw _ (List.mem_of_getElem? (i := 24) rfl)) e0 (g := (mkF m 1 #[.val (.ref ca), .val (.int (0 : Int32)), .val (.int (2 : Int32)), .unset, .unset, .unset] [(.int (2 : Int32))])) rfl (hb hby own_d5_1) rfl (by decide) (cap := 2) (by decide) (by decide) (by decide) (by decide)
  obtain ⟨b1, g1⟩ : ∃ z, z = h0.size := ⟨_, rfl⟩
  rw [← g1] at A1 st1
  have sz1 : h0.size ≤ b1 := Nat.le_of_eq g1.symm
  have ne_ca_b1 : ca ≠ b1 := Nat.ne_of_lt (Nat.lt_of_lt_of_le V_c.lt sz1)
  have g_b1 : n0 ≤ b1 := Nat.le_trans Z0 sz1
  have hz_b1 : h0.size ≤ b1 := Nat.le_trans (Keep.refl h0 []).1 sz1
  have K1 : Keep h0 h1 [] := (Keep.refl h0 []).ext E1
  have Z1 : n0 ≤ h1.size := Nat.le_trans Z0 E1.1
  have O1 := O0.ext E1
  have V1 : Arv Z h1 b1 k1 .byte (2 : Int32) [(.int (0 : Int32)), (.int (0 : Int32))] (.int (0 : Int32)) := (Arv.new A1 (by decide)).pad (pad_rep [] (.int (0 : Int32)) 2)
  refine own_st (T' := T1) (g' := (mkF m 3 #[.val (.ref ca), .val (.int (0 : Int32)), .val (.int (2 : Int32)), .unset, .unset, .unset] [(.ref b1)])) st1 ?_
  refine own_st (T' := T1) (g' := (mkF m 9 #[.val (.ref ca), .val (.int (0 : Int32)), .val (.int (2 : Int32)), .val (.ref b1), .unset, .unset] [(.int (2 : Int32)), (.int (0 : Int32)), (.ref b1), (.int (0 : Int32)), (.ref ca)])) (fun t k => ?_) ?_
  · show Steps p.tables e below (T1.setTop (mkF m 3 #[.val (.ref ca), .val (.int (0 : Int32)), .val (.int (2 : Int32)), .unset, .unset, .unset] [(.ref b1)])) t
    refine XS.astoreN X1.here hx rfl (hb hby own_d5_3) rfl rfl (l' := #[.val (.ref ca), .val (.int (0 : Int32)), .val (.int (2 : Int32)), .val (.ref b1), .unset, .unset]) rfl ?_
    refine XS.aloadN X1.here hx rfl (hb hby own_d5_4) rfl rfl ?_
    refine XS.iloadN X1.here hx rfl (hb hby own_d5_5) rfl ?_
    refine XS.aloadN X1.here hx rfl (hb hby own_d5_6) rfl rfl ?_
    refine XS.iconst X1.here hx rfl (hb hby own_d5_7) ?_
    refine XS.iloadN X1.here hx rfl (hb hby own_d5_8) rfl ?_
    exact k
  have f2 := V_c.ext E1
  obtain ⟨_, _, ⟨T3, L3, c3, n3⟩, -, X3, ⟨Lc3, hQ3, l3, y3, z3⟩, st3⟩ := Jvm.LawKit.callS X1 hx (y := (⟨"java/lang/StringUTF16", "compress", "([CI[BII)I"⟩ : MethodName)) hown (mvT hZ (hw _ (List.mem_of_getElem? (i := 25) rfl))) (mvT hZ (hw _ (List.mem_of_getElem? (i := 26) rfl))) (mvT hZ (hw _ (List.mem_of_getElem? (i := 22) rfl))) (mvT hZ (hw _ (List.mem_of_getElem? (i := 27) rfl))) (by decide) (backOf (W := 0) (own_rm6_2 l Z a0 hw [] ca kc c0 c1 b1 k1 cs h1 n0 Z1 O1 f2 V1 g_b1 ne_ca_b1 hl0 hl1 hcs S_cs) hZ (hw _ (List.mem_of_getElem? (i := 27) rfl)) (hw _ (List.mem_of_getElem? (i := 22) rfl)) (by decide) (by decide)) (g := (mkF m 9 #[.val (.ref ca), .val (.int (0 : Int32)), .val (.int (2 : Int32)), .val (.ref b1), .unset, .unset] [(.int (2 : Int32)), (.int (0 : Int32)), (.ref b1), (.int (0 : Int32)), (.ref ca)])) rfl (by rw [hml]; rfl) (argsL := [(.ref ca), (.int (0 : Int32)), (.ref b1), (.int (0 : Int32)), (.int (2 : Int32))]) (rest := []) (lenOf own_pd0 rfl) rfl (by show 2 * 0 + _ ≤ _; exact Nat.le_of_eq rfl) (hb hby own_d5_9) (fun _ _ => ⟨rfl, e1, (by decide : 1 + 0 ≤ _), (by decide : 2 + 0 ≤ _)⟩)
  dsimp only [Pt.U, Pt.locs, Pt.cells, Pt.slots] at X3 l3 y3 z3 st3 hQ3
  subst l3 y3 z3
  obtain ⟨h3, e3⟩ : ∃ z, T3.heap = z := ⟨_, rfl⟩
  rw [e3] at hQ3
  obtain ⟨rfl, N3q, Kc3, Vc3⟩ := hQ3
  have N3 := Fr.app N0 N3q
  have K3 : Keep h0 h3 [] := K1.trans Kc3 (allS (Or.inr hz_b1) all0)
  have Z3 : n0 ≤ h3.size := Nat.le_trans Z1 Kc3.1
  have O3 := O1.keep Kc3 (allS g_b1 all0)
  refine own_st (T' := T3) (g' := (mkF m 12 #[.val (.ref ca), .val (.int (0 : Int32)), .val (.int (2 : Int32)), .val (.ref b1), .unset, .unset] [(.int (2 : Int32))])) st3 ?_
  refine own_st (T' := T3) (g' := (mkF m 58 #[.val (.ref ca), .val (.int (0 : Int32)), .val (.int (2 : Int32)), .val (.ref b1), .val (.int (2 : Int32)), .unset] [(.ref b1)])) (fun t k => ?_) ?_
  · show Steps p.tables e below (T3.setTop (mkF m 12 #[.val (.ref ca), .val (.int (0 : Int32)), .val (.int (2 : Int32)), .val (.ref b1), .unset, .unset] [(.int (2 : Int32))])) t
    refine XS.istore X3.here hx rfl (hb hby own_d5_12) rfl (l' := #[.val (.ref ca), .val (.int (0 : Int32)), .val (.int (2 : Int32)), .val (.ref b1), .val (.int (2 : Int32)), .unset]) rfl ?_
    refine XS.iload X3.here hx rfl (hb hby own_d5_14) rfl ?_
    refine XS.iloadN X3.here hx rfl (hb hby own_d5_16) rfl ?_
    refine XS.icmpYes X3.here hx rfl (pc0 := 17) (pc' := 57) rfl (hb hby own_d5_17) rfl (teq (rfl : (2 : Int32) = (2 : Int32))).1 (by decide) (by decide) ?_
    refine XS.aloadN X3.here hx rfl (hb hby own_d5_57) rfl rfl ?_
    exact k
  exact own_retA X3 hx Bd rfl rfl (hb hby own_d5_58) e3 (⟨b1, k1, rfl, N3, K3, g_b1, hz_b1, Vc3⟩) (by decide) (by decide)
def own_r3_2 : Room := { frames := 2, cells := 1, slots := 2, locals := 35 }
theorem own_ef3_2 (m : MethodId) (x0 : Addr) (x1 : Addr) : entryFrame m #[(.ref x0), (.ref x1), (.int (0 : Int32)), (.int (2 : Int32)), .null] 6 = mkF m 0 #[.val (.ref x0), .val (.ref x1), .val (.int (0 : Int32)), .val (.int (2 : Int32)), .val .null, .unset] [] := by first | (simp [entryFrame, mkF, argsToLocals, Value.category]; done) | rfl
def own_Q3_2 (Z : State) (b : Addr) (ca : Addr) (kc : ClassId) (c0 c1 : Int32) (cs : Int32) (h0 : Heap) (n0 : Nat) : Option Value → Heap → List Loc → Prop := fun v h L => ∃ t k, v = none ∧ Fr n0 L ∧ Keep h0 h [b] ∧ n0 ≤ t ∧ h0.size ≤ t ∧ Fld Z h b "java/lang/String" "value" "[B" (.ref t) ∧ Fld Z h b "java/lang/String" "coder" "B" (.int (0 : Int32)) ∧ Arv Z h t k .byte (2 : Int32) [(.int (c0.toInt8.toInt32)), (.int (c1.toInt8.toInt32))] (.int (0 : Int32))
set_option maxRecDepth 65536 in
set_option maxHeartbeats 40000000 in
theorem own_rm3_2 (l : Launch) (Z : State) (a0 : Array Value) (hw : ∀ d ∈ tables_1, d.before a0 Z = true) (ws : List Jvm.Cond) (b : Addr) (ca : Addr) (kc : ClassId) (c0 c1 : Int32) (cs : Int32) (h0 : Heap) (n0 : Nat) (Z0 : n0 ≤ h0.size) (O0 : Old Z n0 h0) (E_b : Exa Z h0 b "java/lang/String") (F_v : Fld Z h0 b "java/lang/String" "value" "[B" .null) (F_c : Fld Z h0 b "java/lang/String" "coder" "B" (.int (0 : Int32))) (g_b : n0 ≤ b) (V_c : Arv Z h0 ca kc .char (2 : Int32) [(.int c0), (.int c1)] (.int (0 : Int32))) (nbc : b ≠ ca) (hl0 : ¬ (255 : Int32) < c0) (hl1 : ¬ (255 : Int32) < c1) (hcs : ¬ cs = (0 : Int32)) (S_cs : Sta Z Z.heap "java/lang/String" "COMPACT_STRINGS" "Z" (.int cs)) :
    MetFree l (⟨"java/lang/String", "<init>", "([CIILjava/lang/Void;)V"⟩ : MethodName) (head1 (Jvm.Cond.code (⟨"java/lang/String", "<init>", "([CIILjava/lang/Void;)V"⟩ : MethodName) jdk_42_method_149_code 6 none :: ws) own_r3_2) (fun a_ U_ => a_ = #[(.ref b), (.ref ca), (.int (0 : Int32)), (.int (2 : Int32)), .null] ∧ Z.Warmed39 U_.vm ∧ U_.heap = h0) (fun _ _ _ _ _ => True) (fun _ U_ o_ U'_ => ∃ v_ L_, o_ = .returned v_ ∧ own_Q3_2 Z b  ca  kc  c0 c1  cs  h0 n0 v_ U'_.heap L_ ∧ FrameEnd U_ o_ U'_ L_ own_r3_2.cells own_r3_2.slots) := by
  refine MetFree.of_bodySF (plainFor_of_name own_pn1) hisR ?_
  intro p e s m args below meth c s₁ Bd hml0 hP hK
  obtain ⟨rfl, hZ, hh⟩ := hP
  have hx := Bd.exec
  have hby := Bd.bytes
  have hml : c.maxLocals = 6 := hml0
  have hown : s.vm.findClass "java/lang/String" = some m.cls := findClass_of_methodNamed Bd.named
  have hnm := (name_of_methodNamed Bd.named Bd.method).1
  have X0 : Stand p l e own_r3_2 s m #[(.ref b), (.ref ca), (.int (0 : Int32)), (.int (2 : Int32)), .null] below meth c s₁ [] 0 0 := Stand.of_body Bd
  have e0 : s₁.heap = h0 := by rw [← hh, Bd.state]; rfl
  have N0 := Fr.nil n0
  refine own_in (own_ef3_2 m b ca) ?_
  show own_Go p e below (own_K s (own_Q3_2 Z b  ca  kc  c0 c1  cs  h0 n0) own_r3_2.cells own_r3_2.slots) s₁ (mkF m 0 #[.val (.ref b), .val (.ref ca), .val (.int (0 : Int32)), .val (.int (2 : Int32)), .val .null, .unset] [])
  refine own_st (T' := s₁) (g' := (mkF m 1 #[.val (.ref b), .val (.ref ca), .val (.int (0 : Int32)), .val (.int (2 : Int32)), .val .null, .unset] [(.ref b)])) (fun t k => ?_) ?_
  · show Steps p.tables e below (s₁.setTop (mkF m 0 #[.val (.ref b), .val (.ref ca), .val (.int (0 : Int32)), .val (.int (2 : Int32)), .val .null, .unset] [])) t
    refine XS.aloadN X0.here hx rfl (hb hby own_d3_0) rfl rfl ?_
    exact k
  obtain ⟨T1, X1, e1, st1⟩ := initO X0 hx hZ hown (hw _ (List.mem_of_getElem? (i := 16) rfl)) (hw _ (List.mem_of_getElem? (i := 17) rfl)) (hw _ (List.mem_of_getElem? (i := 18) rfl)) e0 (g := (mkF m 1 #[.val (.ref b), .val (.ref ca), .val (.int (0 : Int32)), .val (.int (2 : Int32)), .val .null, .unset] [(.ref b)])) rfl (by rw [hml]; rfl) rfl (hb hby own_d3_1) (by decide) (W := 0) (by show 2 * 0 + _ ≤ _; exact Nat.le_of_eq rfl) (by decide)
  refine own_st (T' := T1) (g' := (mkF m 4 #[.val (.ref b), .val (.ref ca), .val (.int (0 : Int32)), .val (.int (2 : Int32)), .val .null, .unset] [])) st1 ?_
  refine own_st (T' := T1) (g' := (mkF m 27 #[.val (.ref b), .val (.ref ca), .val (.int (0 : Int32)), .val (.int (2 : Int32)), .val .null, .unset] [])) (fun t k => ?_) ?_
  · show Steps p.tables e below (T1.setTop (mkF m 4 #[.val (.ref b), .val (.ref ca), .val (.int (0 : Int32)), .val (.int (2 : Int32)), .val .null, .unset] [])) t
    refine XS.iloadN X1.here hx rfl (hb hby own_d3_4) rfl ?_
    refine XS.ifYes X1.here hx rfl (pc0 := 5) (pc' := 27) rfl (hb hby own_d3_5) rfl ((if0 _ _).trans (feq (by decide : ¬ ((2 : Int32) = (0 : Int32)))).2) (by decide) (by decide) ?_
    exact k
  have f2 := S_cs.ext O0.2
  obtain ⟨T3, X3, e3, st3⟩ := getS2 X1 hx hZ hown (host := "") (Or.inl (hw _ (List.mem_of_getElem? (i := 19) rfl))) Via.refl e1 f2 (g := (mkF m 27 #[.val (.ref b), .val (.ref ca), .val (.int (0 : Int32)), .val (.int (2 : Int32)), .val .null, .unset] [])) rfl (hb hby own_d3_27)
  refine own_st (T' := T3) (g' := (mkF m 30 #[.val (.ref b), .val (.ref ca), .val (.int (0 : Int32)), .val (.int (2 : Int32)), .val .null, .unset] [(.int cs)])) st3 ?_
  refine own_st (T' := T3) (g' := (mkF m 36 #[.val (.ref b), .val (.ref ca), .val (.int (0 : Int32)), .val (.int (2 : Int32)), .val .null, .unset] [(.int (2 : Int32)), (.int (0 : Int32)), (.ref ca)])) (fun t k => ?_) ?_
  · show Steps p.tables e below (T3.setTop (mkF m 30 #[.val (.ref b), .val (.ref ca), .val (.int (0 : Int32)), .val (.int (2 : Int32)), .val .null, .unset] [(.int cs)])) t
    refine XS.ifNo X3.here hx rfl (hb hby own_d3_30) rfl ((if0 _ _).trans (feq hcs).1) ?_
    refine XS.aloadN X3.here hx rfl (hb hby own_d3_33) rfl rfl ?_
    refine XS.iloadN X3.here hx rfl (hb hby own_d3_34) rfl ?_
    refine XS.iloadN X3.here hx rfl (hb hby own_d3_35) rfl ?_
    exact k
  obtain ⟨_, _, ⟨T4, L4, c4, n4⟩, -, X4, ⟨Lc4, hQ4, l4, y4, z4⟩, st4⟩ := Jvm.LawKit.callS X3 hx (y := (⟨"java/lang/StringUTF16", "compress", "([CII)[B"⟩ : MethodName)) hown (mvT hZ (hw _ (List.mem_of_getElem? (i := 20) rfl))) (mvT hZ (hw _ (List.mem_of_getElem? (i := 21) rfl))) (mvT hZ (hw _ (List.mem_of_getElem? (i := 22) rfl))) (mvT hZ (hw _ (List.mem_of_getElem? (i := 23) rfl))) (by decide) (backOf (W := 0) (own_rm5_2 l Z a0 hw [] ca kc c0 c1 cs h0 n0 Z0 O0 V_c hl0 hl1 hcs S_cs) hZ (hw _ (List.mem_of_getElem? (i := 23) rfl)) (hw _ (List.mem_of_getElem? (i := 22) rfl)) (by decide) (by decide)) (g := (mkF m 36 #[.val (.ref b), .val (.ref ca), .val (.int (0 : Int32)), .val (.int (2 : Int32)), .val .null, .unset] [(.int (2 : Int32)), (.int (0 : Int32)), (.ref ca)])) rfl (by rw [hml]; rfl) (argsL := [(.ref ca), (.int (0 : Int32)), (.int (2 : Int32))]) (rest := []) (lenOf own_pd1 rfl) rfl (by show 2 * 0 + _ ≤ _; exact Nat.le_of_eq rfl) (hb hby own_d3_36) (fun _ _ => ⟨rfl, e3, (by decide : 0 + 1 ≤ _), (by decide : 0 + 2 ≤ _)⟩)
  dsimp only [Pt.U, Pt.locs, Pt.cells, Pt.slots] at X4 l4 y4 z4 st4 hQ4
  subst l4 y4 z4
  obtain ⟨h4, e4⟩ : ∃ z, T4.heap = z := ⟨_, rfl⟩
  rw [e4] at hQ4
  obtain ⟨r4, k4, rfl, N4q, Kc4, g4, hz4, Vc4⟩ := hQ4
  have N4 := Fr.app N0 N4q
  have ne_b_r4 : b ≠ r4 := Nat.ne_of_lt (Nat.lt_of_lt_of_le E_b.lt hz4)
  have ne_ca_r4 : ca ≠ r4 := Nat.ne_of_lt (Nat.lt_of_lt_of_le V_c.lt hz4)
  have hwr4 : h0.size ≤ r4 := Nat.le_trans (Keep.refl h0 [b]).1 hz4
  have K4 : Keep h0 h4 [b] := (Keep.refl h0 [b]).trans Kc4 all0
  have Z4 : n0 ≤ h4.size := Nat.le_trans Z0 Kc4.1
  have O4 := O0.keep Kc4 all0
  refine own_st (T' := T4) (g' := (mkF m 39 #[.val (.ref b), .val (.ref ca), .val (.int (0 : Int32)), .val (.int (2 : Int32)), .val .null, .unset] [(.ref r4)])) st4 ?_
  refine own_st (T' := T4) (g' := (mkF m 45 #[.val (.ref b), .val (.ref ca), .val (.int (0 : Int32)), .val (.int (2 : Int32)), .val .null, .val (.ref r4)] [(.int (2 : Int32)), (.ref r4), (.ref b)])) (fun t k => ?_) ?_
  · show Steps p.tables e below (T4.setTop (mkF m 39 #[.val (.ref b), .val (.ref ca), .val (.int (0 : Int32)), .val (.int (2 : Int32)), .val .null, .unset] [(.ref r4)])) t
    refine XS.astore X4.here hx rfl (hb hby own_d3_39) rfl rfl (l' := #[.val (.ref b), .val (.ref ca), .val (.int (0 : Int32)), .val (.int (2 : Int32)), .val .null, .val (.ref r4)]) rfl ?_
    refine XS.aloadN X4.here hx rfl (hb hby own_d3_41) rfl rfl ?_
    refine XS.aload X4.here hx rfl (hb hby own_d3_42) rfl rfl ?_
    refine XS.iloadN X4.here hx rfl (hb hby own_d3_44) rfl ?_
    exact k
  obtain ⟨_, _, ⟨T5, L5, c5, n5⟩, -, X5, ⟨Lc5, hQ5, l5, y5, z5⟩, st5⟩ := Jvm.LawKit.callS X4 hx (y := (⟨"java/lang/StringUTF16", "coderFromArrayLen", "([BI)B"⟩ : MethodName)) hown (mvT hZ (hw _ (List.mem_of_getElem? (i := 28) rfl))) (mvT hZ (hw _ (List.mem_of_getElem? (i := 29) rfl))) (mvT hZ (hw _ (List.mem_of_getElem? (i := 22) rfl))) (mvT hZ (hw _ (List.mem_of_getElem? (i := 30) rfl))) (by decide) (backOf (W := 1) (own_rm7_2 l Z a0 hw [] r4 k4 (c0.toInt8.toInt32) (c1.toInt8.toInt32) cs h4 n0 Z4 O4 Vc4 hcs S_cs) hZ (hw _ (List.mem_of_getElem? (i := 30) rfl)) (hw _ (List.mem_of_getElem? (i := 22) rfl)) (by decide) (by decide)) (g := (mkF m 45 #[.val (.ref b), .val (.ref ca), .val (.int (0 : Int32)), .val (.int (2 : Int32)), .val .null, .val (.ref r4)] [(.int (2 : Int32)), (.ref r4), (.ref b)])) rfl (by rw [hml]; rfl) (argsL := [(.ref r4), (.int (2 : Int32))]) (rest := [(.ref b)]) (lenOf own_pd2 rfl) rfl (by show 2 * 0 + _ ≤ _; exact Nat.le_of_eq rfl) (hb hby own_d3_45) (fun _ _ => ⟨rfl, e4, (by decide : 1 + 0 ≤ _), (by decide : 2 + 0 ≤ _)⟩)
  dsimp only [Pt.U, Pt.locs, Pt.cells, Pt.slots] at X5 l5 y5 z5 st5 hQ5
  subst l5 y5 z5
  obtain ⟨rfl, N5q, e5⟩ := hQ5
  have N5 := Fr.app N4 N5q
  refine own_st (T' := T5) (g' := (mkF m 48 #[.val (.ref b), .val (.ref ca), .val (.int (0 : Int32)), .val (.int (2 : Int32)), .val .null, .val (.ref r4)] [(.int (0 : Int32)), (.ref b)])) st5 ?_
  have f6 := F_c.keep Kc4 nin0
  have f7 := E_b.keep Kc4
  obtain ⟨T8, h8, X8, e8, W8, st8⟩ := putFN X5 hx hZ hown (hw _ (List.mem_of_getElem? (i := 31) rfl)) Via.refl e5 f6 f7 (Or.inr ⟨(hw _ (List.mem_of_getElem? (i := 32) rfl)), rfl, hnm⟩) (hw _ (List.mem_of_getElem? (i := 7) rfl)) (ty := .byte) (v' := (.int (0 : Int32))) (by decide) rfl rfl (g := (mkF m 48 #[.val (.ref b), .val (.ref ca), .val (.int (0 : Int32)), .val (.int (2 : Int32)), .val .null, .val (.ref r4)] [(.int (0 : Int32)), (.ref b)])) rfl rfl (hb hby own_d3_48)
  have N8 := Fr.snoc X8 N5 g_b
  have K8 : Keep h0 h8 [b] := K4.wr W8 (Or.inl (List.mem_of_getElem? (i := 0) rfl))
  have Z8 : n0 ≤ h8.size := Nat.le_trans Z4 (Keep.of_wr W8).1
  have O8 := O4.wr W8 g_b
  have fw8 := (f6.same W8)
  refine own_st (T' := T8) (g' := (mkF m 51 #[.val (.ref b), .val (.ref ca), .val (.int (0 : Int32)), .val (.int (2 : Int32)), .val .null, .val (.ref r4)] [])) st8 ?_
  refine own_st (T' := T8) (g' := (mkF m 54 #[.val (.ref b), .val (.ref ca), .val (.int (0 : Int32)), .val (.int (2 : Int32)), .val .null, .val (.ref r4)] [(.ref r4), (.ref b)])) (fun t k => ?_) ?_
  · show Steps p.tables e below (T8.setTop (mkF m 51 #[.val (.ref b), .val (.ref ca), .val (.int (0 : Int32)), .val (.int (2 : Int32)), .val .null, .val (.ref r4)] [])) t
    refine XS.aloadN X8.here hx rfl (hb hby own_d3_51) rfl rfl ?_
    refine XS.aload X8.here hx rfl (hb hby own_d3_52) rfl rfl ?_
    exact k
  have f9 := (F_v.keep Kc4 nin0).other W8 (Or.inr (slot_ne (Or.inr (hw _ (List.mem_of_getElem? (i := 34) rfl))) (Or.inr (hw _ (List.mem_of_getElem? (i := 32) rfl))) (by decide) (t := (.array .byte)) (t' := .byte) (by decide) (by decide)))
  have f10 := f7.wr W8
  obtain ⟨T11, h11, X11, e11, W11, st11⟩ := putF X8 hx hZ hown (host := "") (Or.inl (hw _ (List.mem_of_getElem? (i := 33) rfl))) Via.refl e8 f9 f10 (Or.inr ⟨(hw _ (List.mem_of_getElem? (i := 34) rfl)), rfl, hnm⟩) (hw _ (List.mem_of_getElem? (i := 7) rfl)) (ty := (.array .byte)) (by decide) rfl rfl (g := (mkF m 54 #[.val (.ref b), .val (.ref ca), .val (.int (0 : Int32)), .val (.int (2 : Int32)), .val .null, .val (.ref r4)] [(.ref r4), (.ref b)])) rfl rfl (hb hby own_d3_54)
  have N11 := Fr.snoc X11 N8 g_b
  have K11 : Keep h0 h11 [b] := K8.wr W11 (Or.inl (List.mem_of_getElem? (i := 0) rfl))
  have Z11 : n0 ≤ h11.size := Nat.le_trans Z8 (Keep.of_wr W11).1
  have O11 := O8.wr W11 g_b
  have fw11 := (f9.same W11)
  refine own_st (T' := T11) (g' := (mkF m 57 #[.val (.ref b), .val (.ref ca), .val (.int (0 : Int32)), .val (.int (2 : Int32)), .val .null, .val (.ref r4)] [])) st11 ?_
  have f12 := fw8.other W11 (Or.inr (slot_ne (Or.inr (hw _ (List.mem_of_getElem? (i := 32) rfl))) (Or.inr (hw _ (List.mem_of_getElem? (i := 34) rfl))) (by decide) (t := .byte) (t' := (.array .byte)) (by decide) (by decide)))
  have f13 := (Vc4.other W8 (Ne.symm ne_b_r4)).other W11 (Ne.symm ne_b_r4)
  exact own_retV X11 hx Bd (hb hby own_d3_57) e11 (⟨r4, k4, rfl, N11, K11, g4, hwr4, fw11, f12, f13⟩) (by decide) (by decide)
def own_r2_2 : Room := { frames := 3, cells := 1, slots := 2, locals := 52 }
theorem own_ef2_2 (m : MethodId) (x0 : Addr) (x1 : Addr) : entryFrame m #[(.ref x0), (.ref x1)] 2 = mkF m 0 #[.val (.ref x0), .val (.ref x1)] [] := by first | (simp [entryFrame, mkF, argsToLocals, Value.category]; done) | rfl
def own_Q2_2 (Z : State) (b : Addr) (ca : Addr) (kc : ClassId) (c0 c1 : Int32) (cs : Int32) (h0 : Heap) (n0 : Nat) : Option Value → Heap → List Loc → Prop := fun v h L => ∃ t k, v = none ∧ Fr n0 L ∧ Keep h0 h [b] ∧ n0 ≤ t ∧ h0.size ≤ t ∧ Fld Z h b "java/lang/String" "value" "[B" (.ref t) ∧ Fld Z h b "java/lang/String" "coder" "B" (.int (0 : Int32)) ∧ Arv Z h t k .byte (2 : Int32) [(.int (c0.toInt8.toInt32)), (.int (c1.toInt8.toInt32))] (.int (0 : Int32))
set_option maxRecDepth 65536 in
set_option maxHeartbeats 40000000 in
theorem own_rm2_2 (l : Launch) (Z : State) (a0 : Array Value) (hw : ∀ d ∈ tables_1, d.before a0 Z = true) (ws : List Jvm.Cond) (b : Addr) (ca : Addr) (kc : ClassId) (c0 c1 : Int32) (cs : Int32) (h0 : Heap) (n0 : Nat) (Z0 : n0 ≤ h0.size) (O0 : Old Z n0 h0) (E_b : Exa Z h0 b "java/lang/String") (F_v : Fld Z h0 b "java/lang/String" "value" "[B" .null) (F_c : Fld Z h0 b "java/lang/String" "coder" "B" (.int (0 : Int32))) (g_b : n0 ≤ b) (V_c : Arv Z h0 ca kc .char (2 : Int32) [(.int c0), (.int c1)] (.int (0 : Int32))) (nbc : b ≠ ca) (hl0 : ¬ (255 : Int32) < c0) (hl1 : ¬ (255 : Int32) < c1) (hcs : ¬ cs = (0 : Int32)) (S_cs : Sta Z Z.heap "java/lang/String" "COMPACT_STRINGS" "Z" (.int cs)) :
    MetFree l (⟨"java/lang/String", "<init>", "([C)V"⟩ : MethodName) (head1 (Jvm.Cond.code (⟨"java/lang/String", "<init>", "([C)V"⟩ : MethodName) jdk_42_method_3_code 2 none :: ws) own_r2_2) (fun a_ U_ => a_ = #[(.ref b), (.ref ca)] ∧ Z.Warmed39 U_.vm ∧ U_.heap = h0) (fun _ _ _ _ _ => True) (fun _ U_ o_ U'_ => ∃ v_ L_, o_ = .returned v_ ∧ own_Q2_2 Z b  ca  kc  c0 c1  cs  h0 n0 v_ U'_.heap L_ ∧ FrameEnd U_ o_ U'_ L_ own_r2_2.cells own_r2_2.slots) := by
  refine MetFree.of_bodySF (plainFor_of_name own_pn1) hisR ?_
  intro p e s m args below meth c s₁ Bd hml0 hP hK
  obtain ⟨rfl, hZ, hh⟩ := hP
  have hx := Bd.exec
  have hby := Bd.bytes
  have hml : c.maxLocals = 2 := hml0
  have hown : s.vm.findClass "java/lang/String" = some m.cls := findClass_of_methodNamed Bd.named
  have hnm := (name_of_methodNamed Bd.named Bd.method).1
  have X0 : Stand p l e own_r2_2 s m #[(.ref b), (.ref ca)] below meth c s₁ [] 0 0 := Stand.of_body Bd
  have e0 : s₁.heap = h0 := by rw [← hh, Bd.state]; rfl
  have N0 := Fr.nil n0
  refine own_in (own_ef2_2 m b ca) ?_
  show own_Go p e below (own_K s (own_Q2_2 Z b  ca  kc  c0 c1  cs  h0 n0) own_r2_2.cells own_r2_2.slots) s₁ (mkF m 0 #[.val (.ref b), .val (.ref ca)] [])
  refine own_st (T' := s₁) (g' := (mkF m 4 #[.val (.ref b), .val (.ref ca)] [(.ref ca), (.int (0 : Int32)), (.ref ca), (.ref b)])) (fun t k => ?_) ?_
  · show Steps p.tables e below (s₁.setTop (mkF m 0 #[.val (.ref b), .val (.ref ca)] [])) t
    refine XS.aloadN X0.here hx rfl (hb hby own_d2_0) rfl rfl ?_
    refine XS.aloadN X0.here hx rfl (hb hby own_d2_1) rfl rfl ?_
    refine XS.iconst X0.here hx rfl (hb hby own_d2_2) ?_
    refine XS.aloadN X0.here hx rfl (hb hby own_d2_3) rfl rfl ?_
    exact k
  obtain ⟨cl1, Ar1, q1, S1, M1, H1, G1⟩ := id V_c
  refine own_st (T' := s₁) (g' := (mkF m 6 #[.val (.ref b), .val (.ref ca)] [.null, (.int (2 : Int32)), (.int (0 : Int32)), (.ref ca), (.ref b)])) (fun t k => ?_) ?_
  · show Steps p.tables e below (s₁.setTop (mkF m 4 #[.val (.ref b), .val (.ref ca)] [(.ref ca), (.int (0 : Int32)), (.ref ca), (.ref b)])) t
    refine X0.arraylength hx (by rw [e0]; exact Ar1.1) (State.isArrayOf_alike hZ.alike Ar1.2.1) (g := (mkF m 4 #[.val (.ref b), .val (.ref ca)] [(.ref ca), (.int (0 : Int32)), (.ref ca), (.ref b)])) rfl rfl (hb hby own_d2_4) _ ?_
    rw [len_of S1 M1]
    show Steps p.tables e below (s₁.setTop (mkF m 5 #[.val (.ref b), .val (.ref ca)] [(.int (2 : Int32)), (.int (0 : Int32)), (.ref ca), (.ref b)])) t
    refine XS.aconstNull X0.here hx rfl (hb hby own_d2_5) ?_
    exact k
  obtain ⟨_, _, ⟨T2, L2, c2, n2⟩, -, X2, ⟨Lc2, hQ2, l2, y2, z2⟩, st2⟩ := X0.specialBack hx (y := (⟨"java/lang/String", "<init>", "([CIILjava/lang/Void;)V"⟩ : MethodName)) rfl hown (mvT hZ (hw _ (List.mem_of_getElem? (i := 12) rfl))) (mvT hZ (hw _ (List.mem_of_getElem? (i := 13) rfl))) (mvT hZ (hw _ (List.mem_of_getElem? (i := 15) rfl))) (by decide) (backOf (W := 0) (own_rm3_2 l Z a0 hw [] b ca kc c0 c1 cs h0 n0 Z0 O0 E_b F_v F_c g_b V_c nbc hl0 hl1 hcs S_cs) hZ (hw _ (List.mem_of_getElem? (i := 15) rfl)) (hw _ (List.mem_of_getElem? (i := 8) rfl)) (by decide) (by decide)) (g := (mkF m 6 #[.val (.ref b), .val (.ref ca)] [.null, (.int (2 : Int32)), (.int (0 : Int32)), (.ref ca), (.ref b)])) rfl (by rw [hml]; rfl) (Steps.refl _) (a := b) (argsL := [(.ref ca), (.int (0 : Int32)), (.int (2 : Int32)), .null]) (rest := []) (lenOf own_pd3 rfl) rfl (by show 2 * 0 + _ ≤ _; exact Nat.le_of_eq rfl) (hb hby own_d2_6) (fun _ _ => ⟨rfl, e0, (by decide : 0 + 1 ≤ _), (by decide : 0 + 2 ≤ _)⟩)
  dsimp only [Pt.U, Pt.locs, Pt.cells, Pt.slots] at X2 l2 y2 z2 st2 hQ2
  subst l2 y2 z2
  obtain ⟨h2, e2⟩ : ∃ z, T2.heap = z := ⟨_, rfl⟩
  rw [e2] at hQ2
  obtain ⟨t2, k2, rfl, N2q, Kc2, g2, hz2, Fv2, Fo2, Vc2⟩ := hQ2
  have N2 := Fr.app N0 N2q
  have ne_b_t2 : b ≠ t2 := Nat.ne_of_lt (Nat.lt_of_lt_of_le E_b.lt hz2)
  have ne_ca_t2 : ca ≠ t2 := Nat.ne_of_lt (Nat.lt_of_lt_of_le V_c.lt hz2)
  have hwt2 : h0.size ≤ t2 := Nat.le_trans (Keep.refl h0 [b]).1 hz2
  have K2 : Keep h0 h2 [b] := (Keep.refl h0 [b]).trans Kc2 (allS (Or.inl (List.mem_of_getElem? (i := 0) rfl)) all0)
  have Z2 : n0 ≤ h2.size := Nat.le_trans Z0 Kc2.1
  have O2 := O0.keep Kc2 (allS g_b all0)
  refine own_tr (T' := T2) (g' := (mkF m 9 #[.val (.ref b), .val (.ref ca)] [])) st2 ?_
  exact own_retV X2 hx Bd (hb hby own_d2_9) e2 (⟨t2, k2, rfl, N2, K2, g2, hwt2, Fv2, Fo2, Vc2⟩) (by decide) (by decide)
def own_r7_3 : Room := { frames := 0, cells := 0, slots := 0, locals := 0 }
theorem own_ef7_3 (m : MethodId) (x0 : Addr) : entryFrame m #[(.ref x0), (.int (3 : Int32))] 2 = mkF m 0 #[.val (.ref x0), .val (.int (3 : Int32))] [] := by first | (simp [entryFrame, mkF, argsToLocals, Value.category]; done) | rfl
def own_Q7_3 (Z : State) (arr : Addr) (ka : ClassId) (x0 x1 x2 : Int32) (cs : Int32) (h0 : Heap) (n0 : Nat) : Option Value → Heap → List Loc → Prop := fun v h L => v = some (.int (0 : Int32)) ∧ Fr n0 L ∧ h = h0
set_option maxRecDepth 65536 in
set_option maxHeartbeats 40000000 in
theorem own_rm7_3 (l : Launch) (Z : State) (a0 : Array Value) (hw : ∀ d ∈ tables_1, d.before a0 Z = true) (ws : List Jvm.Cond) (arr : Addr) (ka : ClassId) (x0 x1 x2 : Int32) (cs : Int32) (h0 : Heap) (n0 : Nat) (Z0 : n0 ≤ h0.size) (O0 : Old Z n0 h0) (V_a : Arv Z h0 arr ka .byte (3 : Int32) [(.int x0), (.int x1), (.int x2)] (.int (0 : Int32))) (hcs : ¬ cs = (0 : Int32)) (S_cs : Sta Z Z.heap "java/lang/String" "COMPACT_STRINGS" "Z" (.int cs)) :
    MetFree l (⟨"java/lang/StringUTF16", "coderFromArrayLen", "([BI)B"⟩ : MethodName) (head1 (Jvm.Cond.code (⟨"java/lang/StringUTF16", "coderFromArrayLen", "([BI)B"⟩ : MethodName) jdk_52_method_15_code 2 (some .byte) :: ws) own_r7_3) (fun a_ U_ => a_ = #[(.ref arr), (.int (3 : Int32))] ∧ Z.Warmed39 U_.vm ∧ U_.heap = h0) (fun _ _ _ _ _ => True) (fun _ U_ o_ U'_ => ∃ v_ L_, o_ = .returned v_ ∧ own_Q7_3 Z arr  ka  x0 x1 x2  cs  h0 n0 v_ U'_.heap L_ ∧ FrameEnd U_ o_ U'_ L_ own_r7_3.cells own_r7_3.slots) := by
  refine MetFree.of_bodySF (plainFor_of_name own_pn0) hisR ?_
  intro p e s m args below meth c s₁ Bd hml0 hP hK
  obtain ⟨rfl, hZ, hh⟩ := hP
  have hx := Bd.exec
  have hby := Bd.bytes
  have hml : c.maxLocals = 2 := hml0
  have hown : s.vm.findClass "java/lang/StringUTF16" = some m.cls := findClass_of_methodNamed Bd.named
  have hnm := (name_of_methodNamed Bd.named Bd.method).1
  have X0 : Stand p l e own_r7_3 s m #[(.ref arr), (.int (3 : Int32))] below meth c s₁ [] 0 0 := Stand.of_body Bd
  have e0 : s₁.heap = h0 := by rw [← hh, Bd.state]; rfl
  have N0 := Fr.nil n0
  refine own_in (own_ef7_3 m arr) ?_
  show own_Go p e below (own_K s (own_Q7_3 Z arr  ka  x0 x1 x2  cs  h0 n0) own_r7_3.cells own_r7_3.slots) s₁ (mkF m 0 #[.val (.ref arr), .val (.int (3 : Int32))] [])
  refine own_st (T' := s₁) (g' := (mkF m 2 #[.val (.ref arr), .val (.int (3 : Int32))] [(.ref arr), (.int (3 : Int32))])) (fun t k => ?_) ?_
  · show Steps p.tables e below (s₁.setTop (mkF m 0 #[.val (.ref arr), .val (.int (3 : Int32))] [])) t
    refine XS.iloadN X0.here hx rfl (hb hby own_d7_0) rfl ?_
    refine XS.aloadN X0.here hx rfl (hb hby own_d7_1) rfl rfl ?_
    exact k
  obtain ⟨cl1, Ar1, q1, S1, M1, H1, G1⟩ := id V_a
  refine own_st (T' := s₁) (g' := (mkF m 8 #[.val (.ref arr), .val (.int (3 : Int32))] [(.int (0 : Int32))])) (fun t k => ?_) ?_
  · show Steps p.tables e below (s₁.setTop (mkF m 2 #[.val (.ref arr), .val (.int (3 : Int32))] [(.ref arr), (.int (3 : Int32))])) t
    refine X0.arraylength hx (by rw [e0]; exact Ar1.1) (State.isArrayOf_alike hZ.alike Ar1.2.1) (g := (mkF m 2 #[.val (.ref arr), .val (.int (3 : Int32))] [(.ref arr), (.int (3 : Int32))])) rfl rfl (hb hby own_d7_2) _ ?_
    rw [len_of S1 M1]
    show Steps p.tables e below (s₁.setTop (mkF m 3 #[.val (.ref arr), .val (.int (3 : Int32))] [(.int (3 : Int32)), (.int (3 : Int32))])) t
    refine XS.isub X0.here hx rfl (hb hby own_d7_3) rfl ?_
    refine XS.bipush X0.here hx rfl (hb hby own_d7_4) ?_
    refine XS.iushr X0.here hx rfl (hb hby own_d7_6) rfl ?_
    refine XS.i2b X0.here hx rfl (hb hby own_d7_7) rfl ?_
    exact k
  exact own_retN X0 hx Bd (t := .byte) (by simp) rfl (hb hby own_d7_8) e0 (⟨rfl, N0, rfl⟩) (by decide) (by decide)
def own_r6_3 : Room := { frames := 0, cells := 0, slots := 0, locals := 0 }
theorem own_ef6_3 (m : MethodId) (x0 : Addr) (x2 : Addr) : entryFrame m #[(.ref x0), (.int (0 : Int32)), (.ref x2), (.int (0 : Int32)), (.int (3 : Int32))] 7 = mkF m 0 #[.val (.ref x0), .val (.int (0 : Int32)), .val (.ref x2), .val (.int (0 : Int32)), .val (.int (3 : Int32)), .unset, .unset] [] := by first | (simp [entryFrame, mkF, argsToLocals, Value.category]; done) | rfl
def own_Q6_3 (Z : State) (ca : Addr) (kc : ClassId) (c0 c1 c2 : Int32) (da : Addr) (kd : ClassId) (cs : Int32) (h0 : Heap) (n0 : Nat) : Option Value → Heap → List Loc → Prop := fun v h L => v = some (.int (3 : Int32)) ∧ Fr n0 L ∧ Keep h0 h [da] ∧ Arv Z h da kd .byte (3 : Int32) [(.int (c0.toInt8.toInt32)), (.int (c1.toInt8.toInt32)), (.int (c2.toInt8.toInt32))] (.int (0 : Int32))
set_option maxRecDepth 65536 in
set_option maxHeartbeats 40000000 in
theorem own_rm6_3 (l : Launch) (Z : State) (a0 : Array Value) (hw : ∀ d ∈ tables_1, d.before a0 Z = true) (ws : List Jvm.Cond) (ca : Addr) (kc : ClassId) (c0 c1 c2 : Int32) (da : Addr) (kd : ClassId) (cs : Int32) (h0 : Heap) (n0 : Nat) (Z0 : n0 ≤ h0.size) (O0 : Old Z n0 h0) (V_c : Arv Z h0 ca kc .char (3 : Int32) [(.int c0), (.int c1), (.int c2)] (.int (0 : Int32))) (V_d : Arv Z h0 da kd .byte (3 : Int32) [(.int (0 : Int32)), (.int (0 : Int32)), (.int (0 : Int32))] (.int (0 : Int32))) (g_d : n0 ≤ da) (ncd : ca ≠ da) (hl0 : ¬ (255 : Int32) < c0) (hl1 : ¬ (255 : Int32) < c1) (hl2 : ¬ (255 : Int32) < c2) (hcs : ¬ cs = (0 : Int32)) (S_cs : Sta Z Z.heap "java/lang/String" "COMPACT_STRINGS" "Z" (.int cs)) :
    MetFree l (⟨"java/lang/StringUTF16", "compress", "([CI[BII)I"⟩ : MethodName) (head1 (Jvm.Cond.code (⟨"java/lang/StringUTF16", "compress", "([CI[BII)I"⟩ : MethodName) jdk_52_method_21_code 7 (some .int) :: ws) own_r6_3) (fun a_ U_ => a_ = #[(.ref ca), (.int (0 : Int32)), (.ref da), (.int (0 : Int32)), (.int (3 : Int32))] ∧ Z.Warmed39 U_.vm ∧ U_.heap = h0) (fun _ _ _ _ _ => True) (fun _ U_ o_ U'_ => ∃ v_ L_, o_ = .returned v_ ∧ own_Q6_3 Z ca  kc  c0 c1 c2  da  kd  cs  h0 n0 v_ U'_.heap L_ ∧ FrameEnd U_ o_ U'_ L_ own_r6_3.cells own_r6_3.slots) := by
  refine MetFree.of_bodySF (plainFor_of_name own_pn0) hisR ?_
  intro p e s m args below meth c s₁ Bd hml0 hP hK
  obtain ⟨rfl, hZ, hh⟩ := hP
  have hx := Bd.exec
  have hby := Bd.bytes
  have hml : c.maxLocals = 7 := hml0
  have hown : s.vm.findClass "java/lang/StringUTF16" = some m.cls := findClass_of_methodNamed Bd.named
  have hnm := (name_of_methodNamed Bd.named Bd.method).1
  have X0 : Stand p l e own_r6_3 s m #[(.ref ca), (.int (0 : Int32)), (.ref da), (.int (0 : Int32)), (.int (3 : Int32))] below meth c s₁ [] 0 0 := Stand.of_body Bd
  have e0 : s₁.heap = h0 := by rw [← hh, Bd.state]; rfl
  have N0 := Fr.nil n0
  refine own_in (own_ef6_3 m ca da) ?_
  show own_Go p e below (own_K s (own_Q6_3 Z ca  kc  c0 c1 c2  da  kd  cs  h0 n0) own_r6_3.cells own_r6_3.slots) s₁ (mkF m 0 #[.val (.ref ca), .val (.int (0 : Int32)), .val (.ref da), .val (.int (0 : Int32)), .val (.int (3 : Int32)), .unset, .unset] [])
  refine own_st (T' := s₁) (g' := (mkF m 12 #[.val (.ref ca), .val (.int (0 : Int32)), .val (.ref da), .val (.int (0 : Int32)), .val (.int (3 : Int32)), .val (.int (0 : Int32)), .unset] [(.int (0 : Int32)), (.ref ca)])) (fun t k => ?_) ?_
  · show Steps p.tables e below (s₁.setTop (mkF m 0 #[.val (.ref ca), .val (.int (0 : Int32)), .val (.ref da), .val (.int (0 : Int32)), .val (.int (3 : Int32)), .unset, .unset] [])) t
    refine XS.iconst X0.here hx rfl (hb hby own_d6_0) ?_
    refine XS.istore X0.here hx rfl (hb hby own_d6_1) rfl (l' := #[.val (.ref ca), .val (.int (0 : Int32)), .val (.ref da), .val (.int (0 : Int32)), .val (.int (3 : Int32)), .val (.int (0 : Int32)), .unset]) rfl ?_
    refine XS.iload X0.here hx rfl (hb hby own_d6_3) rfl ?_
    refine XS.iload X0.here hx rfl (hb hby own_d6_5) rfl ?_
    refine XS.icmpNo X0.here hx rfl (hb hby own_d6_7) rfl (tlt (by decide : (0 : Int32) < (3 : Int32))).2.1 ?_
    refine XS.aloadN X0.here hx rfl (hb hby own_d6_10) rfl rfl ?_
    refine XS.iloadN X0.here hx rfl (hb hby own_d6_11) rfl ?_
    exact k
  obtain ⟨cl1, Ar1, q1, S1, M1, H1, G1⟩ := id V_c
  refine own_st (T' := s₁) (g' := (mkF m 31 #[.val (.ref ca), .val (.int (0 : Int32)), .val (.ref da), .val (.int (0 : Int32)), .val (.int (3 : Int32)), .val (.int (0 : Int32)), .val (.int c0)] [(.int (c0.toInt8.toInt32)), (.int (0 : Int32)), (.ref da)])) (fun t k => ?_) ?_
  · show Steps p.tables e below (s₁.setTop (mkF m 12 #[.val (.ref ca), .val (.int (0 : Int32)), .val (.ref da), .val (.int (0 : Int32)), .val (.int (3 : Int32)), .val (.int (0 : Int32)), .unset] [(.int (0 : Int32)), (.ref ca)])) t
    refine X0.caload hx (j := (0 : Int32)) (v := (.int c0)) (by rw [e0]; exact Ar1.1) (State.isArrayOf_alike hZ.alike Ar1.2.1) Ar1.2.2 (inb_of S1 ⟨by decide, by decide⟩) (Has.at H1 (inb_of S1 ⟨by decide, by decide⟩) rfl) (g := (mkF m 12 #[.val (.ref ca), .val (.int (0 : Int32)), .val (.ref da), .val (.int (0 : Int32)), .val (.int (3 : Int32)), .val (.int (0 : Int32)), .unset] [(.int (0 : Int32)), (.ref ca)])) rfl rfl (hb hby own_d6_12) _ ?_
    show Steps p.tables e below (s₁.setTop (mkF m 13 #[.val (.ref ca), .val (.int (0 : Int32)), .val (.ref da), .val (.int (0 : Int32)), .val (.int (3 : Int32)), .val (.int (0 : Int32)), .unset] [(.int c0)])) t
    refine XS.istore X0.here hx rfl (hb hby own_d6_13) rfl (l' := #[.val (.ref ca), .val (.int (0 : Int32)), .val (.ref da), .val (.int (0 : Int32)), .val (.int (3 : Int32)), .val (.int (0 : Int32)), .val (.int c0)]) rfl ?_
    refine XS.iload X0.here hx rfl (hb hby own_d6_15) rfl ?_
    refine XS.sipush X0.here hx rfl (hb hby own_d6_17) ?_
    refine XS.icmpYes X0.here hx rfl (pc0 := 20) (pc' := 26) rfl (hb hby own_d6_20) rfl (flt hl0).2.2.2 (by decide) (by decide) ?_
    refine XS.aloadN X0.here hx rfl (hb hby own_d6_26) rfl rfl ?_
    refine XS.iloadN X0.here hx rfl (hb hby own_d6_27) rfl ?_
    refine XS.iload X0.here hx rfl (hb hby own_d6_28) rfl ?_
    refine XS.i2b X0.here hx rfl (hb hby own_d6_30) rfl ?_
    exact k
  obtain ⟨cl2, Ar2, q2, S2, M2, H2, G2⟩ := id V_d
  obtain ⟨T3, h3, X3, e3, W3, st3⟩ := stB X0 hx hZ e0 Ar2 (j := (0 : Int32)) (inb_of S2 ⟨by decide, by decide⟩) (g := (mkF m 31 #[.val (.ref ca), .val (.int (0 : Int32)), .val (.ref da), .val (.int (0 : Int32)), .val (.int (3 : Int32)), .val (.int (0 : Int32)), .val (.int c0)] [(.int (c0.toInt8.toInt32)), (.int (0 : Int32)), (.ref da)])) rfl rfl (hb hby own_d6_31)
  have N3 := Fr.snoc X3 N0 g_d
  have K3 : Keep h0 h3 [da] := (Keep.refl h0 [da]).wr W3 (Or.inl (List.mem_of_getElem? (i := 0) rfl))
  have Z3 : n0 ≤ h3.size := Nat.le_trans Z0 (Keep.of_wr W3).1
  have O3 := O0.wr W3 g_d
  have fw3 := (show Arv Z h3 da kd .byte (3 : Int32) [(.int (c0.toInt8.toInt32)), (.int (0 : Int32)), (.int (0 : Int32))] (.int (0 : Int32)) by have q : Arv Z h3 da kd .byte (3 : Int32) [(.int ((c0.toInt8.toInt32).toInt8.toInt32)), (.int (0 : Int32)), (.int (0 : Int32))] (.int (0 : Int32)) := Arv.set Ar2 q2 S2 M2 H2 G2 (fits_nar_byte _) W3 0 rfl (Nat.le_of_ble_eq_true rfl); rw [own_bb c0] at q; exact q)
  refine own_st (T' := T3) (g' := (mkF m 32 #[.val (.ref ca), .val (.int (0 : Int32)), .val (.ref da), .val (.int (0 : Int32)), .val (.int (3 : Int32)), .val (.int (0 : Int32)), .val (.int c0)] [])) st3 ?_
  refine own_st (T' := T3) (g' := (mkF m 12 #[.val (.ref ca), .val (.int (1 : Int32)), .val (.ref da), .val (.int (1 : Int32)), .val (.int (3 : Int32)), .val (.int (1 : Int32)), .val (.int c0)] [(.int (1 : Int32)), (.ref ca)])) (fun t k => ?_) ?_
  · show Steps p.tables e below (T3.setTop (mkF m 32 #[.val (.ref ca), .val (.int (0 : Int32)), .val (.ref da), .val (.int (0 : Int32)), .val (.int (3 : Int32)), .val (.int (0 : Int32)), .val (.int c0)] [])) t
    refine XS.iinc X3.here hx rfl (hb hby own_d6_32) rfl (l' := #[.val (.ref ca), .val (.int (1 : Int32)), .val (.ref da), .val (.int (0 : Int32)), .val (.int (3 : Int32)), .val (.int (0 : Int32)), .val (.int c0)]) rfl ?_
    refine XS.iinc X3.here hx rfl (hb hby own_d6_35) rfl (l' := #[.val (.ref ca), .val (.int (1 : Int32)), .val (.ref da), .val (.int (1 : Int32)), .val (.int (3 : Int32)), .val (.int (0 : Int32)), .val (.int c0)]) rfl ?_
    refine XS.iinc X3.here hx rfl (hb hby own_d6_38) rfl (l' := #[.val (.ref ca), .val (.int (1 : Int32)), .val (.ref da), .val (.int (1 : Int32)), .val (.int (3 : Int32)), .val (.int (1 : Int32)), .val (.int c0)]) rfl ?_
    refine XS.goto X3.here hx rfl (pc0 := 41) (pc' := 3) rfl (hb hby own_d6_41) (by decide) (by decide) ?_
    refine XS.iload X3.here hx rfl (hb hby own_d6_3) rfl ?_
    refine XS.iload X3.here hx rfl (hb hby own_d6_5) rfl ?_
    refine XS.icmpNo X3.here hx rfl (hb hby own_d6_7) rfl (tlt (by decide : (1 : Int32) < (3 : Int32))).2.1 ?_
    refine XS.aloadN X3.here hx rfl (hb hby own_d6_10) rfl rfl ?_
    refine XS.iloadN X3.here hx rfl (hb hby own_d6_11) rfl ?_
    exact k
  have f4 := V_c.other W3 ncd
  obtain ⟨cl5, Ar5, q5, S5, M5, H5, G5⟩ := id f4
  refine own_st (T' := T3) (g' := (mkF m 31 #[.val (.ref ca), .val (.int (1 : Int32)), .val (.ref da), .val (.int (1 : Int32)), .val (.int (3 : Int32)), .val (.int (1 : Int32)), .val (.int c1)] [(.int (c1.toInt8.toInt32)), (.int (1 : Int32)), (.ref da)])) (fun t k => ?_) ?_
  · show Steps p.tables e below (T3.setTop (mkF m 12 #[.val (.ref ca), .val (.int (1 : Int32)), .val (.ref da), .val (.int (1 : Int32)), .val (.int (3 : Int32)), .val (.int (1 : Int32)), .val (.int c0)] [(.int (1 : Int32)), (.ref ca)])) t
    refine X3.caload hx (j := (1 : Int32)) (v := (.int c1)) (by rw [e3]; exact Ar5.1) (State.isArrayOf_alike hZ.alike Ar5.2.1) Ar5.2.2 (inb_of S5 ⟨by decide, by decide⟩) (Has.at H5 (inb_of S5 ⟨by decide, by decide⟩) rfl) (g := (mkF m 12 #[.val (.ref ca), .val (.int (1 : Int32)), .val (.ref da), .val (.int (1 : Int32)), .val (.int (3 : Int32)), .val (.int (1 : Int32)), .val (.int c0)] [(.int (1 : Int32)), (.ref ca)])) rfl rfl (hb hby own_d6_12) _ ?_
    show Steps p.tables e below (T3.setTop (mkF m 13 #[.val (.ref ca), .val (.int (1 : Int32)), .val (.ref da), .val (.int (1 : Int32)), .val (.int (3 : Int32)), .val (.int (1 : Int32)), .val (.int c0)] [(.int c1)])) t
    refine XS.istore X3.here hx rfl (hb hby own_d6_13) rfl (l' := #[.val (.ref ca), .val (.int (1 : Int32)), .val (.ref da), .val (.int (1 : Int32)), .val (.int (3 : Int32)), .val (.int (1 : Int32)), .val (.int c1)]) rfl ?_
    refine XS.iload X3.here hx rfl (hb hby own_d6_15) rfl ?_
    refine XS.sipush X3.here hx rfl (hb hby own_d6_17) ?_
    refine XS.icmpYes X3.here hx rfl (pc0 := 20) (pc' := 26) rfl (hb hby own_d6_20) rfl (flt hl1).2.2.2 (by decide) (by decide) ?_
    refine XS.aloadN X3.here hx rfl (hb hby own_d6_26) rfl rfl ?_
    refine XS.iloadN X3.here hx rfl (hb hby own_d6_27) rfl ?_
    refine XS.iload X3.here hx rfl (hb hby own_d6_28) rfl ?_
    refine XS.i2b X3.here hx rfl (hb hby own_d6_30) rfl ?_
    exact k
  obtain ⟨cl6, Ar6, q6, S6, M6, H6, G6⟩ := id fw3
  obtain ⟨T7, h7, X7, e7, W7, st7⟩ := stB X3 hx hZ e3 Ar6 (j := (1 : Int32)) (inb_of S6 ⟨by decide, by decide⟩) (g := (mkF m 31 #[.val (.ref ca), .val (.int (1 : Int32)), .val (.ref da), .val (.int (1 : Int32)), .val (.int (3 : Int32)), .val (.int (1 : Int32)), .val (.int c1)] [(.int (c1.toInt8.toInt32)), (.int (1 : Int32)), (.ref da)])) rfl rfl (hb hby own_d6_31)
  have N7 := Fr.snoc X7 N3 g_d
  have K7 : Keep h0 h7 [da] := K3.wr W7 (Or.inl (List.mem_of_getElem? (i := 0) rfl))
  have Z7 : n0 ≤ h7.size := Nat.le_trans Z3 (Keep.of_wr W7).1
  have O7 := O3.wr W7 g_d
  have fw7 := (show Arv Z h7 da kd .byte (3 : Int32) [(.int (c0.toInt8.toInt32)), (.int (c1.toInt8.toInt32)), (.int (0 : Int32))] (.int (0 : Int32)) by have q : Arv Z h7 da kd .byte (3 : Int32) [(.int (c0.toInt8.toInt32)), (.int ((c1.toInt8.toInt32).toInt8.toInt32)), (.int (0 : Int32))] (.int (0 : Int32)) := Arv.set Ar6 q6 S6 M6 H6 G6 (fits_nar_byte _) W7 1 rfl (Nat.le_of_ble_eq_true rfl); rw [own_bb c1] at q; exact q)
  refine own_st (T' := T7) (g' := (mkF m 32 #[.val (.ref ca), .val (.int (1 : Int32)), .val (.ref da), .val (.int (1 : Int32)), .val (.int (3 : Int32)), .val (.int (1 : Int32)), .val (.int c1)] [])) st7 ?_
  refine own_st (T' := T7) (g' := (mkF m 12 #[.val (.ref ca), .val (.int (2 : Int32)), .val (.ref da), .val (.int (2 : Int32)), .val (.int (3 : Int32)), .val (.int (2 : Int32)), .val (.int c1)] [(.int (2 : Int32)), (.ref ca)])) (fun t k => ?_) ?_
  · show Steps p.tables e below (T7.setTop (mkF m 32 #[.val (.ref ca), .val (.int (1 : Int32)), .val (.ref da), .val (.int (1 : Int32)), .val (.int (3 : Int32)), .val (.int (1 : Int32)), .val (.int c1)] [])) t
    refine XS.iinc X7.here hx rfl (hb hby own_d6_32) rfl (l' := #[.val (.ref ca), .val (.int (2 : Int32)), .val (.ref da), .val (.int (1 : Int32)), .val (.int (3 : Int32)), .val (.int (1 : Int32)), .val (.int c1)]) rfl ?_
    refine XS.iinc X7.here hx rfl (hb hby own_d6_35) rfl (l' := #[.val (.ref ca), .val (.int (2 : Int32)), .val (.ref da), .val (.int (2 : Int32)), .val (.int (3 : Int32)), .val (.int (1 : Int32)), .val (.int c1)]) rfl ?_
    refine XS.iinc X7.here hx rfl (hb hby own_d6_38) rfl (l' := #[.val (.ref ca), .val (.int (2 : Int32)), .val (.ref da), .val (.int (2 : Int32)), .val (.int (3 : Int32)), .val (.int (2 : Int32)), .val (.int c1)]) rfl ?_
    refine XS.goto X7.here hx rfl (pc0 := 41) (pc' := 3) rfl (hb hby own_d6_41) (by decide) (by decide) ?_
    refine XS.iload X7.here hx rfl (hb hby own_d6_3) rfl ?_
    refine XS.iload X7.here hx rfl (hb hby own_d6_5) rfl ?_
    refine XS.icmpNo X7.here hx rfl (hb hby own_d6_7) rfl (tlt (by decide : (2 : Int32) < (3 : Int32))).2.1 ?_
    refine XS.aloadN X7.here hx rfl (hb hby own_d6_10) rfl rfl ?_
    refine XS.iloadN X7.here hx rfl (hb hby own_d6_11) rfl ?_
    exact k
  have f8 := f4.other W7 ncd
  obtain ⟨cl9, Ar9, q9, S9, M9, H9, G9⟩ := id f8
  refine own_st (T' := T7) (g' := (mkF m 31 #[.val (.ref ca), .val (.int (2 : Int32)), .val (.ref da), .val (.int (2 : Int32)), .val (.int (3 : Int32)), .val (.int (2 : Int32)), .val (.int c2)] [(.int (c2.toInt8.toInt32)), (.int (2 : Int32)), (.ref da)])) (fun t k => ?_) ?_
  · show Steps p.tables e below (T7.setTop (mkF m 12 #[.val (.ref ca), .val (.int (2 : Int32)), .val (.ref da), .val (.int (2 : Int32)), .val (.int (3 : Int32)), .val (.int (2 : Int32)), .val (.int c1)] [(.int (2 : Int32)), (.ref ca)])) t
    refine X7.caload hx (j := (2 : Int32)) (v := (.int c2)) (by rw [e7]; exact Ar9.1) (State.isArrayOf_alike hZ.alike Ar9.2.1) Ar9.2.2 (inb_of S9 ⟨by decide, by decide⟩) (Has.at H9 (inb_of S9 ⟨by decide, by decide⟩) rfl) (g := (mkF m 12 #[.val (.ref ca), .val (.int (2 : Int32)), .val (.ref da), .val (.int (2 : Int32)), .val (.int (3 : Int32)), .val (.int (2 : Int32)), .val (.int c1)] [(.int (2 : Int32)), (.ref ca)])) rfl rfl (hb hby own_d6_12) _ ?_
    show Steps p.tables e below (T7.setTop (mkF m 13 #[.val (.ref ca), .val (.int (2 : Int32)), .val (.ref da), .val (.int (2 : Int32)), .val (.int (3 : Int32)), .val (.int (2 : Int32)), .val (.int c1)] [(.int c2)])) t
    refine XS.istore X7.here hx rfl (hb hby own_d6_13) rfl (l' := #[.val (.ref ca), .val (.int (2 : Int32)), .val (.ref da), .val (.int (2 : Int32)), .val (.int (3 : Int32)), .val (.int (2 : Int32)), .val (.int c2)]) rfl ?_
    refine XS.iload X7.here hx rfl (hb hby own_d6_15) rfl ?_
    refine XS.sipush X7.here hx rfl (hb hby own_d6_17) ?_
    refine XS.icmpYes X7.here hx rfl (pc0 := 20) (pc' := 26) rfl (hb hby own_d6_20) rfl (flt hl2).2.2.2 (by decide) (by decide) ?_
    refine XS.aloadN X7.here hx rfl (hb hby own_d6_26) rfl rfl ?_
    refine XS.iloadN X7.here hx rfl (hb hby own_d6_27) rfl ?_
    refine XS.iload X7.here hx rfl (hb hby own_d6_28) rfl ?_
    refine XS.i2b X7.here hx rfl (hb hby own_d6_30) rfl ?_
    exact k
  obtain ⟨cl10, Ar10, q10, S10, M10, H10, G10⟩ := id fw7
  obtain ⟨T11, h11, X11, e11, W11, st11⟩ := stB X7 hx hZ e7 Ar10 (j := (2 : Int32)) (inb_of S10 ⟨by decide, by decide⟩) (g := (mkF m 31 #[.val (.ref ca), .val (.int (2 : Int32)), .val (.ref da), .val (.int (2 : Int32)), .val (.int (3 : Int32)), .val (.int (2 : Int32)), .val (.int c2)] [(.int (c2.toInt8.toInt32)), (.int (2 : Int32)), (.ref da)])) rfl rfl (hb hby own_d6_31)
  have N11 := Fr.snoc X11 N7 g_d
  have K11 : Keep h0 h11 [da] := K7.wr W11 (Or.inl (List.mem_of_getElem? (i := 0) rfl))
  have Z11 : n0 ≤ h11.size := Nat.le_trans Z7 (Keep.of_wr W11).1
  have O11 := O7.wr W11 g_d
  have fw11 := (show Arv Z h11 da kd .byte (3 : Int32) [(.int (c0.toInt8.toInt32)), (.int (c1.toInt8.toInt32)), (.int (c2.toInt8.toInt32))] (.int (0 : Int32)) by have q : Arv Z h11 da kd .byte (3 : Int32) [(.int (c0.toInt8.toInt32)), (.int (c1.toInt8.toInt32)), (.int ((c2.toInt8.toInt32).toInt8.toInt32))] (.int (0 : Int32)) := Arv.set Ar10 q10 S10 M10 H10 G10 (fits_nar_byte _) W11 2 rfl (Nat.le_of_ble_eq_true rfl); rw [own_bb c2] at q; exact q)
  refine own_st (T' := T11) (g' := (mkF m 32 #[.val (.ref ca), .val (.int (2 : Int32)), .val (.ref da), .val (.int (2 : Int32)), .val (.int (3 : Int32)), .val (.int (2 : Int32)), .val (.int c2)] [])) st11 ?_
  refine own_st (T' := T11) (g' := (mkF m 46 #[.val (.ref ca), .val (.int (3 : Int32)), .val (.ref da), .val (.int (3 : Int32)), .val (.int (3 : Int32)), .val (.int (3 : Int32)), .val (.int c2)] [(.int (3 : Int32))])) (fun t k => ?_) ?_
  · show Steps p.tables e below (T11.setTop (mkF m 32 #[.val (.ref ca), .val (.int (2 : Int32)), .val (.ref da), .val (.int (2 : Int32)), .val (.int (3 : Int32)), .val (.int (2 : Int32)), .val (.int c2)] [])) t
    refine XS.iinc X11.here hx rfl (hb hby own_d6_32) rfl (l' := #[.val (.ref ca), .val (.int (3 : Int32)), .val (.ref da), .val (.int (2 : Int32)), .val (.int (3 : Int32)), .val (.int (2 : Int32)), .val (.int c2)]) rfl ?_
    refine XS.iinc X11.here hx rfl (hb hby own_d6_35) rfl (l' := #[.val (.ref ca), .val (.int (3 : Int32)), .val (.ref da), .val (.int (3 : Int32)), .val (.int (3 : Int32)), .val (.int (2 : Int32)), .val (.int c2)]) rfl ?_
    refine XS.iinc X11.here hx rfl (hb hby own_d6_38) rfl (l' := #[.val (.ref ca), .val (.int (3 : Int32)), .val (.ref da), .val (.int (3 : Int32)), .val (.int (3 : Int32)), .val (.int (3 : Int32)), .val (.int c2)]) rfl ?_
    refine XS.goto X11.here hx rfl (pc0 := 41) (pc' := 3) rfl (hb hby own_d6_41) (by decide) (by decide) ?_
    refine XS.iload X11.here hx rfl (hb hby own_d6_3) rfl ?_
    refine XS.iload X11.here hx rfl (hb hby own_d6_5) rfl ?_
    refine XS.icmpYes X11.here hx rfl (pc0 := 7) (pc' := 44) rfl (hb hby own_d6_7) rfl (flt Int32.lt_irrefl).2.1 (by decide) (by decide) ?_
    refine XS.iload X11.here hx rfl (hb hby own_d6_44) rfl ?_
    exact k
  exact own_retI X11 hx Bd (hb hby own_d6_46) e11 (⟨rfl, N11, K11, fw11⟩) (by decide) (by decide)
def own_r5_3 : Room := { frames := 1, cells := 1, slots := 3, locals := 18 }
theorem own_ef5_3 (m : MethodId) (x0 : Addr) : entryFrame m #[(.ref x0), (.int (0 : Int32)), (.int (3 : Int32))] 6 = mkF m 0 #[.val (.ref x0), .val (.int (0 : Int32)), .val (.int (3 : Int32)), .unset, .unset, .unset] [] := by first | (simp [entryFrame, mkF, argsToLocals, Value.category]; done) | rfl
def own_Q5_3 (Z : State) (ca : Addr) (kc : ClassId) (c0 c1 c2 : Int32) (cs : Int32) (h0 : Heap) (n0 : Nat) : Option Value → Heap → List Loc → Prop := fun v h L => ∃ r k, v = some (.ref r) ∧ Fr n0 L ∧ Keep h0 h [] ∧ n0 ≤ r ∧ h0.size ≤ r ∧ Arv Z h r k .byte (3 : Int32) [(.int (c0.toInt8.toInt32)), (.int (c1.toInt8.toInt32)), (.int (c2.toInt8.toInt32))] (.int (0 : Int32))
set_option maxRecDepth 65536 in
set_option maxHeartbeats 40000000 in
theorem own_rm5_3 (l : Launch) (Z : State) (a0 : Array Value) (hw : ∀ d ∈ tables_1, d.before a0 Z = true) (ws : List Jvm.Cond) (ca : Addr) (kc : ClassId) (c0 c1 c2 : Int32) (cs : Int32) (h0 : Heap) (n0 : Nat) (Z0 : n0 ≤ h0.size) (O0 : Old Z n0 h0) (V_c : Arv Z h0 ca kc .char (3 : Int32) [(.int c0), (.int c1), (.int c2)] (.int (0 : Int32))) (hl0 : ¬ (255 : Int32) < c0) (hl1 : ¬ (255 : Int32) < c1) (hl2 : ¬ (255 : Int32) < c2) (hcs : ¬ cs = (0 : Int32)) (S_cs : Sta Z Z.heap "java/lang/String" "COMPACT_STRINGS" "Z" (.int cs)) :
    MetFree l (⟨"java/lang/StringUTF16", "compress", "([CII)[B"⟩ : MethodName) (head1 (Jvm.Cond.code (⟨"java/lang/StringUTF16", "compress", "([CII)[B"⟩ : MethodName) jdk_52_method_16_code 6 (some (.array .byte)) :: ws) own_r5_3) (fun a_ U_ => a_ = #[(.ref ca), (.int (0 : Int32)), (.int (3 : Int32))] ∧ Z.Warmed39 U_.vm ∧ U_.heap = h0) (fun _ _ _ _ _ => True) (fun _ U_ o_ U'_ => ∃ v_ L_, o_ = .returned v_ ∧ own_Q5_3 Z ca  kc  c0 c1 c2  cs  h0 n0 v_ U'_.heap L_ ∧ FrameEnd U_ o_ U'_ L_ own_r5_3.cells own_r5_3.slots) := by
  refine MetFree.of_bodySF (plainFor_of_name own_pn0) hisR ?_
  intro p e s m args below meth c s₁ Bd hml0 hP hK
  obtain ⟨rfl, hZ, hh⟩ := hP
  have hx := Bd.exec
  have hby := Bd.bytes
  have hml : c.maxLocals = 6 := hml0
  have hown : s.vm.findClass "java/lang/StringUTF16" = some m.cls := findClass_of_methodNamed Bd.named
  have hnm := (name_of_methodNamed Bd.named Bd.method).1
  have X0 : Stand p l e own_r5_3 s m #[(.ref ca), (.int (0 : Int32)), (.int (3 : Int32))] below meth c s₁ [] 0 0 := Stand.of_body Bd
  have e0 : s₁.heap = h0 := by rw [← hh, Bd.state]; rfl
  have N0 := Fr.nil n0
  refine own_in (own_ef5_3 m ca) ?_
  show own_Go p e below (own_K s (own_Q5_3 Z ca  kc  c0 c1 c2  cs  h0 n0) own_r5_3.cells own_r5_3.slots) s₁ (mkF m 0 #[.val (.ref ca), .val (.int (0 : Int32)), .val (.int (3 : Int32)), .unset, .unset, .unset] [])
  refine own_st (T' := s₁) (g' := (mkF m 1 #[.val (.ref ca), .val (.int (0 : Int32)), .val (.int (3 : Int32)), .unset, .unset, .unset] [(.int (3 : Int32))])) (fun t k => ?_) ?_
  · show Steps p.tables e below (s₁.setTop (mkF m 0 #[.val (.ref ca), .val (.int (0 : Int32)), .val (.int (3 : Int32)), .unset, .unset, .unset] [])) t
    refine XS.iloadN X0.here hx rfl (hb hby own_d5_0) rfl ?_
    exact k
  obtain ⟨T1, h1, k1, X1, e1, E1, A1, st1⟩ := newP X0 hx hZ (hw _ (List.mem_of_getElem? (i := 24) rfl)) e0 (g := (mkF m 1 #[.val (.ref ca), .val (.int (0 : Int32)), .val (.int (3 : Int32)), .unset, .unset, .unset] [(.int (3 : Int32))])) rfl (hb hby own_d5_1) rfl (by decide) (cap := 3) (by decide) (by decide) (by decide) (by decide)
  obtain ⟨b1, g1⟩ : ∃ z, z = h0.size := ⟨_, rfl⟩
  rw [← g1] at A1 st1
  have sz1 : h0.size ≤ b1 := Nat.le_of_eq g1.symm
  have ne_ca_b1 : ca ≠ b1 := Nat.ne_of_lt (Nat.lt_of_lt_of_le V_c.lt sz1)
  have g_b1 : n0 ≤ b1 := Nat.le_trans Z0 sz1
  have hz_b1 : h0.size ≤ b1 := Nat.le_trans (Keep.refl h0 []).1 sz1
  have K1 : Keep h0 h1 [] := (Keep.refl h0 []).ext E1
  have Z1 : n0 ≤ h1.size := Nat.le_trans Z0 E1.1
  have O1 := O0.ext E1
  have V1 : Arv Z h1 b1 k1 .byte (3 : Int32) [(.int (0 : Int32)), (.int (0 : Int32)), (.int (0 : Int32))] (.int (0 : Int32)) := (Arv.new A1 (by decide)).pad (pad_rep [] (.int (0 : Int32)) 3)
  refine own_st (T' := T1) (g' := (mkF m 3 #[.val (.ref ca), .val (.int (0 : Int32)), .val (.int (3 : Int32)), .unset, .unset, .unset] [(.ref b1)])) st1 ?_
  refine own_st (T' := T1) (g' := (mkF m 9 #[.val (.ref ca), .val (.int (0 : Int32)), .val (.int (3 : Int32)), .val (.ref b1), .unset, .unset] [(.int (3 : Int32)), (.int (0 : Int32)), (.ref b1), (.int (0 : Int32)), (.ref ca)])) (fun t k => ?_) ?_
  · show Steps p.tables e below (T1.setTop (mkF m 3 #[.val (.ref ca), .val (.int (0 : Int32)), .val (.int (3 : Int32)), .unset, .unset, .unset] [(.ref b1)])) t
    refine XS.astoreN X1.here hx rfl (hb hby own_d5_3) rfl rfl (l' := #[.val (.ref ca), .val (.int (0 : Int32)), .val (.int (3 : Int32)), .val (.ref b1), .unset, .unset]) rfl ?_
    refine XS.aloadN X1.here hx rfl (hb hby own_d5_4) rfl rfl ?_
    refine XS.iloadN X1.here hx rfl (hb hby own_d5_5) rfl ?_
    refine XS.aloadN X1.here hx rfl (hb hby own_d5_6) rfl rfl ?_
    refine XS.iconst X1.here hx rfl (hb hby own_d5_7) ?_
    refine XS.iloadN X1.here hx rfl (hb hby own_d5_8) rfl ?_
    exact k
  have f2 := V_c.ext E1
  obtain ⟨_, _, ⟨T3, L3, c3, n3⟩, -, X3, ⟨Lc3, hQ3, l3, y3, z3⟩, st3⟩ := Jvm.LawKit.callS X1 hx (y := (⟨"java/lang/StringUTF16", "compress", "([CI[BII)I"⟩ : MethodName)) hown (mvT hZ (hw _ (List.mem_of_getElem? (i := 25) rfl))) (mvT hZ (hw _ (List.mem_of_getElem? (i := 26) rfl))) (mvT hZ (hw _ (List.mem_of_getElem? (i := 22) rfl))) (mvT hZ (hw _ (List.mem_of_getElem? (i := 27) rfl))) (by decide) (backOf (W := 0) (own_rm6_3 l Z a0 hw [] ca kc c0 c1 c2 b1 k1 cs h1 n0 Z1 O1 f2 V1 g_b1 ne_ca_b1 hl0 hl1 hl2 hcs S_cs) hZ (hw _ (List.mem_of_getElem? (i := 27) rfl)) (hw _ (List.mem_of_getElem? (i := 22) rfl)) (by decide) (by decide)) (g := (mkF m 9 #[.val (.ref ca), .val (.int (0 : Int32)), .val (.int (3 : Int32)), .val (.ref b1), .unset, .unset] [(.int (3 : Int32)), (.int (0 : Int32)), (.ref b1), (.int (0 : Int32)), (.ref ca)])) rfl (by rw [hml]; rfl) (argsL := [(.ref ca), (.int (0 : Int32)), (.ref b1), (.int (0 : Int32)), (.int (3 : Int32))]) (rest := []) (lenOf own_pd0 rfl) rfl (by show 2 * 0 + _ ≤ _; exact Nat.le_of_eq rfl) (hb hby own_d5_9) (fun _ _ => ⟨rfl, e1, (by decide : 1 + 0 ≤ _), (by decide : 3 + 0 ≤ _)⟩)
  dsimp only [Pt.U, Pt.locs, Pt.cells, Pt.slots] at X3 l3 y3 z3 st3 hQ3
  subst l3 y3 z3
  obtain ⟨h3, e3⟩ : ∃ z, T3.heap = z := ⟨_, rfl⟩
  rw [e3] at hQ3
  obtain ⟨rfl, N3q, Kc3, Vc3⟩ := hQ3
  have N3 := Fr.app N0 N3q
  have K3 : Keep h0 h3 [] := K1.trans Kc3 (allS (Or.inr hz_b1) all0)
  have Z3 : n0 ≤ h3.size := Nat.le_trans Z1 Kc3.1
  have O3 := O1.keep Kc3 (allS g_b1 all0)
  refine own_st (T' := T3) (g' := (mkF m 12 #[.val (.ref ca), .val (.int (0 : Int32)), .val (.int (3 : Int32)), .val (.ref b1), .unset, .unset] [(.int (3 : Int32))])) st3 ?_
  refine own_st (T' := T3) (g' := (mkF m 58 #[.val (.ref ca), .val (.int (0 : Int32)), .val (.int (3 : Int32)), .val (.ref b1), .val (.int (3 : Int32)), .unset] [(.ref b1)])) (fun t k => ?_) ?_
  · show Steps p.tables e below (T3.setTop (mkF m 12 #[.val (.ref ca), .val (.int (0 : Int32)), .val (.int (3 : Int32)), .val (.ref b1), .unset, .unset] [(.int (3 : Int32))])) t
    refine XS.istore X3.here hx rfl (hb hby own_d5_12) rfl (l' := #[.val (.ref ca), .val (.int (0 : Int32)), .val (.int (3 : Int32)), .val (.ref b1), .val (.int (3 : Int32)), .unset]) rfl ?_
    refine XS.iload X3.here hx rfl (hb hby own_d5_14) rfl ?_
    refine XS.iloadN X3.here hx rfl (hb hby own_d5_16) rfl ?_
    refine XS.icmpYes X3.here hx rfl (pc0 := 17) (pc' := 57) rfl (hb hby own_d5_17) rfl (teq (rfl : (3 : Int32) = (3 : Int32))).1 (by decide) (by decide) ?_
    refine XS.aloadN X3.here hx rfl (hb hby own_d5_57) rfl rfl ?_
    exact k
  exact own_retA X3 hx Bd rfl rfl (hb hby own_d5_58) e3 (⟨b1, k1, rfl, N3, K3, g_b1, hz_b1, Vc3⟩) (by decide) (by decide)
def own_r3_3 : Room := { frames := 2, cells := 1, slots := 3, locals := 35 }
theorem own_ef3_3 (m : MethodId) (x0 : Addr) (x1 : Addr) : entryFrame m #[(.ref x0), (.ref x1), (.int (0 : Int32)), (.int (3 : Int32)), .null] 6 = mkF m 0 #[.val (.ref x0), .val (.ref x1), .val (.int (0 : Int32)), .val (.int (3 : Int32)), .val .null, .unset] [] := by first | (simp [entryFrame, mkF, argsToLocals, Value.category]; done) | rfl
def own_Q3_3 (Z : State) (b : Addr) (ca : Addr) (kc : ClassId) (c0 c1 c2 : Int32) (cs : Int32) (h0 : Heap) (n0 : Nat) : Option Value → Heap → List Loc → Prop := fun v h L => ∃ t k, v = none ∧ Fr n0 L ∧ Keep h0 h [b] ∧ n0 ≤ t ∧ h0.size ≤ t ∧ Fld Z h b "java/lang/String" "value" "[B" (.ref t) ∧ Fld Z h b "java/lang/String" "coder" "B" (.int (0 : Int32)) ∧ Arv Z h t k .byte (3 : Int32) [(.int (c0.toInt8.toInt32)), (.int (c1.toInt8.toInt32)), (.int (c2.toInt8.toInt32))] (.int (0 : Int32))
set_option maxRecDepth 65536 in
set_option maxHeartbeats 40000000 in
theorem own_rm3_3 (l : Launch) (Z : State) (a0 : Array Value) (hw : ∀ d ∈ tables_1, d.before a0 Z = true) (ws : List Jvm.Cond) (b : Addr) (ca : Addr) (kc : ClassId) (c0 c1 c2 : Int32) (cs : Int32) (h0 : Heap) (n0 : Nat) (Z0 : n0 ≤ h0.size) (O0 : Old Z n0 h0) (E_b : Exa Z h0 b "java/lang/String") (F_v : Fld Z h0 b "java/lang/String" "value" "[B" .null) (F_c : Fld Z h0 b "java/lang/String" "coder" "B" (.int (0 : Int32))) (g_b : n0 ≤ b) (V_c : Arv Z h0 ca kc .char (3 : Int32) [(.int c0), (.int c1), (.int c2)] (.int (0 : Int32))) (nbc : b ≠ ca) (hl0 : ¬ (255 : Int32) < c0) (hl1 : ¬ (255 : Int32) < c1) (hl2 : ¬ (255 : Int32) < c2) (hcs : ¬ cs = (0 : Int32)) (S_cs : Sta Z Z.heap "java/lang/String" "COMPACT_STRINGS" "Z" (.int cs)) :
    MetFree l (⟨"java/lang/String", "<init>", "([CIILjava/lang/Void;)V"⟩ : MethodName) (head1 (Jvm.Cond.code (⟨"java/lang/String", "<init>", "([CIILjava/lang/Void;)V"⟩ : MethodName) jdk_42_method_149_code 6 none :: ws) own_r3_3) (fun a_ U_ => a_ = #[(.ref b), (.ref ca), (.int (0 : Int32)), (.int (3 : Int32)), .null] ∧ Z.Warmed39 U_.vm ∧ U_.heap = h0) (fun _ _ _ _ _ => True) (fun _ U_ o_ U'_ => ∃ v_ L_, o_ = .returned v_ ∧ own_Q3_3 Z b  ca  kc  c0 c1 c2  cs  h0 n0 v_ U'_.heap L_ ∧ FrameEnd U_ o_ U'_ L_ own_r3_3.cells own_r3_3.slots) := by
  refine MetFree.of_bodySF (plainFor_of_name own_pn1) hisR ?_
  intro p e s m args below meth c s₁ Bd hml0 hP hK
  obtain ⟨rfl, hZ, hh⟩ := hP
  have hx := Bd.exec
  have hby := Bd.bytes
  have hml : c.maxLocals = 6 := hml0
  have hown : s.vm.findClass "java/lang/String" = some m.cls := findClass_of_methodNamed Bd.named
  have hnm := (name_of_methodNamed Bd.named Bd.method).1
  have X0 : Stand p l e own_r3_3 s m #[(.ref b), (.ref ca), (.int (0 : Int32)), (.int (3 : Int32)), .null] below meth c s₁ [] 0 0 := Stand.of_body Bd
  have e0 : s₁.heap = h0 := by rw [← hh, Bd.state]; rfl
  have N0 := Fr.nil n0
  refine own_in (own_ef3_3 m b ca) ?_
  show own_Go p e below (own_K s (own_Q3_3 Z b  ca  kc  c0 c1 c2  cs  h0 n0) own_r3_3.cells own_r3_3.slots) s₁ (mkF m 0 #[.val (.ref b), .val (.ref ca), .val (.int (0 : Int32)), .val (.int (3 : Int32)), .val .null, .unset] [])
  refine own_st (T' := s₁) (g' := (mkF m 1 #[.val (.ref b), .val (.ref ca), .val (.int (0 : Int32)), .val (.int (3 : Int32)), .val .null, .unset] [(.ref b)])) (fun t k => ?_) ?_
  · show Steps p.tables e below (s₁.setTop (mkF m 0 #[.val (.ref b), .val (.ref ca), .val (.int (0 : Int32)), .val (.int (3 : Int32)), .val .null, .unset] [])) t
    refine XS.aloadN X0.here hx rfl (hb hby own_d3_0) rfl rfl ?_
    exact k
  obtain ⟨T1, X1, e1, st1⟩ := initO X0 hx hZ hown (hw _ (List.mem_of_getElem? (i := 16) rfl)) (hw _ (List.mem_of_getElem? (i := 17) rfl)) (hw _ (List.mem_of_getElem? (i := 18) rfl)) e0 (g := (mkF m 1 #[.val (.ref b), .val (.ref ca), .val (.int (0 : Int32)), .val (.int (3 : Int32)), .val .null, .unset] [(.ref b)])) rfl (by rw [hml]; rfl) rfl (hb hby own_d3_1) (by decide) (W := 0) (by show 2 * 0 + _ ≤ _; exact Nat.le_of_eq rfl) (by decide)
  refine own_st (T' := T1) (g' := (mkF m 4 #[.val (.ref b), .val (.ref ca), .val (.int (0 : Int32)), .val (.int (3 : Int32)), .val .null, .unset] [])) st1 ?_
  refine own_st (T' := T1) (g' := (mkF m 27 #[.val (.ref b), .val (.ref ca), .val (.int (0 : Int32)), .val (.int (3 : Int32)), .val .null, .unset] [])) (fun t k => ?_) ?_
  · show Steps p.tables e below (T1.setTop (mkF m 4 #[.val (.ref b), .val (.ref ca), .val (.int (0 : Int32)), .val (.int (3 : Int32)), .val .null, .unset] [])) t
    refine XS.iloadN X1.here hx rfl (hb hby own_d3_4) rfl ?_
    refine XS.ifYes X1.here hx rfl (pc0 := 5) (pc' := 27) rfl (hb hby own_d3_5) rfl ((if0 _ _).trans (feq (by decide : ¬ ((3 : Int32) = (0 : Int32)))).2) (by decide) (by decide) ?_
    exact k
  have f2 := S_cs.ext O0.2
  obtain ⟨T3, X3, e3, st3⟩ := getS2 X1 hx hZ hown (host := "") (Or.inl (hw _ (List.mem_of_getElem? (i := 19) rfl))) Via.refl e1 f2 (g := (mkF m 27 #[.val (.ref b), .val (.ref ca), .val (.int (0 : Int32)), .val (.int (3 : Int32)), .val .null, .unset] [])) rfl (hb hby own_d3_27)
  refine own_st (T' := T3) (g' := (mkF m 30 #[.val (.ref b), .val (.ref ca), .val (.int (0 : Int32)), .val (.int (3 : Int32)), .val .null, .unset] [(.int cs)])) st3 ?_
  refine own_st (T' := T3) (g' := (mkF m 36 #[.val (.ref b), .val (.ref ca), .val (.int (0 : Int32)), .val (.int (3 : Int32)), .val .null, .unset] [(.int (3 : Int32)), (.int (0 : Int32)), (.ref ca)])) (fun t k => ?_) ?_
  · show Steps p.tables e below (T3.setTop (mkF m 30 #[.val (.ref b), .val (.ref ca), .val (.int (0 : Int32)), .val (.int (3 : Int32)), .val .null, .unset] [(.int cs)])) t
    refine XS.ifNo X3.here hx rfl (hb hby own_d3_30) rfl ((if0 _ _).trans (feq hcs).1) ?_
    refine XS.aloadN X3.here hx rfl (hb hby own_d3_33) rfl rfl ?_
    refine XS.iloadN X3.here hx rfl (hb hby own_d3_34) rfl ?_
    refine XS.iloadN X3.here hx rfl (hb hby own_d3_35) rfl ?_
    exact k
  obtain ⟨_, _, ⟨T4, L4, c4, n4⟩, -, X4, ⟨Lc4, hQ4, l4, y4, z4⟩, st4⟩ := Jvm.LawKit.callS X3 hx (y := (⟨"java/lang/StringUTF16", "compress", "([CII)[B"⟩ : MethodName)) hown (mvT hZ (hw _ (List.mem_of_getElem? (i := 20) rfl))) (mvT hZ (hw _ (List.mem_of_getElem? (i := 21) rfl))) (mvT hZ (hw _ (List.mem_of_getElem? (i := 22) rfl))) (mvT hZ (hw _ (List.mem_of_getElem? (i := 23) rfl))) (by decide) (backOf (W := 0) (own_rm5_3 l Z a0 hw [] ca kc c0 c1 c2 cs h0 n0 Z0 O0 V_c hl0 hl1 hl2 hcs S_cs) hZ (hw _ (List.mem_of_getElem? (i := 23) rfl)) (hw _ (List.mem_of_getElem? (i := 22) rfl)) (by decide) (by decide)) (g := (mkF m 36 #[.val (.ref b), .val (.ref ca), .val (.int (0 : Int32)), .val (.int (3 : Int32)), .val .null, .unset] [(.int (3 : Int32)), (.int (0 : Int32)), (.ref ca)])) rfl (by rw [hml]; rfl) (argsL := [(.ref ca), (.int (0 : Int32)), (.int (3 : Int32))]) (rest := []) (lenOf own_pd1 rfl) rfl (by show 2 * 0 + _ ≤ _; exact Nat.le_of_eq rfl) (hb hby own_d3_36) (fun _ _ => ⟨rfl, e3, (by decide : 0 + 1 ≤ _), (by decide : 0 + 3 ≤ _)⟩)
  dsimp only [Pt.U, Pt.locs, Pt.cells, Pt.slots] at X4 l4 y4 z4 st4 hQ4
  subst l4 y4 z4
  obtain ⟨h4, e4⟩ : ∃ z, T4.heap = z := ⟨_, rfl⟩
  rw [e4] at hQ4
  obtain ⟨r4, k4, rfl, N4q, Kc4, g4, hz4, Vc4⟩ := hQ4
  have N4 := Fr.app N0 N4q
  have ne_b_r4 : b ≠ r4 := Nat.ne_of_lt (Nat.lt_of_lt_of_le E_b.lt hz4)
  have ne_ca_r4 : ca ≠ r4 := Nat.ne_of_lt (Nat.lt_of_lt_of_le V_c.lt hz4)
  have hwr4 : h0.size ≤ r4 := Nat.le_trans (Keep.refl h0 [b]).1 hz4
  have K4 : Keep h0 h4 [b] := (Keep.refl h0 [b]).trans Kc4 all0
  have Z4 : n0 ≤ h4.size := Nat.le_trans Z0 Kc4.1
  have O4 := O0.keep Kc4 all0
  refine own_st (T' := T4) (g' := (mkF m 39 #[.val (.ref b), .val (.ref ca), .val (.int (0 : Int32)), .val (.int (3 : Int32)), .val .null, .unset] [(.ref r4)])) st4 ?_
  refine own_st (T' := T4) (g' := (mkF m 45 #[.val (.ref b), .val (.ref ca), .val (.int (0 : Int32)), .val (.int (3 : Int32)), .val .null, .val (.ref r4)] [(.int (3 : Int32)), (.ref r4), (.ref b)])) (fun t k => ?_) ?_
  · show Steps p.tables e below (T4.setTop (mkF m 39 #[.val (.ref b), .val (.ref ca), .val (.int (0 : Int32)), .val (.int (3 : Int32)), .val .null, .unset] [(.ref r4)])) t
    refine XS.astore X4.here hx rfl (hb hby own_d3_39) rfl rfl (l' := #[.val (.ref b), .val (.ref ca), .val (.int (0 : Int32)), .val (.int (3 : Int32)), .val .null, .val (.ref r4)]) rfl ?_
    refine XS.aloadN X4.here hx rfl (hb hby own_d3_41) rfl rfl ?_
    refine XS.aload X4.here hx rfl (hb hby own_d3_42) rfl rfl ?_
    refine XS.iloadN X4.here hx rfl (hb hby own_d3_44) rfl ?_
    exact k
  obtain ⟨_, _, ⟨T5, L5, c5, n5⟩, -, X5, ⟨Lc5, hQ5, l5, y5, z5⟩, st5⟩ := Jvm.LawKit.callS X4 hx (y := (⟨"java/lang/StringUTF16", "coderFromArrayLen", "([BI)B"⟩ : MethodName)) hown (mvT hZ (hw _ (List.mem_of_getElem? (i := 28) rfl))) (mvT hZ (hw _ (List.mem_of_getElem? (i := 29) rfl))) (mvT hZ (hw _ (List.mem_of_getElem? (i := 22) rfl))) (mvT hZ (hw _ (List.mem_of_getElem? (i := 30) rfl))) (by decide) (backOf (W := 1) (own_rm7_3 l Z a0 hw [] r4 k4 (c0.toInt8.toInt32) (c1.toInt8.toInt32) (c2.toInt8.toInt32) cs h4 n0 Z4 O4 Vc4 hcs S_cs) hZ (hw _ (List.mem_of_getElem? (i := 30) rfl)) (hw _ (List.mem_of_getElem? (i := 22) rfl)) (by decide) (by decide)) (g := (mkF m 45 #[.val (.ref b), .val (.ref ca), .val (.int (0 : Int32)), .val (.int (3 : Int32)), .val .null, .val (.ref r4)] [(.int (3 : Int32)), (.ref r4), (.ref b)])) rfl (by rw [hml]; rfl) (argsL := [(.ref r4), (.int (3 : Int32))]) (rest := [(.ref b)]) (lenOf own_pd2 rfl) rfl (by show 2 * 0 + _ ≤ _; exact Nat.le_of_eq rfl) (hb hby own_d3_45) (fun _ _ => ⟨rfl, e4, (by decide : 1 + 0 ≤ _), (by decide : 3 + 0 ≤ _)⟩)
  dsimp only [Pt.U, Pt.locs, Pt.cells, Pt.slots] at X5 l5 y5 z5 st5 hQ5
  subst l5 y5 z5
  obtain ⟨rfl, N5q, e5⟩ := hQ5
  have N5 := Fr.app N4 N5q
  refine own_st (T' := T5) (g' := (mkF m 48 #[.val (.ref b), .val (.ref ca), .val (.int (0 : Int32)), .val (.int (3 : Int32)), .val .null, .val (.ref r4)] [(.int (0 : Int32)), (.ref b)])) st5 ?_
  have f6 := F_c.keep Kc4 nin0
  have f7 := E_b.keep Kc4
  obtain ⟨T8, h8, X8, e8, W8, st8⟩ := putFN X5 hx hZ hown (hw _ (List.mem_of_getElem? (i := 31) rfl)) Via.refl e5 f6 f7 (Or.inr ⟨(hw _ (List.mem_of_getElem? (i := 32) rfl)), rfl, hnm⟩) (hw _ (List.mem_of_getElem? (i := 7) rfl)) (ty := .byte) (v' := (.int (0 : Int32))) (by decide) rfl rfl (g := (mkF m 48 #[.val (.ref b), .val (.ref ca), .val (.int (0 : Int32)), .val (.int (3 : Int32)), .val .null, .val (.ref r4)] [(.int (0 : Int32)), (.ref b)])) rfl rfl (hb hby own_d3_48)
  have N8 := Fr.snoc X8 N5 g_b
  have K8 : Keep h0 h8 [b] := K4.wr W8 (Or.inl (List.mem_of_getElem? (i := 0) rfl))
  have Z8 : n0 ≤ h8.size := Nat.le_trans Z4 (Keep.of_wr W8).1
  have O8 := O4.wr W8 g_b
  have fw8 := (f6.same W8)
  refine own_st (T' := T8) (g' := (mkF m 51 #[.val (.ref b), .val (.ref ca), .val (.int (0 : Int32)), .val (.int (3 : Int32)), .val .null, .val (.ref r4)] [])) st8 ?_
  refine own_st (T' := T8) (g' := (mkF m 54 #[.val (.ref b), .val (.ref ca), .val (.int (0 : Int32)), .val (.int (3 : Int32)), .val .null, .val (.ref r4)] [(.ref r4), (.ref b)])) (fun t k => ?_) ?_
  · show Steps p.tables e below (T8.setTop (mkF m 51 #[.val (.ref b), .val (.ref ca), .val (.int (0 : Int32)), .val (.int (3 : Int32)), .val .null, .val (.ref r4)] [])) t
    refine XS.aloadN X8.here hx rfl (hb hby own_d3_51) rfl rfl ?_
    refine XS.aload X8.here hx rfl (hb hby own_d3_52) rfl rfl ?_
    exact k
  have f9 := (F_v.keep Kc4 nin0).other W8 (Or.inr (slot_ne (Or.inr (hw _ (List.mem_of_getElem? (i := 34) rfl))) (Or.inr (hw _ (List.mem_of_getElem? (i := 32) rfl))) (by decide) (t := (.array .byte)) (t' := .byte) (by decide) (by decide)))
  have f10 := f7.wr W8
  obtain ⟨T11, h11, X11, e11, W11, st11⟩ := putF X8 hx hZ hown (host := "") (Or.inl (hw _ (List.mem_of_getElem? (i := 33) rfl))) Via.refl e8 f9 f10 (Or.inr ⟨(hw _ (List.mem_of_getElem? (i := 34) rfl)), rfl, hnm⟩) (hw _ (List.mem_of_getElem? (i := 7) rfl)) (ty := (.array .byte)) (by decide) rfl rfl (g := (mkF m 54 #[.val (.ref b), .val (.ref ca), .val (.int (0 : Int32)), .val (.int (3 : Int32)), .val .null, .val (.ref r4)] [(.ref r4), (.ref b)])) rfl rfl (hb hby own_d3_54)
  have N11 := Fr.snoc X11 N8 g_b
  have K11 : Keep h0 h11 [b] := K8.wr W11 (Or.inl (List.mem_of_getElem? (i := 0) rfl))
  have Z11 : n0 ≤ h11.size := Nat.le_trans Z8 (Keep.of_wr W11).1
  have O11 := O8.wr W11 g_b
  have fw11 := (f9.same W11)
  refine own_st (T' := T11) (g' := (mkF m 57 #[.val (.ref b), .val (.ref ca), .val (.int (0 : Int32)), .val (.int (3 : Int32)), .val .null, .val (.ref r4)] [])) st11 ?_
  have f12 := fw8.other W11 (Or.inr (slot_ne (Or.inr (hw _ (List.mem_of_getElem? (i := 32) rfl))) (Or.inr (hw _ (List.mem_of_getElem? (i := 34) rfl))) (by decide) (t := .byte) (t' := (.array .byte)) (by decide) (by decide)))
  have f13 := (Vc4.other W8 (Ne.symm ne_b_r4)).other W11 (Ne.symm ne_b_r4)
  exact own_retV X11 hx Bd (hb hby own_d3_57) e11 (⟨r4, k4, rfl, N11, K11, g4, hwr4, fw11, f12, f13⟩) (by decide) (by decide)
def own_r2_3 : Room := { frames := 3, cells := 1, slots := 3, locals := 52 }
theorem own_ef2_3 (m : MethodId) (x0 : Addr) (x1 : Addr) : entryFrame m #[(.ref x0), (.ref x1)] 2 = mkF m 0 #[.val (.ref x0), .val (.ref x1)] [] := by first | (simp [entryFrame, mkF, argsToLocals, Value.category]; done) | rfl
def own_Q2_3 (Z : State) (b : Addr) (ca : Addr) (kc : ClassId) (c0 c1 c2 : Int32) (cs : Int32) (h0 : Heap) (n0 : Nat) : Option Value → Heap → List Loc → Prop := fun v h L => ∃ t k, v = none ∧ Fr n0 L ∧ Keep h0 h [b] ∧ n0 ≤ t ∧ h0.size ≤ t ∧ Fld Z h b "java/lang/String" "value" "[B" (.ref t) ∧ Fld Z h b "java/lang/String" "coder" "B" (.int (0 : Int32)) ∧ Arv Z h t k .byte (3 : Int32) [(.int (c0.toInt8.toInt32)), (.int (c1.toInt8.toInt32)), (.int (c2.toInt8.toInt32))] (.int (0 : Int32))
set_option maxRecDepth 65536 in
set_option maxHeartbeats 40000000 in
theorem own_rm2_3 (l : Launch) (Z : State) (a0 : Array Value) (hw : ∀ d ∈ tables_1, d.before a0 Z = true) (ws : List Jvm.Cond) (b : Addr) (ca : Addr) (kc : ClassId) (c0 c1 c2 : Int32) (cs : Int32) (h0 : Heap) (n0 : Nat) (Z0 : n0 ≤ h0.size) (O0 : Old Z n0 h0) (E_b : Exa Z h0 b "java/lang/String") (F_v : Fld Z h0 b "java/lang/String" "value" "[B" .null) (F_c : Fld Z h0 b "java/lang/String" "coder" "B" (.int (0 : Int32))) (g_b : n0 ≤ b) (V_c : Arv Z h0 ca kc .char (3 : Int32) [(.int c0), (.int c1), (.int c2)] (.int (0 : Int32))) (nbc : b ≠ ca) (hl0 : ¬ (255 : Int32) < c0) (hl1 : ¬ (255 : Int32) < c1) (hl2 : ¬ (255 : Int32) < c2) (hcs : ¬ cs = (0 : Int32)) (S_cs : Sta Z Z.heap "java/lang/String" "COMPACT_STRINGS" "Z" (.int cs)) :
    MetFree l (⟨"java/lang/String", "<init>", "([C)V"⟩ : MethodName) (head1 (Jvm.Cond.code (⟨"java/lang/String", "<init>", "([C)V"⟩ : MethodName) jdk_42_method_3_code 2 none :: ws) own_r2_3) (fun a_ U_ => a_ = #[(.ref b), (.ref ca)] ∧ Z.Warmed39 U_.vm ∧ U_.heap = h0) (fun _ _ _ _ _ => True) (fun _ U_ o_ U'_ => ∃ v_ L_, o_ = .returned v_ ∧ own_Q2_3 Z b  ca  kc  c0 c1 c2  cs  h0 n0 v_ U'_.heap L_ ∧ FrameEnd U_ o_ U'_ L_ own_r2_3.cells own_r2_3.slots) := by
  refine MetFree.of_bodySF (plainFor_of_name own_pn1) hisR ?_
  intro p e s m args below meth c s₁ Bd hml0 hP hK
  obtain ⟨rfl, hZ, hh⟩ := hP
  have hx := Bd.exec
  have hby := Bd.bytes
  have hml : c.maxLocals = 2 := hml0
  have hown : s.vm.findClass "java/lang/String" = some m.cls := findClass_of_methodNamed Bd.named
  have hnm := (name_of_methodNamed Bd.named Bd.method).1
  have X0 : Stand p l e own_r2_3 s m #[(.ref b), (.ref ca)] below meth c s₁ [] 0 0 := Stand.of_body Bd
  have e0 : s₁.heap = h0 := by rw [← hh, Bd.state]; rfl
  have N0 := Fr.nil n0
  refine own_in (own_ef2_3 m b ca) ?_
  show own_Go p e below (own_K s (own_Q2_3 Z b  ca  kc  c0 c1 c2  cs  h0 n0) own_r2_3.cells own_r2_3.slots) s₁ (mkF m 0 #[.val (.ref b), .val (.ref ca)] [])
  refine own_st (T' := s₁) (g' := (mkF m 4 #[.val (.ref b), .val (.ref ca)] [(.ref ca), (.int (0 : Int32)), (.ref ca), (.ref b)])) (fun t k => ?_) ?_
  · show Steps p.tables e below (s₁.setTop (mkF m 0 #[.val (.ref b), .val (.ref ca)] [])) t
    refine XS.aloadN X0.here hx rfl (hb hby own_d2_0) rfl rfl ?_
    refine XS.aloadN X0.here hx rfl (hb hby own_d2_1) rfl rfl ?_
    refine XS.iconst X0.here hx rfl (hb hby own_d2_2) ?_
    refine XS.aloadN X0.here hx rfl (hb hby own_d2_3) rfl rfl ?_
    exact k
  obtain ⟨cl1, Ar1, q1, S1, M1, H1, G1⟩ := id V_c
  refine own_st (T' := s₁) (g' := (mkF m 6 #[.val (.ref b), .val (.ref ca)] [.null, (.int (3 : Int32)), (.int (0 : Int32)), (.ref ca), (.ref b)])) (fun t k => ?_) ?_
  · show Steps p.tables e below (s₁.setTop (mkF m 4 #[.val (.ref b), .val (.ref ca)] [(.ref ca), (.int (0 : Int32)), (.ref ca), (.ref b)])) t
    refine X0.arraylength hx (by rw [e0]; exact Ar1.1) (State.isArrayOf_alike hZ.alike Ar1.2.1) (g := (mkF m 4 #[.val (.ref b), .val (.ref ca)] [(.ref ca), (.int (0 : Int32)), (.ref ca), (.ref b)])) rfl rfl (hb hby own_d2_4) _ ?_
    rw [len_of S1 M1]
    show Steps p.tables e below (s₁.setTop (mkF m 5 #[.val (.ref b), .val (.ref ca)] [(.int (3 : Int32)), (.int (0 : Int32)), (.ref ca), (.ref b)])) t
    refine XS.aconstNull X0.here hx rfl (hb hby own_d2_5) ?_
    exact k
  obtain ⟨_, _, ⟨T2, L2, c2, n2⟩, -, X2, ⟨Lc2, hQ2, l2, y2, z2⟩, st2⟩ := X0.specialBack hx (y := (⟨"java/lang/String", "<init>", "([CIILjava/lang/Void;)V"⟩ : MethodName)) rfl hown (mvT hZ (hw _ (List.mem_of_getElem? (i := 12) rfl))) (mvT hZ (hw _ (List.mem_of_getElem? (i := 13) rfl))) (mvT hZ (hw _ (List.mem_of_getElem? (i := 15) rfl))) (by decide) (backOf (W := 0) (own_rm3_3 l Z a0 hw [] b ca kc c0 c1 c2 cs h0 n0 Z0 O0 E_b F_v F_c g_b V_c nbc hl0 hl1 hl2 hcs S_cs) hZ (hw _ (List.mem_of_getElem? (i := 15) rfl)) (hw _ (List.mem_of_getElem? (i := 8) rfl)) (by decide) (by decide)) (g := (mkF m 6 #[.val (.ref b), .val (.ref ca)] [.null, (.int (3 : Int32)), (.int (0 : Int32)), (.ref ca), (.ref b)])) rfl (by rw [hml]; rfl) (Steps.refl _) (a := b) (argsL := [(.ref ca), (.int (0 : Int32)), (.int (3 : Int32)), .null]) (rest := []) (lenOf own_pd3 rfl) rfl (by show 2 * 0 + _ ≤ _; exact Nat.le_of_eq rfl) (hb hby own_d2_6) (fun _ _ => ⟨rfl, e0, (by decide : 0 + 1 ≤ _), (by decide : 0 + 3 ≤ _)⟩)
  dsimp only [Pt.U, Pt.locs, Pt.cells, Pt.slots] at X2 l2 y2 z2 st2 hQ2
  subst l2 y2 z2
  obtain ⟨h2, e2⟩ : ∃ z, T2.heap = z := ⟨_, rfl⟩
  rw [e2] at hQ2
  obtain ⟨t2, k2, rfl, N2q, Kc2, g2, hz2, Fv2, Fo2, Vc2⟩ := hQ2
  have N2 := Fr.app N0 N2q
  have ne_b_t2 : b ≠ t2 := Nat.ne_of_lt (Nat.lt_of_lt_of_le E_b.lt hz2)
  have ne_ca_t2 : ca ≠ t2 := Nat.ne_of_lt (Nat.lt_of_lt_of_le V_c.lt hz2)
  have hwt2 : h0.size ≤ t2 := Nat.le_trans (Keep.refl h0 [b]).1 hz2
  have K2 : Keep h0 h2 [b] := (Keep.refl h0 [b]).trans Kc2 (allS (Or.inl (List.mem_of_getElem? (i := 0) rfl)) all0)
  have Z2 : n0 ≤ h2.size := Nat.le_trans Z0 Kc2.1
  have O2 := O0.keep Kc2 (allS g_b all0)
  refine own_tr (T' := T2) (g' := (mkF m 9 #[.val (.ref b), .val (.ref ca)] [])) st2 ?_
  exact own_retV X2 hx Bd (hb hby own_d2_9) e2 (⟨t2, k2, rfl, N2, K2, g2, hwt2, Fv2, Fo2, Vc2⟩) (by decide) (by decide)
def own_r1 : Room := { frames := 0, cells := 0, slots := 0, locals := 0 }
theorem own_ef1 (m : MethodId) (x0 : Int32) : entryFrame m #[(.int x0)] 2 = mkF m 0 #[.val (.int x0), .unset] [] := by first | (simp [entryFrame, mkF, argsToLocals, Value.category]; done) | rfl
def own_Q1 (Z : State) (xv : Int32) (h0 : Heap) (n0 : Nat) : Option Value → Heap → List Loc → Prop := fun v h L => ∃ z : Int32, v = some (.int z) ∧ Fr n0 L ∧ own_dr z ∧ h = h0
set_option maxRecDepth 65536 in
set_option maxHeartbeats 40000000 in
theorem own_rm1 (l : Launch) (Z : State) (a0 : Array Value) (hw : ∀ d ∈ tables_1, d.before a0 Z = true) (ws : List Jvm.Cond) (xv : Int32) (h0 : Heap) (n0 : Nat) (Z0 : n0 ≤ h0.size)  :
    MetFree l (⟨"com/example/operation_tracker/operationtracker/model/TaskIdFirstPinLaw", "draw", "(I)C"⟩ : MethodName) (head1 (Jvm.Cond.code (⟨"com/example/operation_tracker/operationtracker/model/TaskIdFirstPinLaw", "draw", "(I)C"⟩ : MethodName) method_2_code 2 (some .char) :: ws) own_r1) (fun a_ U_ => a_ = #[(.int xv)] ∧ Z.Warmed39 U_.vm ∧ U_.heap = h0) (fun _ _ _ _ _ => True) (fun _ U_ o_ U'_ => ∃ v_ L_, o_ = .returned v_ ∧ own_Q1 Z xv  h0 n0 v_ U'_.heap L_ ∧ FrameEnd U_ o_ U'_ L_ own_r1.cells own_r1.slots) := by
  refine MetFree.of_bodySF (plainFor_of_name own_pn2) hisR ?_
  intro p e s m args below meth c s₁ Bd hml0 hP hK
  obtain ⟨rfl, hZ, hh⟩ := hP
  have hx := Bd.exec
  have hby := Bd.bytes
  have hml : c.maxLocals = 2 := hml0
  have hown : s.vm.findClass "com/example/operation_tracker/operationtracker/model/TaskIdFirstPinLaw" = some m.cls := findClass_of_methodNamed Bd.named
  have hnm := (name_of_methodNamed Bd.named Bd.method).1
  have X0 : Stand p l e own_r1 s m #[(.int xv)] below meth c s₁ [] 0 0 := Stand.of_body Bd
  have e0 : s₁.heap = h0 := by rw [← hh, Bd.state]; rfl
  have N0 := Fr.nil n0
  refine own_in (own_ef1 m xv) ?_
  show own_Go p e below (own_K s (own_Q1 Z xv  h0 n0) own_r1.cells own_r1.slots) s₁ (mkF m 0 #[.val (.int xv), .unset] [])
  refine own_st (T' := s₁) (g' := (mkF m 13 #[.val (.int xv), .val (.int ((xv &&& (255 : Int32)) % (255 : Int32)))] [(.int (46 : Int32)), (.int ((xv &&& (255 : Int32)) % (255 : Int32)))])) (fun t k => ?_) ?_
  · show Steps p.tables e below (s₁.setTop (mkF m 0 #[.val (.int xv), .unset] [])) t
    refine XS.iloadN X0.here hx rfl (hb hby own_d1_0) rfl ?_
    refine XS.sipush X0.here hx rfl (hb hby own_d1_1) ?_
    refine XS.iand X0.here hx rfl (hb hby own_d1_4) rfl ?_
    refine XS.sipush X0.here hx rfl (hb hby own_d1_5) ?_
    refine iremM X0 hx rfl (hb hby own_d1_8) rfl (by decide) ?_
    refine XS.istoreN X0.here hx rfl (hb hby own_d1_9) rfl (l' := #[.val (.int xv), .val (.int ((xv &&& (255 : Int32)) % (255 : Int32)))]) rfl ?_
    refine XS.iloadN X0.here hx rfl (hb hby own_d1_10) rfl ?_
    refine XS.bipush X0.here hx rfl (hb hby own_d1_11) ?_
    exact k
  by_cases hc1 : ((xv &&& (255 : Int32)) % (255 : Int32)) < (46 : Int32)
  · refine own_st (T' := s₁) (g' := (mkF m 22 #[.val (.int xv), .val (.int ((xv &&& (255 : Int32)) % (255 : Int32)))] [(.int (((xv &&& (255 : Int32)) % (255 : Int32)).toUInt32.toUInt16.toUInt32.toInt32))])) (fun t k => ?_) ?_
    · show Steps p.tables e below (s₁.setTop (mkF m 13 #[.val (.int xv), .val (.int ((xv &&& (255 : Int32)) % (255 : Int32)))] [(.int (46 : Int32)), (.int ((xv &&& (255 : Int32)) % (255 : Int32)))])) t
      refine XS.icmpYes X0.here hx rfl (pc0 := 13) (pc' := 20) rfl (hb hby own_d1_13) rfl (tlt hc1).1 (by decide) (by decide) ?_
      refine XS.iloadN X0.here hx rfl (hb hby own_d1_20) rfl ?_
      refine XS.i2c X0.here hx rfl (hb hby own_d1_21) rfl ?_
      exact k
    exact own_retN X0 hx Bd (t := .char) (by simp) (XT.narrow_c _) (hb hby own_d1_22) e0 (⟨_, rfl, N0, own_dr_lo hc1, rfl⟩) (by decide) (by decide)
  · refine own_st (T' := s₁) (g' := (mkF m 22 #[.val (.int xv), .val (.int (((xv &&& (255 : Int32)) % (255 : Int32)) + (1 : Int32)))] [(.int ((((xv &&& (255 : Int32)) % (255 : Int32)) + (1 : Int32)).toUInt32.toUInt16.toUInt32.toInt32))])) (fun t k => ?_) ?_
    · show Steps p.tables e below (s₁.setTop (mkF m 13 #[.val (.int xv), .val (.int ((xv &&& (255 : Int32)) % (255 : Int32)))] [(.int (46 : Int32)), (.int ((xv &&& (255 : Int32)) % (255 : Int32)))])) t
      refine XS.icmpNo X0.here hx rfl (hb hby own_d1_13) rfl (flt hc1).1 ?_
      refine XS.iloadN X0.here hx rfl (hb hby own_d1_16) rfl ?_
      refine XS.iconst X0.here hx rfl (hb hby own_d1_17) ?_
      refine XS.iadd X0.here hx rfl (hb hby own_d1_18) rfl ?_
      refine XS.istoreN X0.here hx rfl (hb hby own_d1_19) rfl (l' := #[.val (.int xv), .val (.int (((xv &&& (255 : Int32)) % (255 : Int32)) + (1 : Int32)))]) rfl ?_
      refine XS.iloadN X0.here hx rfl (hb hby own_d1_20) rfl ?_
      refine XS.i2c X0.here hx rfl (hb hby own_d1_21) rfl ?_
      exact k
    exact own_retN X0 hx Bd (t := .char) (by simp) (XT.narrow_c _) (hb hby own_d1_22) e0 (⟨_, rfl, N0, own_dr_hi hc1, rfl⟩) (by decide) (by decide)
def own_r11_0_1 : Room := { frames := 0, cells := 0, slots := 0, locals := 0 }
theorem own_ef11_0_1 (m : MethodId) (x0 : Addr) : entryFrame m #[(.ref x0)] 1 = mkF m 0 #[.val (.ref x0)] [] := by first | (simp [entryFrame, mkF, argsToLocals, Value.category]; done) | rfl
def own_Q11_0_1 (Z : State) (r arr : Addr) (ka : ClassId) (x0 : Int32) (cs : Int32) (h0 : Heap) (n0 : Nat) : Option Value → Heap → List Loc → Prop := fun v h L => v = some (.int (0 : Int32)) ∧ Fr n0 L ∧ h = h0
set_option maxRecDepth 65536 in
set_option maxHeartbeats 40000000 in
theorem own_rm11_0_1 (l : Launch) (Z : State) (a0 : Array Value) (hw : ∀ d ∈ tables_1, d.before a0 Z = true) (ws : List Jvm.Cond) (r arr : Addr) (ka : ClassId) (x0 : Int32) (cs : Int32) (h0 : Heap) (n0 : Nat) (Z0 : n0 ≤ h0.size) (O0 : Old Z n0 h0) (E_r : Exa Z h0 r "java/lang/String") (F_v : Fld Z h0 r "java/lang/String" "value" "[B" (.ref arr)) (F_c : Fld Z h0 r "java/lang/String" "coder" "B" (.int (0 : Int32))) (V_a : Arv Z h0 arr ka .byte (1 : Int32) [(.int x0)] (.int (0 : Int32)))  (hcs : ¬ cs = (0 : Int32)) (S_cs : Sta Z Z.heap "java/lang/String" "COMPACT_STRINGS" "Z" (.int cs)) :
    MetFree l (⟨"java/lang/String", "isEmpty", "()Z"⟩ : MethodName) (head1 (Jvm.Cond.code (⟨"java/lang/String", "isEmpty", "()Z"⟩ : MethodName) jdk_42_method_55_code 1 (some .boolean) :: ws) own_r11_0_1) (fun a_ U_ => a_ = #[(.ref r)] ∧ Z.Warmed39 U_.vm ∧ U_.heap = h0) (fun _ _ _ _ _ => True) (fun _ U_ o_ U'_ => ∃ v_ L_, o_ = .returned v_ ∧ own_Q11_0_1 Z r arr  ka  x0  cs  h0 n0 v_ U'_.heap L_ ∧ FrameEnd U_ o_ U'_ L_ own_r11_0_1.cells own_r11_0_1.slots) := by
  refine MetFree.of_bodySF (plainFor_of_name own_pn1) hisR ?_
  intro p e s m args below meth c s₁ Bd hml0 hP hK
  obtain ⟨rfl, hZ, hh⟩ := hP
  have hx := Bd.exec
  have hby := Bd.bytes
  have hml : c.maxLocals = 1 := hml0
  have hown : s.vm.findClass "java/lang/String" = some m.cls := findClass_of_methodNamed Bd.named
  have hnm := (name_of_methodNamed Bd.named Bd.method).1
  have X0 : Stand p l e own_r11_0_1 s m #[(.ref r)] below meth c s₁ [] 0 0 := Stand.of_body Bd
  have e0 : s₁.heap = h0 := by rw [← hh, Bd.state]; rfl
  have N0 := Fr.nil n0
  refine own_in (own_ef11_0_1 m r) ?_
  show own_Go p e below (own_K s (own_Q11_0_1 Z r arr  ka  x0  cs  h0 n0) own_r11_0_1.cells own_r11_0_1.slots) s₁ (mkF m 0 #[.val (.ref r)] [])
  refine own_st (T' := s₁) (g' := (mkF m 1 #[.val (.ref r)] [(.ref r)])) (fun t k => ?_) ?_
  · show Steps p.tables e below (s₁.setTop (mkF m 0 #[.val (.ref r)] [])) t
    refine XS.aloadN X0.here hx rfl (hb hby own_d11_0) rfl rfl ?_
    exact k
  obtain ⟨T1, X1, e1, st1⟩ := getF X0 hx hZ hown (host := "") (Or.inl (hw _ (List.mem_of_getElem? (i := 33) rfl))) Via.refl e0 F_v (g := (mkF m 1 #[.val (.ref r)] [(.ref r)])) rfl rfl (hb hby own_d11_1)
  refine own_st (T' := T1) (g' := (mkF m 4 #[.val (.ref r)] [(.ref arr)])) st1 ?_
  obtain ⟨cl2, Ar2, q2, S2, M2, H2, G2⟩ := id V_a
  refine own_st (T' := T1) (g' := (mkF m 13 #[.val (.ref r)] [(.int (0 : Int32))])) (fun t k => ?_) ?_
  · show Steps p.tables e below (T1.setTop (mkF m 4 #[.val (.ref r)] [(.ref arr)])) t
    refine X1.arraylength hx (by rw [e1]; exact Ar2.1) (State.isArrayOf_alike hZ.alike Ar2.2.1) (g := (mkF m 4 #[.val (.ref r)] [(.ref arr)])) rfl rfl (hb hby own_d11_4) _ ?_
    rw [len_of S2 M2]
    show Steps p.tables e below (T1.setTop (mkF m 5 #[.val (.ref r)] [(.int (1 : Int32))])) t
    refine XS.ifYes X1.here hx rfl (pc0 := 5) (pc' := 12) rfl (hb hby own_d11_5) rfl ((if0 _ _).trans (feq (by decide : ¬ ((1 : Int32) = (0 : Int32)))).2) (by decide) (by decide) ?_
    refine XS.iconst X1.here hx rfl (hb hby own_d11_12) ?_
    exact k
  exact own_retN X1 hx Bd (t := .boolean) (by simp) rfl (hb hby own_d11_13) e1 (⟨rfl, N0, rfl⟩) (by decide) (by decide)
def own_r11_0_2 : Room := { frames := 0, cells := 0, slots := 0, locals := 0 }
theorem own_ef11_0_2 (m : MethodId) (x0 : Addr) : entryFrame m #[(.ref x0)] 1 = mkF m 0 #[.val (.ref x0)] [] := by first | (simp [entryFrame, mkF, argsToLocals, Value.category]; done) | rfl
def own_Q11_0_2 (Z : State) (r arr : Addr) (ka : ClassId) (x0 x1 : Int32) (cs : Int32) (h0 : Heap) (n0 : Nat) : Option Value → Heap → List Loc → Prop := fun v h L => v = some (.int (0 : Int32)) ∧ Fr n0 L ∧ h = h0
set_option maxRecDepth 65536 in
set_option maxHeartbeats 40000000 in
theorem own_rm11_0_2 (l : Launch) (Z : State) (a0 : Array Value) (hw : ∀ d ∈ tables_1, d.before a0 Z = true) (ws : List Jvm.Cond) (r arr : Addr) (ka : ClassId) (x0 x1 : Int32) (cs : Int32) (h0 : Heap) (n0 : Nat) (Z0 : n0 ≤ h0.size) (O0 : Old Z n0 h0) (E_r : Exa Z h0 r "java/lang/String") (F_v : Fld Z h0 r "java/lang/String" "value" "[B" (.ref arr)) (F_c : Fld Z h0 r "java/lang/String" "coder" "B" (.int (0 : Int32))) (V_a : Arv Z h0 arr ka .byte (2 : Int32) [(.int x0), (.int x1)] (.int (0 : Int32)))  (hcs : ¬ cs = (0 : Int32)) (S_cs : Sta Z Z.heap "java/lang/String" "COMPACT_STRINGS" "Z" (.int cs)) :
    MetFree l (⟨"java/lang/String", "isEmpty", "()Z"⟩ : MethodName) (head1 (Jvm.Cond.code (⟨"java/lang/String", "isEmpty", "()Z"⟩ : MethodName) jdk_42_method_55_code 1 (some .boolean) :: ws) own_r11_0_2) (fun a_ U_ => a_ = #[(.ref r)] ∧ Z.Warmed39 U_.vm ∧ U_.heap = h0) (fun _ _ _ _ _ => True) (fun _ U_ o_ U'_ => ∃ v_ L_, o_ = .returned v_ ∧ own_Q11_0_2 Z r arr  ka  x0 x1  cs  h0 n0 v_ U'_.heap L_ ∧ FrameEnd U_ o_ U'_ L_ own_r11_0_2.cells own_r11_0_2.slots) := by
  refine MetFree.of_bodySF (plainFor_of_name own_pn1) hisR ?_
  intro p e s m args below meth c s₁ Bd hml0 hP hK
  obtain ⟨rfl, hZ, hh⟩ := hP
  have hx := Bd.exec
  have hby := Bd.bytes
  have hml : c.maxLocals = 1 := hml0
  have hown : s.vm.findClass "java/lang/String" = some m.cls := findClass_of_methodNamed Bd.named
  have hnm := (name_of_methodNamed Bd.named Bd.method).1
  have X0 : Stand p l e own_r11_0_2 s m #[(.ref r)] below meth c s₁ [] 0 0 := Stand.of_body Bd
  have e0 : s₁.heap = h0 := by rw [← hh, Bd.state]; rfl
  have N0 := Fr.nil n0
  refine own_in (own_ef11_0_2 m r) ?_
  show own_Go p e below (own_K s (own_Q11_0_2 Z r arr  ka  x0 x1  cs  h0 n0) own_r11_0_2.cells own_r11_0_2.slots) s₁ (mkF m 0 #[.val (.ref r)] [])
  refine own_st (T' := s₁) (g' := (mkF m 1 #[.val (.ref r)] [(.ref r)])) (fun t k => ?_) ?_
  · show Steps p.tables e below (s₁.setTop (mkF m 0 #[.val (.ref r)] [])) t
    refine XS.aloadN X0.here hx rfl (hb hby own_d11_0) rfl rfl ?_
    exact k
  obtain ⟨T1, X1, e1, st1⟩ := getF X0 hx hZ hown (host := "") (Or.inl (hw _ (List.mem_of_getElem? (i := 33) rfl))) Via.refl e0 F_v (g := (mkF m 1 #[.val (.ref r)] [(.ref r)])) rfl rfl (hb hby own_d11_1)
  refine own_st (T' := T1) (g' := (mkF m 4 #[.val (.ref r)] [(.ref arr)])) st1 ?_
  obtain ⟨cl2, Ar2, q2, S2, M2, H2, G2⟩ := id V_a
  refine own_st (T' := T1) (g' := (mkF m 13 #[.val (.ref r)] [(.int (0 : Int32))])) (fun t k => ?_) ?_
  · show Steps p.tables e below (T1.setTop (mkF m 4 #[.val (.ref r)] [(.ref arr)])) t
    refine X1.arraylength hx (by rw [e1]; exact Ar2.1) (State.isArrayOf_alike hZ.alike Ar2.2.1) (g := (mkF m 4 #[.val (.ref r)] [(.ref arr)])) rfl rfl (hb hby own_d11_4) _ ?_
    rw [len_of S2 M2]
    show Steps p.tables e below (T1.setTop (mkF m 5 #[.val (.ref r)] [(.int (2 : Int32))])) t
    refine XS.ifYes X1.here hx rfl (pc0 := 5) (pc' := 12) rfl (hb hby own_d11_5) rfl ((if0 _ _).trans (feq (by decide : ¬ ((2 : Int32) = (0 : Int32)))).2) (by decide) (by decide) ?_
    refine XS.iconst X1.here hx rfl (hb hby own_d11_12) ?_
    exact k
  exact own_retN X1 hx Bd (t := .boolean) (by simp) rfl (hb hby own_d11_13) e1 (⟨rfl, N0, rfl⟩) (by decide) (by decide)
def own_r11_0_3 : Room := { frames := 0, cells := 0, slots := 0, locals := 0 }
theorem own_ef11_0_3 (m : MethodId) (x0 : Addr) : entryFrame m #[(.ref x0)] 1 = mkF m 0 #[.val (.ref x0)] [] := by first | (simp [entryFrame, mkF, argsToLocals, Value.category]; done) | rfl
def own_Q11_0_3 (Z : State) (r arr : Addr) (ka : ClassId) (x0 x1 x2 : Int32) (cs : Int32) (h0 : Heap) (n0 : Nat) : Option Value → Heap → List Loc → Prop := fun v h L => v = some (.int (0 : Int32)) ∧ Fr n0 L ∧ h = h0
set_option maxRecDepth 65536 in
set_option maxHeartbeats 40000000 in
theorem own_rm11_0_3 (l : Launch) (Z : State) (a0 : Array Value) (hw : ∀ d ∈ tables_1, d.before a0 Z = true) (ws : List Jvm.Cond) (r arr : Addr) (ka : ClassId) (x0 x1 x2 : Int32) (cs : Int32) (h0 : Heap) (n0 : Nat) (Z0 : n0 ≤ h0.size) (O0 : Old Z n0 h0) (E_r : Exa Z h0 r "java/lang/String") (F_v : Fld Z h0 r "java/lang/String" "value" "[B" (.ref arr)) (F_c : Fld Z h0 r "java/lang/String" "coder" "B" (.int (0 : Int32))) (V_a : Arv Z h0 arr ka .byte (3 : Int32) [(.int x0), (.int x1), (.int x2)] (.int (0 : Int32)))  (hcs : ¬ cs = (0 : Int32)) (S_cs : Sta Z Z.heap "java/lang/String" "COMPACT_STRINGS" "Z" (.int cs)) :
    MetFree l (⟨"java/lang/String", "isEmpty", "()Z"⟩ : MethodName) (head1 (Jvm.Cond.code (⟨"java/lang/String", "isEmpty", "()Z"⟩ : MethodName) jdk_42_method_55_code 1 (some .boolean) :: ws) own_r11_0_3) (fun a_ U_ => a_ = #[(.ref r)] ∧ Z.Warmed39 U_.vm ∧ U_.heap = h0) (fun _ _ _ _ _ => True) (fun _ U_ o_ U'_ => ∃ v_ L_, o_ = .returned v_ ∧ own_Q11_0_3 Z r arr  ka  x0 x1 x2  cs  h0 n0 v_ U'_.heap L_ ∧ FrameEnd U_ o_ U'_ L_ own_r11_0_3.cells own_r11_0_3.slots) := by
  refine MetFree.of_bodySF (plainFor_of_name own_pn1) hisR ?_
  intro p e s m args below meth c s₁ Bd hml0 hP hK
  obtain ⟨rfl, hZ, hh⟩ := hP
  have hx := Bd.exec
  have hby := Bd.bytes
  have hml : c.maxLocals = 1 := hml0
  have hown : s.vm.findClass "java/lang/String" = some m.cls := findClass_of_methodNamed Bd.named
  have hnm := (name_of_methodNamed Bd.named Bd.method).1
  have X0 : Stand p l e own_r11_0_3 s m #[(.ref r)] below meth c s₁ [] 0 0 := Stand.of_body Bd
  have e0 : s₁.heap = h0 := by rw [← hh, Bd.state]; rfl
  have N0 := Fr.nil n0
  refine own_in (own_ef11_0_3 m r) ?_
  show own_Go p e below (own_K s (own_Q11_0_3 Z r arr  ka  x0 x1 x2  cs  h0 n0) own_r11_0_3.cells own_r11_0_3.slots) s₁ (mkF m 0 #[.val (.ref r)] [])
  refine own_st (T' := s₁) (g' := (mkF m 1 #[.val (.ref r)] [(.ref r)])) (fun t k => ?_) ?_
  · show Steps p.tables e below (s₁.setTop (mkF m 0 #[.val (.ref r)] [])) t
    refine XS.aloadN X0.here hx rfl (hb hby own_d11_0) rfl rfl ?_
    exact k
  obtain ⟨T1, X1, e1, st1⟩ := getF X0 hx hZ hown (host := "") (Or.inl (hw _ (List.mem_of_getElem? (i := 33) rfl))) Via.refl e0 F_v (g := (mkF m 1 #[.val (.ref r)] [(.ref r)])) rfl rfl (hb hby own_d11_1)
  refine own_st (T' := T1) (g' := (mkF m 4 #[.val (.ref r)] [(.ref arr)])) st1 ?_
  obtain ⟨cl2, Ar2, q2, S2, M2, H2, G2⟩ := id V_a
  refine own_st (T' := T1) (g' := (mkF m 13 #[.val (.ref r)] [(.int (0 : Int32))])) (fun t k => ?_) ?_
  · show Steps p.tables e below (T1.setTop (mkF m 4 #[.val (.ref r)] [(.ref arr)])) t
    refine X1.arraylength hx (by rw [e1]; exact Ar2.1) (State.isArrayOf_alike hZ.alike Ar2.2.1) (g := (mkF m 4 #[.val (.ref r)] [(.ref arr)])) rfl rfl (hb hby own_d11_4) _ ?_
    rw [len_of S2 M2]
    show Steps p.tables e below (T1.setTop (mkF m 5 #[.val (.ref r)] [(.int (3 : Int32))])) t
    refine XS.ifYes X1.here hx rfl (pc0 := 5) (pc' := 12) rfl (hb hby own_d11_5) rfl ((if0 _ _).trans (feq (by decide : ¬ ((3 : Int32) = (0 : Int32)))).2) (by decide) (by decide) ?_
    refine XS.iconst X1.here hx rfl (hb hby own_d11_12) ?_
    exact k
  exact own_retN X1 hx Bd (t := .boolean) (by simp) rfl (hb hby own_d11_13) e1 (⟨rfl, N0, rfl⟩) (by decide) (by decide)
def own_r14_0_1 : Room := { frames := 0, cells := 0, slots := 0, locals := 0 }
theorem own_ef14_0_1 (m : MethodId) (x0 : Addr) : entryFrame m #[(.ref x0)] 1 = mkF m 0 #[.val (.ref x0)] [] := by first | (simp [entryFrame, mkF, argsToLocals, Value.category]; done) | rfl
def own_Q14_0_1 (Z : State) (r arr : Addr) (ka : ClassId) (x0 : Int32) (cs : Int32) (h0 : Heap) (n0 : Nat) : Option Value → Heap → List Loc → Prop := fun v h L => v = some (.int (1 : Int32)) ∧ Fr n0 L ∧ h = h0
set_option maxRecDepth 65536 in
set_option maxHeartbeats 40000000 in
theorem own_rm14_0_1 (l : Launch) (Z : State) (a0 : Array Value) (hw : ∀ d ∈ tables_1, d.before a0 Z = true) (ws : List Jvm.Cond) (r arr : Addr) (ka : ClassId) (x0 : Int32) (cs : Int32) (h0 : Heap) (n0 : Nat) (Z0 : n0 ≤ h0.size) (O0 : Old Z n0 h0) (E_r : Exa Z h0 r "java/lang/String") (F_v : Fld Z h0 r "java/lang/String" "value" "[B" (.ref arr)) (F_c : Fld Z h0 r "java/lang/String" "coder" "B" (.int (0 : Int32))) (V_a : Arv Z h0 arr ka .byte (1 : Int32) [(.int x0)] (.int (0 : Int32)))  (hcs : ¬ cs = (0 : Int32)) (S_cs : Sta Z Z.heap "java/lang/String" "COMPACT_STRINGS" "Z" (.int cs)) :
    MetFree l (⟨"java/lang/String", "isLatin1", "()Z"⟩ : MethodName) (head1 (Jvm.Cond.code (⟨"java/lang/String", "isLatin1", "()Z"⟩ : MethodName) jdk_42_method_154_code 1 (some .boolean) :: ws) own_r14_0_1) (fun a_ U_ => a_ = #[(.ref r)] ∧ Z.Warmed39 U_.vm ∧ U_.heap = h0) (fun _ _ _ _ _ => True) (fun _ U_ o_ U'_ => ∃ v_ L_, o_ = .returned v_ ∧ own_Q14_0_1 Z r arr  ka  x0  cs  h0 n0 v_ U'_.heap L_ ∧ FrameEnd U_ o_ U'_ L_ own_r14_0_1.cells own_r14_0_1.slots) := by
  refine MetFree.of_bodySF (plainFor_of_name own_pn1) hisR ?_
  intro p e s m args below meth c s₁ Bd hml0 hP hK
  obtain ⟨rfl, hZ, hh⟩ := hP
  have hx := Bd.exec
  have hby := Bd.bytes
  have hml : c.maxLocals = 1 := hml0
  have hown : s.vm.findClass "java/lang/String" = some m.cls := findClass_of_methodNamed Bd.named
  have hnm := (name_of_methodNamed Bd.named Bd.method).1
  have X0 : Stand p l e own_r14_0_1 s m #[(.ref r)] below meth c s₁ [] 0 0 := Stand.of_body Bd
  have e0 : s₁.heap = h0 := by rw [← hh, Bd.state]; rfl
  have N0 := Fr.nil n0
  refine own_in (own_ef14_0_1 m r) ?_
  show own_Go p e below (own_K s (own_Q14_0_1 Z r arr  ka  x0  cs  h0 n0) own_r14_0_1.cells own_r14_0_1.slots) s₁ (mkF m 0 #[.val (.ref r)] [])
  have f1 := S_cs.ext O0.2
  obtain ⟨T2, X2, e2, st2⟩ := getS2 X0 hx hZ hown (host := "") (Or.inl (hw _ (List.mem_of_getElem? (i := 19) rfl))) Via.refl e0 f1 (g := (mkF m 0 #[.val (.ref r)] [])) rfl (hb hby own_d14_0)
  refine own_st (T' := T2) (g' := (mkF m 3 #[.val (.ref r)] [(.int cs)])) st2 ?_
  refine own_st (T' := T2) (g' := (mkF m 7 #[.val (.ref r)] [(.ref r)])) (fun t k => ?_) ?_
  · show Steps p.tables e below (T2.setTop (mkF m 3 #[.val (.ref r)] [(.int cs)])) t
    refine XS.ifNo X2.here hx rfl (hb hby own_d14_3) rfl ((if0 _ _).trans (feq hcs).1) ?_
    refine XS.aloadN X2.here hx rfl (hb hby own_d14_6) rfl rfl ?_
    exact k
  obtain ⟨T3, X3, e3, st3⟩ := getF X2 hx hZ hown (host := "") (Or.inl (hw _ (List.mem_of_getElem? (i := 31) rfl))) Via.refl e2 F_c (g := (mkF m 7 #[.val (.ref r)] [(.ref r)])) rfl rfl (hb hby own_d14_7)
  refine own_st (T' := T3) (g' := (mkF m 10 #[.val (.ref r)] [(.int (0 : Int32))])) st3 ?_
  refine own_st (T' := T3) (g' := (mkF m 18 #[.val (.ref r)] [(.int (1 : Int32))])) (fun t k => ?_) ?_
  · show Steps p.tables e below (T3.setTop (mkF m 10 #[.val (.ref r)] [(.int (0 : Int32))])) t
    refine XS.ifNo X3.here hx rfl (hb hby own_d14_10) rfl ((if0 _ _).trans (teq (rfl : (0 : Int32) = (0 : Int32))).2) ?_
    refine XS.iconst X3.here hx rfl (hb hby own_d14_13) ?_
    refine XS.goto X3.here hx rfl (pc0 := 14) (pc' := 18) rfl (hb hby own_d14_14) (by decide) (by decide) ?_
    exact k
  exact own_retN X3 hx Bd (t := .boolean) (by simp) rfl (hb hby own_d14_18) e3 (⟨rfl, N0, rfl⟩) (by decide) (by decide)
def own_r14_0_2 : Room := { frames := 0, cells := 0, slots := 0, locals := 0 }
theorem own_ef14_0_2 (m : MethodId) (x0 : Addr) : entryFrame m #[(.ref x0)] 1 = mkF m 0 #[.val (.ref x0)] [] := by first | (simp [entryFrame, mkF, argsToLocals, Value.category]; done) | rfl
def own_Q14_0_2 (Z : State) (r arr : Addr) (ka : ClassId) (x0 x1 : Int32) (cs : Int32) (h0 : Heap) (n0 : Nat) : Option Value → Heap → List Loc → Prop := fun v h L => v = some (.int (1 : Int32)) ∧ Fr n0 L ∧ h = h0
set_option maxRecDepth 65536 in
set_option maxHeartbeats 40000000 in
theorem own_rm14_0_2 (l : Launch) (Z : State) (a0 : Array Value) (hw : ∀ d ∈ tables_1, d.before a0 Z = true) (ws : List Jvm.Cond) (r arr : Addr) (ka : ClassId) (x0 x1 : Int32) (cs : Int32) (h0 : Heap) (n0 : Nat) (Z0 : n0 ≤ h0.size) (O0 : Old Z n0 h0) (E_r : Exa Z h0 r "java/lang/String") (F_v : Fld Z h0 r "java/lang/String" "value" "[B" (.ref arr)) (F_c : Fld Z h0 r "java/lang/String" "coder" "B" (.int (0 : Int32))) (V_a : Arv Z h0 arr ka .byte (2 : Int32) [(.int x0), (.int x1)] (.int (0 : Int32)))  (hcs : ¬ cs = (0 : Int32)) (S_cs : Sta Z Z.heap "java/lang/String" "COMPACT_STRINGS" "Z" (.int cs)) :
    MetFree l (⟨"java/lang/String", "isLatin1", "()Z"⟩ : MethodName) (head1 (Jvm.Cond.code (⟨"java/lang/String", "isLatin1", "()Z"⟩ : MethodName) jdk_42_method_154_code 1 (some .boolean) :: ws) own_r14_0_2) (fun a_ U_ => a_ = #[(.ref r)] ∧ Z.Warmed39 U_.vm ∧ U_.heap = h0) (fun _ _ _ _ _ => True) (fun _ U_ o_ U'_ => ∃ v_ L_, o_ = .returned v_ ∧ own_Q14_0_2 Z r arr  ka  x0 x1  cs  h0 n0 v_ U'_.heap L_ ∧ FrameEnd U_ o_ U'_ L_ own_r14_0_2.cells own_r14_0_2.slots) := by
  refine MetFree.of_bodySF (plainFor_of_name own_pn1) hisR ?_
  intro p e s m args below meth c s₁ Bd hml0 hP hK
  obtain ⟨rfl, hZ, hh⟩ := hP
  have hx := Bd.exec
  have hby := Bd.bytes
  have hml : c.maxLocals = 1 := hml0
  have hown : s.vm.findClass "java/lang/String" = some m.cls := findClass_of_methodNamed Bd.named
  have hnm := (name_of_methodNamed Bd.named Bd.method).1
  have X0 : Stand p l e own_r14_0_2 s m #[(.ref r)] below meth c s₁ [] 0 0 := Stand.of_body Bd
  have e0 : s₁.heap = h0 := by rw [← hh, Bd.state]; rfl
  have N0 := Fr.nil n0
  refine own_in (own_ef14_0_2 m r) ?_
  show own_Go p e below (own_K s (own_Q14_0_2 Z r arr  ka  x0 x1  cs  h0 n0) own_r14_0_2.cells own_r14_0_2.slots) s₁ (mkF m 0 #[.val (.ref r)] [])
  have f1 := S_cs.ext O0.2
  obtain ⟨T2, X2, e2, st2⟩ := getS2 X0 hx hZ hown (host := "") (Or.inl (hw _ (List.mem_of_getElem? (i := 19) rfl))) Via.refl e0 f1 (g := (mkF m 0 #[.val (.ref r)] [])) rfl (hb hby own_d14_0)
  refine own_st (T' := T2) (g' := (mkF m 3 #[.val (.ref r)] [(.int cs)])) st2 ?_
  refine own_st (T' := T2) (g' := (mkF m 7 #[.val (.ref r)] [(.ref r)])) (fun t k => ?_) ?_
  · show Steps p.tables e below (T2.setTop (mkF m 3 #[.val (.ref r)] [(.int cs)])) t
    refine XS.ifNo X2.here hx rfl (hb hby own_d14_3) rfl ((if0 _ _).trans (feq hcs).1) ?_
    refine XS.aloadN X2.here hx rfl (hb hby own_d14_6) rfl rfl ?_
    exact k
  obtain ⟨T3, X3, e3, st3⟩ := getF X2 hx hZ hown (host := "") (Or.inl (hw _ (List.mem_of_getElem? (i := 31) rfl))) Via.refl e2 F_c (g := (mkF m 7 #[.val (.ref r)] [(.ref r)])) rfl rfl (hb hby own_d14_7)
  refine own_st (T' := T3) (g' := (mkF m 10 #[.val (.ref r)] [(.int (0 : Int32))])) st3 ?_
  refine own_st (T' := T3) (g' := (mkF m 18 #[.val (.ref r)] [(.int (1 : Int32))])) (fun t k => ?_) ?_
  · show Steps p.tables e below (T3.setTop (mkF m 10 #[.val (.ref r)] [(.int (0 : Int32))])) t
    refine XS.ifNo X3.here hx rfl (hb hby own_d14_10) rfl ((if0 _ _).trans (teq (rfl : (0 : Int32) = (0 : Int32))).2) ?_
    refine XS.iconst X3.here hx rfl (hb hby own_d14_13) ?_
    refine XS.goto X3.here hx rfl (pc0 := 14) (pc' := 18) rfl (hb hby own_d14_14) (by decide) (by decide) ?_
    exact k
  exact own_retN X3 hx Bd (t := .boolean) (by simp) rfl (hb hby own_d14_18) e3 (⟨rfl, N0, rfl⟩) (by decide) (by decide)
def own_r14_0_3 : Room := { frames := 0, cells := 0, slots := 0, locals := 0 }
theorem own_ef14_0_3 (m : MethodId) (x0 : Addr) : entryFrame m #[(.ref x0)] 1 = mkF m 0 #[.val (.ref x0)] [] := by first | (simp [entryFrame, mkF, argsToLocals, Value.category]; done) | rfl
def own_Q14_0_3 (Z : State) (r arr : Addr) (ka : ClassId) (x0 x1 x2 : Int32) (cs : Int32) (h0 : Heap) (n0 : Nat) : Option Value → Heap → List Loc → Prop := fun v h L => v = some (.int (1 : Int32)) ∧ Fr n0 L ∧ h = h0
set_option maxRecDepth 65536 in
set_option maxHeartbeats 40000000 in
theorem own_rm14_0_3 (l : Launch) (Z : State) (a0 : Array Value) (hw : ∀ d ∈ tables_1, d.before a0 Z = true) (ws : List Jvm.Cond) (r arr : Addr) (ka : ClassId) (x0 x1 x2 : Int32) (cs : Int32) (h0 : Heap) (n0 : Nat) (Z0 : n0 ≤ h0.size) (O0 : Old Z n0 h0) (E_r : Exa Z h0 r "java/lang/String") (F_v : Fld Z h0 r "java/lang/String" "value" "[B" (.ref arr)) (F_c : Fld Z h0 r "java/lang/String" "coder" "B" (.int (0 : Int32))) (V_a : Arv Z h0 arr ka .byte (3 : Int32) [(.int x0), (.int x1), (.int x2)] (.int (0 : Int32)))  (hcs : ¬ cs = (0 : Int32)) (S_cs : Sta Z Z.heap "java/lang/String" "COMPACT_STRINGS" "Z" (.int cs)) :
    MetFree l (⟨"java/lang/String", "isLatin1", "()Z"⟩ : MethodName) (head1 (Jvm.Cond.code (⟨"java/lang/String", "isLatin1", "()Z"⟩ : MethodName) jdk_42_method_154_code 1 (some .boolean) :: ws) own_r14_0_3) (fun a_ U_ => a_ = #[(.ref r)] ∧ Z.Warmed39 U_.vm ∧ U_.heap = h0) (fun _ _ _ _ _ => True) (fun _ U_ o_ U'_ => ∃ v_ L_, o_ = .returned v_ ∧ own_Q14_0_3 Z r arr  ka  x0 x1 x2  cs  h0 n0 v_ U'_.heap L_ ∧ FrameEnd U_ o_ U'_ L_ own_r14_0_3.cells own_r14_0_3.slots) := by
  refine MetFree.of_bodySF (plainFor_of_name own_pn1) hisR ?_
  intro p e s m args below meth c s₁ Bd hml0 hP hK
  obtain ⟨rfl, hZ, hh⟩ := hP
  have hx := Bd.exec
  have hby := Bd.bytes
  have hml : c.maxLocals = 1 := hml0
  have hown : s.vm.findClass "java/lang/String" = some m.cls := findClass_of_methodNamed Bd.named
  have hnm := (name_of_methodNamed Bd.named Bd.method).1
  have X0 : Stand p l e own_r14_0_3 s m #[(.ref r)] below meth c s₁ [] 0 0 := Stand.of_body Bd
  have e0 : s₁.heap = h0 := by rw [← hh, Bd.state]; rfl
  have N0 := Fr.nil n0
  refine own_in (own_ef14_0_3 m r) ?_
  show own_Go p e below (own_K s (own_Q14_0_3 Z r arr  ka  x0 x1 x2  cs  h0 n0) own_r14_0_3.cells own_r14_0_3.slots) s₁ (mkF m 0 #[.val (.ref r)] [])
  have f1 := S_cs.ext O0.2
  obtain ⟨T2, X2, e2, st2⟩ := getS2 X0 hx hZ hown (host := "") (Or.inl (hw _ (List.mem_of_getElem? (i := 19) rfl))) Via.refl e0 f1 (g := (mkF m 0 #[.val (.ref r)] [])) rfl (hb hby own_d14_0)
  refine own_st (T' := T2) (g' := (mkF m 3 #[.val (.ref r)] [(.int cs)])) st2 ?_
  refine own_st (T' := T2) (g' := (mkF m 7 #[.val (.ref r)] [(.ref r)])) (fun t k => ?_) ?_
  · show Steps p.tables e below (T2.setTop (mkF m 3 #[.val (.ref r)] [(.int cs)])) t
    refine XS.ifNo X2.here hx rfl (hb hby own_d14_3) rfl ((if0 _ _).trans (feq hcs).1) ?_
    refine XS.aloadN X2.here hx rfl (hb hby own_d14_6) rfl rfl ?_
    exact k
  obtain ⟨T3, X3, e3, st3⟩ := getF X2 hx hZ hown (host := "") (Or.inl (hw _ (List.mem_of_getElem? (i := 31) rfl))) Via.refl e2 F_c (g := (mkF m 7 #[.val (.ref r)] [(.ref r)])) rfl rfl (hb hby own_d14_7)
  refine own_st (T' := T3) (g' := (mkF m 10 #[.val (.ref r)] [(.int (0 : Int32))])) st3 ?_
  refine own_st (T' := T3) (g' := (mkF m 18 #[.val (.ref r)] [(.int (1 : Int32))])) (fun t k => ?_) ?_
  · show Steps p.tables e below (T3.setTop (mkF m 10 #[.val (.ref r)] [(.int (0 : Int32))])) t
    refine XS.ifNo X3.here hx rfl (hb hby own_d14_10) rfl ((if0 _ _).trans (teq (rfl : (0 : Int32) = (0 : Int32))).2) ?_
    refine XS.iconst X3.here hx rfl (hb hby own_d14_13) ?_
    refine XS.goto X3.here hx rfl (pc0 := 14) (pc' := 18) rfl (hb hby own_d14_14) (by decide) (by decide) ?_
    exact k
  exact own_retN X3 hx Bd (t := .boolean) (by simp) rfl (hb hby own_d14_18) e3 (⟨rfl, N0, rfl⟩) (by decide) (by decide)
def own_r16_0_1 : Room := { frames := 0, cells := 0, slots := 0, locals := 0 }
theorem own_ef16_0_1 (m : MethodId) (x0 : Addr) : entryFrame m #[(.ref x0)] 1 = mkF m 0 #[.val (.ref x0)] [] := by first | (simp [entryFrame, mkF, argsToLocals, Value.category]; done) | rfl
def own_Q16_0_1 (Z : State) (r arr : Addr) (ka : ClassId) (x0 : Int32) (cs : Int32) (h0 : Heap) (n0 : Nat) : Option Value → Heap → List Loc → Prop := fun v h L => v = some (.int (0 : Int32)) ∧ Fr n0 L ∧ h = h0
set_option maxRecDepth 65536 in
set_option maxHeartbeats 40000000 in
theorem own_rm16_0_1 (l : Launch) (Z : State) (a0 : Array Value) (hw : ∀ d ∈ tables_1, d.before a0 Z = true) (ws : List Jvm.Cond) (r arr : Addr) (ka : ClassId) (x0 : Int32) (cs : Int32) (h0 : Heap) (n0 : Nat) (Z0 : n0 ≤ h0.size) (O0 : Old Z n0 h0) (E_r : Exa Z h0 r "java/lang/String") (F_v : Fld Z h0 r "java/lang/String" "value" "[B" (.ref arr)) (F_c : Fld Z h0 r "java/lang/String" "coder" "B" (.int (0 : Int32))) (V_a : Arv Z h0 arr ka .byte (1 : Int32) [(.int x0)] (.int (0 : Int32)))  (hcs : ¬ cs = (0 : Int32)) (S_cs : Sta Z Z.heap "java/lang/String" "COMPACT_STRINGS" "Z" (.int cs)) :
    MetFree l (⟨"java/lang/String", "coder", "()B"⟩ : MethodName) (head1 (Jvm.Cond.code (⟨"java/lang/String", "coder", "()B"⟩ : MethodName) jdk_42_method_152_code 1 (some .byte) :: ws) own_r16_0_1) (fun a_ U_ => a_ = #[(.ref r)] ∧ Z.Warmed39 U_.vm ∧ U_.heap = h0) (fun _ _ _ _ _ => True) (fun _ U_ o_ U'_ => ∃ v_ L_, o_ = .returned v_ ∧ own_Q16_0_1 Z r arr  ka  x0  cs  h0 n0 v_ U'_.heap L_ ∧ FrameEnd U_ o_ U'_ L_ own_r16_0_1.cells own_r16_0_1.slots) := by
  refine MetFree.of_bodySF (plainFor_of_name own_pn1) hisR ?_
  intro p e s m args below meth c s₁ Bd hml0 hP hK
  obtain ⟨rfl, hZ, hh⟩ := hP
  have hx := Bd.exec
  have hby := Bd.bytes
  have hml : c.maxLocals = 1 := hml0
  have hown : s.vm.findClass "java/lang/String" = some m.cls := findClass_of_methodNamed Bd.named
  have hnm := (name_of_methodNamed Bd.named Bd.method).1
  have X0 : Stand p l e own_r16_0_1 s m #[(.ref r)] below meth c s₁ [] 0 0 := Stand.of_body Bd
  have e0 : s₁.heap = h0 := by rw [← hh, Bd.state]; rfl
  have N0 := Fr.nil n0
  refine own_in (own_ef16_0_1 m r) ?_
  show own_Go p e below (own_K s (own_Q16_0_1 Z r arr  ka  x0  cs  h0 n0) own_r16_0_1.cells own_r16_0_1.slots) s₁ (mkF m 0 #[.val (.ref r)] [])
  have f1 := S_cs.ext O0.2
  obtain ⟨T2, X2, e2, st2⟩ := getS2 X0 hx hZ hown (host := "") (Or.inl (hw _ (List.mem_of_getElem? (i := 19) rfl))) Via.refl e0 f1 (g := (mkF m 0 #[.val (.ref r)] [])) rfl (hb hby own_d16_0)
  refine own_st (T' := T2) (g' := (mkF m 3 #[.val (.ref r)] [(.int cs)])) st2 ?_
  refine own_st (T' := T2) (g' := (mkF m 7 #[.val (.ref r)] [(.ref r)])) (fun t k => ?_) ?_
  · show Steps p.tables e below (T2.setTop (mkF m 3 #[.val (.ref r)] [(.int cs)])) t
    refine XS.ifNo X2.here hx rfl (hb hby own_d16_3) rfl ((if0 _ _).trans (feq hcs).1) ?_
    refine XS.aloadN X2.here hx rfl (hb hby own_d16_6) rfl rfl ?_
    exact k
  obtain ⟨T3, X3, e3, st3⟩ := getF X2 hx hZ hown (host := "") (Or.inl (hw _ (List.mem_of_getElem? (i := 31) rfl))) Via.refl e2 F_c (g := (mkF m 7 #[.val (.ref r)] [(.ref r)])) rfl rfl (hb hby own_d16_7)
  refine own_st (T' := T3) (g' := (mkF m 10 #[.val (.ref r)] [(.int (0 : Int32))])) st3 ?_
  refine own_st (T' := T3) (g' := (mkF m 14 #[.val (.ref r)] [(.int (0 : Int32))])) (fun t k => ?_) ?_
  · show Steps p.tables e below (T3.setTop (mkF m 10 #[.val (.ref r)] [(.int (0 : Int32))])) t
    refine XS.goto X3.here hx rfl (pc0 := 10) (pc' := 14) rfl (hb hby own_d16_10) (by decide) (by decide) ?_
    exact k
  exact own_retN X3 hx Bd (t := .byte) (by simp) rfl (hb hby own_d16_14) e3 (⟨rfl, N0, rfl⟩) (by decide) (by decide)
def own_r16_0_2 : Room := { frames := 0, cells := 0, slots := 0, locals := 0 }
theorem own_ef16_0_2 (m : MethodId) (x0 : Addr) : entryFrame m #[(.ref x0)] 1 = mkF m 0 #[.val (.ref x0)] [] := by first | (simp [entryFrame, mkF, argsToLocals, Value.category]; done) | rfl
def own_Q16_0_2 (Z : State) (r arr : Addr) (ka : ClassId) (x0 x1 : Int32) (cs : Int32) (h0 : Heap) (n0 : Nat) : Option Value → Heap → List Loc → Prop := fun v h L => v = some (.int (0 : Int32)) ∧ Fr n0 L ∧ h = h0
set_option maxRecDepth 65536 in
set_option maxHeartbeats 40000000 in
theorem own_rm16_0_2 (l : Launch) (Z : State) (a0 : Array Value) (hw : ∀ d ∈ tables_1, d.before a0 Z = true) (ws : List Jvm.Cond) (r arr : Addr) (ka : ClassId) (x0 x1 : Int32) (cs : Int32) (h0 : Heap) (n0 : Nat) (Z0 : n0 ≤ h0.size) (O0 : Old Z n0 h0) (E_r : Exa Z h0 r "java/lang/String") (F_v : Fld Z h0 r "java/lang/String" "value" "[B" (.ref arr)) (F_c : Fld Z h0 r "java/lang/String" "coder" "B" (.int (0 : Int32))) (V_a : Arv Z h0 arr ka .byte (2 : Int32) [(.int x0), (.int x1)] (.int (0 : Int32)))  (hcs : ¬ cs = (0 : Int32)) (S_cs : Sta Z Z.heap "java/lang/String" "COMPACT_STRINGS" "Z" (.int cs)) :
    MetFree l (⟨"java/lang/String", "coder", "()B"⟩ : MethodName) (head1 (Jvm.Cond.code (⟨"java/lang/String", "coder", "()B"⟩ : MethodName) jdk_42_method_152_code 1 (some .byte) :: ws) own_r16_0_2) (fun a_ U_ => a_ = #[(.ref r)] ∧ Z.Warmed39 U_.vm ∧ U_.heap = h0) (fun _ _ _ _ _ => True) (fun _ U_ o_ U'_ => ∃ v_ L_, o_ = .returned v_ ∧ own_Q16_0_2 Z r arr  ka  x0 x1  cs  h0 n0 v_ U'_.heap L_ ∧ FrameEnd U_ o_ U'_ L_ own_r16_0_2.cells own_r16_0_2.slots) := by
  refine MetFree.of_bodySF (plainFor_of_name own_pn1) hisR ?_
  intro p e s m args below meth c s₁ Bd hml0 hP hK
  obtain ⟨rfl, hZ, hh⟩ := hP
  have hx := Bd.exec
  have hby := Bd.bytes
  have hml : c.maxLocals = 1 := hml0
  have hown : s.vm.findClass "java/lang/String" = some m.cls := findClass_of_methodNamed Bd.named
  have hnm := (name_of_methodNamed Bd.named Bd.method).1
  have X0 : Stand p l e own_r16_0_2 s m #[(.ref r)] below meth c s₁ [] 0 0 := Stand.of_body Bd
  have e0 : s₁.heap = h0 := by rw [← hh, Bd.state]; rfl
  have N0 := Fr.nil n0
  refine own_in (own_ef16_0_2 m r) ?_
  show own_Go p e below (own_K s (own_Q16_0_2 Z r arr  ka  x0 x1  cs  h0 n0) own_r16_0_2.cells own_r16_0_2.slots) s₁ (mkF m 0 #[.val (.ref r)] [])
  have f1 := S_cs.ext O0.2
  obtain ⟨T2, X2, e2, st2⟩ := getS2 X0 hx hZ hown (host := "") (Or.inl (hw _ (List.mem_of_getElem? (i := 19) rfl))) Via.refl e0 f1 (g := (mkF m 0 #[.val (.ref r)] [])) rfl (hb hby own_d16_0)
  refine own_st (T' := T2) (g' := (mkF m 3 #[.val (.ref r)] [(.int cs)])) st2 ?_
  refine own_st (T' := T2) (g' := (mkF m 7 #[.val (.ref r)] [(.ref r)])) (fun t k => ?_) ?_
  · show Steps p.tables e below (T2.setTop (mkF m 3 #[.val (.ref r)] [(.int cs)])) t
    refine XS.ifNo X2.here hx rfl (hb hby own_d16_3) rfl ((if0 _ _).trans (feq hcs).1) ?_
    refine XS.aloadN X2.here hx rfl (hb hby own_d16_6) rfl rfl ?_
    exact k
  obtain ⟨T3, X3, e3, st3⟩ := getF X2 hx hZ hown (host := "") (Or.inl (hw _ (List.mem_of_getElem? (i := 31) rfl))) Via.refl e2 F_c (g := (mkF m 7 #[.val (.ref r)] [(.ref r)])) rfl rfl (hb hby own_d16_7)
  refine own_st (T' := T3) (g' := (mkF m 10 #[.val (.ref r)] [(.int (0 : Int32))])) st3 ?_
  refine own_st (T' := T3) (g' := (mkF m 14 #[.val (.ref r)] [(.int (0 : Int32))])) (fun t k => ?_) ?_
  · show Steps p.tables e below (T3.setTop (mkF m 10 #[.val (.ref r)] [(.int (0 : Int32))])) t
    refine XS.goto X3.here hx rfl (pc0 := 10) (pc' := 14) rfl (hb hby own_d16_10) (by decide) (by decide) ?_
    exact k
  exact own_retN X3 hx Bd (t := .byte) (by simp) rfl (hb hby own_d16_14) e3 (⟨rfl, N0, rfl⟩) (by decide) (by decide)
def own_r16_0_3 : Room := { frames := 0, cells := 0, slots := 0, locals := 0 }
theorem own_ef16_0_3 (m : MethodId) (x0 : Addr) : entryFrame m #[(.ref x0)] 1 = mkF m 0 #[.val (.ref x0)] [] := by first | (simp [entryFrame, mkF, argsToLocals, Value.category]; done) | rfl
def own_Q16_0_3 (Z : State) (r arr : Addr) (ka : ClassId) (x0 x1 x2 : Int32) (cs : Int32) (h0 : Heap) (n0 : Nat) : Option Value → Heap → List Loc → Prop := fun v h L => v = some (.int (0 : Int32)) ∧ Fr n0 L ∧ h = h0
set_option maxRecDepth 65536 in
set_option maxHeartbeats 40000000 in
theorem own_rm16_0_3 (l : Launch) (Z : State) (a0 : Array Value) (hw : ∀ d ∈ tables_1, d.before a0 Z = true) (ws : List Jvm.Cond) (r arr : Addr) (ka : ClassId) (x0 x1 x2 : Int32) (cs : Int32) (h0 : Heap) (n0 : Nat) (Z0 : n0 ≤ h0.size) (O0 : Old Z n0 h0) (E_r : Exa Z h0 r "java/lang/String") (F_v : Fld Z h0 r "java/lang/String" "value" "[B" (.ref arr)) (F_c : Fld Z h0 r "java/lang/String" "coder" "B" (.int (0 : Int32))) (V_a : Arv Z h0 arr ka .byte (3 : Int32) [(.int x0), (.int x1), (.int x2)] (.int (0 : Int32)))  (hcs : ¬ cs = (0 : Int32)) (S_cs : Sta Z Z.heap "java/lang/String" "COMPACT_STRINGS" "Z" (.int cs)) :
    MetFree l (⟨"java/lang/String", "coder", "()B"⟩ : MethodName) (head1 (Jvm.Cond.code (⟨"java/lang/String", "coder", "()B"⟩ : MethodName) jdk_42_method_152_code 1 (some .byte) :: ws) own_r16_0_3) (fun a_ U_ => a_ = #[(.ref r)] ∧ Z.Warmed39 U_.vm ∧ U_.heap = h0) (fun _ _ _ _ _ => True) (fun _ U_ o_ U'_ => ∃ v_ L_, o_ = .returned v_ ∧ own_Q16_0_3 Z r arr  ka  x0 x1 x2  cs  h0 n0 v_ U'_.heap L_ ∧ FrameEnd U_ o_ U'_ L_ own_r16_0_3.cells own_r16_0_3.slots) := by
  refine MetFree.of_bodySF (plainFor_of_name own_pn1) hisR ?_
  intro p e s m args below meth c s₁ Bd hml0 hP hK
  obtain ⟨rfl, hZ, hh⟩ := hP
  have hx := Bd.exec
  have hby := Bd.bytes
  have hml : c.maxLocals = 1 := hml0
  have hown : s.vm.findClass "java/lang/String" = some m.cls := findClass_of_methodNamed Bd.named
  have hnm := (name_of_methodNamed Bd.named Bd.method).1
  have X0 : Stand p l e own_r16_0_3 s m #[(.ref r)] below meth c s₁ [] 0 0 := Stand.of_body Bd
  have e0 : s₁.heap = h0 := by rw [← hh, Bd.state]; rfl
  have N0 := Fr.nil n0
  refine own_in (own_ef16_0_3 m r) ?_
  show own_Go p e below (own_K s (own_Q16_0_3 Z r arr  ka  x0 x1 x2  cs  h0 n0) own_r16_0_3.cells own_r16_0_3.slots) s₁ (mkF m 0 #[.val (.ref r)] [])
  have f1 := S_cs.ext O0.2
  obtain ⟨T2, X2, e2, st2⟩ := getS2 X0 hx hZ hown (host := "") (Or.inl (hw _ (List.mem_of_getElem? (i := 19) rfl))) Via.refl e0 f1 (g := (mkF m 0 #[.val (.ref r)] [])) rfl (hb hby own_d16_0)
  refine own_st (T' := T2) (g' := (mkF m 3 #[.val (.ref r)] [(.int cs)])) st2 ?_
  refine own_st (T' := T2) (g' := (mkF m 7 #[.val (.ref r)] [(.ref r)])) (fun t k => ?_) ?_
  · show Steps p.tables e below (T2.setTop (mkF m 3 #[.val (.ref r)] [(.int cs)])) t
    refine XS.ifNo X2.here hx rfl (hb hby own_d16_3) rfl ((if0 _ _).trans (feq hcs).1) ?_
    refine XS.aloadN X2.here hx rfl (hb hby own_d16_6) rfl rfl ?_
    exact k
  obtain ⟨T3, X3, e3, st3⟩ := getF X2 hx hZ hown (host := "") (Or.inl (hw _ (List.mem_of_getElem? (i := 31) rfl))) Via.refl e2 F_c (g := (mkF m 7 #[.val (.ref r)] [(.ref r)])) rfl rfl (hb hby own_d16_7)
  refine own_st (T' := T3) (g' := (mkF m 10 #[.val (.ref r)] [(.int (0 : Int32))])) st3 ?_
  refine own_st (T' := T3) (g' := (mkF m 14 #[.val (.ref r)] [(.int (0 : Int32))])) (fun t k => ?_) ?_
  · show Steps p.tables e below (T3.setTop (mkF m 10 #[.val (.ref r)] [(.int (0 : Int32))])) t
    refine XS.goto X3.here hx rfl (pc0 := 10) (pc' := 14) rfl (hb hby own_d16_10) (by decide) (by decide) ?_
    exact k
  exact own_retN X3 hx Bd (t := .byte) (by simp) rfl (hb hby own_d16_14) e3 (⟨rfl, N0, rfl⟩) (by decide) (by decide)
def own_r15_0_1 : Room := { frames := 1, cells := 0, slots := 0, locals := 13 }
theorem own_ef15_0_1 (m : MethodId) (x0 : Addr) : entryFrame m #[(.ref x0)] 1 = mkF m 0 #[.val (.ref x0)] [] := by first | (simp [entryFrame, mkF, argsToLocals, Value.category]; done) | rfl
def own_Q15_0_1 (Z : State) (r arr : Addr) (ka : ClassId) (x0 : Int32) (cs : Int32) (h0 : Heap) (n0 : Nat) : Option Value → Heap → List Loc → Prop := fun v h L => v = some (.int (1 : Int32)) ∧ Fr n0 L ∧ h = h0
set_option maxRecDepth 65536 in
set_option maxHeartbeats 40000000 in
theorem own_rm15_0_1 (l : Launch) (Z : State) (a0 : Array Value) (hw : ∀ d ∈ tables_1, d.before a0 Z = true) (ws : List Jvm.Cond) (r arr : Addr) (ka : ClassId) (x0 : Int32) (cs : Int32) (h0 : Heap) (n0 : Nat) (Z0 : n0 ≤ h0.size) (O0 : Old Z n0 h0) (E_r : Exa Z h0 r "java/lang/String") (F_v : Fld Z h0 r "java/lang/String" "value" "[B" (.ref arr)) (F_c : Fld Z h0 r "java/lang/String" "coder" "B" (.int (0 : Int32))) (V_a : Arv Z h0 arr ka .byte (1 : Int32) [(.int x0)] (.int (0 : Int32)))  (hcs : ¬ cs = (0 : Int32)) (S_cs : Sta Z Z.heap "java/lang/String" "COMPACT_STRINGS" "Z" (.int cs)) :
    MetFree l (⟨"java/lang/String", "length", "()I"⟩ : MethodName) (head1 (Jvm.Cond.code (⟨"java/lang/String", "length", "()I"⟩ : MethodName) jdk_42_method_54_code 1 (some .int) :: ws) own_r15_0_1) (fun a_ U_ => a_ = #[(.ref r)] ∧ Z.Warmed39 U_.vm ∧ U_.heap = h0) (fun _ _ _ _ _ => True) (fun _ U_ o_ U'_ => ∃ v_ L_, o_ = .returned v_ ∧ own_Q15_0_1 Z r arr  ka  x0  cs  h0 n0 v_ U'_.heap L_ ∧ FrameEnd U_ o_ U'_ L_ own_r15_0_1.cells own_r15_0_1.slots) := by
  refine MetFree.of_bodySF (plainFor_of_name own_pn1) hisR ?_
  intro p e s m args below meth c s₁ Bd hml0 hP hK
  obtain ⟨rfl, hZ, hh⟩ := hP
  have hx := Bd.exec
  have hby := Bd.bytes
  have hml : c.maxLocals = 1 := hml0
  have hown : s.vm.findClass "java/lang/String" = some m.cls := findClass_of_methodNamed Bd.named
  have hnm := (name_of_methodNamed Bd.named Bd.method).1
  have X0 : Stand p l e own_r15_0_1 s m #[(.ref r)] below meth c s₁ [] 0 0 := Stand.of_body Bd
  have e0 : s₁.heap = h0 := by rw [← hh, Bd.state]; rfl
  have N0 := Fr.nil n0
  refine own_in (own_ef15_0_1 m r) ?_
  show own_Go p e below (own_K s (own_Q15_0_1 Z r arr  ka  x0  cs  h0 n0) own_r15_0_1.cells own_r15_0_1.slots) s₁ (mkF m 0 #[.val (.ref r)] [])
  refine own_st (T' := s₁) (g' := (mkF m 1 #[.val (.ref r)] [(.ref r)])) (fun t k => ?_) ?_
  · show Steps p.tables e below (s₁.setTop (mkF m 0 #[.val (.ref r)] [])) t
    refine XS.aloadN X0.here hx rfl (hb hby own_d15_0) rfl rfl ?_
    exact k
  obtain ⟨T1, X1, e1, st1⟩ := getF X0 hx hZ hown (host := "") (Or.inl (hw _ (List.mem_of_getElem? (i := 33) rfl))) Via.refl e0 F_v (g := (mkF m 1 #[.val (.ref r)] [(.ref r)])) rfl rfl (hb hby own_d15_1)
  refine own_st (T' := T1) (g' := (mkF m 4 #[.val (.ref r)] [(.ref arr)])) st1 ?_
  obtain ⟨cl2, Ar2, q2, S2, M2, H2, G2⟩ := id V_a
  refine own_st (T' := T1) (g' := (mkF m 6 #[.val (.ref r)] [(.ref r), (.int (1 : Int32))])) (fun t k => ?_) ?_
  · show Steps p.tables e below (T1.setTop (mkF m 4 #[.val (.ref r)] [(.ref arr)])) t
    refine X1.arraylength hx (by rw [e1]; exact Ar2.1) (State.isArrayOf_alike hZ.alike Ar2.2.1) (g := (mkF m 4 #[.val (.ref r)] [(.ref arr)])) rfl rfl (hb hby own_d15_4) _ ?_
    rw [len_of S2 M2]
    show Steps p.tables e below (T1.setTop (mkF m 5 #[.val (.ref r)] [(.int (1 : Int32))])) t
    refine XS.aloadN X1.here hx rfl (hb hby own_d15_5) rfl rfl ?_
    exact k
  obtain ⟨cq3, kq3, q3a, q3b, q3c⟩ := isOf hZ e1 E_r
  obtain ⟨_, _, ⟨T3, L3, c3, n3⟩, -, X3, ⟨Lc3, hQ3, l3, y3, z3⟩, st3⟩ := X1.virtualBack hx (y := (⟨"java/lang/String", "coder", "()B"⟩ : MethodName)) (z := (⟨"java/lang/String", "coder", "()B"⟩ : MethodName)) hown (mvT hZ (hw _ (List.mem_of_getElem? (i := 74) rfl))) (mvT hZ (hw _ (List.mem_of_getElem? (i := 75) rfl))) (notFace_of_selects (args := #[]) (mvT hZ (hw _ (List.mem_of_getElem? (i := 77) rfl)))) (mvT hZ (hw _ (List.mem_of_getElem? (i := 77) rfl))) (mvT hZ (hw _ (List.mem_of_getElem? (i := 76) rfl))) (by decide) (backOf (W := 1) (own_rm16_0_1 l Z a0 hw [] r arr ka x0  cs h0 n0 Z0 O0 E_r F_v F_c V_a  hcs S_cs) hZ (hw _ (List.mem_of_getElem? (i := 78) rfl)) (hw _ (List.mem_of_getElem? (i := 8) rfl)) (by decide) (by decide)) q3a q3c (g := (mkF m 6 #[.val (.ref r)] [(.ref r), (.int (1 : Int32))])) rfl (by rw [hml]; rfl) (Steps.refl _) (argsL := []) (rest := [(.int (1 : Int32))]) (lenOf own_pd4 rfl) rfl (by show 2 * 0 + _ ≤ _; exact Nat.le_of_eq rfl) (hb hby own_d15_6) (fun _ _ => ⟨rfl, e1, (by decide : 0 + 0 ≤ _), (by decide : 0 + 0 ≤ _)⟩)
  dsimp only [Pt.U, Pt.locs, Pt.cells, Pt.slots] at X3 l3 y3 z3 st3 hQ3
  subst l3 y3 z3
  obtain ⟨rfl, N3q, e3⟩ := hQ3
  have N3 := Fr.app N0 N3q
  refine own_tr (T' := T3) (g' := (mkF m 9 #[.val (.ref r)] [(.int (0 : Int32)), (.int (1 : Int32))])) st3 ?_
  refine own_st (T' := T3) (g' := (mkF m 10 #[.val (.ref r)] [(.int (1 : Int32))])) (fun t k => ?_) ?_
  · show Steps p.tables e below (T3.setTop (mkF m 9 #[.val (.ref r)] [(.int (0 : Int32)), (.int (1 : Int32))])) t
    refine XS.ishr X3.here hx rfl (hb hby own_d15_9) rfl ?_
    exact k
  exact own_retI X3 hx Bd (hb hby own_d15_10) e3 (⟨rfl, N3, rfl⟩) (by decide) (by decide)
def own_r15_0_2 : Room := { frames := 1, cells := 0, slots := 0, locals := 13 }
theorem own_ef15_0_2 (m : MethodId) (x0 : Addr) : entryFrame m #[(.ref x0)] 1 = mkF m 0 #[.val (.ref x0)] [] := by first | (simp [entryFrame, mkF, argsToLocals, Value.category]; done) | rfl
def own_Q15_0_2 (Z : State) (r arr : Addr) (ka : ClassId) (x0 x1 : Int32) (cs : Int32) (h0 : Heap) (n0 : Nat) : Option Value → Heap → List Loc → Prop := fun v h L => v = some (.int (2 : Int32)) ∧ Fr n0 L ∧ h = h0
set_option maxRecDepth 65536 in
set_option maxHeartbeats 40000000 in
theorem own_rm15_0_2 (l : Launch) (Z : State) (a0 : Array Value) (hw : ∀ d ∈ tables_1, d.before a0 Z = true) (ws : List Jvm.Cond) (r arr : Addr) (ka : ClassId) (x0 x1 : Int32) (cs : Int32) (h0 : Heap) (n0 : Nat) (Z0 : n0 ≤ h0.size) (O0 : Old Z n0 h0) (E_r : Exa Z h0 r "java/lang/String") (F_v : Fld Z h0 r "java/lang/String" "value" "[B" (.ref arr)) (F_c : Fld Z h0 r "java/lang/String" "coder" "B" (.int (0 : Int32))) (V_a : Arv Z h0 arr ka .byte (2 : Int32) [(.int x0), (.int x1)] (.int (0 : Int32)))  (hcs : ¬ cs = (0 : Int32)) (S_cs : Sta Z Z.heap "java/lang/String" "COMPACT_STRINGS" "Z" (.int cs)) :
    MetFree l (⟨"java/lang/String", "length", "()I"⟩ : MethodName) (head1 (Jvm.Cond.code (⟨"java/lang/String", "length", "()I"⟩ : MethodName) jdk_42_method_54_code 1 (some .int) :: ws) own_r15_0_2) (fun a_ U_ => a_ = #[(.ref r)] ∧ Z.Warmed39 U_.vm ∧ U_.heap = h0) (fun _ _ _ _ _ => True) (fun _ U_ o_ U'_ => ∃ v_ L_, o_ = .returned v_ ∧ own_Q15_0_2 Z r arr  ka  x0 x1  cs  h0 n0 v_ U'_.heap L_ ∧ FrameEnd U_ o_ U'_ L_ own_r15_0_2.cells own_r15_0_2.slots) := by
  refine MetFree.of_bodySF (plainFor_of_name own_pn1) hisR ?_
  intro p e s m args below meth c s₁ Bd hml0 hP hK
  obtain ⟨rfl, hZ, hh⟩ := hP
  have hx := Bd.exec
  have hby := Bd.bytes
  have hml : c.maxLocals = 1 := hml0
  have hown : s.vm.findClass "java/lang/String" = some m.cls := findClass_of_methodNamed Bd.named
  have hnm := (name_of_methodNamed Bd.named Bd.method).1
  have X0 : Stand p l e own_r15_0_2 s m #[(.ref r)] below meth c s₁ [] 0 0 := Stand.of_body Bd
  have e0 : s₁.heap = h0 := by rw [← hh, Bd.state]; rfl
  have N0 := Fr.nil n0
  refine own_in (own_ef15_0_2 m r) ?_
  show own_Go p e below (own_K s (own_Q15_0_2 Z r arr  ka  x0 x1  cs  h0 n0) own_r15_0_2.cells own_r15_0_2.slots) s₁ (mkF m 0 #[.val (.ref r)] [])
  refine own_st (T' := s₁) (g' := (mkF m 1 #[.val (.ref r)] [(.ref r)])) (fun t k => ?_) ?_
  · show Steps p.tables e below (s₁.setTop (mkF m 0 #[.val (.ref r)] [])) t
    refine XS.aloadN X0.here hx rfl (hb hby own_d15_0) rfl rfl ?_
    exact k
  obtain ⟨T1, X1, e1, st1⟩ := getF X0 hx hZ hown (host := "") (Or.inl (hw _ (List.mem_of_getElem? (i := 33) rfl))) Via.refl e0 F_v (g := (mkF m 1 #[.val (.ref r)] [(.ref r)])) rfl rfl (hb hby own_d15_1)
  refine own_st (T' := T1) (g' := (mkF m 4 #[.val (.ref r)] [(.ref arr)])) st1 ?_
  obtain ⟨cl2, Ar2, q2, S2, M2, H2, G2⟩ := id V_a
  refine own_st (T' := T1) (g' := (mkF m 6 #[.val (.ref r)] [(.ref r), (.int (2 : Int32))])) (fun t k => ?_) ?_
  · show Steps p.tables e below (T1.setTop (mkF m 4 #[.val (.ref r)] [(.ref arr)])) t
    refine X1.arraylength hx (by rw [e1]; exact Ar2.1) (State.isArrayOf_alike hZ.alike Ar2.2.1) (g := (mkF m 4 #[.val (.ref r)] [(.ref arr)])) rfl rfl (hb hby own_d15_4) _ ?_
    rw [len_of S2 M2]
    show Steps p.tables e below (T1.setTop (mkF m 5 #[.val (.ref r)] [(.int (2 : Int32))])) t
    refine XS.aloadN X1.here hx rfl (hb hby own_d15_5) rfl rfl ?_
    exact k
  obtain ⟨cq3, kq3, q3a, q3b, q3c⟩ := isOf hZ e1 E_r
  obtain ⟨_, _, ⟨T3, L3, c3, n3⟩, -, X3, ⟨Lc3, hQ3, l3, y3, z3⟩, st3⟩ := X1.virtualBack hx (y := (⟨"java/lang/String", "coder", "()B"⟩ : MethodName)) (z := (⟨"java/lang/String", "coder", "()B"⟩ : MethodName)) hown (mvT hZ (hw _ (List.mem_of_getElem? (i := 74) rfl))) (mvT hZ (hw _ (List.mem_of_getElem? (i := 75) rfl))) (notFace_of_selects (args := #[]) (mvT hZ (hw _ (List.mem_of_getElem? (i := 77) rfl)))) (mvT hZ (hw _ (List.mem_of_getElem? (i := 77) rfl))) (mvT hZ (hw _ (List.mem_of_getElem? (i := 76) rfl))) (by decide) (backOf (W := 1) (own_rm16_0_2 l Z a0 hw [] r arr ka x0 x1  cs h0 n0 Z0 O0 E_r F_v F_c V_a  hcs S_cs) hZ (hw _ (List.mem_of_getElem? (i := 78) rfl)) (hw _ (List.mem_of_getElem? (i := 8) rfl)) (by decide) (by decide)) q3a q3c (g := (mkF m 6 #[.val (.ref r)] [(.ref r), (.int (2 : Int32))])) rfl (by rw [hml]; rfl) (Steps.refl _) (argsL := []) (rest := [(.int (2 : Int32))]) (lenOf own_pd4 rfl) rfl (by show 2 * 0 + _ ≤ _; exact Nat.le_of_eq rfl) (hb hby own_d15_6) (fun _ _ => ⟨rfl, e1, (by decide : 0 + 0 ≤ _), (by decide : 0 + 0 ≤ _)⟩)
  dsimp only [Pt.U, Pt.locs, Pt.cells, Pt.slots] at X3 l3 y3 z3 st3 hQ3
  subst l3 y3 z3
  obtain ⟨rfl, N3q, e3⟩ := hQ3
  have N3 := Fr.app N0 N3q
  refine own_tr (T' := T3) (g' := (mkF m 9 #[.val (.ref r)] [(.int (0 : Int32)), (.int (2 : Int32))])) st3 ?_
  refine own_st (T' := T3) (g' := (mkF m 10 #[.val (.ref r)] [(.int (2 : Int32))])) (fun t k => ?_) ?_
  · show Steps p.tables e below (T3.setTop (mkF m 9 #[.val (.ref r)] [(.int (0 : Int32)), (.int (2 : Int32))])) t
    refine XS.ishr X3.here hx rfl (hb hby own_d15_9) rfl ?_
    exact k
  exact own_retI X3 hx Bd (hb hby own_d15_10) e3 (⟨rfl, N3, rfl⟩) (by decide) (by decide)
def own_r15_0_3 : Room := { frames := 1, cells := 0, slots := 0, locals := 13 }
theorem own_ef15_0_3 (m : MethodId) (x0 : Addr) : entryFrame m #[(.ref x0)] 1 = mkF m 0 #[.val (.ref x0)] [] := by first | (simp [entryFrame, mkF, argsToLocals, Value.category]; done) | rfl
def own_Q15_0_3 (Z : State) (r arr : Addr) (ka : ClassId) (x0 x1 x2 : Int32) (cs : Int32) (h0 : Heap) (n0 : Nat) : Option Value → Heap → List Loc → Prop := fun v h L => v = some (.int (3 : Int32)) ∧ Fr n0 L ∧ h = h0
set_option maxRecDepth 65536 in
set_option maxHeartbeats 40000000 in
theorem own_rm15_0_3 (l : Launch) (Z : State) (a0 : Array Value) (hw : ∀ d ∈ tables_1, d.before a0 Z = true) (ws : List Jvm.Cond) (r arr : Addr) (ka : ClassId) (x0 x1 x2 : Int32) (cs : Int32) (h0 : Heap) (n0 : Nat) (Z0 : n0 ≤ h0.size) (O0 : Old Z n0 h0) (E_r : Exa Z h0 r "java/lang/String") (F_v : Fld Z h0 r "java/lang/String" "value" "[B" (.ref arr)) (F_c : Fld Z h0 r "java/lang/String" "coder" "B" (.int (0 : Int32))) (V_a : Arv Z h0 arr ka .byte (3 : Int32) [(.int x0), (.int x1), (.int x2)] (.int (0 : Int32)))  (hcs : ¬ cs = (0 : Int32)) (S_cs : Sta Z Z.heap "java/lang/String" "COMPACT_STRINGS" "Z" (.int cs)) :
    MetFree l (⟨"java/lang/String", "length", "()I"⟩ : MethodName) (head1 (Jvm.Cond.code (⟨"java/lang/String", "length", "()I"⟩ : MethodName) jdk_42_method_54_code 1 (some .int) :: ws) own_r15_0_3) (fun a_ U_ => a_ = #[(.ref r)] ∧ Z.Warmed39 U_.vm ∧ U_.heap = h0) (fun _ _ _ _ _ => True) (fun _ U_ o_ U'_ => ∃ v_ L_, o_ = .returned v_ ∧ own_Q15_0_3 Z r arr  ka  x0 x1 x2  cs  h0 n0 v_ U'_.heap L_ ∧ FrameEnd U_ o_ U'_ L_ own_r15_0_3.cells own_r15_0_3.slots) := by
  refine MetFree.of_bodySF (plainFor_of_name own_pn1) hisR ?_
  intro p e s m args below meth c s₁ Bd hml0 hP hK
  obtain ⟨rfl, hZ, hh⟩ := hP
  have hx := Bd.exec
  have hby := Bd.bytes
  have hml : c.maxLocals = 1 := hml0
  have hown : s.vm.findClass "java/lang/String" = some m.cls := findClass_of_methodNamed Bd.named
  have hnm := (name_of_methodNamed Bd.named Bd.method).1
  have X0 : Stand p l e own_r15_0_3 s m #[(.ref r)] below meth c s₁ [] 0 0 := Stand.of_body Bd
  have e0 : s₁.heap = h0 := by rw [← hh, Bd.state]; rfl
  have N0 := Fr.nil n0
  refine own_in (own_ef15_0_3 m r) ?_
  show own_Go p e below (own_K s (own_Q15_0_3 Z r arr  ka  x0 x1 x2  cs  h0 n0) own_r15_0_3.cells own_r15_0_3.slots) s₁ (mkF m 0 #[.val (.ref r)] [])
  refine own_st (T' := s₁) (g' := (mkF m 1 #[.val (.ref r)] [(.ref r)])) (fun t k => ?_) ?_
  · show Steps p.tables e below (s₁.setTop (mkF m 0 #[.val (.ref r)] [])) t
    refine XS.aloadN X0.here hx rfl (hb hby own_d15_0) rfl rfl ?_
    exact k
  obtain ⟨T1, X1, e1, st1⟩ := getF X0 hx hZ hown (host := "") (Or.inl (hw _ (List.mem_of_getElem? (i := 33) rfl))) Via.refl e0 F_v (g := (mkF m 1 #[.val (.ref r)] [(.ref r)])) rfl rfl (hb hby own_d15_1)
  refine own_st (T' := T1) (g' := (mkF m 4 #[.val (.ref r)] [(.ref arr)])) st1 ?_
  obtain ⟨cl2, Ar2, q2, S2, M2, H2, G2⟩ := id V_a
  refine own_st (T' := T1) (g' := (mkF m 6 #[.val (.ref r)] [(.ref r), (.int (3 : Int32))])) (fun t k => ?_) ?_
  · show Steps p.tables e below (T1.setTop (mkF m 4 #[.val (.ref r)] [(.ref arr)])) t
    refine X1.arraylength hx (by rw [e1]; exact Ar2.1) (State.isArrayOf_alike hZ.alike Ar2.2.1) (g := (mkF m 4 #[.val (.ref r)] [(.ref arr)])) rfl rfl (hb hby own_d15_4) _ ?_
    rw [len_of S2 M2]
    show Steps p.tables e below (T1.setTop (mkF m 5 #[.val (.ref r)] [(.int (3 : Int32))])) t
    refine XS.aloadN X1.here hx rfl (hb hby own_d15_5) rfl rfl ?_
    exact k
  obtain ⟨cq3, kq3, q3a, q3b, q3c⟩ := isOf hZ e1 E_r
  obtain ⟨_, _, ⟨T3, L3, c3, n3⟩, -, X3, ⟨Lc3, hQ3, l3, y3, z3⟩, st3⟩ := X1.virtualBack hx (y := (⟨"java/lang/String", "coder", "()B"⟩ : MethodName)) (z := (⟨"java/lang/String", "coder", "()B"⟩ : MethodName)) hown (mvT hZ (hw _ (List.mem_of_getElem? (i := 74) rfl))) (mvT hZ (hw _ (List.mem_of_getElem? (i := 75) rfl))) (notFace_of_selects (args := #[]) (mvT hZ (hw _ (List.mem_of_getElem? (i := 77) rfl)))) (mvT hZ (hw _ (List.mem_of_getElem? (i := 77) rfl))) (mvT hZ (hw _ (List.mem_of_getElem? (i := 76) rfl))) (by decide) (backOf (W := 1) (own_rm16_0_3 l Z a0 hw [] r arr ka x0 x1 x2  cs h0 n0 Z0 O0 E_r F_v F_c V_a  hcs S_cs) hZ (hw _ (List.mem_of_getElem? (i := 78) rfl)) (hw _ (List.mem_of_getElem? (i := 8) rfl)) (by decide) (by decide)) q3a q3c (g := (mkF m 6 #[.val (.ref r)] [(.ref r), (.int (3 : Int32))])) rfl (by rw [hml]; rfl) (Steps.refl _) (argsL := []) (rest := [(.int (3 : Int32))]) (lenOf own_pd4 rfl) rfl (by show 2 * 0 + _ ≤ _; exact Nat.le_of_eq rfl) (hb hby own_d15_6) (fun _ _ => ⟨rfl, e1, (by decide : 0 + 0 ≤ _), (by decide : 0 + 0 ≤ _)⟩)
  dsimp only [Pt.U, Pt.locs, Pt.cells, Pt.slots] at X3 l3 y3 z3 st3 hQ3
  subst l3 y3 z3
  obtain ⟨rfl, N3q, e3⟩ := hQ3
  have N3 := Fr.app N0 N3q
  refine own_tr (T' := T3) (g' := (mkF m 9 #[.val (.ref r)] [(.int (0 : Int32)), (.int (3 : Int32))])) st3 ?_
  refine own_st (T' := T3) (g' := (mkF m 10 #[.val (.ref r)] [(.int (3 : Int32))])) (fun t k => ?_) ?_
  · show Steps p.tables e below (T3.setTop (mkF m 9 #[.val (.ref r)] [(.int (0 : Int32)), (.int (3 : Int32))])) t
    refine XS.ishr X3.here hx rfl (hb hby own_d15_9) rfl ?_
    exact k
  exact own_retI X3 hx Bd (hb hby own_d15_10) e3 (⟨rfl, N3, rfl⟩) (by decide) (by decide)
def own_r19_0 : Room := { frames := 0, cells := 0, slots := 0, locals := 0 }
theorem own_ef19_0 (m : MethodId)  : entryFrame m #[(.int (0 : Int32)), (.int (0 : Int32))] 2 = mkF m 0 #[.val (.int (0 : Int32)), .val (.int (0 : Int32))] [] := by first | (simp [entryFrame, mkF, argsToLocals, Value.category]; done) | rfl
def own_Q19_0 (Z : State) (cs : Int32) (h0 : Heap) (n0 : Nat) : Option Value → Heap → List Loc → Prop := fun v h L => v = some (.int (0 : Int32)) ∧ Fr n0 L ∧ h = h0
set_option maxRecDepth 65536 in
set_option maxHeartbeats 40000000 in
theorem own_rm19_0 (l : Launch) (Z : State) (a0 : Array Value) (hw : ∀ d ∈ tables_1, d.before a0 Z = true) (ws : List Jvm.Cond) (cs : Int32) (h0 : Heap) (n0 : Nat) (Z0 : n0 ≤ h0.size) (O0 : Old Z n0 h0)  (hcs : ¬ cs = (0 : Int32)) (S_cs : Sta Z Z.heap "java/lang/String" "COMPACT_STRINGS" "Z" (.int cs)) :
    MetFree l (⟨"java/lang/Math", "max", "(II)I"⟩ : MethodName) (head1 (Jvm.Cond.code (⟨"java/lang/Math", "max", "(II)I"⟩ : MethodName) jdk_29_method_65_code 2 (some .int) :: ws) own_r19_0) (fun a_ U_ => a_ = #[(.int (0 : Int32)), (.int (0 : Int32))] ∧ Z.Warmed39 U_.vm ∧ U_.heap = h0) (fun _ _ _ _ _ => True) (fun _ U_ o_ U'_ => ∃ v_ L_, o_ = .returned v_ ∧ own_Q19_0 Z cs  h0 n0 v_ U'_.heap L_ ∧ FrameEnd U_ o_ U'_ L_ own_r19_0.cells own_r19_0.slots) := by
  refine MetFree.of_bodySF (Jvm.Free.JP.mathPlain rfl (by decide +kernel)) hisR ?_
  intro p e s m args below meth c s₁ Bd hml0 hP hK
  obtain ⟨rfl, hZ, hh⟩ := hP
  have hx := Bd.exec
  have hby := Bd.bytes
  have hml : c.maxLocals = 2 := hml0
  have hown : s.vm.findClass "java/lang/Math" = some m.cls := findClass_of_methodNamed Bd.named
  have hnm := (name_of_methodNamed Bd.named Bd.method).1
  have X0 : Stand p l e own_r19_0 s m #[(.int (0 : Int32)), (.int (0 : Int32))] below meth c s₁ [] 0 0 := Stand.of_body Bd
  have e0 : s₁.heap = h0 := by rw [← hh, Bd.state]; rfl
  have N0 := Fr.nil n0
  refine own_in (own_ef19_0 m ) ?_
  show own_Go p e below (own_K s (own_Q19_0 Z cs  h0 n0) own_r19_0.cells own_r19_0.slots) s₁ (mkF m 0 #[.val (.int (0 : Int32)), .val (.int (0 : Int32))] [])
  refine own_st (T' := s₁) (g' := (mkF m 10 #[.val (.int (0 : Int32)), .val (.int (0 : Int32))] [(.int (0 : Int32))])) (fun t k => ?_) ?_
  · show Steps p.tables e below (s₁.setTop (mkF m 0 #[.val (.int (0 : Int32)), .val (.int (0 : Int32))] [])) t
    refine XS.iloadN X0.here hx rfl (hb hby own_d19_0) rfl ?_
    refine XS.iloadN X0.here hx rfl (hb hby own_d19_1) rfl ?_
    refine XS.icmpNo X0.here hx rfl (hb hby own_d19_2) rfl (flt Int32.lt_irrefl).1 ?_
    refine XS.iloadN X0.here hx rfl (hb hby own_d19_5) rfl ?_
    refine XS.goto X0.here hx rfl (pc0 := 6) (pc' := 10) rfl (hb hby own_d19_6) (by decide) (by decide) ?_
    exact k
  exact own_retI X0 hx Bd (hb hby own_d19_10) e0 (⟨rfl, N0, rfl⟩) (by decide) (by decide)
def own_r20_1 : Room := { frames := 0, cells := 0, slots := 0, locals := 0 }
theorem own_ef20_1 (m : MethodId)  : entryFrame m #[(.int (1 : Int32)), (.int (1 : Int32))] 2 = mkF m 0 #[.val (.int (1 : Int32)), .val (.int (1 : Int32))] [] := by first | (simp [entryFrame, mkF, argsToLocals, Value.category]; done) | rfl
def own_Q20_1 (Z : State) (cs : Int32) (h0 : Heap) (n0 : Nat) : Option Value → Heap → List Loc → Prop := fun v h L => v = some (.int (1 : Int32)) ∧ Fr n0 L ∧ h = h0
set_option maxRecDepth 65536 in
set_option maxHeartbeats 40000000 in
theorem own_rm20_1 (l : Launch) (Z : State) (a0 : Array Value) (hw : ∀ d ∈ tables_1, d.before a0 Z = true) (ws : List Jvm.Cond) (cs : Int32) (h0 : Heap) (n0 : Nat) (Z0 : n0 ≤ h0.size) (O0 : Old Z n0 h0)  (hcs : ¬ cs = (0 : Int32)) (S_cs : Sta Z Z.heap "java/lang/String" "COMPACT_STRINGS" "Z" (.int cs)) :
    MetFree l (⟨"java/lang/Math", "min", "(II)I"⟩ : MethodName) (head1 (Jvm.Cond.code (⟨"java/lang/Math", "min", "(II)I"⟩ : MethodName) jdk_29_method_69_code 2 (some .int) :: ws) own_r20_1) (fun a_ U_ => a_ = #[(.int (1 : Int32)), (.int (1 : Int32))] ∧ Z.Warmed39 U_.vm ∧ U_.heap = h0) (fun _ _ _ _ _ => True) (fun _ U_ o_ U'_ => ∃ v_ L_, o_ = .returned v_ ∧ own_Q20_1 Z cs  h0 n0 v_ U'_.heap L_ ∧ FrameEnd U_ o_ U'_ L_ own_r20_1.cells own_r20_1.slots) := by
  refine MetFree.of_bodySF (Jvm.Free.JP.mathPlain rfl (by decide +kernel)) hisR ?_
  intro p e s m args below meth c s₁ Bd hml0 hP hK
  obtain ⟨rfl, hZ, hh⟩ := hP
  have hx := Bd.exec
  have hby := Bd.bytes
  have hml : c.maxLocals = 2 := hml0
  have hown : s.vm.findClass "java/lang/Math" = some m.cls := findClass_of_methodNamed Bd.named
  have hnm := (name_of_methodNamed Bd.named Bd.method).1
  have X0 : Stand p l e own_r20_1 s m #[(.int (1 : Int32)), (.int (1 : Int32))] below meth c s₁ [] 0 0 := Stand.of_body Bd
  have e0 : s₁.heap = h0 := by rw [← hh, Bd.state]; rfl
  have N0 := Fr.nil n0
  refine own_in (own_ef20_1 m ) ?_
  show own_Go p e below (own_K s (own_Q20_1 Z cs  h0 n0) own_r20_1.cells own_r20_1.slots) s₁ (mkF m 0 #[.val (.int (1 : Int32)), .val (.int (1 : Int32))] [])
  refine own_st (T' := s₁) (g' := (mkF m 10 #[.val (.int (1 : Int32)), .val (.int (1 : Int32))] [(.int (1 : Int32))])) (fun t k => ?_) ?_
  · show Steps p.tables e below (s₁.setTop (mkF m 0 #[.val (.int (1 : Int32)), .val (.int (1 : Int32))] [])) t
    refine XS.iloadN X0.here hx rfl (hb hby own_d20_0) rfl ?_
    refine XS.iloadN X0.here hx rfl (hb hby own_d20_1) rfl ?_
    refine XS.icmpNo X0.here hx rfl (hb hby own_d20_2) rfl (flt Int32.lt_irrefl).2.2.1 ?_
    refine XS.iloadN X0.here hx rfl (hb hby own_d20_5) rfl ?_
    refine XS.goto X0.here hx rfl (pc0 := 6) (pc' := 10) rfl (hb hby own_d20_6) (by decide) (by decide) ?_
    exact k
  exact own_retI X0 hx Bd (hb hby own_d20_10) e0 (⟨rfl, N0, rfl⟩) (by decide) (by decide)
def own_r20_2 : Room := { frames := 0, cells := 0, slots := 0, locals := 0 }
theorem own_ef20_2 (m : MethodId)  : entryFrame m #[(.int (2 : Int32)), (.int (2 : Int32))] 2 = mkF m 0 #[.val (.int (2 : Int32)), .val (.int (2 : Int32))] [] := by first | (simp [entryFrame, mkF, argsToLocals, Value.category]; done) | rfl
def own_Q20_2 (Z : State) (cs : Int32) (h0 : Heap) (n0 : Nat) : Option Value → Heap → List Loc → Prop := fun v h L => v = some (.int (2 : Int32)) ∧ Fr n0 L ∧ h = h0
set_option maxRecDepth 65536 in
set_option maxHeartbeats 40000000 in
theorem own_rm20_2 (l : Launch) (Z : State) (a0 : Array Value) (hw : ∀ d ∈ tables_1, d.before a0 Z = true) (ws : List Jvm.Cond) (cs : Int32) (h0 : Heap) (n0 : Nat) (Z0 : n0 ≤ h0.size) (O0 : Old Z n0 h0)  (hcs : ¬ cs = (0 : Int32)) (S_cs : Sta Z Z.heap "java/lang/String" "COMPACT_STRINGS" "Z" (.int cs)) :
    MetFree l (⟨"java/lang/Math", "min", "(II)I"⟩ : MethodName) (head1 (Jvm.Cond.code (⟨"java/lang/Math", "min", "(II)I"⟩ : MethodName) jdk_29_method_69_code 2 (some .int) :: ws) own_r20_2) (fun a_ U_ => a_ = #[(.int (2 : Int32)), (.int (2 : Int32))] ∧ Z.Warmed39 U_.vm ∧ U_.heap = h0) (fun _ _ _ _ _ => True) (fun _ U_ o_ U'_ => ∃ v_ L_, o_ = .returned v_ ∧ own_Q20_2 Z cs  h0 n0 v_ U'_.heap L_ ∧ FrameEnd U_ o_ U'_ L_ own_r20_2.cells own_r20_2.slots) := by
  refine MetFree.of_bodySF (Jvm.Free.JP.mathPlain rfl (by decide +kernel)) hisR ?_
  intro p e s m args below meth c s₁ Bd hml0 hP hK
  obtain ⟨rfl, hZ, hh⟩ := hP
  have hx := Bd.exec
  have hby := Bd.bytes
  have hml : c.maxLocals = 2 := hml0
  have hown : s.vm.findClass "java/lang/Math" = some m.cls := findClass_of_methodNamed Bd.named
  have hnm := (name_of_methodNamed Bd.named Bd.method).1
  have X0 : Stand p l e own_r20_2 s m #[(.int (2 : Int32)), (.int (2 : Int32))] below meth c s₁ [] 0 0 := Stand.of_body Bd
  have e0 : s₁.heap = h0 := by rw [← hh, Bd.state]; rfl
  have N0 := Fr.nil n0
  refine own_in (own_ef20_2 m ) ?_
  show own_Go p e below (own_K s (own_Q20_2 Z cs  h0 n0) own_r20_2.cells own_r20_2.slots) s₁ (mkF m 0 #[.val (.int (2 : Int32)), .val (.int (2 : Int32))] [])
  refine own_st (T' := s₁) (g' := (mkF m 10 #[.val (.int (2 : Int32)), .val (.int (2 : Int32))] [(.int (2 : Int32))])) (fun t k => ?_) ?_
  · show Steps p.tables e below (s₁.setTop (mkF m 0 #[.val (.int (2 : Int32)), .val (.int (2 : Int32))] [])) t
    refine XS.iloadN X0.here hx rfl (hb hby own_d20_0) rfl ?_
    refine XS.iloadN X0.here hx rfl (hb hby own_d20_1) rfl ?_
    refine XS.icmpNo X0.here hx rfl (hb hby own_d20_2) rfl (flt Int32.lt_irrefl).2.2.1 ?_
    refine XS.iloadN X0.here hx rfl (hb hby own_d20_5) rfl ?_
    refine XS.goto X0.here hx rfl (pc0 := 6) (pc' := 10) rfl (hb hby own_d20_6) (by decide) (by decide) ?_
    exact k
  exact own_retI X0 hx Bd (hb hby own_d20_10) e0 (⟨rfl, N0, rfl⟩) (by decide) (by decide)
def own_r20_3 : Room := { frames := 0, cells := 0, slots := 0, locals := 0 }
theorem own_ef20_3 (m : MethodId)  : entryFrame m #[(.int (3 : Int32)), (.int (3 : Int32))] 2 = mkF m 0 #[.val (.int (3 : Int32)), .val (.int (3 : Int32))] [] := by first | (simp [entryFrame, mkF, argsToLocals, Value.category]; done) | rfl
def own_Q20_3 (Z : State) (cs : Int32) (h0 : Heap) (n0 : Nat) : Option Value → Heap → List Loc → Prop := fun v h L => v = some (.int (3 : Int32)) ∧ Fr n0 L ∧ h = h0
set_option maxRecDepth 65536 in
set_option maxHeartbeats 40000000 in
theorem own_rm20_3 (l : Launch) (Z : State) (a0 : Array Value) (hw : ∀ d ∈ tables_1, d.before a0 Z = true) (ws : List Jvm.Cond) (cs : Int32) (h0 : Heap) (n0 : Nat) (Z0 : n0 ≤ h0.size) (O0 : Old Z n0 h0)  (hcs : ¬ cs = (0 : Int32)) (S_cs : Sta Z Z.heap "java/lang/String" "COMPACT_STRINGS" "Z" (.int cs)) :
    MetFree l (⟨"java/lang/Math", "min", "(II)I"⟩ : MethodName) (head1 (Jvm.Cond.code (⟨"java/lang/Math", "min", "(II)I"⟩ : MethodName) jdk_29_method_69_code 2 (some .int) :: ws) own_r20_3) (fun a_ U_ => a_ = #[(.int (3 : Int32)), (.int (3 : Int32))] ∧ Z.Warmed39 U_.vm ∧ U_.heap = h0) (fun _ _ _ _ _ => True) (fun _ U_ o_ U'_ => ∃ v_ L_, o_ = .returned v_ ∧ own_Q20_3 Z cs  h0 n0 v_ U'_.heap L_ ∧ FrameEnd U_ o_ U'_ L_ own_r20_3.cells own_r20_3.slots) := by
  refine MetFree.of_bodySF (Jvm.Free.JP.mathPlain rfl (by decide +kernel)) hisR ?_
  intro p e s m args below meth c s₁ Bd hml0 hP hK
  obtain ⟨rfl, hZ, hh⟩ := hP
  have hx := Bd.exec
  have hby := Bd.bytes
  have hml : c.maxLocals = 2 := hml0
  have hown : s.vm.findClass "java/lang/Math" = some m.cls := findClass_of_methodNamed Bd.named
  have hnm := (name_of_methodNamed Bd.named Bd.method).1
  have X0 : Stand p l e own_r20_3 s m #[(.int (3 : Int32)), (.int (3 : Int32))] below meth c s₁ [] 0 0 := Stand.of_body Bd
  have e0 : s₁.heap = h0 := by rw [← hh, Bd.state]; rfl
  have N0 := Fr.nil n0
  refine own_in (own_ef20_3 m ) ?_
  show own_Go p e below (own_K s (own_Q20_3 Z cs  h0 n0) own_r20_3.cells own_r20_3.slots) s₁ (mkF m 0 #[.val (.int (3 : Int32)), .val (.int (3 : Int32))] [])
  refine own_st (T' := s₁) (g' := (mkF m 10 #[.val (.int (3 : Int32)), .val (.int (3 : Int32))] [(.int (3 : Int32))])) (fun t k => ?_) ?_
  · show Steps p.tables e below (s₁.setTop (mkF m 0 #[.val (.int (3 : Int32)), .val (.int (3 : Int32))] [])) t
    refine XS.iloadN X0.here hx rfl (hb hby own_d20_0) rfl ?_
    refine XS.iloadN X0.here hx rfl (hb hby own_d20_1) rfl ?_
    refine XS.icmpNo X0.here hx rfl (hb hby own_d20_2) rfl (flt Int32.lt_irrefl).2.2.1 ?_
    refine XS.iloadN X0.here hx rfl (hb hby own_d20_5) rfl ?_
    refine XS.goto X0.here hx rfl (pc0 := 6) (pc' := 10) rfl (hb hby own_d20_6) (by decide) (by decide) ?_
    exact k
  exact own_retI X0 hx Bd (hb hby own_d20_10) e0 (⟨rfl, N0, rfl⟩) (by decide) (by decide)
def own_r18 : Room := { frames := 0, cells := 0, slots := 0, locals := 0 }
theorem own_ef18 (m : MethodId)  : entryFrame m #[(.int (46 : Int32))] 1 = mkF m 0 #[.val (.int (46 : Int32))] [] := by first | (simp [entryFrame, mkF, argsToLocals, Value.category]; done) | rfl
def own_Q18 (Z : State) (cs : Int32) (h0 : Heap) (n0 : Nat) : Option Value → Heap → List Loc → Prop := fun v h L => v = some (.int (1 : Int32)) ∧ Fr n0 L ∧ h = h0
set_option maxRecDepth 65536 in
set_option maxHeartbeats 40000000 in
theorem own_rm18 (l : Launch) (Z : State) (a0 : Array Value) (hw : ∀ d ∈ tables_1, d.before a0 Z = true) (ws : List Jvm.Cond) (cs : Int32) (h0 : Heap) (n0 : Nat) (Z0 : n0 ≤ h0.size) (O0 : Old Z n0 h0)  (hcs : ¬ cs = (0 : Int32)) (S_cs : Sta Z Z.heap "java/lang/String" "COMPACT_STRINGS" "Z" (.int cs)) :
    MetFree l (⟨"java/lang/StringLatin1", "canEncode", "(I)Z"⟩ : MethodName) (head1 (Jvm.Cond.code (⟨"java/lang/StringLatin1", "canEncode", "(I)Z"⟩ : MethodName) jdk_43_method_4_code 1 (some .boolean) :: ws) own_r18) (fun a_ U_ => a_ = #[(.int (46 : Int32))] ∧ Z.Warmed39 U_.vm ∧ U_.heap = h0) (fun _ _ _ _ _ => True) (fun _ U_ o_ U'_ => ∃ v_ L_, o_ = .returned v_ ∧ own_Q18 Z cs  h0 n0 v_ U'_.heap L_ ∧ FrameEnd U_ o_ U'_ L_ own_r18.cells own_r18.slots) := by
  refine MetFree.of_bodySF (plainFor_of_name own_pn3) hisR ?_
  intro p e s m args below meth c s₁ Bd hml0 hP hK
  obtain ⟨rfl, hZ, hh⟩ := hP
  have hx := Bd.exec
  have hby := Bd.bytes
  have hml : c.maxLocals = 1 := hml0
  have hown : s.vm.findClass "java/lang/StringLatin1" = some m.cls := findClass_of_methodNamed Bd.named
  have hnm := (name_of_methodNamed Bd.named Bd.method).1
  have X0 : Stand p l e own_r18 s m #[(.int (46 : Int32))] below meth c s₁ [] 0 0 := Stand.of_body Bd
  have e0 : s₁.heap = h0 := by rw [← hh, Bd.state]; rfl
  have N0 := Fr.nil n0
  refine own_in (own_ef18 m ) ?_
  show own_Go p e below (own_K s (own_Q18 Z cs  h0 n0) own_r18.cells own_r18.slots) s₁ (mkF m 0 #[.val (.int (46 : Int32))] [])
  refine own_st (T' := s₁) (g' := (mkF m 16 #[.val (.int (46 : Int32))] [(.int (1 : Int32))])) (fun t k => ?_) ?_
  · show Steps p.tables e below (s₁.setTop (mkF m 0 #[.val (.int (46 : Int32))] [])) t
    refine XS.iloadN X0.here hx rfl (hb hby own_d18_0) rfl ?_
    refine XS.ifNo X0.here hx rfl (hb hby own_d18_1) rfl ((if0 _ _).trans (flt (by decide : ¬ ((46 : Int32) < (0 : Int32)))).1) ?_
    refine XS.iloadN X0.here hx rfl (hb hby own_d18_4) rfl ?_
    refine XS.sipush X0.here hx rfl (hb hby own_d18_5) ?_
    refine XS.icmpNo X0.here hx rfl (hb hby own_d18_8) rfl (flt (by decide : ¬ ((255 : Int32) < (46 : Int32)))).2.2.1 ?_
    refine XS.iconst X0.here hx rfl (hb hby own_d18_11) ?_
    refine XS.goto X0.here hx rfl (pc0 := 12) (pc' := 16) rfl (hb hby own_d18_12) (by decide) (by decide) ?_
    exact k
  exact own_retN X0 hx Bd (t := .boolean) (by simp) rfl (hb hby own_d18_16) e0 (⟨rfl, N0, rfl⟩) (by decide) (by decide)
def own_r21_1 : Room := { frames := 0, cells := 0, slots := 0, locals := 0 }
theorem own_ef21_1 (m : MethodId) (x0 : Addr) : entryFrame m #[(.ref x0), (.int (46 : Int32)), (.int (0 : Int32)), (.int (1 : Int32))] 6 = mkF m 0 #[.val (.ref x0), .val (.int (46 : Int32)), .val (.int (0 : Int32)), .val (.int (1 : Int32)), .unset, .unset] [] := by first | (simp [entryFrame, mkF, argsToLocals, Value.category]; done) | rfl
def own_Q21_1 (Z : State) (arr : Addr) (ka : ClassId) (x0 : Int32) (cs : Int32) (h0 : Heap) (n0 : Nat) : Option Value → Heap → List Loc → Prop := fun v h L => v = some (.int (-1 : Int32)) ∧ Fr n0 L ∧ h = h0
set_option maxRecDepth 65536 in
set_option maxHeartbeats 40000000 in
theorem own_rm21_1 (l : Launch) (Z : State) (a0 : Array Value) (hw : ∀ d ∈ tables_1, d.before a0 Z = true) (ws : List Jvm.Cond) (arr : Addr) (ka : ClassId) (x0 : Int32) (cs : Int32) (h0 : Heap) (n0 : Nat) (Z0 : n0 ≤ h0.size) (O0 : Old Z n0 h0) (V_a : Arv Z h0 arr ka .byte (1 : Int32) [(.int x0)] (.int (0 : Int32))) (hn0 : ¬ x0 = (46 : Int32)) (hcs : ¬ cs = (0 : Int32)) (S_cs : Sta Z Z.heap "java/lang/String" "COMPACT_STRINGS" "Z" (.int cs)) :
    MetFree l (⟨"java/lang/StringLatin1", "indexOfChar", "([BIII)I"⟩ : MethodName) (head1 (Jvm.Cond.code (⟨"java/lang/StringLatin1", "indexOfChar", "([BIII)I"⟩ : MethodName) jdk_43_method_23_code 6 (some .int) :: ws) own_r21_1) (fun a_ U_ => a_ = #[(.ref arr), (.int (46 : Int32)), (.int (0 : Int32)), (.int (1 : Int32))] ∧ Z.Warmed39 U_.vm ∧ U_.heap = h0) (fun _ _ _ _ _ => True) (fun _ U_ o_ U'_ => ∃ v_ L_, o_ = .returned v_ ∧ own_Q21_1 Z arr  ka  x0  cs  h0 n0 v_ U'_.heap L_ ∧ FrameEnd U_ o_ U'_ L_ own_r21_1.cells own_r21_1.slots) := by
  refine MetFree.of_bodySF (plainFor_of_name own_pn3) hisR ?_
  intro p e s m args below meth c s₁ Bd hml0 hP hK
  obtain ⟨rfl, hZ, hh⟩ := hP
  have hx := Bd.exec
  have hby := Bd.bytes
  have hml : c.maxLocals = 6 := hml0
  have hown : s.vm.findClass "java/lang/StringLatin1" = some m.cls := findClass_of_methodNamed Bd.named
  have hnm := (name_of_methodNamed Bd.named Bd.method).1
  have X0 : Stand p l e own_r21_1 s m #[(.ref arr), (.int (46 : Int32)), (.int (0 : Int32)), (.int (1 : Int32))] below meth c s₁ [] 0 0 := Stand.of_body Bd
  have e0 : s₁.heap = h0 := by rw [← hh, Bd.state]; rfl
  have N0 := Fr.nil n0
  refine own_in (own_ef21_1 m arr) ?_
  show own_Go p e below (own_K s (own_Q21_1 Z arr  ka  x0  cs  h0 n0) own_r21_1.cells own_r21_1.slots) s₁ (mkF m 0 #[.val (.ref arr), .val (.int (46 : Int32)), .val (.int (0 : Int32)), .val (.int (1 : Int32)), .unset, .unset] [])
  refine own_st (T' := s₁) (g' := (mkF m 16 #[.val (.ref arr), .val (.int (46 : Int32)), .val (.int (0 : Int32)), .val (.int (1 : Int32)), .val (.int (46 : Int32)), .val (.int (0 : Int32))] [(.int (0 : Int32)), (.ref arr)])) (fun t k => ?_) ?_
  · show Steps p.tables e below (s₁.setTop (mkF m 0 #[.val (.ref arr), .val (.int (46 : Int32)), .val (.int (0 : Int32)), .val (.int (1 : Int32)), .unset, .unset] [])) t
    refine XS.iloadN X0.here hx rfl (hb hby own_d21_0) rfl ?_
    refine XS.i2b X0.here hx rfl (hb hby own_d21_1) rfl ?_
    refine XS.istore X0.here hx rfl (hb hby own_d21_2) rfl (l' := #[.val (.ref arr), .val (.int (46 : Int32)), .val (.int (0 : Int32)), .val (.int (1 : Int32)), .val (.int (46 : Int32)), .unset]) rfl ?_
    refine XS.iloadN X0.here hx rfl (hb hby own_d21_4) rfl ?_
    refine XS.istore X0.here hx rfl (hb hby own_d21_5) rfl (l' := #[.val (.ref arr), .val (.int (46 : Int32)), .val (.int (0 : Int32)), .val (.int (1 : Int32)), .val (.int (46 : Int32)), .val (.int (0 : Int32))]) rfl ?_
    refine XS.iload X0.here hx rfl (hb hby own_d21_7) rfl ?_
    refine XS.iloadN X0.here hx rfl (hb hby own_d21_9) rfl ?_
    refine XS.icmpNo X0.here hx rfl (hb hby own_d21_10) rfl (tlt (by decide : (0 : Int32) < (1 : Int32))).2.1 ?_
    refine XS.aloadN X0.here hx rfl (hb hby own_d21_13) rfl rfl ?_
    refine XS.iload X0.here hx rfl (hb hby own_d21_14) rfl ?_
    exact k
  obtain ⟨cl1, Ar1, q1, S1, M1, H1, G1⟩ := id V_a
  refine own_st (T' := s₁) (g' := (mkF m 32 #[.val (.ref arr), .val (.int (46 : Int32)), .val (.int (0 : Int32)), .val (.int (1 : Int32)), .val (.int (46 : Int32)), .val (.int (1 : Int32))] [(.int (-1 : Int32))])) (fun t k => ?_) ?_
  · show Steps p.tables e below (s₁.setTop (mkF m 16 #[.val (.ref arr), .val (.int (46 : Int32)), .val (.int (0 : Int32)), .val (.int (1 : Int32)), .val (.int (46 : Int32)), .val (.int (0 : Int32))] [(.int (0 : Int32)), (.ref arr)])) t
    refine X0.baloadBytes hx (j := (0 : Int32)) (v := (.int x0)) (by rw [e0]; exact Ar1.1) (State.isArrayOf_alike hZ.alike Ar1.2.1) Ar1.2.2 (inb_of S1 ⟨by decide, by decide⟩) (Has.at H1 (inb_of S1 ⟨by decide, by decide⟩) rfl) (g := (mkF m 16 #[.val (.ref arr), .val (.int (46 : Int32)), .val (.int (0 : Int32)), .val (.int (1 : Int32)), .val (.int (46 : Int32)), .val (.int (0 : Int32))] [(.int (0 : Int32)), (.ref arr)])) rfl rfl (hb hby own_d21_16) _ ?_
    show Steps p.tables e below (s₁.setTop (mkF m 17 #[.val (.ref arr), .val (.int (46 : Int32)), .val (.int (0 : Int32)), .val (.int (1 : Int32)), .val (.int (46 : Int32)), .val (.int (0 : Int32))] [(.int x0)])) t
    refine XS.iload X0.here hx rfl (hb hby own_d21_17) rfl ?_
    refine XS.icmpYes X0.here hx rfl (pc0 := 19) (pc' := 25) rfl (hb hby own_d21_19) rfl (feq hn0).2 (by decide) (by decide) ?_
    refine XS.iinc X0.here hx rfl (hb hby own_d21_25) rfl (l' := #[.val (.ref arr), .val (.int (46 : Int32)), .val (.int (0 : Int32)), .val (.int (1 : Int32)), .val (.int (46 : Int32)), .val (.int (1 : Int32))]) rfl ?_
    refine XS.goto X0.here hx rfl (pc0 := 28) (pc' := 7) rfl (hb hby own_d21_28) (by decide) (by decide) ?_
    refine XS.iload X0.here hx rfl (hb hby own_d21_7) rfl ?_
    refine XS.iloadN X0.here hx rfl (hb hby own_d21_9) rfl ?_
    refine XS.icmpYes X0.here hx rfl (pc0 := 10) (pc' := 31) rfl (hb hby own_d21_10) rfl (flt Int32.lt_irrefl).2.1 (by decide) (by decide) ?_
    refine XS.iconst X0.here hx rfl (hb hby own_d21_31) ?_
    exact k
  exact own_retI X0 hx Bd (hb hby own_d21_32) e0 (⟨rfl, N0, rfl⟩) (by decide) (by decide)
def own_r21_2 : Room := { frames := 0, cells := 0, slots := 0, locals := 0 }
theorem own_ef21_2 (m : MethodId) (x0 : Addr) : entryFrame m #[(.ref x0), (.int (46 : Int32)), (.int (0 : Int32)), (.int (2 : Int32))] 6 = mkF m 0 #[.val (.ref x0), .val (.int (46 : Int32)), .val (.int (0 : Int32)), .val (.int (2 : Int32)), .unset, .unset] [] := by first | (simp [entryFrame, mkF, argsToLocals, Value.category]; done) | rfl
def own_Q21_2 (Z : State) (arr : Addr) (ka : ClassId) (x0 x1 : Int32) (cs : Int32) (h0 : Heap) (n0 : Nat) : Option Value → Heap → List Loc → Prop := fun v h L => v = some (.int (-1 : Int32)) ∧ Fr n0 L ∧ h = h0
set_option maxRecDepth 65536 in
set_option maxHeartbeats 40000000 in
theorem own_rm21_2 (l : Launch) (Z : State) (a0 : Array Value) (hw : ∀ d ∈ tables_1, d.before a0 Z = true) (ws : List Jvm.Cond) (arr : Addr) (ka : ClassId) (x0 x1 : Int32) (cs : Int32) (h0 : Heap) (n0 : Nat) (Z0 : n0 ≤ h0.size) (O0 : Old Z n0 h0) (V_a : Arv Z h0 arr ka .byte (2 : Int32) [(.int x0), (.int x1)] (.int (0 : Int32))) (hn0 : ¬ x0 = (46 : Int32)) (hn1 : ¬ x1 = (46 : Int32)) (hcs : ¬ cs = (0 : Int32)) (S_cs : Sta Z Z.heap "java/lang/String" "COMPACT_STRINGS" "Z" (.int cs)) :
    MetFree l (⟨"java/lang/StringLatin1", "indexOfChar", "([BIII)I"⟩ : MethodName) (head1 (Jvm.Cond.code (⟨"java/lang/StringLatin1", "indexOfChar", "([BIII)I"⟩ : MethodName) jdk_43_method_23_code 6 (some .int) :: ws) own_r21_2) (fun a_ U_ => a_ = #[(.ref arr), (.int (46 : Int32)), (.int (0 : Int32)), (.int (2 : Int32))] ∧ Z.Warmed39 U_.vm ∧ U_.heap = h0) (fun _ _ _ _ _ => True) (fun _ U_ o_ U'_ => ∃ v_ L_, o_ = .returned v_ ∧ own_Q21_2 Z arr  ka  x0 x1  cs  h0 n0 v_ U'_.heap L_ ∧ FrameEnd U_ o_ U'_ L_ own_r21_2.cells own_r21_2.slots) := by
  refine MetFree.of_bodySF (plainFor_of_name own_pn3) hisR ?_
  intro p e s m args below meth c s₁ Bd hml0 hP hK
  obtain ⟨rfl, hZ, hh⟩ := hP
  have hx := Bd.exec
  have hby := Bd.bytes
  have hml : c.maxLocals = 6 := hml0
  have hown : s.vm.findClass "java/lang/StringLatin1" = some m.cls := findClass_of_methodNamed Bd.named
  have hnm := (name_of_methodNamed Bd.named Bd.method).1
  have X0 : Stand p l e own_r21_2 s m #[(.ref arr), (.int (46 : Int32)), (.int (0 : Int32)), (.int (2 : Int32))] below meth c s₁ [] 0 0 := Stand.of_body Bd
  have e0 : s₁.heap = h0 := by rw [← hh, Bd.state]; rfl
  have N0 := Fr.nil n0
  refine own_in (own_ef21_2 m arr) ?_
  show own_Go p e below (own_K s (own_Q21_2 Z arr  ka  x0 x1  cs  h0 n0) own_r21_2.cells own_r21_2.slots) s₁ (mkF m 0 #[.val (.ref arr), .val (.int (46 : Int32)), .val (.int (0 : Int32)), .val (.int (2 : Int32)), .unset, .unset] [])
  refine own_st (T' := s₁) (g' := (mkF m 16 #[.val (.ref arr), .val (.int (46 : Int32)), .val (.int (0 : Int32)), .val (.int (2 : Int32)), .val (.int (46 : Int32)), .val (.int (0 : Int32))] [(.int (0 : Int32)), (.ref arr)])) (fun t k => ?_) ?_
  · show Steps p.tables e below (s₁.setTop (mkF m 0 #[.val (.ref arr), .val (.int (46 : Int32)), .val (.int (0 : Int32)), .val (.int (2 : Int32)), .unset, .unset] [])) t
    refine XS.iloadN X0.here hx rfl (hb hby own_d21_0) rfl ?_
    refine XS.i2b X0.here hx rfl (hb hby own_d21_1) rfl ?_
    refine XS.istore X0.here hx rfl (hb hby own_d21_2) rfl (l' := #[.val (.ref arr), .val (.int (46 : Int32)), .val (.int (0 : Int32)), .val (.int (2 : Int32)), .val (.int (46 : Int32)), .unset]) rfl ?_
    refine XS.iloadN X0.here hx rfl (hb hby own_d21_4) rfl ?_
    refine XS.istore X0.here hx rfl (hb hby own_d21_5) rfl (l' := #[.val (.ref arr), .val (.int (46 : Int32)), .val (.int (0 : Int32)), .val (.int (2 : Int32)), .val (.int (46 : Int32)), .val (.int (0 : Int32))]) rfl ?_
    refine XS.iload X0.here hx rfl (hb hby own_d21_7) rfl ?_
    refine XS.iloadN X0.here hx rfl (hb hby own_d21_9) rfl ?_
    refine XS.icmpNo X0.here hx rfl (hb hby own_d21_10) rfl (tlt (by decide : (0 : Int32) < (2 : Int32))).2.1 ?_
    refine XS.aloadN X0.here hx rfl (hb hby own_d21_13) rfl rfl ?_
    refine XS.iload X0.here hx rfl (hb hby own_d21_14) rfl ?_
    exact k
  obtain ⟨cl1, Ar1, q1, S1, M1, H1, G1⟩ := id V_a
  refine own_st (T' := s₁) (g' := (mkF m 16 #[.val (.ref arr), .val (.int (46 : Int32)), .val (.int (0 : Int32)), .val (.int (2 : Int32)), .val (.int (46 : Int32)), .val (.int (1 : Int32))] [(.int (1 : Int32)), (.ref arr)])) (fun t k => ?_) ?_
  · show Steps p.tables e below (s₁.setTop (mkF m 16 #[.val (.ref arr), .val (.int (46 : Int32)), .val (.int (0 : Int32)), .val (.int (2 : Int32)), .val (.int (46 : Int32)), .val (.int (0 : Int32))] [(.int (0 : Int32)), (.ref arr)])) t
    refine X0.baloadBytes hx (j := (0 : Int32)) (v := (.int x0)) (by rw [e0]; exact Ar1.1) (State.isArrayOf_alike hZ.alike Ar1.2.1) Ar1.2.2 (inb_of S1 ⟨by decide, by decide⟩) (Has.at H1 (inb_of S1 ⟨by decide, by decide⟩) rfl) (g := (mkF m 16 #[.val (.ref arr), .val (.int (46 : Int32)), .val (.int (0 : Int32)), .val (.int (2 : Int32)), .val (.int (46 : Int32)), .val (.int (0 : Int32))] [(.int (0 : Int32)), (.ref arr)])) rfl rfl (hb hby own_d21_16) _ ?_
    show Steps p.tables e below (s₁.setTop (mkF m 17 #[.val (.ref arr), .val (.int (46 : Int32)), .val (.int (0 : Int32)), .val (.int (2 : Int32)), .val (.int (46 : Int32)), .val (.int (0 : Int32))] [(.int x0)])) t
    refine XS.iload X0.here hx rfl (hb hby own_d21_17) rfl ?_
    refine XS.icmpYes X0.here hx rfl (pc0 := 19) (pc' := 25) rfl (hb hby own_d21_19) rfl (feq hn0).2 (by decide) (by decide) ?_
    refine XS.iinc X0.here hx rfl (hb hby own_d21_25) rfl (l' := #[.val (.ref arr), .val (.int (46 : Int32)), .val (.int (0 : Int32)), .val (.int (2 : Int32)), .val (.int (46 : Int32)), .val (.int (1 : Int32))]) rfl ?_
    refine XS.goto X0.here hx rfl (pc0 := 28) (pc' := 7) rfl (hb hby own_d21_28) (by decide) (by decide) ?_
    refine XS.iload X0.here hx rfl (hb hby own_d21_7) rfl ?_
    refine XS.iloadN X0.here hx rfl (hb hby own_d21_9) rfl ?_
    refine XS.icmpNo X0.here hx rfl (hb hby own_d21_10) rfl (tlt (by decide : (1 : Int32) < (2 : Int32))).2.1 ?_
    refine XS.aloadN X0.here hx rfl (hb hby own_d21_13) rfl rfl ?_
    refine XS.iload X0.here hx rfl (hb hby own_d21_14) rfl ?_
    exact k
  obtain ⟨cl2, Ar2, q2, S2, M2, H2, G2⟩ := id V_a
  refine own_st (T' := s₁) (g' := (mkF m 32 #[.val (.ref arr), .val (.int (46 : Int32)), .val (.int (0 : Int32)), .val (.int (2 : Int32)), .val (.int (46 : Int32)), .val (.int (2 : Int32))] [(.int (-1 : Int32))])) (fun t k => ?_) ?_
  · show Steps p.tables e below (s₁.setTop (mkF m 16 #[.val (.ref arr), .val (.int (46 : Int32)), .val (.int (0 : Int32)), .val (.int (2 : Int32)), .val (.int (46 : Int32)), .val (.int (1 : Int32))] [(.int (1 : Int32)), (.ref arr)])) t
    refine X0.baloadBytes hx (j := (1 : Int32)) (v := (.int x1)) (by rw [e0]; exact Ar2.1) (State.isArrayOf_alike hZ.alike Ar2.2.1) Ar2.2.2 (inb_of S2 ⟨by decide, by decide⟩) (Has.at H2 (inb_of S2 ⟨by decide, by decide⟩) rfl) (g := (mkF m 16 #[.val (.ref arr), .val (.int (46 : Int32)), .val (.int (0 : Int32)), .val (.int (2 : Int32)), .val (.int (46 : Int32)), .val (.int (1 : Int32))] [(.int (1 : Int32)), (.ref arr)])) rfl rfl (hb hby own_d21_16) _ ?_
    show Steps p.tables e below (s₁.setTop (mkF m 17 #[.val (.ref arr), .val (.int (46 : Int32)), .val (.int (0 : Int32)), .val (.int (2 : Int32)), .val (.int (46 : Int32)), .val (.int (1 : Int32))] [(.int x1)])) t
    refine XS.iload X0.here hx rfl (hb hby own_d21_17) rfl ?_
    refine XS.icmpYes X0.here hx rfl (pc0 := 19) (pc' := 25) rfl (hb hby own_d21_19) rfl (feq hn1).2 (by decide) (by decide) ?_
    refine XS.iinc X0.here hx rfl (hb hby own_d21_25) rfl (l' := #[.val (.ref arr), .val (.int (46 : Int32)), .val (.int (0 : Int32)), .val (.int (2 : Int32)), .val (.int (46 : Int32)), .val (.int (2 : Int32))]) rfl ?_
    refine XS.goto X0.here hx rfl (pc0 := 28) (pc' := 7) rfl (hb hby own_d21_28) (by decide) (by decide) ?_
    refine XS.iload X0.here hx rfl (hb hby own_d21_7) rfl ?_
    refine XS.iloadN X0.here hx rfl (hb hby own_d21_9) rfl ?_
    refine XS.icmpYes X0.here hx rfl (pc0 := 10) (pc' := 31) rfl (hb hby own_d21_10) rfl (flt Int32.lt_irrefl).2.1 (by decide) (by decide) ?_
    refine XS.iconst X0.here hx rfl (hb hby own_d21_31) ?_
    exact k
  exact own_retI X0 hx Bd (hb hby own_d21_32) e0 (⟨rfl, N0, rfl⟩) (by decide) (by decide)
def own_r21_3 : Room := { frames := 0, cells := 0, slots := 0, locals := 0 }
theorem own_ef21_3 (m : MethodId) (x0 : Addr) : entryFrame m #[(.ref x0), (.int (46 : Int32)), (.int (0 : Int32)), (.int (3 : Int32))] 6 = mkF m 0 #[.val (.ref x0), .val (.int (46 : Int32)), .val (.int (0 : Int32)), .val (.int (3 : Int32)), .unset, .unset] [] := by first | (simp [entryFrame, mkF, argsToLocals, Value.category]; done) | rfl
def own_Q21_3 (Z : State) (arr : Addr) (ka : ClassId) (x0 x1 x2 : Int32) (cs : Int32) (h0 : Heap) (n0 : Nat) : Option Value → Heap → List Loc → Prop := fun v h L => v = some (.int (-1 : Int32)) ∧ Fr n0 L ∧ h = h0
set_option maxRecDepth 65536 in
set_option maxHeartbeats 40000000 in
theorem own_rm21_3 (l : Launch) (Z : State) (a0 : Array Value) (hw : ∀ d ∈ tables_1, d.before a0 Z = true) (ws : List Jvm.Cond) (arr : Addr) (ka : ClassId) (x0 x1 x2 : Int32) (cs : Int32) (h0 : Heap) (n0 : Nat) (Z0 : n0 ≤ h0.size) (O0 : Old Z n0 h0) (V_a : Arv Z h0 arr ka .byte (3 : Int32) [(.int x0), (.int x1), (.int x2)] (.int (0 : Int32))) (hn0 : ¬ x0 = (46 : Int32)) (hn1 : ¬ x1 = (46 : Int32)) (hn2 : ¬ x2 = (46 : Int32)) (hcs : ¬ cs = (0 : Int32)) (S_cs : Sta Z Z.heap "java/lang/String" "COMPACT_STRINGS" "Z" (.int cs)) :
    MetFree l (⟨"java/lang/StringLatin1", "indexOfChar", "([BIII)I"⟩ : MethodName) (head1 (Jvm.Cond.code (⟨"java/lang/StringLatin1", "indexOfChar", "([BIII)I"⟩ : MethodName) jdk_43_method_23_code 6 (some .int) :: ws) own_r21_3) (fun a_ U_ => a_ = #[(.ref arr), (.int (46 : Int32)), (.int (0 : Int32)), (.int (3 : Int32))] ∧ Z.Warmed39 U_.vm ∧ U_.heap = h0) (fun _ _ _ _ _ => True) (fun _ U_ o_ U'_ => ∃ v_ L_, o_ = .returned v_ ∧ own_Q21_3 Z arr  ka  x0 x1 x2  cs  h0 n0 v_ U'_.heap L_ ∧ FrameEnd U_ o_ U'_ L_ own_r21_3.cells own_r21_3.slots) := by
  refine MetFree.of_bodySF (plainFor_of_name own_pn3) hisR ?_
  intro p e s m args below meth c s₁ Bd hml0 hP hK
  obtain ⟨rfl, hZ, hh⟩ := hP
  have hx := Bd.exec
  have hby := Bd.bytes
  have hml : c.maxLocals = 6 := hml0
  have hown : s.vm.findClass "java/lang/StringLatin1" = some m.cls := findClass_of_methodNamed Bd.named
  have hnm := (name_of_methodNamed Bd.named Bd.method).1
  have X0 : Stand p l e own_r21_3 s m #[(.ref arr), (.int (46 : Int32)), (.int (0 : Int32)), (.int (3 : Int32))] below meth c s₁ [] 0 0 := Stand.of_body Bd
  have e0 : s₁.heap = h0 := by rw [← hh, Bd.state]; rfl
  have N0 := Fr.nil n0
  refine own_in (own_ef21_3 m arr) ?_
  show own_Go p e below (own_K s (own_Q21_3 Z arr  ka  x0 x1 x2  cs  h0 n0) own_r21_3.cells own_r21_3.slots) s₁ (mkF m 0 #[.val (.ref arr), .val (.int (46 : Int32)), .val (.int (0 : Int32)), .val (.int (3 : Int32)), .unset, .unset] [])
  refine own_st (T' := s₁) (g' := (mkF m 16 #[.val (.ref arr), .val (.int (46 : Int32)), .val (.int (0 : Int32)), .val (.int (3 : Int32)), .val (.int (46 : Int32)), .val (.int (0 : Int32))] [(.int (0 : Int32)), (.ref arr)])) (fun t k => ?_) ?_
  · show Steps p.tables e below (s₁.setTop (mkF m 0 #[.val (.ref arr), .val (.int (46 : Int32)), .val (.int (0 : Int32)), .val (.int (3 : Int32)), .unset, .unset] [])) t
    refine XS.iloadN X0.here hx rfl (hb hby own_d21_0) rfl ?_
    refine XS.i2b X0.here hx rfl (hb hby own_d21_1) rfl ?_
    refine XS.istore X0.here hx rfl (hb hby own_d21_2) rfl (l' := #[.val (.ref arr), .val (.int (46 : Int32)), .val (.int (0 : Int32)), .val (.int (3 : Int32)), .val (.int (46 : Int32)), .unset]) rfl ?_
    refine XS.iloadN X0.here hx rfl (hb hby own_d21_4) rfl ?_
    refine XS.istore X0.here hx rfl (hb hby own_d21_5) rfl (l' := #[.val (.ref arr), .val (.int (46 : Int32)), .val (.int (0 : Int32)), .val (.int (3 : Int32)), .val (.int (46 : Int32)), .val (.int (0 : Int32))]) rfl ?_
    refine XS.iload X0.here hx rfl (hb hby own_d21_7) rfl ?_
    refine XS.iloadN X0.here hx rfl (hb hby own_d21_9) rfl ?_
    refine XS.icmpNo X0.here hx rfl (hb hby own_d21_10) rfl (tlt (by decide : (0 : Int32) < (3 : Int32))).2.1 ?_
    refine XS.aloadN X0.here hx rfl (hb hby own_d21_13) rfl rfl ?_
    refine XS.iload X0.here hx rfl (hb hby own_d21_14) rfl ?_
    exact k
  obtain ⟨cl1, Ar1, q1, S1, M1, H1, G1⟩ := id V_a
  refine own_st (T' := s₁) (g' := (mkF m 16 #[.val (.ref arr), .val (.int (46 : Int32)), .val (.int (0 : Int32)), .val (.int (3 : Int32)), .val (.int (46 : Int32)), .val (.int (1 : Int32))] [(.int (1 : Int32)), (.ref arr)])) (fun t k => ?_) ?_
  · show Steps p.tables e below (s₁.setTop (mkF m 16 #[.val (.ref arr), .val (.int (46 : Int32)), .val (.int (0 : Int32)), .val (.int (3 : Int32)), .val (.int (46 : Int32)), .val (.int (0 : Int32))] [(.int (0 : Int32)), (.ref arr)])) t
    refine X0.baloadBytes hx (j := (0 : Int32)) (v := (.int x0)) (by rw [e0]; exact Ar1.1) (State.isArrayOf_alike hZ.alike Ar1.2.1) Ar1.2.2 (inb_of S1 ⟨by decide, by decide⟩) (Has.at H1 (inb_of S1 ⟨by decide, by decide⟩) rfl) (g := (mkF m 16 #[.val (.ref arr), .val (.int (46 : Int32)), .val (.int (0 : Int32)), .val (.int (3 : Int32)), .val (.int (46 : Int32)), .val (.int (0 : Int32))] [(.int (0 : Int32)), (.ref arr)])) rfl rfl (hb hby own_d21_16) _ ?_
    show Steps p.tables e below (s₁.setTop (mkF m 17 #[.val (.ref arr), .val (.int (46 : Int32)), .val (.int (0 : Int32)), .val (.int (3 : Int32)), .val (.int (46 : Int32)), .val (.int (0 : Int32))] [(.int x0)])) t
    refine XS.iload X0.here hx rfl (hb hby own_d21_17) rfl ?_
    refine XS.icmpYes X0.here hx rfl (pc0 := 19) (pc' := 25) rfl (hb hby own_d21_19) rfl (feq hn0).2 (by decide) (by decide) ?_
    refine XS.iinc X0.here hx rfl (hb hby own_d21_25) rfl (l' := #[.val (.ref arr), .val (.int (46 : Int32)), .val (.int (0 : Int32)), .val (.int (3 : Int32)), .val (.int (46 : Int32)), .val (.int (1 : Int32))]) rfl ?_
    refine XS.goto X0.here hx rfl (pc0 := 28) (pc' := 7) rfl (hb hby own_d21_28) (by decide) (by decide) ?_
    refine XS.iload X0.here hx rfl (hb hby own_d21_7) rfl ?_
    refine XS.iloadN X0.here hx rfl (hb hby own_d21_9) rfl ?_
    refine XS.icmpNo X0.here hx rfl (hb hby own_d21_10) rfl (tlt (by decide : (1 : Int32) < (3 : Int32))).2.1 ?_
    refine XS.aloadN X0.here hx rfl (hb hby own_d21_13) rfl rfl ?_
    refine XS.iload X0.here hx rfl (hb hby own_d21_14) rfl ?_
    exact k
  obtain ⟨cl2, Ar2, q2, S2, M2, H2, G2⟩ := id V_a
  refine own_st (T' := s₁) (g' := (mkF m 16 #[.val (.ref arr), .val (.int (46 : Int32)), .val (.int (0 : Int32)), .val (.int (3 : Int32)), .val (.int (46 : Int32)), .val (.int (2 : Int32))] [(.int (2 : Int32)), (.ref arr)])) (fun t k => ?_) ?_
  · show Steps p.tables e below (s₁.setTop (mkF m 16 #[.val (.ref arr), .val (.int (46 : Int32)), .val (.int (0 : Int32)), .val (.int (3 : Int32)), .val (.int (46 : Int32)), .val (.int (1 : Int32))] [(.int (1 : Int32)), (.ref arr)])) t
    refine X0.baloadBytes hx (j := (1 : Int32)) (v := (.int x1)) (by rw [e0]; exact Ar2.1) (State.isArrayOf_alike hZ.alike Ar2.2.1) Ar2.2.2 (inb_of S2 ⟨by decide, by decide⟩) (Has.at H2 (inb_of S2 ⟨by decide, by decide⟩) rfl) (g := (mkF m 16 #[.val (.ref arr), .val (.int (46 : Int32)), .val (.int (0 : Int32)), .val (.int (3 : Int32)), .val (.int (46 : Int32)), .val (.int (1 : Int32))] [(.int (1 : Int32)), (.ref arr)])) rfl rfl (hb hby own_d21_16) _ ?_
    show Steps p.tables e below (s₁.setTop (mkF m 17 #[.val (.ref arr), .val (.int (46 : Int32)), .val (.int (0 : Int32)), .val (.int (3 : Int32)), .val (.int (46 : Int32)), .val (.int (1 : Int32))] [(.int x1)])) t
    refine XS.iload X0.here hx rfl (hb hby own_d21_17) rfl ?_
    refine XS.icmpYes X0.here hx rfl (pc0 := 19) (pc' := 25) rfl (hb hby own_d21_19) rfl (feq hn1).2 (by decide) (by decide) ?_
    refine XS.iinc X0.here hx rfl (hb hby own_d21_25) rfl (l' := #[.val (.ref arr), .val (.int (46 : Int32)), .val (.int (0 : Int32)), .val (.int (3 : Int32)), .val (.int (46 : Int32)), .val (.int (2 : Int32))]) rfl ?_
    refine XS.goto X0.here hx rfl (pc0 := 28) (pc' := 7) rfl (hb hby own_d21_28) (by decide) (by decide) ?_
    refine XS.iload X0.here hx rfl (hb hby own_d21_7) rfl ?_
    refine XS.iloadN X0.here hx rfl (hb hby own_d21_9) rfl ?_
    refine XS.icmpNo X0.here hx rfl (hb hby own_d21_10) rfl (tlt (by decide : (2 : Int32) < (3 : Int32))).2.1 ?_
    refine XS.aloadN X0.here hx rfl (hb hby own_d21_13) rfl rfl ?_
    refine XS.iload X0.here hx rfl (hb hby own_d21_14) rfl ?_
    exact k
  obtain ⟨cl3, Ar3, q3, S3, M3, H3, G3⟩ := id V_a
  refine own_st (T' := s₁) (g' := (mkF m 32 #[.val (.ref arr), .val (.int (46 : Int32)), .val (.int (0 : Int32)), .val (.int (3 : Int32)), .val (.int (46 : Int32)), .val (.int (3 : Int32))] [(.int (-1 : Int32))])) (fun t k => ?_) ?_
  · show Steps p.tables e below (s₁.setTop (mkF m 16 #[.val (.ref arr), .val (.int (46 : Int32)), .val (.int (0 : Int32)), .val (.int (3 : Int32)), .val (.int (46 : Int32)), .val (.int (2 : Int32))] [(.int (2 : Int32)), (.ref arr)])) t
    refine X0.baloadBytes hx (j := (2 : Int32)) (v := (.int x2)) (by rw [e0]; exact Ar3.1) (State.isArrayOf_alike hZ.alike Ar3.2.1) Ar3.2.2 (inb_of S3 ⟨by decide, by decide⟩) (Has.at H3 (inb_of S3 ⟨by decide, by decide⟩) rfl) (g := (mkF m 16 #[.val (.ref arr), .val (.int (46 : Int32)), .val (.int (0 : Int32)), .val (.int (3 : Int32)), .val (.int (46 : Int32)), .val (.int (2 : Int32))] [(.int (2 : Int32)), (.ref arr)])) rfl rfl (hb hby own_d21_16) _ ?_
    show Steps p.tables e below (s₁.setTop (mkF m 17 #[.val (.ref arr), .val (.int (46 : Int32)), .val (.int (0 : Int32)), .val (.int (3 : Int32)), .val (.int (46 : Int32)), .val (.int (2 : Int32))] [(.int x2)])) t
    refine XS.iload X0.here hx rfl (hb hby own_d21_17) rfl ?_
    refine XS.icmpYes X0.here hx rfl (pc0 := 19) (pc' := 25) rfl (hb hby own_d21_19) rfl (feq hn2).2 (by decide) (by decide) ?_
    refine XS.iinc X0.here hx rfl (hb hby own_d21_25) rfl (l' := #[.val (.ref arr), .val (.int (46 : Int32)), .val (.int (0 : Int32)), .val (.int (3 : Int32)), .val (.int (46 : Int32)), .val (.int (3 : Int32))]) rfl ?_
    refine XS.goto X0.here hx rfl (pc0 := 28) (pc' := 7) rfl (hb hby own_d21_28) (by decide) (by decide) ?_
    refine XS.iload X0.here hx rfl (hb hby own_d21_7) rfl ?_
    refine XS.iloadN X0.here hx rfl (hb hby own_d21_9) rfl ?_
    refine XS.icmpYes X0.here hx rfl (pc0 := 10) (pc' := 31) rfl (hb hby own_d21_10) rfl (flt Int32.lt_irrefl).2.1 (by decide) (by decide) ?_
    refine XS.iconst X0.here hx rfl (hb hby own_d21_31) ?_
    exact k
  exact own_retI X0 hx Bd (hb hby own_d21_32) e0 (⟨rfl, N0, rfl⟩) (by decide) (by decide)
def own_r17_1 : Room := { frames := 1, cells := 0, slots := 0, locals := 17 }
theorem own_ef17_1 (m : MethodId) (x0 : Addr) : entryFrame m #[(.ref x0), (.int (46 : Int32)), (.int (0 : Int32)), (.int (1 : Int32))] 4 = mkF m 0 #[.val (.ref x0), .val (.int (46 : Int32)), .val (.int (0 : Int32)), .val (.int (1 : Int32))] [] := by first | (simp [entryFrame, mkF, argsToLocals, Value.category]; done) | rfl
def own_Q17_1 (Z : State) (arr : Addr) (ka : ClassId) (x0 : Int32) (cs : Int32) (h0 : Heap) (n0 : Nat) : Option Value → Heap → List Loc → Prop := fun v h L => v = some (.int (-1 : Int32)) ∧ Fr n0 L ∧ h = h0
set_option maxRecDepth 65536 in
set_option maxHeartbeats 40000000 in
theorem own_rm17_1 (l : Launch) (Z : State) (a0 : Array Value) (hw : ∀ d ∈ tables_1, d.before a0 Z = true) (ws : List Jvm.Cond) (arr : Addr) (ka : ClassId) (x0 : Int32) (cs : Int32) (h0 : Heap) (n0 : Nat) (Z0 : n0 ≤ h0.size) (O0 : Old Z n0 h0) (V_a : Arv Z h0 arr ka .byte (1 : Int32) [(.int x0)] (.int (0 : Int32))) (hn0 : ¬ x0 = (46 : Int32)) (hcs : ¬ cs = (0 : Int32)) (S_cs : Sta Z Z.heap "java/lang/String" "COMPACT_STRINGS" "Z" (.int cs)) :
    MetFree l (⟨"java/lang/StringLatin1", "indexOf", "([BIII)I"⟩ : MethodName) (head1 (Jvm.Cond.code (⟨"java/lang/StringLatin1", "indexOf", "([BIII)I"⟩ : MethodName) jdk_43_method_22_code 4 (some .int) :: ws) own_r17_1) (fun a_ U_ => a_ = #[(.ref arr), (.int (46 : Int32)), (.int (0 : Int32)), (.int (1 : Int32))] ∧ Z.Warmed39 U_.vm ∧ U_.heap = h0) (fun _ _ _ _ _ => True) (fun _ U_ o_ U'_ => ∃ v_ L_, o_ = .returned v_ ∧ own_Q17_1 Z arr  ka  x0  cs  h0 n0 v_ U'_.heap L_ ∧ FrameEnd U_ o_ U'_ L_ own_r17_1.cells own_r17_1.slots) := by
  refine MetFree.of_bodySF (plainFor_of_name own_pn3) hisR ?_
  intro p e s m args below meth c s₁ Bd hml0 hP hK
  obtain ⟨rfl, hZ, hh⟩ := hP
  have hx := Bd.exec
  have hby := Bd.bytes
  have hml : c.maxLocals = 4 := hml0
  have hown : s.vm.findClass "java/lang/StringLatin1" = some m.cls := findClass_of_methodNamed Bd.named
  have hnm := (name_of_methodNamed Bd.named Bd.method).1
  have X0 : Stand p l e own_r17_1 s m #[(.ref arr), (.int (46 : Int32)), (.int (0 : Int32)), (.int (1 : Int32))] below meth c s₁ [] 0 0 := Stand.of_body Bd
  have e0 : s₁.heap = h0 := by rw [← hh, Bd.state]; rfl
  have N0 := Fr.nil n0
  refine own_in (own_ef17_1 m arr) ?_
  show own_Go p e below (own_K s (own_Q17_1 Z arr  ka  x0  cs  h0 n0) own_r17_1.cells own_r17_1.slots) s₁ (mkF m 0 #[.val (.ref arr), .val (.int (46 : Int32)), .val (.int (0 : Int32)), .val (.int (1 : Int32))] [])
  refine own_st (T' := s₁) (g' := (mkF m 1 #[.val (.ref arr), .val (.int (46 : Int32)), .val (.int (0 : Int32)), .val (.int (1 : Int32))] [(.int (46 : Int32))])) (fun t k => ?_) ?_
  · show Steps p.tables e below (s₁.setTop (mkF m 0 #[.val (.ref arr), .val (.int (46 : Int32)), .val (.int (0 : Int32)), .val (.int (1 : Int32))] [])) t
    refine XS.iloadN X0.here hx rfl (hb hby own_d17_0) rfl ?_
    exact k
  obtain ⟨_, _, ⟨T1, L1, c1, n1⟩, -, X1, ⟨Lc1, hQ1, l1, y1, z1⟩, st1⟩ := Jvm.LawKit.callS X0 hx (y := (⟨"java/lang/StringLatin1", "canEncode", "(I)Z"⟩ : MethodName)) hown (mvT hZ (hw _ (List.mem_of_getElem? (i := 83) rfl))) (mvT hZ (hw _ (List.mem_of_getElem? (i := 84) rfl))) (mvT hZ (hw _ (List.mem_of_getElem? (i := 81) rfl))) (mvT hZ (hw _ (List.mem_of_getElem? (i := 85) rfl))) (by decide) (backOf (W := 0) (own_rm18 l Z a0 hw []  cs h0 n0 Z0 O0  hcs S_cs) hZ (hw _ (List.mem_of_getElem? (i := 85) rfl)) (hw _ (List.mem_of_getElem? (i := 81) rfl)) (by decide) (by decide)) (g := (mkF m 1 #[.val (.ref arr), .val (.int (46 : Int32)), .val (.int (0 : Int32)), .val (.int (1 : Int32))] [(.int (46 : Int32))])) rfl (by rw [hml]; rfl) (argsL := [(.int (46 : Int32))]) (rest := []) (lenOf own_pd5 rfl) rfl (by show 2 * 0 + _ ≤ _; exact Nat.le_of_eq rfl) (hb hby own_d17_1) (fun _ _ => ⟨rfl, e0, (by decide : 0 + 0 ≤ _), (by decide : 0 + 0 ≤ _)⟩)
  dsimp only [Pt.U, Pt.locs, Pt.cells, Pt.slots] at X1 l1 y1 z1 st1 hQ1
  subst l1 y1 z1
  obtain ⟨rfl, N1q, e1⟩ := hQ1
  have N1 := Fr.app N0 N1q
  refine own_st (T' := T1) (g' := (mkF m 4 #[.val (.ref arr), .val (.int (46 : Int32)), .val (.int (0 : Int32)), .val (.int (1 : Int32))] [(.int (1 : Int32))])) st1 ?_
  refine own_st (T' := T1) (g' := (mkF m 11 #[.val (.ref arr), .val (.int (46 : Int32)), .val (.int (0 : Int32)), .val (.int (1 : Int32))] [(.int (0 : Int32)), (.int (0 : Int32))])) (fun t k => ?_) ?_
  · show Steps p.tables e below (T1.setTop (mkF m 4 #[.val (.ref arr), .val (.int (46 : Int32)), .val (.int (0 : Int32)), .val (.int (1 : Int32))] [(.int (1 : Int32))])) t
    refine XS.ifYes X1.here hx rfl (pc0 := 4) (pc' := 9) rfl (hb hby own_d17_4) rfl ((if0 _ _).trans (feq (by decide : ¬ ((1 : Int32) = (0 : Int32)))).2) (by decide) (by decide) ?_
    refine XS.iloadN X1.here hx rfl (hb hby own_d17_9) rfl ?_
    refine XS.iconst X1.here hx rfl (hb hby own_d17_10) ?_
    exact k
  obtain ⟨_, _, ⟨T2, L2, c2, n2⟩, -, X2, ⟨Lc2, hQ2, l2, y2, z2⟩, st2⟩ := Jvm.LawKit.callS X1 hx (y := (⟨"java/lang/Math", "max", "(II)I"⟩ : MethodName)) hown (mvT hZ (hw _ (List.mem_of_getElem? (i := 86) rfl))) (mvT hZ (hw _ (List.mem_of_getElem? (i := 87) rfl))) (mvT hZ (hw _ (List.mem_of_getElem? (i := 88) rfl))) (mvT hZ (hw _ (List.mem_of_getElem? (i := 89) rfl))) (by decide) (backOf (W := 0) (own_rm19_0 l Z a0 hw []  cs h0 n0 Z0 O0  hcs S_cs) hZ (hw _ (List.mem_of_getElem? (i := 89) rfl)) (hw _ (List.mem_of_getElem? (i := 88) rfl)) (by decide) (by decide)) (g := (mkF m 11 #[.val (.ref arr), .val (.int (46 : Int32)), .val (.int (0 : Int32)), .val (.int (1 : Int32))] [(.int (0 : Int32)), (.int (0 : Int32))])) rfl (by rw [hml]; rfl) (argsL := [(.int (0 : Int32)), (.int (0 : Int32))]) (rest := []) (lenOf own_pd6 rfl) rfl (by show 2 * 0 + _ ≤ _; exact Nat.le_of_eq rfl) (hb hby own_d17_11) (fun _ _ => ⟨rfl, e1, (by decide : 0 + 0 ≤ _), (by decide : 0 + 0 ≤ _)⟩)
  dsimp only [Pt.U, Pt.locs, Pt.cells, Pt.slots] at X2 l2 y2 z2 st2 hQ2
  subst l2 y2 z2
  obtain ⟨rfl, N2q, e2⟩ := hQ2
  have N2 := Fr.app N1 N2q
  refine own_st (T' := T2) (g' := (mkF m 14 #[.val (.ref arr), .val (.int (46 : Int32)), .val (.int (0 : Int32)), .val (.int (1 : Int32))] [(.int (0 : Int32))])) st2 ?_
  refine own_st (T' := T2) (g' := (mkF m 17 #[.val (.ref arr), .val (.int (46 : Int32)), .val (.int (0 : Int32)), .val (.int (1 : Int32))] [(.ref arr), (.int (1 : Int32))])) (fun t k => ?_) ?_
  · show Steps p.tables e below (T2.setTop (mkF m 14 #[.val (.ref arr), .val (.int (46 : Int32)), .val (.int (0 : Int32)), .val (.int (1 : Int32))] [(.int (0 : Int32))])) t
    refine XS.istoreN X2.here hx rfl (hb hby own_d17_14) rfl (l' := #[.val (.ref arr), .val (.int (46 : Int32)), .val (.int (0 : Int32)), .val (.int (1 : Int32))]) rfl ?_
    refine XS.iloadN X2.here hx rfl (hb hby own_d17_15) rfl ?_
    refine XS.aloadN X2.here hx rfl (hb hby own_d17_16) rfl rfl ?_
    exact k
  obtain ⟨cl3, Ar3, q3, S3, M3, H3, G3⟩ := id V_a
  refine own_st (T' := T2) (g' := (mkF m 18 #[.val (.ref arr), .val (.int (46 : Int32)), .val (.int (0 : Int32)), .val (.int (1 : Int32))] [(.int (1 : Int32)), (.int (1 : Int32))])) (fun t k => ?_) ?_
  · show Steps p.tables e below (T2.setTop (mkF m 17 #[.val (.ref arr), .val (.int (46 : Int32)), .val (.int (0 : Int32)), .val (.int (1 : Int32))] [(.ref arr), (.int (1 : Int32))])) t
    refine X2.arraylength hx (by rw [e2]; exact Ar3.1) (State.isArrayOf_alike hZ.alike Ar3.2.1) (g := (mkF m 17 #[.val (.ref arr), .val (.int (46 : Int32)), .val (.int (0 : Int32)), .val (.int (1 : Int32))] [(.ref arr), (.int (1 : Int32))])) rfl rfl (hb hby own_d17_17) _ ?_
    rw [len_of S3 M3]
    show Steps p.tables e below (T2.setTop (mkF m 18 #[.val (.ref arr), .val (.int (46 : Int32)), .val (.int (0 : Int32)), .val (.int (1 : Int32))] [(.int (1 : Int32)), (.int (1 : Int32))])) t
    exact k
  obtain ⟨_, _, ⟨T4, L4, c4, n4⟩, -, X4, ⟨Lc4, hQ4, l4, y4, z4⟩, st4⟩ := Jvm.LawKit.callS X2 hx (y := (⟨"java/lang/Math", "min", "(II)I"⟩ : MethodName)) hown (mvT hZ (hw _ (List.mem_of_getElem? (i := 90) rfl))) (mvT hZ (hw _ (List.mem_of_getElem? (i := 91) rfl))) (mvT hZ (hw _ (List.mem_of_getElem? (i := 88) rfl))) (mvT hZ (hw _ (List.mem_of_getElem? (i := 92) rfl))) (by decide) (backOf (W := 0) (own_rm20_1 l Z a0 hw []  cs h0 n0 Z0 O0  hcs S_cs) hZ (hw _ (List.mem_of_getElem? (i := 92) rfl)) (hw _ (List.mem_of_getElem? (i := 88) rfl)) (by decide) (by decide)) (g := (mkF m 18 #[.val (.ref arr), .val (.int (46 : Int32)), .val (.int (0 : Int32)), .val (.int (1 : Int32))] [(.int (1 : Int32)), (.int (1 : Int32))])) rfl (by rw [hml]; rfl) (argsL := [(.int (1 : Int32)), (.int (1 : Int32))]) (rest := []) (lenOf own_pd6 rfl) rfl (by show 2 * 0 + _ ≤ _; exact Nat.le_of_eq rfl) (hb hby own_d17_18) (fun _ _ => ⟨rfl, e2, (by decide : 0 + 0 ≤ _), (by decide : 0 + 0 ≤ _)⟩)
  dsimp only [Pt.U, Pt.locs, Pt.cells, Pt.slots] at X4 l4 y4 z4 st4 hQ4
  subst l4 y4 z4
  obtain ⟨rfl, N4q, e4⟩ := hQ4
  have N4 := Fr.app N2 N4q
  refine own_st (T' := T4) (g' := (mkF m 21 #[.val (.ref arr), .val (.int (46 : Int32)), .val (.int (0 : Int32)), .val (.int (1 : Int32))] [(.int (1 : Int32))])) st4 ?_
  refine own_st (T' := T4) (g' := (mkF m 33 #[.val (.ref arr), .val (.int (46 : Int32)), .val (.int (0 : Int32)), .val (.int (1 : Int32))] [(.int (1 : Int32)), (.int (0 : Int32)), (.int (46 : Int32)), (.ref arr)])) (fun t k => ?_) ?_
  · show Steps p.tables e below (T4.setTop (mkF m 21 #[.val (.ref arr), .val (.int (46 : Int32)), .val (.int (0 : Int32)), .val (.int (1 : Int32))] [(.int (1 : Int32))])) t
    refine XS.istoreN X4.here hx rfl (hb hby own_d17_21) rfl (l' := #[.val (.ref arr), .val (.int (46 : Int32)), .val (.int (0 : Int32)), .val (.int (1 : Int32))]) rfl ?_
    refine XS.iloadN X4.here hx rfl (hb hby own_d17_22) rfl ?_
    refine XS.iloadN X4.here hx rfl (hb hby own_d17_23) rfl ?_
    refine XS.icmpYes X4.here hx rfl (pc0 := 24) (pc' := 29) rfl (hb hby own_d17_24) rfl (tlt (by decide : (0 : Int32) < (1 : Int32))).1 (by decide) (by decide) ?_
    refine XS.aloadN X4.here hx rfl (hb hby own_d17_29) rfl rfl ?_
    refine XS.iloadN X4.here hx rfl (hb hby own_d17_30) rfl ?_
    refine XS.iloadN X4.here hx rfl (hb hby own_d17_31) rfl ?_
    refine XS.iloadN X4.here hx rfl (hb hby own_d17_32) rfl ?_
    exact k
  obtain ⟨_, _, ⟨T5, L5, c5, n5⟩, -, X5, ⟨Lc5, hQ5, l5, y5, z5⟩, st5⟩ := Jvm.LawKit.callS X4 hx (y := (⟨"java/lang/StringLatin1", "indexOfChar", "([BIII)I"⟩ : MethodName)) hown (mvT hZ (hw _ (List.mem_of_getElem? (i := 93) rfl))) (mvT hZ (hw _ (List.mem_of_getElem? (i := 94) rfl))) (mvT hZ (hw _ (List.mem_of_getElem? (i := 81) rfl))) (mvT hZ (hw _ (List.mem_of_getElem? (i := 95) rfl))) (by decide) (backOf (W := 0) (own_rm21_1 l Z a0 hw [] arr ka x0 cs h0 n0 Z0 O0 V_a hn0 hcs S_cs) hZ (hw _ (List.mem_of_getElem? (i := 95) rfl)) (hw _ (List.mem_of_getElem? (i := 81) rfl)) (by decide) (by decide)) (g := (mkF m 33 #[.val (.ref arr), .val (.int (46 : Int32)), .val (.int (0 : Int32)), .val (.int (1 : Int32))] [(.int (1 : Int32)), (.int (0 : Int32)), (.int (46 : Int32)), (.ref arr)])) rfl (by rw [hml]; rfl) (argsL := [(.ref arr), (.int (46 : Int32)), (.int (0 : Int32)), (.int (1 : Int32))]) (rest := []) (lenOf own_pd7 rfl) rfl (by show 2 * 0 + _ ≤ _; exact Nat.le_of_eq rfl) (hb hby own_d17_33) (fun _ _ => ⟨rfl, e4, (by decide : 0 + 0 ≤ _), (by decide : 0 + 0 ≤ _)⟩)
  dsimp only [Pt.U, Pt.locs, Pt.cells, Pt.slots] at X5 l5 y5 z5 st5 hQ5
  subst l5 y5 z5
  obtain ⟨rfl, N5q, e5⟩ := hQ5
  have N5 := Fr.app N4 N5q
  refine own_st (T' := T5) (g' := (mkF m 36 #[.val (.ref arr), .val (.int (46 : Int32)), .val (.int (0 : Int32)), .val (.int (1 : Int32))] [(.int (-1 : Int32))])) st5 ?_
  exact own_retI X5 hx Bd (hb hby own_d17_36) e5 (⟨rfl, N5, rfl⟩) (by decide) (by decide)
def own_r17_2 : Room := { frames := 1, cells := 0, slots := 0, locals := 17 }
theorem own_ef17_2 (m : MethodId) (x0 : Addr) : entryFrame m #[(.ref x0), (.int (46 : Int32)), (.int (0 : Int32)), (.int (2 : Int32))] 4 = mkF m 0 #[.val (.ref x0), .val (.int (46 : Int32)), .val (.int (0 : Int32)), .val (.int (2 : Int32))] [] := by first | (simp [entryFrame, mkF, argsToLocals, Value.category]; done) | rfl
def own_Q17_2 (Z : State) (arr : Addr) (ka : ClassId) (x0 x1 : Int32) (cs : Int32) (h0 : Heap) (n0 : Nat) : Option Value → Heap → List Loc → Prop := fun v h L => v = some (.int (-1 : Int32)) ∧ Fr n0 L ∧ h = h0
set_option maxRecDepth 65536 in
set_option maxHeartbeats 40000000 in
theorem own_rm17_2 (l : Launch) (Z : State) (a0 : Array Value) (hw : ∀ d ∈ tables_1, d.before a0 Z = true) (ws : List Jvm.Cond) (arr : Addr) (ka : ClassId) (x0 x1 : Int32) (cs : Int32) (h0 : Heap) (n0 : Nat) (Z0 : n0 ≤ h0.size) (O0 : Old Z n0 h0) (V_a : Arv Z h0 arr ka .byte (2 : Int32) [(.int x0), (.int x1)] (.int (0 : Int32))) (hn0 : ¬ x0 = (46 : Int32)) (hn1 : ¬ x1 = (46 : Int32)) (hcs : ¬ cs = (0 : Int32)) (S_cs : Sta Z Z.heap "java/lang/String" "COMPACT_STRINGS" "Z" (.int cs)) :
    MetFree l (⟨"java/lang/StringLatin1", "indexOf", "([BIII)I"⟩ : MethodName) (head1 (Jvm.Cond.code (⟨"java/lang/StringLatin1", "indexOf", "([BIII)I"⟩ : MethodName) jdk_43_method_22_code 4 (some .int) :: ws) own_r17_2) (fun a_ U_ => a_ = #[(.ref arr), (.int (46 : Int32)), (.int (0 : Int32)), (.int (2 : Int32))] ∧ Z.Warmed39 U_.vm ∧ U_.heap = h0) (fun _ _ _ _ _ => True) (fun _ U_ o_ U'_ => ∃ v_ L_, o_ = .returned v_ ∧ own_Q17_2 Z arr  ka  x0 x1  cs  h0 n0 v_ U'_.heap L_ ∧ FrameEnd U_ o_ U'_ L_ own_r17_2.cells own_r17_2.slots) := by
  refine MetFree.of_bodySF (plainFor_of_name own_pn3) hisR ?_
  intro p e s m args below meth c s₁ Bd hml0 hP hK
  obtain ⟨rfl, hZ, hh⟩ := hP
  have hx := Bd.exec
  have hby := Bd.bytes
  have hml : c.maxLocals = 4 := hml0
  have hown : s.vm.findClass "java/lang/StringLatin1" = some m.cls := findClass_of_methodNamed Bd.named
  have hnm := (name_of_methodNamed Bd.named Bd.method).1
  have X0 : Stand p l e own_r17_2 s m #[(.ref arr), (.int (46 : Int32)), (.int (0 : Int32)), (.int (2 : Int32))] below meth c s₁ [] 0 0 := Stand.of_body Bd
  have e0 : s₁.heap = h0 := by rw [← hh, Bd.state]; rfl
  have N0 := Fr.nil n0
  refine own_in (own_ef17_2 m arr) ?_
  show own_Go p e below (own_K s (own_Q17_2 Z arr  ka  x0 x1  cs  h0 n0) own_r17_2.cells own_r17_2.slots) s₁ (mkF m 0 #[.val (.ref arr), .val (.int (46 : Int32)), .val (.int (0 : Int32)), .val (.int (2 : Int32))] [])
  refine own_st (T' := s₁) (g' := (mkF m 1 #[.val (.ref arr), .val (.int (46 : Int32)), .val (.int (0 : Int32)), .val (.int (2 : Int32))] [(.int (46 : Int32))])) (fun t k => ?_) ?_
  · show Steps p.tables e below (s₁.setTop (mkF m 0 #[.val (.ref arr), .val (.int (46 : Int32)), .val (.int (0 : Int32)), .val (.int (2 : Int32))] [])) t
    refine XS.iloadN X0.here hx rfl (hb hby own_d17_0) rfl ?_
    exact k
  obtain ⟨_, _, ⟨T1, L1, c1, n1⟩, -, X1, ⟨Lc1, hQ1, l1, y1, z1⟩, st1⟩ := Jvm.LawKit.callS X0 hx (y := (⟨"java/lang/StringLatin1", "canEncode", "(I)Z"⟩ : MethodName)) hown (mvT hZ (hw _ (List.mem_of_getElem? (i := 83) rfl))) (mvT hZ (hw _ (List.mem_of_getElem? (i := 84) rfl))) (mvT hZ (hw _ (List.mem_of_getElem? (i := 81) rfl))) (mvT hZ (hw _ (List.mem_of_getElem? (i := 85) rfl))) (by decide) (backOf (W := 0) (own_rm18 l Z a0 hw []  cs h0 n0 Z0 O0  hcs S_cs) hZ (hw _ (List.mem_of_getElem? (i := 85) rfl)) (hw _ (List.mem_of_getElem? (i := 81) rfl)) (by decide) (by decide)) (g := (mkF m 1 #[.val (.ref arr), .val (.int (46 : Int32)), .val (.int (0 : Int32)), .val (.int (2 : Int32))] [(.int (46 : Int32))])) rfl (by rw [hml]; rfl) (argsL := [(.int (46 : Int32))]) (rest := []) (lenOf own_pd5 rfl) rfl (by show 2 * 0 + _ ≤ _; exact Nat.le_of_eq rfl) (hb hby own_d17_1) (fun _ _ => ⟨rfl, e0, (by decide : 0 + 0 ≤ _), (by decide : 0 + 0 ≤ _)⟩)
  dsimp only [Pt.U, Pt.locs, Pt.cells, Pt.slots] at X1 l1 y1 z1 st1 hQ1
  subst l1 y1 z1
  obtain ⟨rfl, N1q, e1⟩ := hQ1
  have N1 := Fr.app N0 N1q
  refine own_st (T' := T1) (g' := (mkF m 4 #[.val (.ref arr), .val (.int (46 : Int32)), .val (.int (0 : Int32)), .val (.int (2 : Int32))] [(.int (1 : Int32))])) st1 ?_
  refine own_st (T' := T1) (g' := (mkF m 11 #[.val (.ref arr), .val (.int (46 : Int32)), .val (.int (0 : Int32)), .val (.int (2 : Int32))] [(.int (0 : Int32)), (.int (0 : Int32))])) (fun t k => ?_) ?_
  · show Steps p.tables e below (T1.setTop (mkF m 4 #[.val (.ref arr), .val (.int (46 : Int32)), .val (.int (0 : Int32)), .val (.int (2 : Int32))] [(.int (1 : Int32))])) t
    refine XS.ifYes X1.here hx rfl (pc0 := 4) (pc' := 9) rfl (hb hby own_d17_4) rfl ((if0 _ _).trans (feq (by decide : ¬ ((1 : Int32) = (0 : Int32)))).2) (by decide) (by decide) ?_
    refine XS.iloadN X1.here hx rfl (hb hby own_d17_9) rfl ?_
    refine XS.iconst X1.here hx rfl (hb hby own_d17_10) ?_
    exact k
  obtain ⟨_, _, ⟨T2, L2, c2, n2⟩, -, X2, ⟨Lc2, hQ2, l2, y2, z2⟩, st2⟩ := Jvm.LawKit.callS X1 hx (y := (⟨"java/lang/Math", "max", "(II)I"⟩ : MethodName)) hown (mvT hZ (hw _ (List.mem_of_getElem? (i := 86) rfl))) (mvT hZ (hw _ (List.mem_of_getElem? (i := 87) rfl))) (mvT hZ (hw _ (List.mem_of_getElem? (i := 88) rfl))) (mvT hZ (hw _ (List.mem_of_getElem? (i := 89) rfl))) (by decide) (backOf (W := 0) (own_rm19_0 l Z a0 hw []  cs h0 n0 Z0 O0  hcs S_cs) hZ (hw _ (List.mem_of_getElem? (i := 89) rfl)) (hw _ (List.mem_of_getElem? (i := 88) rfl)) (by decide) (by decide)) (g := (mkF m 11 #[.val (.ref arr), .val (.int (46 : Int32)), .val (.int (0 : Int32)), .val (.int (2 : Int32))] [(.int (0 : Int32)), (.int (0 : Int32))])) rfl (by rw [hml]; rfl) (argsL := [(.int (0 : Int32)), (.int (0 : Int32))]) (rest := []) (lenOf own_pd6 rfl) rfl (by show 2 * 0 + _ ≤ _; exact Nat.le_of_eq rfl) (hb hby own_d17_11) (fun _ _ => ⟨rfl, e1, (by decide : 0 + 0 ≤ _), (by decide : 0 + 0 ≤ _)⟩)
  dsimp only [Pt.U, Pt.locs, Pt.cells, Pt.slots] at X2 l2 y2 z2 st2 hQ2
  subst l2 y2 z2
  obtain ⟨rfl, N2q, e2⟩ := hQ2
  have N2 := Fr.app N1 N2q
  refine own_st (T' := T2) (g' := (mkF m 14 #[.val (.ref arr), .val (.int (46 : Int32)), .val (.int (0 : Int32)), .val (.int (2 : Int32))] [(.int (0 : Int32))])) st2 ?_
  refine own_st (T' := T2) (g' := (mkF m 17 #[.val (.ref arr), .val (.int (46 : Int32)), .val (.int (0 : Int32)), .val (.int (2 : Int32))] [(.ref arr), (.int (2 : Int32))])) (fun t k => ?_) ?_
  · show Steps p.tables e below (T2.setTop (mkF m 14 #[.val (.ref arr), .val (.int (46 : Int32)), .val (.int (0 : Int32)), .val (.int (2 : Int32))] [(.int (0 : Int32))])) t
    refine XS.istoreN X2.here hx rfl (hb hby own_d17_14) rfl (l' := #[.val (.ref arr), .val (.int (46 : Int32)), .val (.int (0 : Int32)), .val (.int (2 : Int32))]) rfl ?_
    refine XS.iloadN X2.here hx rfl (hb hby own_d17_15) rfl ?_
    refine XS.aloadN X2.here hx rfl (hb hby own_d17_16) rfl rfl ?_
    exact k
  obtain ⟨cl3, Ar3, q3, S3, M3, H3, G3⟩ := id V_a
  refine own_st (T' := T2) (g' := (mkF m 18 #[.val (.ref arr), .val (.int (46 : Int32)), .val (.int (0 : Int32)), .val (.int (2 : Int32))] [(.int (2 : Int32)), (.int (2 : Int32))])) (fun t k => ?_) ?_
  · show Steps p.tables e below (T2.setTop (mkF m 17 #[.val (.ref arr), .val (.int (46 : Int32)), .val (.int (0 : Int32)), .val (.int (2 : Int32))] [(.ref arr), (.int (2 : Int32))])) t
    refine X2.arraylength hx (by rw [e2]; exact Ar3.1) (State.isArrayOf_alike hZ.alike Ar3.2.1) (g := (mkF m 17 #[.val (.ref arr), .val (.int (46 : Int32)), .val (.int (0 : Int32)), .val (.int (2 : Int32))] [(.ref arr), (.int (2 : Int32))])) rfl rfl (hb hby own_d17_17) _ ?_
    rw [len_of S3 M3]
    show Steps p.tables e below (T2.setTop (mkF m 18 #[.val (.ref arr), .val (.int (46 : Int32)), .val (.int (0 : Int32)), .val (.int (2 : Int32))] [(.int (2 : Int32)), (.int (2 : Int32))])) t
    exact k
  obtain ⟨_, _, ⟨T4, L4, c4, n4⟩, -, X4, ⟨Lc4, hQ4, l4, y4, z4⟩, st4⟩ := Jvm.LawKit.callS X2 hx (y := (⟨"java/lang/Math", "min", "(II)I"⟩ : MethodName)) hown (mvT hZ (hw _ (List.mem_of_getElem? (i := 90) rfl))) (mvT hZ (hw _ (List.mem_of_getElem? (i := 91) rfl))) (mvT hZ (hw _ (List.mem_of_getElem? (i := 88) rfl))) (mvT hZ (hw _ (List.mem_of_getElem? (i := 92) rfl))) (by decide) (backOf (W := 0) (own_rm20_2 l Z a0 hw []  cs h0 n0 Z0 O0  hcs S_cs) hZ (hw _ (List.mem_of_getElem? (i := 92) rfl)) (hw _ (List.mem_of_getElem? (i := 88) rfl)) (by decide) (by decide)) (g := (mkF m 18 #[.val (.ref arr), .val (.int (46 : Int32)), .val (.int (0 : Int32)), .val (.int (2 : Int32))] [(.int (2 : Int32)), (.int (2 : Int32))])) rfl (by rw [hml]; rfl) (argsL := [(.int (2 : Int32)), (.int (2 : Int32))]) (rest := []) (lenOf own_pd6 rfl) rfl (by show 2 * 0 + _ ≤ _; exact Nat.le_of_eq rfl) (hb hby own_d17_18) (fun _ _ => ⟨rfl, e2, (by decide : 0 + 0 ≤ _), (by decide : 0 + 0 ≤ _)⟩)
  dsimp only [Pt.U, Pt.locs, Pt.cells, Pt.slots] at X4 l4 y4 z4 st4 hQ4
  subst l4 y4 z4
  obtain ⟨rfl, N4q, e4⟩ := hQ4
  have N4 := Fr.app N2 N4q
  refine own_st (T' := T4) (g' := (mkF m 21 #[.val (.ref arr), .val (.int (46 : Int32)), .val (.int (0 : Int32)), .val (.int (2 : Int32))] [(.int (2 : Int32))])) st4 ?_
  refine own_st (T' := T4) (g' := (mkF m 33 #[.val (.ref arr), .val (.int (46 : Int32)), .val (.int (0 : Int32)), .val (.int (2 : Int32))] [(.int (2 : Int32)), (.int (0 : Int32)), (.int (46 : Int32)), (.ref arr)])) (fun t k => ?_) ?_
  · show Steps p.tables e below (T4.setTop (mkF m 21 #[.val (.ref arr), .val (.int (46 : Int32)), .val (.int (0 : Int32)), .val (.int (2 : Int32))] [(.int (2 : Int32))])) t
    refine XS.istoreN X4.here hx rfl (hb hby own_d17_21) rfl (l' := #[.val (.ref arr), .val (.int (46 : Int32)), .val (.int (0 : Int32)), .val (.int (2 : Int32))]) rfl ?_
    refine XS.iloadN X4.here hx rfl (hb hby own_d17_22) rfl ?_
    refine XS.iloadN X4.here hx rfl (hb hby own_d17_23) rfl ?_
    refine XS.icmpYes X4.here hx rfl (pc0 := 24) (pc' := 29) rfl (hb hby own_d17_24) rfl (tlt (by decide : (0 : Int32) < (2 : Int32))).1 (by decide) (by decide) ?_
    refine XS.aloadN X4.here hx rfl (hb hby own_d17_29) rfl rfl ?_
    refine XS.iloadN X4.here hx rfl (hb hby own_d17_30) rfl ?_
    refine XS.iloadN X4.here hx rfl (hb hby own_d17_31) rfl ?_
    refine XS.iloadN X4.here hx rfl (hb hby own_d17_32) rfl ?_
    exact k
  obtain ⟨_, _, ⟨T5, L5, c5, n5⟩, -, X5, ⟨Lc5, hQ5, l5, y5, z5⟩, st5⟩ := Jvm.LawKit.callS X4 hx (y := (⟨"java/lang/StringLatin1", "indexOfChar", "([BIII)I"⟩ : MethodName)) hown (mvT hZ (hw _ (List.mem_of_getElem? (i := 93) rfl))) (mvT hZ (hw _ (List.mem_of_getElem? (i := 94) rfl))) (mvT hZ (hw _ (List.mem_of_getElem? (i := 81) rfl))) (mvT hZ (hw _ (List.mem_of_getElem? (i := 95) rfl))) (by decide) (backOf (W := 0) (own_rm21_2 l Z a0 hw [] arr ka x0 x1 cs h0 n0 Z0 O0 V_a hn0 hn1 hcs S_cs) hZ (hw _ (List.mem_of_getElem? (i := 95) rfl)) (hw _ (List.mem_of_getElem? (i := 81) rfl)) (by decide) (by decide)) (g := (mkF m 33 #[.val (.ref arr), .val (.int (46 : Int32)), .val (.int (0 : Int32)), .val (.int (2 : Int32))] [(.int (2 : Int32)), (.int (0 : Int32)), (.int (46 : Int32)), (.ref arr)])) rfl (by rw [hml]; rfl) (argsL := [(.ref arr), (.int (46 : Int32)), (.int (0 : Int32)), (.int (2 : Int32))]) (rest := []) (lenOf own_pd7 rfl) rfl (by show 2 * 0 + _ ≤ _; exact Nat.le_of_eq rfl) (hb hby own_d17_33) (fun _ _ => ⟨rfl, e4, (by decide : 0 + 0 ≤ _), (by decide : 0 + 0 ≤ _)⟩)
  dsimp only [Pt.U, Pt.locs, Pt.cells, Pt.slots] at X5 l5 y5 z5 st5 hQ5
  subst l5 y5 z5
  obtain ⟨rfl, N5q, e5⟩ := hQ5
  have N5 := Fr.app N4 N5q
  refine own_st (T' := T5) (g' := (mkF m 36 #[.val (.ref arr), .val (.int (46 : Int32)), .val (.int (0 : Int32)), .val (.int (2 : Int32))] [(.int (-1 : Int32))])) st5 ?_
  exact own_retI X5 hx Bd (hb hby own_d17_36) e5 (⟨rfl, N5, rfl⟩) (by decide) (by decide)
def own_r17_3 : Room := { frames := 1, cells := 0, slots := 0, locals := 17 }
theorem own_ef17_3 (m : MethodId) (x0 : Addr) : entryFrame m #[(.ref x0), (.int (46 : Int32)), (.int (0 : Int32)), (.int (3 : Int32))] 4 = mkF m 0 #[.val (.ref x0), .val (.int (46 : Int32)), .val (.int (0 : Int32)), .val (.int (3 : Int32))] [] := by first | (simp [entryFrame, mkF, argsToLocals, Value.category]; done) | rfl
def own_Q17_3 (Z : State) (arr : Addr) (ka : ClassId) (x0 x1 x2 : Int32) (cs : Int32) (h0 : Heap) (n0 : Nat) : Option Value → Heap → List Loc → Prop := fun v h L => v = some (.int (-1 : Int32)) ∧ Fr n0 L ∧ h = h0
set_option maxRecDepth 65536 in
set_option maxHeartbeats 40000000 in
theorem own_rm17_3 (l : Launch) (Z : State) (a0 : Array Value) (hw : ∀ d ∈ tables_1, d.before a0 Z = true) (ws : List Jvm.Cond) (arr : Addr) (ka : ClassId) (x0 x1 x2 : Int32) (cs : Int32) (h0 : Heap) (n0 : Nat) (Z0 : n0 ≤ h0.size) (O0 : Old Z n0 h0) (V_a : Arv Z h0 arr ka .byte (3 : Int32) [(.int x0), (.int x1), (.int x2)] (.int (0 : Int32))) (hn0 : ¬ x0 = (46 : Int32)) (hn1 : ¬ x1 = (46 : Int32)) (hn2 : ¬ x2 = (46 : Int32)) (hcs : ¬ cs = (0 : Int32)) (S_cs : Sta Z Z.heap "java/lang/String" "COMPACT_STRINGS" "Z" (.int cs)) :
    MetFree l (⟨"java/lang/StringLatin1", "indexOf", "([BIII)I"⟩ : MethodName) (head1 (Jvm.Cond.code (⟨"java/lang/StringLatin1", "indexOf", "([BIII)I"⟩ : MethodName) jdk_43_method_22_code 4 (some .int) :: ws) own_r17_3) (fun a_ U_ => a_ = #[(.ref arr), (.int (46 : Int32)), (.int (0 : Int32)), (.int (3 : Int32))] ∧ Z.Warmed39 U_.vm ∧ U_.heap = h0) (fun _ _ _ _ _ => True) (fun _ U_ o_ U'_ => ∃ v_ L_, o_ = .returned v_ ∧ own_Q17_3 Z arr  ka  x0 x1 x2  cs  h0 n0 v_ U'_.heap L_ ∧ FrameEnd U_ o_ U'_ L_ own_r17_3.cells own_r17_3.slots) := by
  refine MetFree.of_bodySF (plainFor_of_name own_pn3) hisR ?_
  intro p e s m args below meth c s₁ Bd hml0 hP hK
  obtain ⟨rfl, hZ, hh⟩ := hP
  have hx := Bd.exec
  have hby := Bd.bytes
  have hml : c.maxLocals = 4 := hml0
  have hown : s.vm.findClass "java/lang/StringLatin1" = some m.cls := findClass_of_methodNamed Bd.named
  have hnm := (name_of_methodNamed Bd.named Bd.method).1
  have X0 : Stand p l e own_r17_3 s m #[(.ref arr), (.int (46 : Int32)), (.int (0 : Int32)), (.int (3 : Int32))] below meth c s₁ [] 0 0 := Stand.of_body Bd
  have e0 : s₁.heap = h0 := by rw [← hh, Bd.state]; rfl
  have N0 := Fr.nil n0
  refine own_in (own_ef17_3 m arr) ?_
  show own_Go p e below (own_K s (own_Q17_3 Z arr  ka  x0 x1 x2  cs  h0 n0) own_r17_3.cells own_r17_3.slots) s₁ (mkF m 0 #[.val (.ref arr), .val (.int (46 : Int32)), .val (.int (0 : Int32)), .val (.int (3 : Int32))] [])
  refine own_st (T' := s₁) (g' := (mkF m 1 #[.val (.ref arr), .val (.int (46 : Int32)), .val (.int (0 : Int32)), .val (.int (3 : Int32))] [(.int (46 : Int32))])) (fun t k => ?_) ?_
  · show Steps p.tables e below (s₁.setTop (mkF m 0 #[.val (.ref arr), .val (.int (46 : Int32)), .val (.int (0 : Int32)), .val (.int (3 : Int32))] [])) t
    refine XS.iloadN X0.here hx rfl (hb hby own_d17_0) rfl ?_
    exact k
  obtain ⟨_, _, ⟨T1, L1, c1, n1⟩, -, X1, ⟨Lc1, hQ1, l1, y1, z1⟩, st1⟩ := Jvm.LawKit.callS X0 hx (y := (⟨"java/lang/StringLatin1", "canEncode", "(I)Z"⟩ : MethodName)) hown (mvT hZ (hw _ (List.mem_of_getElem? (i := 83) rfl))) (mvT hZ (hw _ (List.mem_of_getElem? (i := 84) rfl))) (mvT hZ (hw _ (List.mem_of_getElem? (i := 81) rfl))) (mvT hZ (hw _ (List.mem_of_getElem? (i := 85) rfl))) (by decide) (backOf (W := 0) (own_rm18 l Z a0 hw []  cs h0 n0 Z0 O0  hcs S_cs) hZ (hw _ (List.mem_of_getElem? (i := 85) rfl)) (hw _ (List.mem_of_getElem? (i := 81) rfl)) (by decide) (by decide)) (g := (mkF m 1 #[.val (.ref arr), .val (.int (46 : Int32)), .val (.int (0 : Int32)), .val (.int (3 : Int32))] [(.int (46 : Int32))])) rfl (by rw [hml]; rfl) (argsL := [(.int (46 : Int32))]) (rest := []) (lenOf own_pd5 rfl) rfl (by show 2 * 0 + _ ≤ _; exact Nat.le_of_eq rfl) (hb hby own_d17_1) (fun _ _ => ⟨rfl, e0, (by decide : 0 + 0 ≤ _), (by decide : 0 + 0 ≤ _)⟩)
  dsimp only [Pt.U, Pt.locs, Pt.cells, Pt.slots] at X1 l1 y1 z1 st1 hQ1
  subst l1 y1 z1
  obtain ⟨rfl, N1q, e1⟩ := hQ1
  have N1 := Fr.app N0 N1q
  refine own_st (T' := T1) (g' := (mkF m 4 #[.val (.ref arr), .val (.int (46 : Int32)), .val (.int (0 : Int32)), .val (.int (3 : Int32))] [(.int (1 : Int32))])) st1 ?_
  refine own_st (T' := T1) (g' := (mkF m 11 #[.val (.ref arr), .val (.int (46 : Int32)), .val (.int (0 : Int32)), .val (.int (3 : Int32))] [(.int (0 : Int32)), (.int (0 : Int32))])) (fun t k => ?_) ?_
  · show Steps p.tables e below (T1.setTop (mkF m 4 #[.val (.ref arr), .val (.int (46 : Int32)), .val (.int (0 : Int32)), .val (.int (3 : Int32))] [(.int (1 : Int32))])) t
    refine XS.ifYes X1.here hx rfl (pc0 := 4) (pc' := 9) rfl (hb hby own_d17_4) rfl ((if0 _ _).trans (feq (by decide : ¬ ((1 : Int32) = (0 : Int32)))).2) (by decide) (by decide) ?_
    refine XS.iloadN X1.here hx rfl (hb hby own_d17_9) rfl ?_
    refine XS.iconst X1.here hx rfl (hb hby own_d17_10) ?_
    exact k
  obtain ⟨_, _, ⟨T2, L2, c2, n2⟩, -, X2, ⟨Lc2, hQ2, l2, y2, z2⟩, st2⟩ := Jvm.LawKit.callS X1 hx (y := (⟨"java/lang/Math", "max", "(II)I"⟩ : MethodName)) hown (mvT hZ (hw _ (List.mem_of_getElem? (i := 86) rfl))) (mvT hZ (hw _ (List.mem_of_getElem? (i := 87) rfl))) (mvT hZ (hw _ (List.mem_of_getElem? (i := 88) rfl))) (mvT hZ (hw _ (List.mem_of_getElem? (i := 89) rfl))) (by decide) (backOf (W := 0) (own_rm19_0 l Z a0 hw []  cs h0 n0 Z0 O0  hcs S_cs) hZ (hw _ (List.mem_of_getElem? (i := 89) rfl)) (hw _ (List.mem_of_getElem? (i := 88) rfl)) (by decide) (by decide)) (g := (mkF m 11 #[.val (.ref arr), .val (.int (46 : Int32)), .val (.int (0 : Int32)), .val (.int (3 : Int32))] [(.int (0 : Int32)), (.int (0 : Int32))])) rfl (by rw [hml]; rfl) (argsL := [(.int (0 : Int32)), (.int (0 : Int32))]) (rest := []) (lenOf own_pd6 rfl) rfl (by show 2 * 0 + _ ≤ _; exact Nat.le_of_eq rfl) (hb hby own_d17_11) (fun _ _ => ⟨rfl, e1, (by decide : 0 + 0 ≤ _), (by decide : 0 + 0 ≤ _)⟩)
  dsimp only [Pt.U, Pt.locs, Pt.cells, Pt.slots] at X2 l2 y2 z2 st2 hQ2
  subst l2 y2 z2
  obtain ⟨rfl, N2q, e2⟩ := hQ2
  have N2 := Fr.app N1 N2q
  refine own_st (T' := T2) (g' := (mkF m 14 #[.val (.ref arr), .val (.int (46 : Int32)), .val (.int (0 : Int32)), .val (.int (3 : Int32))] [(.int (0 : Int32))])) st2 ?_
  refine own_st (T' := T2) (g' := (mkF m 17 #[.val (.ref arr), .val (.int (46 : Int32)), .val (.int (0 : Int32)), .val (.int (3 : Int32))] [(.ref arr), (.int (3 : Int32))])) (fun t k => ?_) ?_
  · show Steps p.tables e below (T2.setTop (mkF m 14 #[.val (.ref arr), .val (.int (46 : Int32)), .val (.int (0 : Int32)), .val (.int (3 : Int32))] [(.int (0 : Int32))])) t
    refine XS.istoreN X2.here hx rfl (hb hby own_d17_14) rfl (l' := #[.val (.ref arr), .val (.int (46 : Int32)), .val (.int (0 : Int32)), .val (.int (3 : Int32))]) rfl ?_
    refine XS.iloadN X2.here hx rfl (hb hby own_d17_15) rfl ?_
    refine XS.aloadN X2.here hx rfl (hb hby own_d17_16) rfl rfl ?_
    exact k
  obtain ⟨cl3, Ar3, q3, S3, M3, H3, G3⟩ := id V_a
  refine own_st (T' := T2) (g' := (mkF m 18 #[.val (.ref arr), .val (.int (46 : Int32)), .val (.int (0 : Int32)), .val (.int (3 : Int32))] [(.int (3 : Int32)), (.int (3 : Int32))])) (fun t k => ?_) ?_
  · show Steps p.tables e below (T2.setTop (mkF m 17 #[.val (.ref arr), .val (.int (46 : Int32)), .val (.int (0 : Int32)), .val (.int (3 : Int32))] [(.ref arr), (.int (3 : Int32))])) t
    refine X2.arraylength hx (by rw [e2]; exact Ar3.1) (State.isArrayOf_alike hZ.alike Ar3.2.1) (g := (mkF m 17 #[.val (.ref arr), .val (.int (46 : Int32)), .val (.int (0 : Int32)), .val (.int (3 : Int32))] [(.ref arr), (.int (3 : Int32))])) rfl rfl (hb hby own_d17_17) _ ?_
    rw [len_of S3 M3]
    show Steps p.tables e below (T2.setTop (mkF m 18 #[.val (.ref arr), .val (.int (46 : Int32)), .val (.int (0 : Int32)), .val (.int (3 : Int32))] [(.int (3 : Int32)), (.int (3 : Int32))])) t
    exact k
  obtain ⟨_, _, ⟨T4, L4, c4, n4⟩, -, X4, ⟨Lc4, hQ4, l4, y4, z4⟩, st4⟩ := Jvm.LawKit.callS X2 hx (y := (⟨"java/lang/Math", "min", "(II)I"⟩ : MethodName)) hown (mvT hZ (hw _ (List.mem_of_getElem? (i := 90) rfl))) (mvT hZ (hw _ (List.mem_of_getElem? (i := 91) rfl))) (mvT hZ (hw _ (List.mem_of_getElem? (i := 88) rfl))) (mvT hZ (hw _ (List.mem_of_getElem? (i := 92) rfl))) (by decide) (backOf (W := 0) (own_rm20_3 l Z a0 hw []  cs h0 n0 Z0 O0  hcs S_cs) hZ (hw _ (List.mem_of_getElem? (i := 92) rfl)) (hw _ (List.mem_of_getElem? (i := 88) rfl)) (by decide) (by decide)) (g := (mkF m 18 #[.val (.ref arr), .val (.int (46 : Int32)), .val (.int (0 : Int32)), .val (.int (3 : Int32))] [(.int (3 : Int32)), (.int (3 : Int32))])) rfl (by rw [hml]; rfl) (argsL := [(.int (3 : Int32)), (.int (3 : Int32))]) (rest := []) (lenOf own_pd6 rfl) rfl (by show 2 * 0 + _ ≤ _; exact Nat.le_of_eq rfl) (hb hby own_d17_18) (fun _ _ => ⟨rfl, e2, (by decide : 0 + 0 ≤ _), (by decide : 0 + 0 ≤ _)⟩)
  dsimp only [Pt.U, Pt.locs, Pt.cells, Pt.slots] at X4 l4 y4 z4 st4 hQ4
  subst l4 y4 z4
  obtain ⟨rfl, N4q, e4⟩ := hQ4
  have N4 := Fr.app N2 N4q
  refine own_st (T' := T4) (g' := (mkF m 21 #[.val (.ref arr), .val (.int (46 : Int32)), .val (.int (0 : Int32)), .val (.int (3 : Int32))] [(.int (3 : Int32))])) st4 ?_
  refine own_st (T' := T4) (g' := (mkF m 33 #[.val (.ref arr), .val (.int (46 : Int32)), .val (.int (0 : Int32)), .val (.int (3 : Int32))] [(.int (3 : Int32)), (.int (0 : Int32)), (.int (46 : Int32)), (.ref arr)])) (fun t k => ?_) ?_
  · show Steps p.tables e below (T4.setTop (mkF m 21 #[.val (.ref arr), .val (.int (46 : Int32)), .val (.int (0 : Int32)), .val (.int (3 : Int32))] [(.int (3 : Int32))])) t
    refine XS.istoreN X4.here hx rfl (hb hby own_d17_21) rfl (l' := #[.val (.ref arr), .val (.int (46 : Int32)), .val (.int (0 : Int32)), .val (.int (3 : Int32))]) rfl ?_
    refine XS.iloadN X4.here hx rfl (hb hby own_d17_22) rfl ?_
    refine XS.iloadN X4.here hx rfl (hb hby own_d17_23) rfl ?_
    refine XS.icmpYes X4.here hx rfl (pc0 := 24) (pc' := 29) rfl (hb hby own_d17_24) rfl (tlt (by decide : (0 : Int32) < (3 : Int32))).1 (by decide) (by decide) ?_
    refine XS.aloadN X4.here hx rfl (hb hby own_d17_29) rfl rfl ?_
    refine XS.iloadN X4.here hx rfl (hb hby own_d17_30) rfl ?_
    refine XS.iloadN X4.here hx rfl (hb hby own_d17_31) rfl ?_
    refine XS.iloadN X4.here hx rfl (hb hby own_d17_32) rfl ?_
    exact k
  obtain ⟨_, _, ⟨T5, L5, c5, n5⟩, -, X5, ⟨Lc5, hQ5, l5, y5, z5⟩, st5⟩ := Jvm.LawKit.callS X4 hx (y := (⟨"java/lang/StringLatin1", "indexOfChar", "([BIII)I"⟩ : MethodName)) hown (mvT hZ (hw _ (List.mem_of_getElem? (i := 93) rfl))) (mvT hZ (hw _ (List.mem_of_getElem? (i := 94) rfl))) (mvT hZ (hw _ (List.mem_of_getElem? (i := 81) rfl))) (mvT hZ (hw _ (List.mem_of_getElem? (i := 95) rfl))) (by decide) (backOf (W := 0) (own_rm21_3 l Z a0 hw [] arr ka x0 x1 x2 cs h0 n0 Z0 O0 V_a hn0 hn1 hn2 hcs S_cs) hZ (hw _ (List.mem_of_getElem? (i := 95) rfl)) (hw _ (List.mem_of_getElem? (i := 81) rfl)) (by decide) (by decide)) (g := (mkF m 33 #[.val (.ref arr), .val (.int (46 : Int32)), .val (.int (0 : Int32)), .val (.int (3 : Int32))] [(.int (3 : Int32)), (.int (0 : Int32)), (.int (46 : Int32)), (.ref arr)])) rfl (by rw [hml]; rfl) (argsL := [(.ref arr), (.int (46 : Int32)), (.int (0 : Int32)), (.int (3 : Int32))]) (rest := []) (lenOf own_pd7 rfl) rfl (by show 2 * 0 + _ ≤ _; exact Nat.le_of_eq rfl) (hb hby own_d17_33) (fun _ _ => ⟨rfl, e4, (by decide : 0 + 0 ≤ _), (by decide : 0 + 0 ≤ _)⟩)
  dsimp only [Pt.U, Pt.locs, Pt.cells, Pt.slots] at X5 l5 y5 z5 st5 hQ5
  subst l5 y5 z5
  obtain ⟨rfl, N5q, e5⟩ := hQ5
  have N5 := Fr.app N4 N5q
  refine own_st (T' := T5) (g' := (mkF m 36 #[.val (.ref arr), .val (.int (46 : Int32)), .val (.int (0 : Int32)), .val (.int (3 : Int32))] [(.int (-1 : Int32))])) st5 ?_
  exact own_retI X5 hx Bd (hb hby own_d17_36) e5 (⟨rfl, N5, rfl⟩) (by decide) (by decide)
def own_r13_0_1 : Room := { frames := 2, cells := 0, slots := 0, locals := 32 }
theorem own_ef13_0_1 (m : MethodId) (x0 : Addr) : entryFrame m #[(.ref x0), (.int (46 : Int32)), (.int (0 : Int32))] 3 = mkF m 0 #[.val (.ref x0), .val (.int (46 : Int32)), .val (.int (0 : Int32))] [] := by first | (simp [entryFrame, mkF, argsToLocals, Value.category]; done) | rfl
def own_Q13_0_1 (Z : State) (r arr : Addr) (ka : ClassId) (x0 : Int32) (cs : Int32) (h0 : Heap) (n0 : Nat) : Option Value → Heap → List Loc → Prop := fun v h L => v = some (.int (-1 : Int32)) ∧ Fr n0 L ∧ h = h0
set_option maxRecDepth 65536 in
set_option maxHeartbeats 40000000 in
theorem own_rm13_0_1 (l : Launch) (Z : State) (a0 : Array Value) (hw : ∀ d ∈ tables_1, d.before a0 Z = true) (ws : List Jvm.Cond) (r arr : Addr) (ka : ClassId) (x0 : Int32) (cs : Int32) (h0 : Heap) (n0 : Nat) (Z0 : n0 ≤ h0.size) (O0 : Old Z n0 h0) (E_r : Exa Z h0 r "java/lang/String") (F_v : Fld Z h0 r "java/lang/String" "value" "[B" (.ref arr)) (F_c : Fld Z h0 r "java/lang/String" "coder" "B" (.int (0 : Int32))) (V_a : Arv Z h0 arr ka .byte (1 : Int32) [(.int x0)] (.int (0 : Int32))) (hn0 : ¬ x0 = (46 : Int32)) (hcs : ¬ cs = (0 : Int32)) (S_cs : Sta Z Z.heap "java/lang/String" "COMPACT_STRINGS" "Z" (.int cs)) :
    MetFree l (⟨"java/lang/String", "indexOf", "(II)I"⟩ : MethodName) (head1 (Jvm.Cond.code (⟨"java/lang/String", "indexOf", "(II)I"⟩ : MethodName) jdk_42_method_80_code 3 (some .int) :: ws) own_r13_0_1) (fun a_ U_ => a_ = #[(.ref r), (.int (46 : Int32)), (.int (0 : Int32))] ∧ Z.Warmed39 U_.vm ∧ U_.heap = h0) (fun _ _ _ _ _ => True) (fun _ U_ o_ U'_ => ∃ v_ L_, o_ = .returned v_ ∧ own_Q13_0_1 Z r arr  ka  x0  cs  h0 n0 v_ U'_.heap L_ ∧ FrameEnd U_ o_ U'_ L_ own_r13_0_1.cells own_r13_0_1.slots) := by
  refine MetFree.of_bodySF (plainFor_of_name own_pn1) hisR ?_
  intro p e s m args below meth c s₁ Bd hml0 hP hK
  obtain ⟨rfl, hZ, hh⟩ := hP
  have hx := Bd.exec
  have hby := Bd.bytes
  have hml : c.maxLocals = 3 := hml0
  have hown : s.vm.findClass "java/lang/String" = some m.cls := findClass_of_methodNamed Bd.named
  have hnm := (name_of_methodNamed Bd.named Bd.method).1
  have X0 : Stand p l e own_r13_0_1 s m #[(.ref r), (.int (46 : Int32)), (.int (0 : Int32))] below meth c s₁ [] 0 0 := Stand.of_body Bd
  have e0 : s₁.heap = h0 := by rw [← hh, Bd.state]; rfl
  have N0 := Fr.nil n0
  refine own_in (own_ef13_0_1 m r) ?_
  show own_Go p e below (own_K s (own_Q13_0_1 Z r arr  ka  x0  cs  h0 n0) own_r13_0_1.cells own_r13_0_1.slots) s₁ (mkF m 0 #[.val (.ref r), .val (.int (46 : Int32)), .val (.int (0 : Int32))] [])
  refine own_st (T' := s₁) (g' := (mkF m 1 #[.val (.ref r), .val (.int (46 : Int32)), .val (.int (0 : Int32))] [(.ref r)])) (fun t k => ?_) ?_
  · show Steps p.tables e below (s₁.setTop (mkF m 0 #[.val (.ref r), .val (.int (46 : Int32)), .val (.int (0 : Int32))] [])) t
    refine XS.aloadN X0.here hx rfl (hb hby own_d13_0) rfl rfl ?_
    exact k
  obtain ⟨cq1, kq1, q1a, q1b, q1c⟩ := isOf hZ e0 E_r
  obtain ⟨_, _, ⟨T1, L1, c1, n1⟩, -, X1, ⟨Lc1, hQ1, l1, y1, z1⟩, st1⟩ := X0.virtualBack hx (y := (⟨"java/lang/String", "isLatin1", "()Z"⟩ : MethodName)) (z := (⟨"java/lang/String", "isLatin1", "()Z"⟩ : MethodName)) hown (mvT hZ (hw _ (List.mem_of_getElem? (i := 64) rfl))) (mvT hZ (hw _ (List.mem_of_getElem? (i := 65) rfl))) (notFace_of_selects (args := #[]) (mvT hZ (hw _ (List.mem_of_getElem? (i := 67) rfl)))) (mvT hZ (hw _ (List.mem_of_getElem? (i := 67) rfl))) (mvT hZ (hw _ (List.mem_of_getElem? (i := 66) rfl))) (by decide) (backOf (W := 0) (own_rm14_0_1 l Z a0 hw [] r arr ka x0  cs h0 n0 Z0 O0 E_r F_v F_c V_a  hcs S_cs) hZ (hw _ (List.mem_of_getElem? (i := 68) rfl)) (hw _ (List.mem_of_getElem? (i := 8) rfl)) (by decide) (by decide)) q1a q1c (g := (mkF m 1 #[.val (.ref r), .val (.int (46 : Int32)), .val (.int (0 : Int32))] [(.ref r)])) rfl (by rw [hml]; rfl) (Steps.refl _) (argsL := []) (rest := []) (lenOf own_pd8 rfl) rfl (by show 2 * 0 + _ ≤ _; exact Nat.le_of_eq rfl) (hb hby own_d13_1) (fun _ _ => ⟨rfl, e0, (by decide : 0 + 0 ≤ _), (by decide : 0 + 0 ≤ _)⟩)
  dsimp only [Pt.U, Pt.locs, Pt.cells, Pt.slots] at X1 l1 y1 z1 st1 hQ1
  subst l1 y1 z1
  obtain ⟨rfl, N1q, e1⟩ := hQ1
  have N1 := Fr.app N0 N1q
  refine own_tr (T' := T1) (g' := (mkF m 4 #[.val (.ref r), .val (.int (46 : Int32)), .val (.int (0 : Int32))] [(.int (1 : Int32))])) st1 ?_
  refine own_st (T' := T1) (g' := (mkF m 8 #[.val (.ref r), .val (.int (46 : Int32)), .val (.int (0 : Int32))] [(.ref r)])) (fun t k => ?_) ?_
  · show Steps p.tables e below (T1.setTop (mkF m 4 #[.val (.ref r), .val (.int (46 : Int32)), .val (.int (0 : Int32))] [(.int (1 : Int32))])) t
    refine XS.ifNo X1.here hx rfl (hb hby own_d13_4) rfl ((if0 _ _).trans (feq (by decide : ¬ ((1 : Int32) = (0 : Int32)))).1) ?_
    refine XS.aloadN X1.here hx rfl (hb hby own_d13_7) rfl rfl ?_
    exact k
  obtain ⟨T2, X2, e2, st2⟩ := getF X1 hx hZ hown (host := "") (Or.inl (hw _ (List.mem_of_getElem? (i := 33) rfl))) Via.refl e1 F_v (g := (mkF m 8 #[.val (.ref r), .val (.int (46 : Int32)), .val (.int (0 : Int32))] [(.ref r)])) rfl rfl (hb hby own_d13_8)
  refine own_st (T' := T2) (g' := (mkF m 11 #[.val (.ref r), .val (.int (46 : Int32)), .val (.int (0 : Int32))] [(.ref arr)])) st2 ?_
  refine own_st (T' := T2) (g' := (mkF m 14 #[.val (.ref r), .val (.int (46 : Int32)), .val (.int (0 : Int32))] [(.ref r), (.int (0 : Int32)), (.int (46 : Int32)), (.ref arr)])) (fun t k => ?_) ?_
  · show Steps p.tables e below (T2.setTop (mkF m 11 #[.val (.ref r), .val (.int (46 : Int32)), .val (.int (0 : Int32))] [(.ref arr)])) t
    refine XS.iloadN X2.here hx rfl (hb hby own_d13_11) rfl ?_
    refine XS.iloadN X2.here hx rfl (hb hby own_d13_12) rfl ?_
    refine XS.aloadN X2.here hx rfl (hb hby own_d13_13) rfl rfl ?_
    exact k
  obtain ⟨cq3, kq3, q3a, q3b, q3c⟩ := isOf hZ e2 E_r
  obtain ⟨_, _, ⟨T3, L3, c3, n3⟩, -, X3, ⟨Lc3, hQ3, l3, y3, z3⟩, st3⟩ := X2.virtualBack hx (y := (⟨"java/lang/String", "length", "()I"⟩ : MethodName)) (z := (⟨"java/lang/String", "length", "()I"⟩ : MethodName)) hown (mvT hZ (hw _ (List.mem_of_getElem? (i := 69) rfl))) (mvT hZ (hw _ (List.mem_of_getElem? (i := 70) rfl))) (notFace_of_selects (args := #[]) (mvT hZ (hw _ (List.mem_of_getElem? (i := 72) rfl)))) (mvT hZ (hw _ (List.mem_of_getElem? (i := 72) rfl))) (mvT hZ (hw _ (List.mem_of_getElem? (i := 71) rfl))) (by decide) (backOf (W := 3) (own_rm15_0_1 l Z a0 hw [] r arr ka x0  cs h0 n0 Z0 O0 E_r F_v F_c V_a  hcs S_cs) hZ (hw _ (List.mem_of_getElem? (i := 73) rfl)) (hw _ (List.mem_of_getElem? (i := 8) rfl)) (by decide) (by decide)) q3a q3c (g := (mkF m 14 #[.val (.ref r), .val (.int (46 : Int32)), .val (.int (0 : Int32))] [(.ref r), (.int (0 : Int32)), (.int (46 : Int32)), (.ref arr)])) rfl (by rw [hml]; rfl) (Steps.refl _) (argsL := []) (rest := [(.int (0 : Int32)), (.int (46 : Int32)), (.ref arr)]) (lenOf own_pd9 rfl) rfl (by show 2 * 0 + _ ≤ _; exact Nat.le_of_eq rfl) (hb hby own_d13_14) (fun _ _ => ⟨rfl, e2, (by decide : 0 + 0 ≤ _), (by decide : 0 + 0 ≤ _)⟩)
  dsimp only [Pt.U, Pt.locs, Pt.cells, Pt.slots] at X3 l3 y3 z3 st3 hQ3
  subst l3 y3 z3
  obtain ⟨rfl, N3q, e3⟩ := hQ3
  have N3 := Fr.app N1 N3q
  refine own_tr (T' := T3) (g' := (mkF m 17 #[.val (.ref r), .val (.int (46 : Int32)), .val (.int (0 : Int32))] [(.int (1 : Int32)), (.int (0 : Int32)), (.int (46 : Int32)), (.ref arr)])) st3 ?_
  obtain ⟨_, _, ⟨T4, L4, c4, n4⟩, -, X4, ⟨Lc4, hQ4, l4, y4, z4⟩, st4⟩ := Jvm.LawKit.callS X3 hx (y := (⟨"java/lang/StringLatin1", "indexOf", "([BIII)I"⟩ : MethodName)) hown (mvT hZ (hw _ (List.mem_of_getElem? (i := 79) rfl))) (mvT hZ (hw _ (List.mem_of_getElem? (i := 80) rfl))) (mvT hZ (hw _ (List.mem_of_getElem? (i := 81) rfl))) (mvT hZ (hw _ (List.mem_of_getElem? (i := 82) rfl))) (by decide) (backOf (W := 0) (own_rm17_1 l Z a0 hw [] arr ka x0 cs h0 n0 Z0 O0 V_a hn0 hcs S_cs) hZ (hw _ (List.mem_of_getElem? (i := 82) rfl)) (hw _ (List.mem_of_getElem? (i := 81) rfl)) (by decide) (by decide)) (g := (mkF m 17 #[.val (.ref r), .val (.int (46 : Int32)), .val (.int (0 : Int32))] [(.int (1 : Int32)), (.int (0 : Int32)), (.int (46 : Int32)), (.ref arr)])) rfl (by rw [hml]; rfl) (argsL := [(.ref arr), (.int (46 : Int32)), (.int (0 : Int32)), (.int (1 : Int32))]) (rest := []) (lenOf own_pd7 rfl) rfl (by show 2 * 0 + _ ≤ _; exact Nat.le_of_eq rfl) (hb hby own_d13_17) (fun _ _ => ⟨rfl, e3, (by decide : 0 + 0 ≤ _), (by decide : 0 + 0 ≤ _)⟩)
  dsimp only [Pt.U, Pt.locs, Pt.cells, Pt.slots] at X4 l4 y4 z4 st4 hQ4
  subst l4 y4 z4
  obtain ⟨rfl, N4q, e4⟩ := hQ4
  have N4 := Fr.app N3 N4q
  refine own_st (T' := T4) (g' := (mkF m 20 #[.val (.ref r), .val (.int (46 : Int32)), .val (.int (0 : Int32))] [(.int (-1 : Int32))])) st4 ?_
  refine own_st (T' := T4) (g' := (mkF m 36 #[.val (.ref r), .val (.int (46 : Int32)), .val (.int (0 : Int32))] [(.int (-1 : Int32))])) (fun t k => ?_) ?_
  · show Steps p.tables e below (T4.setTop (mkF m 20 #[.val (.ref r), .val (.int (46 : Int32)), .val (.int (0 : Int32))] [(.int (-1 : Int32))])) t
    refine XS.goto X4.here hx rfl (pc0 := 20) (pc' := 36) rfl (hb hby own_d13_20) (by decide) (by decide) ?_
    exact k
  exact own_retI X4 hx Bd (hb hby own_d13_36) e4 (⟨rfl, N4, rfl⟩) (by decide) (by decide)
def own_r13_0_2 : Room := { frames := 2, cells := 0, slots := 0, locals := 32 }
theorem own_ef13_0_2 (m : MethodId) (x0 : Addr) : entryFrame m #[(.ref x0), (.int (46 : Int32)), (.int (0 : Int32))] 3 = mkF m 0 #[.val (.ref x0), .val (.int (46 : Int32)), .val (.int (0 : Int32))] [] := by first | (simp [entryFrame, mkF, argsToLocals, Value.category]; done) | rfl
def own_Q13_0_2 (Z : State) (r arr : Addr) (ka : ClassId) (x0 x1 : Int32) (cs : Int32) (h0 : Heap) (n0 : Nat) : Option Value → Heap → List Loc → Prop := fun v h L => v = some (.int (-1 : Int32)) ∧ Fr n0 L ∧ h = h0
set_option maxRecDepth 65536 in
set_option maxHeartbeats 40000000 in
theorem own_rm13_0_2 (l : Launch) (Z : State) (a0 : Array Value) (hw : ∀ d ∈ tables_1, d.before a0 Z = true) (ws : List Jvm.Cond) (r arr : Addr) (ka : ClassId) (x0 x1 : Int32) (cs : Int32) (h0 : Heap) (n0 : Nat) (Z0 : n0 ≤ h0.size) (O0 : Old Z n0 h0) (E_r : Exa Z h0 r "java/lang/String") (F_v : Fld Z h0 r "java/lang/String" "value" "[B" (.ref arr)) (F_c : Fld Z h0 r "java/lang/String" "coder" "B" (.int (0 : Int32))) (V_a : Arv Z h0 arr ka .byte (2 : Int32) [(.int x0), (.int x1)] (.int (0 : Int32))) (hn0 : ¬ x0 = (46 : Int32)) (hn1 : ¬ x1 = (46 : Int32)) (hcs : ¬ cs = (0 : Int32)) (S_cs : Sta Z Z.heap "java/lang/String" "COMPACT_STRINGS" "Z" (.int cs)) :
    MetFree l (⟨"java/lang/String", "indexOf", "(II)I"⟩ : MethodName) (head1 (Jvm.Cond.code (⟨"java/lang/String", "indexOf", "(II)I"⟩ : MethodName) jdk_42_method_80_code 3 (some .int) :: ws) own_r13_0_2) (fun a_ U_ => a_ = #[(.ref r), (.int (46 : Int32)), (.int (0 : Int32))] ∧ Z.Warmed39 U_.vm ∧ U_.heap = h0) (fun _ _ _ _ _ => True) (fun _ U_ o_ U'_ => ∃ v_ L_, o_ = .returned v_ ∧ own_Q13_0_2 Z r arr  ka  x0 x1  cs  h0 n0 v_ U'_.heap L_ ∧ FrameEnd U_ o_ U'_ L_ own_r13_0_2.cells own_r13_0_2.slots) := by
  refine MetFree.of_bodySF (plainFor_of_name own_pn1) hisR ?_
  intro p e s m args below meth c s₁ Bd hml0 hP hK
  obtain ⟨rfl, hZ, hh⟩ := hP
  have hx := Bd.exec
  have hby := Bd.bytes
  have hml : c.maxLocals = 3 := hml0
  have hown : s.vm.findClass "java/lang/String" = some m.cls := findClass_of_methodNamed Bd.named
  have hnm := (name_of_methodNamed Bd.named Bd.method).1
  have X0 : Stand p l e own_r13_0_2 s m #[(.ref r), (.int (46 : Int32)), (.int (0 : Int32))] below meth c s₁ [] 0 0 := Stand.of_body Bd
  have e0 : s₁.heap = h0 := by rw [← hh, Bd.state]; rfl
  have N0 := Fr.nil n0
  refine own_in (own_ef13_0_2 m r) ?_
  show own_Go p e below (own_K s (own_Q13_0_2 Z r arr  ka  x0 x1  cs  h0 n0) own_r13_0_2.cells own_r13_0_2.slots) s₁ (mkF m 0 #[.val (.ref r), .val (.int (46 : Int32)), .val (.int (0 : Int32))] [])
  refine own_st (T' := s₁) (g' := (mkF m 1 #[.val (.ref r), .val (.int (46 : Int32)), .val (.int (0 : Int32))] [(.ref r)])) (fun t k => ?_) ?_
  · show Steps p.tables e below (s₁.setTop (mkF m 0 #[.val (.ref r), .val (.int (46 : Int32)), .val (.int (0 : Int32))] [])) t
    refine XS.aloadN X0.here hx rfl (hb hby own_d13_0) rfl rfl ?_
    exact k
  obtain ⟨cq1, kq1, q1a, q1b, q1c⟩ := isOf hZ e0 E_r
  obtain ⟨_, _, ⟨T1, L1, c1, n1⟩, -, X1, ⟨Lc1, hQ1, l1, y1, z1⟩, st1⟩ := X0.virtualBack hx (y := (⟨"java/lang/String", "isLatin1", "()Z"⟩ : MethodName)) (z := (⟨"java/lang/String", "isLatin1", "()Z"⟩ : MethodName)) hown (mvT hZ (hw _ (List.mem_of_getElem? (i := 64) rfl))) (mvT hZ (hw _ (List.mem_of_getElem? (i := 65) rfl))) (notFace_of_selects (args := #[]) (mvT hZ (hw _ (List.mem_of_getElem? (i := 67) rfl)))) (mvT hZ (hw _ (List.mem_of_getElem? (i := 67) rfl))) (mvT hZ (hw _ (List.mem_of_getElem? (i := 66) rfl))) (by decide) (backOf (W := 0) (own_rm14_0_2 l Z a0 hw [] r arr ka x0 x1  cs h0 n0 Z0 O0 E_r F_v F_c V_a  hcs S_cs) hZ (hw _ (List.mem_of_getElem? (i := 68) rfl)) (hw _ (List.mem_of_getElem? (i := 8) rfl)) (by decide) (by decide)) q1a q1c (g := (mkF m 1 #[.val (.ref r), .val (.int (46 : Int32)), .val (.int (0 : Int32))] [(.ref r)])) rfl (by rw [hml]; rfl) (Steps.refl _) (argsL := []) (rest := []) (lenOf own_pd8 rfl) rfl (by show 2 * 0 + _ ≤ _; exact Nat.le_of_eq rfl) (hb hby own_d13_1) (fun _ _ => ⟨rfl, e0, (by decide : 0 + 0 ≤ _), (by decide : 0 + 0 ≤ _)⟩)
  dsimp only [Pt.U, Pt.locs, Pt.cells, Pt.slots] at X1 l1 y1 z1 st1 hQ1
  subst l1 y1 z1
  obtain ⟨rfl, N1q, e1⟩ := hQ1
  have N1 := Fr.app N0 N1q
  refine own_tr (T' := T1) (g' := (mkF m 4 #[.val (.ref r), .val (.int (46 : Int32)), .val (.int (0 : Int32))] [(.int (1 : Int32))])) st1 ?_
  refine own_st (T' := T1) (g' := (mkF m 8 #[.val (.ref r), .val (.int (46 : Int32)), .val (.int (0 : Int32))] [(.ref r)])) (fun t k => ?_) ?_
  · show Steps p.tables e below (T1.setTop (mkF m 4 #[.val (.ref r), .val (.int (46 : Int32)), .val (.int (0 : Int32))] [(.int (1 : Int32))])) t
    refine XS.ifNo X1.here hx rfl (hb hby own_d13_4) rfl ((if0 _ _).trans (feq (by decide : ¬ ((1 : Int32) = (0 : Int32)))).1) ?_
    refine XS.aloadN X1.here hx rfl (hb hby own_d13_7) rfl rfl ?_
    exact k
  obtain ⟨T2, X2, e2, st2⟩ := getF X1 hx hZ hown (host := "") (Or.inl (hw _ (List.mem_of_getElem? (i := 33) rfl))) Via.refl e1 F_v (g := (mkF m 8 #[.val (.ref r), .val (.int (46 : Int32)), .val (.int (0 : Int32))] [(.ref r)])) rfl rfl (hb hby own_d13_8)
  refine own_st (T' := T2) (g' := (mkF m 11 #[.val (.ref r), .val (.int (46 : Int32)), .val (.int (0 : Int32))] [(.ref arr)])) st2 ?_
  refine own_st (T' := T2) (g' := (mkF m 14 #[.val (.ref r), .val (.int (46 : Int32)), .val (.int (0 : Int32))] [(.ref r), (.int (0 : Int32)), (.int (46 : Int32)), (.ref arr)])) (fun t k => ?_) ?_
  · show Steps p.tables e below (T2.setTop (mkF m 11 #[.val (.ref r), .val (.int (46 : Int32)), .val (.int (0 : Int32))] [(.ref arr)])) t
    refine XS.iloadN X2.here hx rfl (hb hby own_d13_11) rfl ?_
    refine XS.iloadN X2.here hx rfl (hb hby own_d13_12) rfl ?_
    refine XS.aloadN X2.here hx rfl (hb hby own_d13_13) rfl rfl ?_
    exact k
  obtain ⟨cq3, kq3, q3a, q3b, q3c⟩ := isOf hZ e2 E_r
  obtain ⟨_, _, ⟨T3, L3, c3, n3⟩, -, X3, ⟨Lc3, hQ3, l3, y3, z3⟩, st3⟩ := X2.virtualBack hx (y := (⟨"java/lang/String", "length", "()I"⟩ : MethodName)) (z := (⟨"java/lang/String", "length", "()I"⟩ : MethodName)) hown (mvT hZ (hw _ (List.mem_of_getElem? (i := 69) rfl))) (mvT hZ (hw _ (List.mem_of_getElem? (i := 70) rfl))) (notFace_of_selects (args := #[]) (mvT hZ (hw _ (List.mem_of_getElem? (i := 72) rfl)))) (mvT hZ (hw _ (List.mem_of_getElem? (i := 72) rfl))) (mvT hZ (hw _ (List.mem_of_getElem? (i := 71) rfl))) (by decide) (backOf (W := 3) (own_rm15_0_2 l Z a0 hw [] r arr ka x0 x1  cs h0 n0 Z0 O0 E_r F_v F_c V_a  hcs S_cs) hZ (hw _ (List.mem_of_getElem? (i := 73) rfl)) (hw _ (List.mem_of_getElem? (i := 8) rfl)) (by decide) (by decide)) q3a q3c (g := (mkF m 14 #[.val (.ref r), .val (.int (46 : Int32)), .val (.int (0 : Int32))] [(.ref r), (.int (0 : Int32)), (.int (46 : Int32)), (.ref arr)])) rfl (by rw [hml]; rfl) (Steps.refl _) (argsL := []) (rest := [(.int (0 : Int32)), (.int (46 : Int32)), (.ref arr)]) (lenOf own_pd9 rfl) rfl (by show 2 * 0 + _ ≤ _; exact Nat.le_of_eq rfl) (hb hby own_d13_14) (fun _ _ => ⟨rfl, e2, (by decide : 0 + 0 ≤ _), (by decide : 0 + 0 ≤ _)⟩)
  dsimp only [Pt.U, Pt.locs, Pt.cells, Pt.slots] at X3 l3 y3 z3 st3 hQ3
  subst l3 y3 z3
  obtain ⟨rfl, N3q, e3⟩ := hQ3
  have N3 := Fr.app N1 N3q
  refine own_tr (T' := T3) (g' := (mkF m 17 #[.val (.ref r), .val (.int (46 : Int32)), .val (.int (0 : Int32))] [(.int (2 : Int32)), (.int (0 : Int32)), (.int (46 : Int32)), (.ref arr)])) st3 ?_
  obtain ⟨_, _, ⟨T4, L4, c4, n4⟩, -, X4, ⟨Lc4, hQ4, l4, y4, z4⟩, st4⟩ := Jvm.LawKit.callS X3 hx (y := (⟨"java/lang/StringLatin1", "indexOf", "([BIII)I"⟩ : MethodName)) hown (mvT hZ (hw _ (List.mem_of_getElem? (i := 79) rfl))) (mvT hZ (hw _ (List.mem_of_getElem? (i := 80) rfl))) (mvT hZ (hw _ (List.mem_of_getElem? (i := 81) rfl))) (mvT hZ (hw _ (List.mem_of_getElem? (i := 82) rfl))) (by decide) (backOf (W := 0) (own_rm17_2 l Z a0 hw [] arr ka x0 x1 cs h0 n0 Z0 O0 V_a hn0 hn1 hcs S_cs) hZ (hw _ (List.mem_of_getElem? (i := 82) rfl)) (hw _ (List.mem_of_getElem? (i := 81) rfl)) (by decide) (by decide)) (g := (mkF m 17 #[.val (.ref r), .val (.int (46 : Int32)), .val (.int (0 : Int32))] [(.int (2 : Int32)), (.int (0 : Int32)), (.int (46 : Int32)), (.ref arr)])) rfl (by rw [hml]; rfl) (argsL := [(.ref arr), (.int (46 : Int32)), (.int (0 : Int32)), (.int (2 : Int32))]) (rest := []) (lenOf own_pd7 rfl) rfl (by show 2 * 0 + _ ≤ _; exact Nat.le_of_eq rfl) (hb hby own_d13_17) (fun _ _ => ⟨rfl, e3, (by decide : 0 + 0 ≤ _), (by decide : 0 + 0 ≤ _)⟩)
  dsimp only [Pt.U, Pt.locs, Pt.cells, Pt.slots] at X4 l4 y4 z4 st4 hQ4
  subst l4 y4 z4
  obtain ⟨rfl, N4q, e4⟩ := hQ4
  have N4 := Fr.app N3 N4q
  refine own_st (T' := T4) (g' := (mkF m 20 #[.val (.ref r), .val (.int (46 : Int32)), .val (.int (0 : Int32))] [(.int (-1 : Int32))])) st4 ?_
  refine own_st (T' := T4) (g' := (mkF m 36 #[.val (.ref r), .val (.int (46 : Int32)), .val (.int (0 : Int32))] [(.int (-1 : Int32))])) (fun t k => ?_) ?_
  · show Steps p.tables e below (T4.setTop (mkF m 20 #[.val (.ref r), .val (.int (46 : Int32)), .val (.int (0 : Int32))] [(.int (-1 : Int32))])) t
    refine XS.goto X4.here hx rfl (pc0 := 20) (pc' := 36) rfl (hb hby own_d13_20) (by decide) (by decide) ?_
    exact k
  exact own_retI X4 hx Bd (hb hby own_d13_36) e4 (⟨rfl, N4, rfl⟩) (by decide) (by decide)
def own_r13_0_3 : Room := { frames := 2, cells := 0, slots := 0, locals := 32 }
theorem own_ef13_0_3 (m : MethodId) (x0 : Addr) : entryFrame m #[(.ref x0), (.int (46 : Int32)), (.int (0 : Int32))] 3 = mkF m 0 #[.val (.ref x0), .val (.int (46 : Int32)), .val (.int (0 : Int32))] [] := by first | (simp [entryFrame, mkF, argsToLocals, Value.category]; done) | rfl
def own_Q13_0_3 (Z : State) (r arr : Addr) (ka : ClassId) (x0 x1 x2 : Int32) (cs : Int32) (h0 : Heap) (n0 : Nat) : Option Value → Heap → List Loc → Prop := fun v h L => v = some (.int (-1 : Int32)) ∧ Fr n0 L ∧ h = h0
set_option maxRecDepth 65536 in
set_option maxHeartbeats 40000000 in
theorem own_rm13_0_3 (l : Launch) (Z : State) (a0 : Array Value) (hw : ∀ d ∈ tables_1, d.before a0 Z = true) (ws : List Jvm.Cond) (r arr : Addr) (ka : ClassId) (x0 x1 x2 : Int32) (cs : Int32) (h0 : Heap) (n0 : Nat) (Z0 : n0 ≤ h0.size) (O0 : Old Z n0 h0) (E_r : Exa Z h0 r "java/lang/String") (F_v : Fld Z h0 r "java/lang/String" "value" "[B" (.ref arr)) (F_c : Fld Z h0 r "java/lang/String" "coder" "B" (.int (0 : Int32))) (V_a : Arv Z h0 arr ka .byte (3 : Int32) [(.int x0), (.int x1), (.int x2)] (.int (0 : Int32))) (hn0 : ¬ x0 = (46 : Int32)) (hn1 : ¬ x1 = (46 : Int32)) (hn2 : ¬ x2 = (46 : Int32)) (hcs : ¬ cs = (0 : Int32)) (S_cs : Sta Z Z.heap "java/lang/String" "COMPACT_STRINGS" "Z" (.int cs)) :
    MetFree l (⟨"java/lang/String", "indexOf", "(II)I"⟩ : MethodName) (head1 (Jvm.Cond.code (⟨"java/lang/String", "indexOf", "(II)I"⟩ : MethodName) jdk_42_method_80_code 3 (some .int) :: ws) own_r13_0_3) (fun a_ U_ => a_ = #[(.ref r), (.int (46 : Int32)), (.int (0 : Int32))] ∧ Z.Warmed39 U_.vm ∧ U_.heap = h0) (fun _ _ _ _ _ => True) (fun _ U_ o_ U'_ => ∃ v_ L_, o_ = .returned v_ ∧ own_Q13_0_3 Z r arr  ka  x0 x1 x2  cs  h0 n0 v_ U'_.heap L_ ∧ FrameEnd U_ o_ U'_ L_ own_r13_0_3.cells own_r13_0_3.slots) := by
  refine MetFree.of_bodySF (plainFor_of_name own_pn1) hisR ?_
  intro p e s m args below meth c s₁ Bd hml0 hP hK
  obtain ⟨rfl, hZ, hh⟩ := hP
  have hx := Bd.exec
  have hby := Bd.bytes
  have hml : c.maxLocals = 3 := hml0
  have hown : s.vm.findClass "java/lang/String" = some m.cls := findClass_of_methodNamed Bd.named
  have hnm := (name_of_methodNamed Bd.named Bd.method).1
  have X0 : Stand p l e own_r13_0_3 s m #[(.ref r), (.int (46 : Int32)), (.int (0 : Int32))] below meth c s₁ [] 0 0 := Stand.of_body Bd
  have e0 : s₁.heap = h0 := by rw [← hh, Bd.state]; rfl
  have N0 := Fr.nil n0
  refine own_in (own_ef13_0_3 m r) ?_
  show own_Go p e below (own_K s (own_Q13_0_3 Z r arr  ka  x0 x1 x2  cs  h0 n0) own_r13_0_3.cells own_r13_0_3.slots) s₁ (mkF m 0 #[.val (.ref r), .val (.int (46 : Int32)), .val (.int (0 : Int32))] [])
  refine own_st (T' := s₁) (g' := (mkF m 1 #[.val (.ref r), .val (.int (46 : Int32)), .val (.int (0 : Int32))] [(.ref r)])) (fun t k => ?_) ?_
  · show Steps p.tables e below (s₁.setTop (mkF m 0 #[.val (.ref r), .val (.int (46 : Int32)), .val (.int (0 : Int32))] [])) t
    refine XS.aloadN X0.here hx rfl (hb hby own_d13_0) rfl rfl ?_
    exact k
  obtain ⟨cq1, kq1, q1a, q1b, q1c⟩ := isOf hZ e0 E_r
  obtain ⟨_, _, ⟨T1, L1, c1, n1⟩, -, X1, ⟨Lc1, hQ1, l1, y1, z1⟩, st1⟩ := X0.virtualBack hx (y := (⟨"java/lang/String", "isLatin1", "()Z"⟩ : MethodName)) (z := (⟨"java/lang/String", "isLatin1", "()Z"⟩ : MethodName)) hown (mvT hZ (hw _ (List.mem_of_getElem? (i := 64) rfl))) (mvT hZ (hw _ (List.mem_of_getElem? (i := 65) rfl))) (notFace_of_selects (args := #[]) (mvT hZ (hw _ (List.mem_of_getElem? (i := 67) rfl)))) (mvT hZ (hw _ (List.mem_of_getElem? (i := 67) rfl))) (mvT hZ (hw _ (List.mem_of_getElem? (i := 66) rfl))) (by decide) (backOf (W := 0) (own_rm14_0_3 l Z a0 hw [] r arr ka x0 x1 x2  cs h0 n0 Z0 O0 E_r F_v F_c V_a  hcs S_cs) hZ (hw _ (List.mem_of_getElem? (i := 68) rfl)) (hw _ (List.mem_of_getElem? (i := 8) rfl)) (by decide) (by decide)) q1a q1c (g := (mkF m 1 #[.val (.ref r), .val (.int (46 : Int32)), .val (.int (0 : Int32))] [(.ref r)])) rfl (by rw [hml]; rfl) (Steps.refl _) (argsL := []) (rest := []) (lenOf own_pd8 rfl) rfl (by show 2 * 0 + _ ≤ _; exact Nat.le_of_eq rfl) (hb hby own_d13_1) (fun _ _ => ⟨rfl, e0, (by decide : 0 + 0 ≤ _), (by decide : 0 + 0 ≤ _)⟩)
  dsimp only [Pt.U, Pt.locs, Pt.cells, Pt.slots] at X1 l1 y1 z1 st1 hQ1
  subst l1 y1 z1
  obtain ⟨rfl, N1q, e1⟩ := hQ1
  have N1 := Fr.app N0 N1q
  refine own_tr (T' := T1) (g' := (mkF m 4 #[.val (.ref r), .val (.int (46 : Int32)), .val (.int (0 : Int32))] [(.int (1 : Int32))])) st1 ?_
  refine own_st (T' := T1) (g' := (mkF m 8 #[.val (.ref r), .val (.int (46 : Int32)), .val (.int (0 : Int32))] [(.ref r)])) (fun t k => ?_) ?_
  · show Steps p.tables e below (T1.setTop (mkF m 4 #[.val (.ref r), .val (.int (46 : Int32)), .val (.int (0 : Int32))] [(.int (1 : Int32))])) t
    refine XS.ifNo X1.here hx rfl (hb hby own_d13_4) rfl ((if0 _ _).trans (feq (by decide : ¬ ((1 : Int32) = (0 : Int32)))).1) ?_
    refine XS.aloadN X1.here hx rfl (hb hby own_d13_7) rfl rfl ?_
    exact k
  obtain ⟨T2, X2, e2, st2⟩ := getF X1 hx hZ hown (host := "") (Or.inl (hw _ (List.mem_of_getElem? (i := 33) rfl))) Via.refl e1 F_v (g := (mkF m 8 #[.val (.ref r), .val (.int (46 : Int32)), .val (.int (0 : Int32))] [(.ref r)])) rfl rfl (hb hby own_d13_8)
  refine own_st (T' := T2) (g' := (mkF m 11 #[.val (.ref r), .val (.int (46 : Int32)), .val (.int (0 : Int32))] [(.ref arr)])) st2 ?_
  refine own_st (T' := T2) (g' := (mkF m 14 #[.val (.ref r), .val (.int (46 : Int32)), .val (.int (0 : Int32))] [(.ref r), (.int (0 : Int32)), (.int (46 : Int32)), (.ref arr)])) (fun t k => ?_) ?_
  · show Steps p.tables e below (T2.setTop (mkF m 11 #[.val (.ref r), .val (.int (46 : Int32)), .val (.int (0 : Int32))] [(.ref arr)])) t
    refine XS.iloadN X2.here hx rfl (hb hby own_d13_11) rfl ?_
    refine XS.iloadN X2.here hx rfl (hb hby own_d13_12) rfl ?_
    refine XS.aloadN X2.here hx rfl (hb hby own_d13_13) rfl rfl ?_
    exact k
  obtain ⟨cq3, kq3, q3a, q3b, q3c⟩ := isOf hZ e2 E_r
  obtain ⟨_, _, ⟨T3, L3, c3, n3⟩, -, X3, ⟨Lc3, hQ3, l3, y3, z3⟩, st3⟩ := X2.virtualBack hx (y := (⟨"java/lang/String", "length", "()I"⟩ : MethodName)) (z := (⟨"java/lang/String", "length", "()I"⟩ : MethodName)) hown (mvT hZ (hw _ (List.mem_of_getElem? (i := 69) rfl))) (mvT hZ (hw _ (List.mem_of_getElem? (i := 70) rfl))) (notFace_of_selects (args := #[]) (mvT hZ (hw _ (List.mem_of_getElem? (i := 72) rfl)))) (mvT hZ (hw _ (List.mem_of_getElem? (i := 72) rfl))) (mvT hZ (hw _ (List.mem_of_getElem? (i := 71) rfl))) (by decide) (backOf (W := 3) (own_rm15_0_3 l Z a0 hw [] r arr ka x0 x1 x2  cs h0 n0 Z0 O0 E_r F_v F_c V_a  hcs S_cs) hZ (hw _ (List.mem_of_getElem? (i := 73) rfl)) (hw _ (List.mem_of_getElem? (i := 8) rfl)) (by decide) (by decide)) q3a q3c (g := (mkF m 14 #[.val (.ref r), .val (.int (46 : Int32)), .val (.int (0 : Int32))] [(.ref r), (.int (0 : Int32)), (.int (46 : Int32)), (.ref arr)])) rfl (by rw [hml]; rfl) (Steps.refl _) (argsL := []) (rest := [(.int (0 : Int32)), (.int (46 : Int32)), (.ref arr)]) (lenOf own_pd9 rfl) rfl (by show 2 * 0 + _ ≤ _; exact Nat.le_of_eq rfl) (hb hby own_d13_14) (fun _ _ => ⟨rfl, e2, (by decide : 0 + 0 ≤ _), (by decide : 0 + 0 ≤ _)⟩)
  dsimp only [Pt.U, Pt.locs, Pt.cells, Pt.slots] at X3 l3 y3 z3 st3 hQ3
  subst l3 y3 z3
  obtain ⟨rfl, N3q, e3⟩ := hQ3
  have N3 := Fr.app N1 N3q
  refine own_tr (T' := T3) (g' := (mkF m 17 #[.val (.ref r), .val (.int (46 : Int32)), .val (.int (0 : Int32))] [(.int (3 : Int32)), (.int (0 : Int32)), (.int (46 : Int32)), (.ref arr)])) st3 ?_
  obtain ⟨_, _, ⟨T4, L4, c4, n4⟩, -, X4, ⟨Lc4, hQ4, l4, y4, z4⟩, st4⟩ := Jvm.LawKit.callS X3 hx (y := (⟨"java/lang/StringLatin1", "indexOf", "([BIII)I"⟩ : MethodName)) hown (mvT hZ (hw _ (List.mem_of_getElem? (i := 79) rfl))) (mvT hZ (hw _ (List.mem_of_getElem? (i := 80) rfl))) (mvT hZ (hw _ (List.mem_of_getElem? (i := 81) rfl))) (mvT hZ (hw _ (List.mem_of_getElem? (i := 82) rfl))) (by decide) (backOf (W := 0) (own_rm17_3 l Z a0 hw [] arr ka x0 x1 x2 cs h0 n0 Z0 O0 V_a hn0 hn1 hn2 hcs S_cs) hZ (hw _ (List.mem_of_getElem? (i := 82) rfl)) (hw _ (List.mem_of_getElem? (i := 81) rfl)) (by decide) (by decide)) (g := (mkF m 17 #[.val (.ref r), .val (.int (46 : Int32)), .val (.int (0 : Int32))] [(.int (3 : Int32)), (.int (0 : Int32)), (.int (46 : Int32)), (.ref arr)])) rfl (by rw [hml]; rfl) (argsL := [(.ref arr), (.int (46 : Int32)), (.int (0 : Int32)), (.int (3 : Int32))]) (rest := []) (lenOf own_pd7 rfl) rfl (by show 2 * 0 + _ ≤ _; exact Nat.le_of_eq rfl) (hb hby own_d13_17) (fun _ _ => ⟨rfl, e3, (by decide : 0 + 0 ≤ _), (by decide : 0 + 0 ≤ _)⟩)
  dsimp only [Pt.U, Pt.locs, Pt.cells, Pt.slots] at X4 l4 y4 z4 st4 hQ4
  subst l4 y4 z4
  obtain ⟨rfl, N4q, e4⟩ := hQ4
  have N4 := Fr.app N3 N4q
  refine own_st (T' := T4) (g' := (mkF m 20 #[.val (.ref r), .val (.int (46 : Int32)), .val (.int (0 : Int32))] [(.int (-1 : Int32))])) st4 ?_
  refine own_st (T' := T4) (g' := (mkF m 36 #[.val (.ref r), .val (.int (46 : Int32)), .val (.int (0 : Int32))] [(.int (-1 : Int32))])) (fun t k => ?_) ?_
  · show Steps p.tables e below (T4.setTop (mkF m 20 #[.val (.ref r), .val (.int (46 : Int32)), .val (.int (0 : Int32))] [(.int (-1 : Int32))])) t
    refine XS.goto X4.here hx rfl (pc0 := 20) (pc' := 36) rfl (hb hby own_d13_20) (by decide) (by decide) ?_
    exact k
  exact own_retI X4 hx Bd (hb hby own_d13_36) e4 (⟨rfl, N4, rfl⟩) (by decide) (by decide)
def own_r12_0_1 : Room := { frames := 3, cells := 0, slots := 0, locals := 46 }
theorem own_ef12_0_1 (m : MethodId) (x0 : Addr) : entryFrame m #[(.ref x0), (.int (46 : Int32))] 2 = mkF m 0 #[.val (.ref x0), .val (.int (46 : Int32))] [] := by first | (simp [entryFrame, mkF, argsToLocals, Value.category]; done) | rfl
def own_Q12_0_1 (Z : State) (r arr : Addr) (ka : ClassId) (x0 : Int32) (cs : Int32) (h0 : Heap) (n0 : Nat) : Option Value → Heap → List Loc → Prop := fun v h L => v = some (.int (-1 : Int32)) ∧ Fr n0 L ∧ h = h0
set_option maxRecDepth 65536 in
set_option maxHeartbeats 40000000 in
theorem own_rm12_0_1 (l : Launch) (Z : State) (a0 : Array Value) (hw : ∀ d ∈ tables_1, d.before a0 Z = true) (ws : List Jvm.Cond) (r arr : Addr) (ka : ClassId) (x0 : Int32) (cs : Int32) (h0 : Heap) (n0 : Nat) (Z0 : n0 ≤ h0.size) (O0 : Old Z n0 h0) (E_r : Exa Z h0 r "java/lang/String") (F_v : Fld Z h0 r "java/lang/String" "value" "[B" (.ref arr)) (F_c : Fld Z h0 r "java/lang/String" "coder" "B" (.int (0 : Int32))) (V_a : Arv Z h0 arr ka .byte (1 : Int32) [(.int x0)] (.int (0 : Int32))) (hn0 : ¬ x0 = (46 : Int32)) (hcs : ¬ cs = (0 : Int32)) (S_cs : Sta Z Z.heap "java/lang/String" "COMPACT_STRINGS" "Z" (.int cs)) :
    MetFree l (⟨"java/lang/String", "indexOf", "(I)I"⟩ : MethodName) (head1 (Jvm.Cond.code (⟨"java/lang/String", "indexOf", "(I)I"⟩ : MethodName) jdk_42_method_79_code 2 (some .int) :: ws) own_r12_0_1) (fun a_ U_ => a_ = #[(.ref r), (.int (46 : Int32))] ∧ Z.Warmed39 U_.vm ∧ U_.heap = h0) (fun _ _ _ _ _ => True) (fun _ U_ o_ U'_ => ∃ v_ L_, o_ = .returned v_ ∧ own_Q12_0_1 Z r arr  ka  x0  cs  h0 n0 v_ U'_.heap L_ ∧ FrameEnd U_ o_ U'_ L_ own_r12_0_1.cells own_r12_0_1.slots) := by
  refine MetFree.of_bodySF (plainFor_of_name own_pn1) hisR ?_
  intro p e s m args below meth c s₁ Bd hml0 hP hK
  obtain ⟨rfl, hZ, hh⟩ := hP
  have hx := Bd.exec
  have hby := Bd.bytes
  have hml : c.maxLocals = 2 := hml0
  have hown : s.vm.findClass "java/lang/String" = some m.cls := findClass_of_methodNamed Bd.named
  have hnm := (name_of_methodNamed Bd.named Bd.method).1
  have X0 : Stand p l e own_r12_0_1 s m #[(.ref r), (.int (46 : Int32))] below meth c s₁ [] 0 0 := Stand.of_body Bd
  have e0 : s₁.heap = h0 := by rw [← hh, Bd.state]; rfl
  have N0 := Fr.nil n0
  refine own_in (own_ef12_0_1 m r) ?_
  show own_Go p e below (own_K s (own_Q12_0_1 Z r arr  ka  x0  cs  h0 n0) own_r12_0_1.cells own_r12_0_1.slots) s₁ (mkF m 0 #[.val (.ref r), .val (.int (46 : Int32))] [])
  refine own_st (T' := s₁) (g' := (mkF m 3 #[.val (.ref r), .val (.int (46 : Int32))] [(.int (0 : Int32)), (.int (46 : Int32)), (.ref r)])) (fun t k => ?_) ?_
  · show Steps p.tables e below (s₁.setTop (mkF m 0 #[.val (.ref r), .val (.int (46 : Int32))] [])) t
    refine XS.aloadN X0.here hx rfl (hb hby own_d12_0) rfl rfl ?_
    refine XS.iloadN X0.here hx rfl (hb hby own_d12_1) rfl ?_
    refine XS.iconst X0.here hx rfl (hb hby own_d12_2) ?_
    exact k
  obtain ⟨cq1, kq1, q1a, q1b, q1c⟩ := isOf hZ e0 E_r
  obtain ⟨_, _, ⟨T1, L1, c1, n1⟩, -, X1, ⟨Lc1, hQ1, l1, y1, z1⟩, st1⟩ := X0.virtualBack hx (y := (⟨"java/lang/String", "indexOf", "(II)I"⟩ : MethodName)) (z := (⟨"java/lang/String", "indexOf", "(II)I"⟩ : MethodName)) hown (mvT hZ (hw _ (List.mem_of_getElem? (i := 59) rfl))) (mvT hZ (hw _ (List.mem_of_getElem? (i := 60) rfl))) (notFace_of_selects (args := #[]) (mvT hZ (hw _ (List.mem_of_getElem? (i := 62) rfl)))) (mvT hZ (hw _ (List.mem_of_getElem? (i := 62) rfl))) (mvT hZ (hw _ (List.mem_of_getElem? (i := 61) rfl))) (by decide) (backOf (W := 0) (own_rm13_0_1 l Z a0 hw [] r arr ka x0  cs h0 n0 Z0 O0 E_r F_v F_c V_a hn0 hcs S_cs) hZ (hw _ (List.mem_of_getElem? (i := 63) rfl)) (hw _ (List.mem_of_getElem? (i := 8) rfl)) (by decide) (by decide)) q1a q1c (g := (mkF m 3 #[.val (.ref r), .val (.int (46 : Int32))] [(.int (0 : Int32)), (.int (46 : Int32)), (.ref r)])) rfl (by rw [hml]; rfl) (Steps.refl _) (argsL := [(.int (46 : Int32)), (.int (0 : Int32))]) (rest := []) (lenOf own_pd6 rfl) rfl (by show 2 * 0 + _ ≤ _; exact Nat.le_of_eq rfl) (hb hby own_d12_3) (fun _ _ => ⟨rfl, e0, (by decide : 0 + 0 ≤ _), (by decide : 0 + 0 ≤ _)⟩)
  dsimp only [Pt.U, Pt.locs, Pt.cells, Pt.slots] at X1 l1 y1 z1 st1 hQ1
  subst l1 y1 z1
  obtain ⟨rfl, N1q, e1⟩ := hQ1
  have N1 := Fr.app N0 N1q
  refine own_tr (T' := T1) (g' := (mkF m 6 #[.val (.ref r), .val (.int (46 : Int32))] [(.int (-1 : Int32))])) st1 ?_
  exact own_retI X1 hx Bd (hb hby own_d12_6) e1 (⟨rfl, N1, rfl⟩) (by decide) (by decide)
def own_r12_0_2 : Room := { frames := 3, cells := 0, slots := 0, locals := 46 }
theorem own_ef12_0_2 (m : MethodId) (x0 : Addr) : entryFrame m #[(.ref x0), (.int (46 : Int32))] 2 = mkF m 0 #[.val (.ref x0), .val (.int (46 : Int32))] [] := by first | (simp [entryFrame, mkF, argsToLocals, Value.category]; done) | rfl
def own_Q12_0_2 (Z : State) (r arr : Addr) (ka : ClassId) (x0 x1 : Int32) (cs : Int32) (h0 : Heap) (n0 : Nat) : Option Value → Heap → List Loc → Prop := fun v h L => v = some (.int (-1 : Int32)) ∧ Fr n0 L ∧ h = h0
set_option maxRecDepth 65536 in
set_option maxHeartbeats 40000000 in
theorem own_rm12_0_2 (l : Launch) (Z : State) (a0 : Array Value) (hw : ∀ d ∈ tables_1, d.before a0 Z = true) (ws : List Jvm.Cond) (r arr : Addr) (ka : ClassId) (x0 x1 : Int32) (cs : Int32) (h0 : Heap) (n0 : Nat) (Z0 : n0 ≤ h0.size) (O0 : Old Z n0 h0) (E_r : Exa Z h0 r "java/lang/String") (F_v : Fld Z h0 r "java/lang/String" "value" "[B" (.ref arr)) (F_c : Fld Z h0 r "java/lang/String" "coder" "B" (.int (0 : Int32))) (V_a : Arv Z h0 arr ka .byte (2 : Int32) [(.int x0), (.int x1)] (.int (0 : Int32))) (hn0 : ¬ x0 = (46 : Int32)) (hn1 : ¬ x1 = (46 : Int32)) (hcs : ¬ cs = (0 : Int32)) (S_cs : Sta Z Z.heap "java/lang/String" "COMPACT_STRINGS" "Z" (.int cs)) :
    MetFree l (⟨"java/lang/String", "indexOf", "(I)I"⟩ : MethodName) (head1 (Jvm.Cond.code (⟨"java/lang/String", "indexOf", "(I)I"⟩ : MethodName) jdk_42_method_79_code 2 (some .int) :: ws) own_r12_0_2) (fun a_ U_ => a_ = #[(.ref r), (.int (46 : Int32))] ∧ Z.Warmed39 U_.vm ∧ U_.heap = h0) (fun _ _ _ _ _ => True) (fun _ U_ o_ U'_ => ∃ v_ L_, o_ = .returned v_ ∧ own_Q12_0_2 Z r arr  ka  x0 x1  cs  h0 n0 v_ U'_.heap L_ ∧ FrameEnd U_ o_ U'_ L_ own_r12_0_2.cells own_r12_0_2.slots) := by
  refine MetFree.of_bodySF (plainFor_of_name own_pn1) hisR ?_
  intro p e s m args below meth c s₁ Bd hml0 hP hK
  obtain ⟨rfl, hZ, hh⟩ := hP
  have hx := Bd.exec
  have hby := Bd.bytes
  have hml : c.maxLocals = 2 := hml0
  have hown : s.vm.findClass "java/lang/String" = some m.cls := findClass_of_methodNamed Bd.named
  have hnm := (name_of_methodNamed Bd.named Bd.method).1
  have X0 : Stand p l e own_r12_0_2 s m #[(.ref r), (.int (46 : Int32))] below meth c s₁ [] 0 0 := Stand.of_body Bd
  have e0 : s₁.heap = h0 := by rw [← hh, Bd.state]; rfl
  have N0 := Fr.nil n0
  refine own_in (own_ef12_0_2 m r) ?_
  show own_Go p e below (own_K s (own_Q12_0_2 Z r arr  ka  x0 x1  cs  h0 n0) own_r12_0_2.cells own_r12_0_2.slots) s₁ (mkF m 0 #[.val (.ref r), .val (.int (46 : Int32))] [])
  refine own_st (T' := s₁) (g' := (mkF m 3 #[.val (.ref r), .val (.int (46 : Int32))] [(.int (0 : Int32)), (.int (46 : Int32)), (.ref r)])) (fun t k => ?_) ?_
  · show Steps p.tables e below (s₁.setTop (mkF m 0 #[.val (.ref r), .val (.int (46 : Int32))] [])) t
    refine XS.aloadN X0.here hx rfl (hb hby own_d12_0) rfl rfl ?_
    refine XS.iloadN X0.here hx rfl (hb hby own_d12_1) rfl ?_
    refine XS.iconst X0.here hx rfl (hb hby own_d12_2) ?_
    exact k
  obtain ⟨cq1, kq1, q1a, q1b, q1c⟩ := isOf hZ e0 E_r
  obtain ⟨_, _, ⟨T1, L1, c1, n1⟩, -, X1, ⟨Lc1, hQ1, l1, y1, z1⟩, st1⟩ := X0.virtualBack hx (y := (⟨"java/lang/String", "indexOf", "(II)I"⟩ : MethodName)) (z := (⟨"java/lang/String", "indexOf", "(II)I"⟩ : MethodName)) hown (mvT hZ (hw _ (List.mem_of_getElem? (i := 59) rfl))) (mvT hZ (hw _ (List.mem_of_getElem? (i := 60) rfl))) (notFace_of_selects (args := #[]) (mvT hZ (hw _ (List.mem_of_getElem? (i := 62) rfl)))) (mvT hZ (hw _ (List.mem_of_getElem? (i := 62) rfl))) (mvT hZ (hw _ (List.mem_of_getElem? (i := 61) rfl))) (by decide) (backOf (W := 0) (own_rm13_0_2 l Z a0 hw [] r arr ka x0 x1  cs h0 n0 Z0 O0 E_r F_v F_c V_a hn0 hn1 hcs S_cs) hZ (hw _ (List.mem_of_getElem? (i := 63) rfl)) (hw _ (List.mem_of_getElem? (i := 8) rfl)) (by decide) (by decide)) q1a q1c (g := (mkF m 3 #[.val (.ref r), .val (.int (46 : Int32))] [(.int (0 : Int32)), (.int (46 : Int32)), (.ref r)])) rfl (by rw [hml]; rfl) (Steps.refl _) (argsL := [(.int (46 : Int32)), (.int (0 : Int32))]) (rest := []) (lenOf own_pd6 rfl) rfl (by show 2 * 0 + _ ≤ _; exact Nat.le_of_eq rfl) (hb hby own_d12_3) (fun _ _ => ⟨rfl, e0, (by decide : 0 + 0 ≤ _), (by decide : 0 + 0 ≤ _)⟩)
  dsimp only [Pt.U, Pt.locs, Pt.cells, Pt.slots] at X1 l1 y1 z1 st1 hQ1
  subst l1 y1 z1
  obtain ⟨rfl, N1q, e1⟩ := hQ1
  have N1 := Fr.app N0 N1q
  refine own_tr (T' := T1) (g' := (mkF m 6 #[.val (.ref r), .val (.int (46 : Int32))] [(.int (-1 : Int32))])) st1 ?_
  exact own_retI X1 hx Bd (hb hby own_d12_6) e1 (⟨rfl, N1, rfl⟩) (by decide) (by decide)
def own_r12_0_3 : Room := { frames := 3, cells := 0, slots := 0, locals := 46 }
theorem own_ef12_0_3 (m : MethodId) (x0 : Addr) : entryFrame m #[(.ref x0), (.int (46 : Int32))] 2 = mkF m 0 #[.val (.ref x0), .val (.int (46 : Int32))] [] := by first | (simp [entryFrame, mkF, argsToLocals, Value.category]; done) | rfl
def own_Q12_0_3 (Z : State) (r arr : Addr) (ka : ClassId) (x0 x1 x2 : Int32) (cs : Int32) (h0 : Heap) (n0 : Nat) : Option Value → Heap → List Loc → Prop := fun v h L => v = some (.int (-1 : Int32)) ∧ Fr n0 L ∧ h = h0
set_option maxRecDepth 65536 in
set_option maxHeartbeats 40000000 in
theorem own_rm12_0_3 (l : Launch) (Z : State) (a0 : Array Value) (hw : ∀ d ∈ tables_1, d.before a0 Z = true) (ws : List Jvm.Cond) (r arr : Addr) (ka : ClassId) (x0 x1 x2 : Int32) (cs : Int32) (h0 : Heap) (n0 : Nat) (Z0 : n0 ≤ h0.size) (O0 : Old Z n0 h0) (E_r : Exa Z h0 r "java/lang/String") (F_v : Fld Z h0 r "java/lang/String" "value" "[B" (.ref arr)) (F_c : Fld Z h0 r "java/lang/String" "coder" "B" (.int (0 : Int32))) (V_a : Arv Z h0 arr ka .byte (3 : Int32) [(.int x0), (.int x1), (.int x2)] (.int (0 : Int32))) (hn0 : ¬ x0 = (46 : Int32)) (hn1 : ¬ x1 = (46 : Int32)) (hn2 : ¬ x2 = (46 : Int32)) (hcs : ¬ cs = (0 : Int32)) (S_cs : Sta Z Z.heap "java/lang/String" "COMPACT_STRINGS" "Z" (.int cs)) :
    MetFree l (⟨"java/lang/String", "indexOf", "(I)I"⟩ : MethodName) (head1 (Jvm.Cond.code (⟨"java/lang/String", "indexOf", "(I)I"⟩ : MethodName) jdk_42_method_79_code 2 (some .int) :: ws) own_r12_0_3) (fun a_ U_ => a_ = #[(.ref r), (.int (46 : Int32))] ∧ Z.Warmed39 U_.vm ∧ U_.heap = h0) (fun _ _ _ _ _ => True) (fun _ U_ o_ U'_ => ∃ v_ L_, o_ = .returned v_ ∧ own_Q12_0_3 Z r arr  ka  x0 x1 x2  cs  h0 n0 v_ U'_.heap L_ ∧ FrameEnd U_ o_ U'_ L_ own_r12_0_3.cells own_r12_0_3.slots) := by
  refine MetFree.of_bodySF (plainFor_of_name own_pn1) hisR ?_
  intro p e s m args below meth c s₁ Bd hml0 hP hK
  obtain ⟨rfl, hZ, hh⟩ := hP
  have hx := Bd.exec
  have hby := Bd.bytes
  have hml : c.maxLocals = 2 := hml0
  have hown : s.vm.findClass "java/lang/String" = some m.cls := findClass_of_methodNamed Bd.named
  have hnm := (name_of_methodNamed Bd.named Bd.method).1
  have X0 : Stand p l e own_r12_0_3 s m #[(.ref r), (.int (46 : Int32))] below meth c s₁ [] 0 0 := Stand.of_body Bd
  have e0 : s₁.heap = h0 := by rw [← hh, Bd.state]; rfl
  have N0 := Fr.nil n0
  refine own_in (own_ef12_0_3 m r) ?_
  show own_Go p e below (own_K s (own_Q12_0_3 Z r arr  ka  x0 x1 x2  cs  h0 n0) own_r12_0_3.cells own_r12_0_3.slots) s₁ (mkF m 0 #[.val (.ref r), .val (.int (46 : Int32))] [])
  refine own_st (T' := s₁) (g' := (mkF m 3 #[.val (.ref r), .val (.int (46 : Int32))] [(.int (0 : Int32)), (.int (46 : Int32)), (.ref r)])) (fun t k => ?_) ?_
  · show Steps p.tables e below (s₁.setTop (mkF m 0 #[.val (.ref r), .val (.int (46 : Int32))] [])) t
    refine XS.aloadN X0.here hx rfl (hb hby own_d12_0) rfl rfl ?_
    refine XS.iloadN X0.here hx rfl (hb hby own_d12_1) rfl ?_
    refine XS.iconst X0.here hx rfl (hb hby own_d12_2) ?_
    exact k
  obtain ⟨cq1, kq1, q1a, q1b, q1c⟩ := isOf hZ e0 E_r
  obtain ⟨_, _, ⟨T1, L1, c1, n1⟩, -, X1, ⟨Lc1, hQ1, l1, y1, z1⟩, st1⟩ := X0.virtualBack hx (y := (⟨"java/lang/String", "indexOf", "(II)I"⟩ : MethodName)) (z := (⟨"java/lang/String", "indexOf", "(II)I"⟩ : MethodName)) hown (mvT hZ (hw _ (List.mem_of_getElem? (i := 59) rfl))) (mvT hZ (hw _ (List.mem_of_getElem? (i := 60) rfl))) (notFace_of_selects (args := #[]) (mvT hZ (hw _ (List.mem_of_getElem? (i := 62) rfl)))) (mvT hZ (hw _ (List.mem_of_getElem? (i := 62) rfl))) (mvT hZ (hw _ (List.mem_of_getElem? (i := 61) rfl))) (by decide) (backOf (W := 0) (own_rm13_0_3 l Z a0 hw [] r arr ka x0 x1 x2  cs h0 n0 Z0 O0 E_r F_v F_c V_a hn0 hn1 hn2 hcs S_cs) hZ (hw _ (List.mem_of_getElem? (i := 63) rfl)) (hw _ (List.mem_of_getElem? (i := 8) rfl)) (by decide) (by decide)) q1a q1c (g := (mkF m 3 #[.val (.ref r), .val (.int (46 : Int32))] [(.int (0 : Int32)), (.int (46 : Int32)), (.ref r)])) rfl (by rw [hml]; rfl) (Steps.refl _) (argsL := [(.int (46 : Int32)), (.int (0 : Int32))]) (rest := []) (lenOf own_pd6 rfl) rfl (by show 2 * 0 + _ ≤ _; exact Nat.le_of_eq rfl) (hb hby own_d12_3) (fun _ _ => ⟨rfl, e0, (by decide : 0 + 0 ≤ _), (by decide : 0 + 0 ≤ _)⟩)
  dsimp only [Pt.U, Pt.locs, Pt.cells, Pt.slots] at X1 l1 y1 z1 st1 hQ1
  subst l1 y1 z1
  obtain ⟨rfl, N1q, e1⟩ := hQ1
  have N1 := Fr.app N0 N1q
  refine own_tr (T' := T1) (g' := (mkF m 6 #[.val (.ref r), .val (.int (46 : Int32))] [(.int (-1 : Int32))])) st1 ?_
  exact own_retI X1 hx Bd (hb hby own_d12_6) e1 (⟨rfl, N1, rfl⟩) (by decide) (by decide)
def own_r25_1 : Room := { frames := 0, cells := 0, slots := 0, locals := 0 }
theorem own_ef25_1 (m : MethodId) (x0 : Addr) (x1 : Addr) : entryFrame m #[(.ref x0), (.ref x1)] 3 = mkF m 0 #[.val (.ref x0), .val (.ref x1), .unset] [] := by first | (simp [entryFrame, mkF, argsToLocals, Value.category]; done) | rfl
def own_Q25_1 (Z : State) (a b : Addr) (ka kb : ClassId) (x0 : Int32) (cs : Int32) (h0 : Heap) (n0 : Nat) : Option Value → Heap → List Loc → Prop := fun v h L => v = some (.int (1 : Int32)) ∧ Fr n0 L ∧ h = h0
set_option maxRecDepth 65536 in
set_option maxHeartbeats 40000000 in
theorem own_rm25_1 (l : Launch) (Z : State) (a0 : Array Value) (hw : ∀ d ∈ tables_1, d.before a0 Z = true) (ws : List Jvm.Cond) (a b : Addr) (ka kb : ClassId) (x0 : Int32) (cs : Int32) (h0 : Heap) (n0 : Nat) (Z0 : n0 ≤ h0.size) (O0 : Old Z n0 h0) (V_a : Arv Z h0 a ka .byte (1 : Int32) [(.int x0)] (.int (0 : Int32))) (V_b : Arv Z h0 b kb .byte (1 : Int32) [(.int x0)] (.int (0 : Int32))) (hcs : ¬ cs = (0 : Int32)) (S_cs : Sta Z Z.heap "java/lang/String" "COMPACT_STRINGS" "Z" (.int cs)) :
    MetFree l (⟨"java/lang/StringLatin1", "equals", "([B[B)Z"⟩ : MethodName) (head1 (Jvm.Cond.code (⟨"java/lang/StringLatin1", "equals", "([B[B)Z"⟩ : MethodName) jdk_43_method_13_code 3 (some .boolean) :: ws) own_r25_1) (fun a_ U_ => a_ = #[(.ref a), (.ref b)] ∧ Z.Warmed39 U_.vm ∧ U_.heap = h0) (fun _ _ _ _ _ => True) (fun _ U_ o_ U'_ => ∃ v_ L_, o_ = .returned v_ ∧ own_Q25_1 Z a b  ka kb  x0  cs  h0 n0 v_ U'_.heap L_ ∧ FrameEnd U_ o_ U'_ L_ own_r25_1.cells own_r25_1.slots) := by
  refine MetFree.of_bodySF (plainFor_of_name own_pn3) hisR ?_
  intro p e s m args below meth c s₁ Bd hml0 hP hK
  obtain ⟨rfl, hZ, hh⟩ := hP
  have hx := Bd.exec
  have hby := Bd.bytes
  have hml : c.maxLocals = 3 := hml0
  have hown : s.vm.findClass "java/lang/StringLatin1" = some m.cls := findClass_of_methodNamed Bd.named
  have hnm := (name_of_methodNamed Bd.named Bd.method).1
  have X0 : Stand p l e own_r25_1 s m #[(.ref a), (.ref b)] below meth c s₁ [] 0 0 := Stand.of_body Bd
  have e0 : s₁.heap = h0 := by rw [← hh, Bd.state]; rfl
  have N0 := Fr.nil n0
  refine own_in (own_ef25_1 m a b) ?_
  show own_Go p e below (own_K s (own_Q25_1 Z a b  ka kb  x0  cs  h0 n0) own_r25_1.cells own_r25_1.slots) s₁ (mkF m 0 #[.val (.ref a), .val (.ref b), .unset] [])
  refine own_st (T' := s₁) (g' := (mkF m 1 #[.val (.ref a), .val (.ref b), .unset] [(.ref a)])) (fun t k => ?_) ?_
  · show Steps p.tables e below (s₁.setTop (mkF m 0 #[.val (.ref a), .val (.ref b), .unset] [])) t
    refine XS.aloadN X0.here hx rfl (hb hby own_d25_0) rfl rfl ?_
    exact k
  obtain ⟨cl1, Ar1, q1, S1, M1, H1, G1⟩ := id V_a
  refine own_st (T' := s₁) (g' := (mkF m 3 #[.val (.ref a), .val (.ref b), .unset] [(.ref b), (.int (1 : Int32))])) (fun t k => ?_) ?_
  · show Steps p.tables e below (s₁.setTop (mkF m 1 #[.val (.ref a), .val (.ref b), .unset] [(.ref a)])) t
    refine X0.arraylength hx (by rw [e0]; exact Ar1.1) (State.isArrayOf_alike hZ.alike Ar1.2.1) (g := (mkF m 1 #[.val (.ref a), .val (.ref b), .unset] [(.ref a)])) rfl rfl (hb hby own_d25_1) _ ?_
    rw [len_of S1 M1]
    show Steps p.tables e below (s₁.setTop (mkF m 2 #[.val (.ref a), .val (.ref b), .unset] [(.int (1 : Int32))])) t
    refine XS.aloadN X0.here hx rfl (hb hby own_d25_2) rfl rfl ?_
    exact k
  obtain ⟨cl2, Ar2, q2, S2, M2, H2, G2⟩ := id V_b
  refine own_st (T' := s₁) (g' := (mkF m 11 #[.val (.ref a), .val (.ref b), .val (.int (0 : Int32))] [(.ref a), (.int (0 : Int32))])) (fun t k => ?_) ?_
  · show Steps p.tables e below (s₁.setTop (mkF m 3 #[.val (.ref a), .val (.ref b), .unset] [(.ref b), (.int (1 : Int32))])) t
    refine X0.arraylength hx (by rw [e0]; exact Ar2.1) (State.isArrayOf_alike hZ.alike Ar2.2.1) (g := (mkF m 3 #[.val (.ref a), .val (.ref b), .unset] [(.ref b), (.int (1 : Int32))])) rfl rfl (hb hby own_d25_3) _ ?_
    rw [len_of S2 M2]
    show Steps p.tables e below (s₁.setTop (mkF m 4 #[.val (.ref a), .val (.ref b), .unset] [(.int (1 : Int32)), (.int (1 : Int32))])) t
    refine XS.icmpNo X0.here hx rfl (hb hby own_d25_4) rfl (teq (rfl : (1 : Int32) = (1 : Int32))).2 ?_
    refine XS.iconst X0.here hx rfl (hb hby own_d25_7) ?_
    refine XS.istoreN X0.here hx rfl (hb hby own_d25_8) rfl (l' := #[.val (.ref a), .val (.ref b), .val (.int (0 : Int32))]) rfl ?_
    refine XS.iloadN X0.here hx rfl (hb hby own_d25_9) rfl ?_
    refine XS.aloadN X0.here hx rfl (hb hby own_d25_10) rfl rfl ?_
    exact k
  obtain ⟨cl3, Ar3, q3, S3, M3, H3, G3⟩ := id V_a
  refine own_st (T' := s₁) (g' := (mkF m 17 #[.val (.ref a), .val (.ref b), .val (.int (0 : Int32))] [(.int (0 : Int32)), (.ref a)])) (fun t k => ?_) ?_
  · show Steps p.tables e below (s₁.setTop (mkF m 11 #[.val (.ref a), .val (.ref b), .val (.int (0 : Int32))] [(.ref a), (.int (0 : Int32))])) t
    refine X0.arraylength hx (by rw [e0]; exact Ar3.1) (State.isArrayOf_alike hZ.alike Ar3.2.1) (g := (mkF m 11 #[.val (.ref a), .val (.ref b), .val (.int (0 : Int32))] [(.ref a), (.int (0 : Int32))])) rfl rfl (hb hby own_d25_11) _ ?_
    rw [len_of S3 M3]
    show Steps p.tables e below (s₁.setTop (mkF m 12 #[.val (.ref a), .val (.ref b), .val (.int (0 : Int32))] [(.int (1 : Int32)), (.int (0 : Int32))])) t
    refine XS.icmpNo X0.here hx rfl (hb hby own_d25_12) rfl (tlt (by decide : (0 : Int32) < (1 : Int32))).2.1 ?_
    refine XS.aloadN X0.here hx rfl (hb hby own_d25_15) rfl rfl ?_
    refine XS.iloadN X0.here hx rfl (hb hby own_d25_16) rfl ?_
    exact k
  obtain ⟨cl4, Ar4, q4, S4, M4, H4, G4⟩ := id V_a
  refine own_st (T' := s₁) (g' := (mkF m 20 #[.val (.ref a), .val (.ref b), .val (.int (0 : Int32))] [(.int (0 : Int32)), (.ref b), (.int x0)])) (fun t k => ?_) ?_
  · show Steps p.tables e below (s₁.setTop (mkF m 17 #[.val (.ref a), .val (.ref b), .val (.int (0 : Int32))] [(.int (0 : Int32)), (.ref a)])) t
    refine X0.baloadBytes hx (j := (0 : Int32)) (v := (.int x0)) (by rw [e0]; exact Ar4.1) (State.isArrayOf_alike hZ.alike Ar4.2.1) Ar4.2.2 (inb_of S4 ⟨by decide, by decide⟩) (Has.at H4 (inb_of S4 ⟨by decide, by decide⟩) rfl) (g := (mkF m 17 #[.val (.ref a), .val (.ref b), .val (.int (0 : Int32))] [(.int (0 : Int32)), (.ref a)])) rfl rfl (hb hby own_d25_17) _ ?_
    show Steps p.tables e below (s₁.setTop (mkF m 18 #[.val (.ref a), .val (.ref b), .val (.int (0 : Int32))] [(.int x0)])) t
    refine XS.aloadN X0.here hx rfl (hb hby own_d25_18) rfl rfl ?_
    refine XS.iloadN X0.here hx rfl (hb hby own_d25_19) rfl ?_
    exact k
  obtain ⟨cl5, Ar5, q5, S5, M5, H5, G5⟩ := id V_b
  refine own_st (T' := s₁) (g' := (mkF m 11 #[.val (.ref a), .val (.ref b), .val (.int (1 : Int32))] [(.ref a), (.int (1 : Int32))])) (fun t k => ?_) ?_
  · show Steps p.tables e below (s₁.setTop (mkF m 20 #[.val (.ref a), .val (.ref b), .val (.int (0 : Int32))] [(.int (0 : Int32)), (.ref b), (.int x0)])) t
    refine X0.baloadBytes hx (j := (0 : Int32)) (v := (.int x0)) (by rw [e0]; exact Ar5.1) (State.isArrayOf_alike hZ.alike Ar5.2.1) Ar5.2.2 (inb_of S5 ⟨by decide, by decide⟩) (Has.at H5 (inb_of S5 ⟨by decide, by decide⟩) rfl) (g := (mkF m 20 #[.val (.ref a), .val (.ref b), .val (.int (0 : Int32))] [(.int (0 : Int32)), (.ref b), (.int x0)])) rfl rfl (hb hby own_d25_20) _ ?_
    show Steps p.tables e below (s₁.setTop (mkF m 21 #[.val (.ref a), .val (.ref b), .val (.int (0 : Int32))] [(.int x0), (.int x0)])) t
    refine XS.icmpYes X0.here hx rfl (pc0 := 21) (pc' := 26) rfl (hb hby own_d25_21) rfl (teq (rfl : x0 = x0)).1 (by decide) (by decide) ?_
    refine XS.iinc X0.here hx rfl (hb hby own_d25_26) rfl (l' := #[.val (.ref a), .val (.ref b), .val (.int (1 : Int32))]) rfl ?_
    refine XS.goto X0.here hx rfl (pc0 := 29) (pc' := 9) rfl (hb hby own_d25_29) (by decide) (by decide) ?_
    refine XS.iloadN X0.here hx rfl (hb hby own_d25_9) rfl ?_
    refine XS.aloadN X0.here hx rfl (hb hby own_d25_10) rfl rfl ?_
    exact k
  obtain ⟨cl6, Ar6, q6, S6, M6, H6, G6⟩ := id V_a
  refine own_st (T' := s₁) (g' := (mkF m 33 #[.val (.ref a), .val (.ref b), .val (.int (1 : Int32))] [(.int (1 : Int32))])) (fun t k => ?_) ?_
  · show Steps p.tables e below (s₁.setTop (mkF m 11 #[.val (.ref a), .val (.ref b), .val (.int (1 : Int32))] [(.ref a), (.int (1 : Int32))])) t
    refine X0.arraylength hx (by rw [e0]; exact Ar6.1) (State.isArrayOf_alike hZ.alike Ar6.2.1) (g := (mkF m 11 #[.val (.ref a), .val (.ref b), .val (.int (1 : Int32))] [(.ref a), (.int (1 : Int32))])) rfl rfl (hb hby own_d25_11) _ ?_
    rw [len_of S6 M6]
    show Steps p.tables e below (s₁.setTop (mkF m 12 #[.val (.ref a), .val (.ref b), .val (.int (1 : Int32))] [(.int (1 : Int32)), (.int (1 : Int32))])) t
    refine XS.icmpYes X0.here hx rfl (pc0 := 12) (pc' := 32) rfl (hb hby own_d25_12) rfl (flt Int32.lt_irrefl).2.1 (by decide) (by decide) ?_
    refine XS.iconst X0.here hx rfl (hb hby own_d25_32) ?_
    exact k
  exact own_retN X0 hx Bd (t := .boolean) (by simp) rfl (hb hby own_d25_33) e0 (⟨rfl, N0, rfl⟩) (by decide) (by decide)
def own_r25_2 : Room := { frames := 0, cells := 0, slots := 0, locals := 0 }
theorem own_ef25_2 (m : MethodId) (x0 : Addr) (x1 : Addr) : entryFrame m #[(.ref x0), (.ref x1)] 3 = mkF m 0 #[.val (.ref x0), .val (.ref x1), .unset] [] := by first | (simp [entryFrame, mkF, argsToLocals, Value.category]; done) | rfl
def own_Q25_2 (Z : State) (a b : Addr) (ka kb : ClassId) (x0 x1 : Int32) (cs : Int32) (h0 : Heap) (n0 : Nat) : Option Value → Heap → List Loc → Prop := fun v h L => v = some (.int (1 : Int32)) ∧ Fr n0 L ∧ h = h0
set_option maxRecDepth 65536 in
set_option maxHeartbeats 40000000 in
theorem own_rm25_2 (l : Launch) (Z : State) (a0 : Array Value) (hw : ∀ d ∈ tables_1, d.before a0 Z = true) (ws : List Jvm.Cond) (a b : Addr) (ka kb : ClassId) (x0 x1 : Int32) (cs : Int32) (h0 : Heap) (n0 : Nat) (Z0 : n0 ≤ h0.size) (O0 : Old Z n0 h0) (V_a : Arv Z h0 a ka .byte (2 : Int32) [(.int x0), (.int x1)] (.int (0 : Int32))) (V_b : Arv Z h0 b kb .byte (2 : Int32) [(.int x0), (.int x1)] (.int (0 : Int32))) (hcs : ¬ cs = (0 : Int32)) (S_cs : Sta Z Z.heap "java/lang/String" "COMPACT_STRINGS" "Z" (.int cs)) :
    MetFree l (⟨"java/lang/StringLatin1", "equals", "([B[B)Z"⟩ : MethodName) (head1 (Jvm.Cond.code (⟨"java/lang/StringLatin1", "equals", "([B[B)Z"⟩ : MethodName) jdk_43_method_13_code 3 (some .boolean) :: ws) own_r25_2) (fun a_ U_ => a_ = #[(.ref a), (.ref b)] ∧ Z.Warmed39 U_.vm ∧ U_.heap = h0) (fun _ _ _ _ _ => True) (fun _ U_ o_ U'_ => ∃ v_ L_, o_ = .returned v_ ∧ own_Q25_2 Z a b  ka kb  x0 x1  cs  h0 n0 v_ U'_.heap L_ ∧ FrameEnd U_ o_ U'_ L_ own_r25_2.cells own_r25_2.slots) := by
  refine MetFree.of_bodySF (plainFor_of_name own_pn3) hisR ?_
  intro p e s m args below meth c s₁ Bd hml0 hP hK
  obtain ⟨rfl, hZ, hh⟩ := hP
  have hx := Bd.exec
  have hby := Bd.bytes
  have hml : c.maxLocals = 3 := hml0
  have hown : s.vm.findClass "java/lang/StringLatin1" = some m.cls := findClass_of_methodNamed Bd.named
  have hnm := (name_of_methodNamed Bd.named Bd.method).1
  have X0 : Stand p l e own_r25_2 s m #[(.ref a), (.ref b)] below meth c s₁ [] 0 0 := Stand.of_body Bd
  have e0 : s₁.heap = h0 := by rw [← hh, Bd.state]; rfl
  have N0 := Fr.nil n0
  refine own_in (own_ef25_2 m a b) ?_
  show own_Go p e below (own_K s (own_Q25_2 Z a b  ka kb  x0 x1  cs  h0 n0) own_r25_2.cells own_r25_2.slots) s₁ (mkF m 0 #[.val (.ref a), .val (.ref b), .unset] [])
  refine own_st (T' := s₁) (g' := (mkF m 1 #[.val (.ref a), .val (.ref b), .unset] [(.ref a)])) (fun t k => ?_) ?_
  · show Steps p.tables e below (s₁.setTop (mkF m 0 #[.val (.ref a), .val (.ref b), .unset] [])) t
    refine XS.aloadN X0.here hx rfl (hb hby own_d25_0) rfl rfl ?_
    exact k
  obtain ⟨cl1, Ar1, q1, S1, M1, H1, G1⟩ := id V_a
  refine own_st (T' := s₁) (g' := (mkF m 3 #[.val (.ref a), .val (.ref b), .unset] [(.ref b), (.int (2 : Int32))])) (fun t k => ?_) ?_
  · show Steps p.tables e below (s₁.setTop (mkF m 1 #[.val (.ref a), .val (.ref b), .unset] [(.ref a)])) t
    refine X0.arraylength hx (by rw [e0]; exact Ar1.1) (State.isArrayOf_alike hZ.alike Ar1.2.1) (g := (mkF m 1 #[.val (.ref a), .val (.ref b), .unset] [(.ref a)])) rfl rfl (hb hby own_d25_1) _ ?_
    rw [len_of S1 M1]
    show Steps p.tables e below (s₁.setTop (mkF m 2 #[.val (.ref a), .val (.ref b), .unset] [(.int (2 : Int32))])) t
    refine XS.aloadN X0.here hx rfl (hb hby own_d25_2) rfl rfl ?_
    exact k
  obtain ⟨cl2, Ar2, q2, S2, M2, H2, G2⟩ := id V_b
  refine own_st (T' := s₁) (g' := (mkF m 11 #[.val (.ref a), .val (.ref b), .val (.int (0 : Int32))] [(.ref a), (.int (0 : Int32))])) (fun t k => ?_) ?_
  · show Steps p.tables e below (s₁.setTop (mkF m 3 #[.val (.ref a), .val (.ref b), .unset] [(.ref b), (.int (2 : Int32))])) t
    refine X0.arraylength hx (by rw [e0]; exact Ar2.1) (State.isArrayOf_alike hZ.alike Ar2.2.1) (g := (mkF m 3 #[.val (.ref a), .val (.ref b), .unset] [(.ref b), (.int (2 : Int32))])) rfl rfl (hb hby own_d25_3) _ ?_
    rw [len_of S2 M2]
    show Steps p.tables e below (s₁.setTop (mkF m 4 #[.val (.ref a), .val (.ref b), .unset] [(.int (2 : Int32)), (.int (2 : Int32))])) t
    refine XS.icmpNo X0.here hx rfl (hb hby own_d25_4) rfl (teq (rfl : (2 : Int32) = (2 : Int32))).2 ?_
    refine XS.iconst X0.here hx rfl (hb hby own_d25_7) ?_
    refine XS.istoreN X0.here hx rfl (hb hby own_d25_8) rfl (l' := #[.val (.ref a), .val (.ref b), .val (.int (0 : Int32))]) rfl ?_
    refine XS.iloadN X0.here hx rfl (hb hby own_d25_9) rfl ?_
    refine XS.aloadN X0.here hx rfl (hb hby own_d25_10) rfl rfl ?_
    exact k
  obtain ⟨cl3, Ar3, q3, S3, M3, H3, G3⟩ := id V_a
  refine own_st (T' := s₁) (g' := (mkF m 17 #[.val (.ref a), .val (.ref b), .val (.int (0 : Int32))] [(.int (0 : Int32)), (.ref a)])) (fun t k => ?_) ?_
  · show Steps p.tables e below (s₁.setTop (mkF m 11 #[.val (.ref a), .val (.ref b), .val (.int (0 : Int32))] [(.ref a), (.int (0 : Int32))])) t
    refine X0.arraylength hx (by rw [e0]; exact Ar3.1) (State.isArrayOf_alike hZ.alike Ar3.2.1) (g := (mkF m 11 #[.val (.ref a), .val (.ref b), .val (.int (0 : Int32))] [(.ref a), (.int (0 : Int32))])) rfl rfl (hb hby own_d25_11) _ ?_
    rw [len_of S3 M3]
    show Steps p.tables e below (s₁.setTop (mkF m 12 #[.val (.ref a), .val (.ref b), .val (.int (0 : Int32))] [(.int (2 : Int32)), (.int (0 : Int32))])) t
    refine XS.icmpNo X0.here hx rfl (hb hby own_d25_12) rfl (tlt (by decide : (0 : Int32) < (2 : Int32))).2.1 ?_
    refine XS.aloadN X0.here hx rfl (hb hby own_d25_15) rfl rfl ?_
    refine XS.iloadN X0.here hx rfl (hb hby own_d25_16) rfl ?_
    exact k
  obtain ⟨cl4, Ar4, q4, S4, M4, H4, G4⟩ := id V_a
  refine own_st (T' := s₁) (g' := (mkF m 20 #[.val (.ref a), .val (.ref b), .val (.int (0 : Int32))] [(.int (0 : Int32)), (.ref b), (.int x0)])) (fun t k => ?_) ?_
  · show Steps p.tables e below (s₁.setTop (mkF m 17 #[.val (.ref a), .val (.ref b), .val (.int (0 : Int32))] [(.int (0 : Int32)), (.ref a)])) t
    refine X0.baloadBytes hx (j := (0 : Int32)) (v := (.int x0)) (by rw [e0]; exact Ar4.1) (State.isArrayOf_alike hZ.alike Ar4.2.1) Ar4.2.2 (inb_of S4 ⟨by decide, by decide⟩) (Has.at H4 (inb_of S4 ⟨by decide, by decide⟩) rfl) (g := (mkF m 17 #[.val (.ref a), .val (.ref b), .val (.int (0 : Int32))] [(.int (0 : Int32)), (.ref a)])) rfl rfl (hb hby own_d25_17) _ ?_
    show Steps p.tables e below (s₁.setTop (mkF m 18 #[.val (.ref a), .val (.ref b), .val (.int (0 : Int32))] [(.int x0)])) t
    refine XS.aloadN X0.here hx rfl (hb hby own_d25_18) rfl rfl ?_
    refine XS.iloadN X0.here hx rfl (hb hby own_d25_19) rfl ?_
    exact k
  obtain ⟨cl5, Ar5, q5, S5, M5, H5, G5⟩ := id V_b
  refine own_st (T' := s₁) (g' := (mkF m 11 #[.val (.ref a), .val (.ref b), .val (.int (1 : Int32))] [(.ref a), (.int (1 : Int32))])) (fun t k => ?_) ?_
  · show Steps p.tables e below (s₁.setTop (mkF m 20 #[.val (.ref a), .val (.ref b), .val (.int (0 : Int32))] [(.int (0 : Int32)), (.ref b), (.int x0)])) t
    refine X0.baloadBytes hx (j := (0 : Int32)) (v := (.int x0)) (by rw [e0]; exact Ar5.1) (State.isArrayOf_alike hZ.alike Ar5.2.1) Ar5.2.2 (inb_of S5 ⟨by decide, by decide⟩) (Has.at H5 (inb_of S5 ⟨by decide, by decide⟩) rfl) (g := (mkF m 20 #[.val (.ref a), .val (.ref b), .val (.int (0 : Int32))] [(.int (0 : Int32)), (.ref b), (.int x0)])) rfl rfl (hb hby own_d25_20) _ ?_
    show Steps p.tables e below (s₁.setTop (mkF m 21 #[.val (.ref a), .val (.ref b), .val (.int (0 : Int32))] [(.int x0), (.int x0)])) t
    refine XS.icmpYes X0.here hx rfl (pc0 := 21) (pc' := 26) rfl (hb hby own_d25_21) rfl (teq (rfl : x0 = x0)).1 (by decide) (by decide) ?_
    refine XS.iinc X0.here hx rfl (hb hby own_d25_26) rfl (l' := #[.val (.ref a), .val (.ref b), .val (.int (1 : Int32))]) rfl ?_
    refine XS.goto X0.here hx rfl (pc0 := 29) (pc' := 9) rfl (hb hby own_d25_29) (by decide) (by decide) ?_
    refine XS.iloadN X0.here hx rfl (hb hby own_d25_9) rfl ?_
    refine XS.aloadN X0.here hx rfl (hb hby own_d25_10) rfl rfl ?_
    exact k
  obtain ⟨cl6, Ar6, q6, S6, M6, H6, G6⟩ := id V_a
  refine own_st (T' := s₁) (g' := (mkF m 17 #[.val (.ref a), .val (.ref b), .val (.int (1 : Int32))] [(.int (1 : Int32)), (.ref a)])) (fun t k => ?_) ?_
  · show Steps p.tables e below (s₁.setTop (mkF m 11 #[.val (.ref a), .val (.ref b), .val (.int (1 : Int32))] [(.ref a), (.int (1 : Int32))])) t
    refine X0.arraylength hx (by rw [e0]; exact Ar6.1) (State.isArrayOf_alike hZ.alike Ar6.2.1) (g := (mkF m 11 #[.val (.ref a), .val (.ref b), .val (.int (1 : Int32))] [(.ref a), (.int (1 : Int32))])) rfl rfl (hb hby own_d25_11) _ ?_
    rw [len_of S6 M6]
    show Steps p.tables e below (s₁.setTop (mkF m 12 #[.val (.ref a), .val (.ref b), .val (.int (1 : Int32))] [(.int (2 : Int32)), (.int (1 : Int32))])) t
    refine XS.icmpNo X0.here hx rfl (hb hby own_d25_12) rfl (tlt (by decide : (1 : Int32) < (2 : Int32))).2.1 ?_
    refine XS.aloadN X0.here hx rfl (hb hby own_d25_15) rfl rfl ?_
    refine XS.iloadN X0.here hx rfl (hb hby own_d25_16) rfl ?_
    exact k
  obtain ⟨cl7, Ar7, q7, S7, M7, H7, G7⟩ := id V_a
  refine own_st (T' := s₁) (g' := (mkF m 20 #[.val (.ref a), .val (.ref b), .val (.int (1 : Int32))] [(.int (1 : Int32)), (.ref b), (.int x1)])) (fun t k => ?_) ?_
  · show Steps p.tables e below (s₁.setTop (mkF m 17 #[.val (.ref a), .val (.ref b), .val (.int (1 : Int32))] [(.int (1 : Int32)), (.ref a)])) t
    refine X0.baloadBytes hx (j := (1 : Int32)) (v := (.int x1)) (by rw [e0]; exact Ar7.1) (State.isArrayOf_alike hZ.alike Ar7.2.1) Ar7.2.2 (inb_of S7 ⟨by decide, by decide⟩) (Has.at H7 (inb_of S7 ⟨by decide, by decide⟩) rfl) (g := (mkF m 17 #[.val (.ref a), .val (.ref b), .val (.int (1 : Int32))] [(.int (1 : Int32)), (.ref a)])) rfl rfl (hb hby own_d25_17) _ ?_
    show Steps p.tables e below (s₁.setTop (mkF m 18 #[.val (.ref a), .val (.ref b), .val (.int (1 : Int32))] [(.int x1)])) t
    refine XS.aloadN X0.here hx rfl (hb hby own_d25_18) rfl rfl ?_
    refine XS.iloadN X0.here hx rfl (hb hby own_d25_19) rfl ?_
    exact k
  obtain ⟨cl8, Ar8, q8, S8, M8, H8, G8⟩ := id V_b
  refine own_st (T' := s₁) (g' := (mkF m 11 #[.val (.ref a), .val (.ref b), .val (.int (2 : Int32))] [(.ref a), (.int (2 : Int32))])) (fun t k => ?_) ?_
  · show Steps p.tables e below (s₁.setTop (mkF m 20 #[.val (.ref a), .val (.ref b), .val (.int (1 : Int32))] [(.int (1 : Int32)), (.ref b), (.int x1)])) t
    refine X0.baloadBytes hx (j := (1 : Int32)) (v := (.int x1)) (by rw [e0]; exact Ar8.1) (State.isArrayOf_alike hZ.alike Ar8.2.1) Ar8.2.2 (inb_of S8 ⟨by decide, by decide⟩) (Has.at H8 (inb_of S8 ⟨by decide, by decide⟩) rfl) (g := (mkF m 20 #[.val (.ref a), .val (.ref b), .val (.int (1 : Int32))] [(.int (1 : Int32)), (.ref b), (.int x1)])) rfl rfl (hb hby own_d25_20) _ ?_
    show Steps p.tables e below (s₁.setTop (mkF m 21 #[.val (.ref a), .val (.ref b), .val (.int (1 : Int32))] [(.int x1), (.int x1)])) t
    refine XS.icmpYes X0.here hx rfl (pc0 := 21) (pc' := 26) rfl (hb hby own_d25_21) rfl (teq (rfl : x1 = x1)).1 (by decide) (by decide) ?_
    refine XS.iinc X0.here hx rfl (hb hby own_d25_26) rfl (l' := #[.val (.ref a), .val (.ref b), .val (.int (2 : Int32))]) rfl ?_
    refine XS.goto X0.here hx rfl (pc0 := 29) (pc' := 9) rfl (hb hby own_d25_29) (by decide) (by decide) ?_
    refine XS.iloadN X0.here hx rfl (hb hby own_d25_9) rfl ?_
    refine XS.aloadN X0.here hx rfl (hb hby own_d25_10) rfl rfl ?_
    exact k
  obtain ⟨cl9, Ar9, q9, S9, M9, H9, G9⟩ := id V_a
  refine own_st (T' := s₁) (g' := (mkF m 33 #[.val (.ref a), .val (.ref b), .val (.int (2 : Int32))] [(.int (1 : Int32))])) (fun t k => ?_) ?_
  · show Steps p.tables e below (s₁.setTop (mkF m 11 #[.val (.ref a), .val (.ref b), .val (.int (2 : Int32))] [(.ref a), (.int (2 : Int32))])) t
    refine X0.arraylength hx (by rw [e0]; exact Ar9.1) (State.isArrayOf_alike hZ.alike Ar9.2.1) (g := (mkF m 11 #[.val (.ref a), .val (.ref b), .val (.int (2 : Int32))] [(.ref a), (.int (2 : Int32))])) rfl rfl (hb hby own_d25_11) _ ?_
    rw [len_of S9 M9]
    show Steps p.tables e below (s₁.setTop (mkF m 12 #[.val (.ref a), .val (.ref b), .val (.int (2 : Int32))] [(.int (2 : Int32)), (.int (2 : Int32))])) t
    refine XS.icmpYes X0.here hx rfl (pc0 := 12) (pc' := 32) rfl (hb hby own_d25_12) rfl (flt Int32.lt_irrefl).2.1 (by decide) (by decide) ?_
    refine XS.iconst X0.here hx rfl (hb hby own_d25_32) ?_
    exact k
  exact own_retN X0 hx Bd (t := .boolean) (by simp) rfl (hb hby own_d25_33) e0 (⟨rfl, N0, rfl⟩) (by decide) (by decide)
def own_r25_3 : Room := { frames := 0, cells := 0, slots := 0, locals := 0 }
theorem own_ef25_3 (m : MethodId) (x0 : Addr) (x1 : Addr) : entryFrame m #[(.ref x0), (.ref x1)] 3 = mkF m 0 #[.val (.ref x0), .val (.ref x1), .unset] [] := by first | (simp [entryFrame, mkF, argsToLocals, Value.category]; done) | rfl
def own_Q25_3 (Z : State) (a b : Addr) (ka kb : ClassId) (x0 x1 x2 : Int32) (cs : Int32) (h0 : Heap) (n0 : Nat) : Option Value → Heap → List Loc → Prop := fun v h L => v = some (.int (1 : Int32)) ∧ Fr n0 L ∧ h = h0
set_option maxRecDepth 65536 in
set_option maxHeartbeats 40000000 in
theorem own_rm25_3 (l : Launch) (Z : State) (a0 : Array Value) (hw : ∀ d ∈ tables_1, d.before a0 Z = true) (ws : List Jvm.Cond) (a b : Addr) (ka kb : ClassId) (x0 x1 x2 : Int32) (cs : Int32) (h0 : Heap) (n0 : Nat) (Z0 : n0 ≤ h0.size) (O0 : Old Z n0 h0) (V_a : Arv Z h0 a ka .byte (3 : Int32) [(.int x0), (.int x1), (.int x2)] (.int (0 : Int32))) (V_b : Arv Z h0 b kb .byte (3 : Int32) [(.int x0), (.int x1), (.int x2)] (.int (0 : Int32))) (hcs : ¬ cs = (0 : Int32)) (S_cs : Sta Z Z.heap "java/lang/String" "COMPACT_STRINGS" "Z" (.int cs)) :
    MetFree l (⟨"java/lang/StringLatin1", "equals", "([B[B)Z"⟩ : MethodName) (head1 (Jvm.Cond.code (⟨"java/lang/StringLatin1", "equals", "([B[B)Z"⟩ : MethodName) jdk_43_method_13_code 3 (some .boolean) :: ws) own_r25_3) (fun a_ U_ => a_ = #[(.ref a), (.ref b)] ∧ Z.Warmed39 U_.vm ∧ U_.heap = h0) (fun _ _ _ _ _ => True) (fun _ U_ o_ U'_ => ∃ v_ L_, o_ = .returned v_ ∧ own_Q25_3 Z a b  ka kb  x0 x1 x2  cs  h0 n0 v_ U'_.heap L_ ∧ FrameEnd U_ o_ U'_ L_ own_r25_3.cells own_r25_3.slots) := by
  refine MetFree.of_bodySF (plainFor_of_name own_pn3) hisR ?_
  intro p e s m args below meth c s₁ Bd hml0 hP hK
  obtain ⟨rfl, hZ, hh⟩ := hP
  have hx := Bd.exec
  have hby := Bd.bytes
  have hml : c.maxLocals = 3 := hml0
  have hown : s.vm.findClass "java/lang/StringLatin1" = some m.cls := findClass_of_methodNamed Bd.named
  have hnm := (name_of_methodNamed Bd.named Bd.method).1
  have X0 : Stand p l e own_r25_3 s m #[(.ref a), (.ref b)] below meth c s₁ [] 0 0 := Stand.of_body Bd
  have e0 : s₁.heap = h0 := by rw [← hh, Bd.state]; rfl
  have N0 := Fr.nil n0
  refine own_in (own_ef25_3 m a b) ?_
  show own_Go p e below (own_K s (own_Q25_3 Z a b  ka kb  x0 x1 x2  cs  h0 n0) own_r25_3.cells own_r25_3.slots) s₁ (mkF m 0 #[.val (.ref a), .val (.ref b), .unset] [])
  refine own_st (T' := s₁) (g' := (mkF m 1 #[.val (.ref a), .val (.ref b), .unset] [(.ref a)])) (fun t k => ?_) ?_
  · show Steps p.tables e below (s₁.setTop (mkF m 0 #[.val (.ref a), .val (.ref b), .unset] [])) t
    refine XS.aloadN X0.here hx rfl (hb hby own_d25_0) rfl rfl ?_
    exact k
  obtain ⟨cl1, Ar1, q1, S1, M1, H1, G1⟩ := id V_a
  refine own_st (T' := s₁) (g' := (mkF m 3 #[.val (.ref a), .val (.ref b), .unset] [(.ref b), (.int (3 : Int32))])) (fun t k => ?_) ?_
  · show Steps p.tables e below (s₁.setTop (mkF m 1 #[.val (.ref a), .val (.ref b), .unset] [(.ref a)])) t
    refine X0.arraylength hx (by rw [e0]; exact Ar1.1) (State.isArrayOf_alike hZ.alike Ar1.2.1) (g := (mkF m 1 #[.val (.ref a), .val (.ref b), .unset] [(.ref a)])) rfl rfl (hb hby own_d25_1) _ ?_
    rw [len_of S1 M1]
    show Steps p.tables e below (s₁.setTop (mkF m 2 #[.val (.ref a), .val (.ref b), .unset] [(.int (3 : Int32))])) t
    refine XS.aloadN X0.here hx rfl (hb hby own_d25_2) rfl rfl ?_
    exact k
  obtain ⟨cl2, Ar2, q2, S2, M2, H2, G2⟩ := id V_b
  refine own_st (T' := s₁) (g' := (mkF m 11 #[.val (.ref a), .val (.ref b), .val (.int (0 : Int32))] [(.ref a), (.int (0 : Int32))])) (fun t k => ?_) ?_
  · show Steps p.tables e below (s₁.setTop (mkF m 3 #[.val (.ref a), .val (.ref b), .unset] [(.ref b), (.int (3 : Int32))])) t
    refine X0.arraylength hx (by rw [e0]; exact Ar2.1) (State.isArrayOf_alike hZ.alike Ar2.2.1) (g := (mkF m 3 #[.val (.ref a), .val (.ref b), .unset] [(.ref b), (.int (3 : Int32))])) rfl rfl (hb hby own_d25_3) _ ?_
    rw [len_of S2 M2]
    show Steps p.tables e below (s₁.setTop (mkF m 4 #[.val (.ref a), .val (.ref b), .unset] [(.int (3 : Int32)), (.int (3 : Int32))])) t
    refine XS.icmpNo X0.here hx rfl (hb hby own_d25_4) rfl (teq (rfl : (3 : Int32) = (3 : Int32))).2 ?_
    refine XS.iconst X0.here hx rfl (hb hby own_d25_7) ?_
    refine XS.istoreN X0.here hx rfl (hb hby own_d25_8) rfl (l' := #[.val (.ref a), .val (.ref b), .val (.int (0 : Int32))]) rfl ?_
    refine XS.iloadN X0.here hx rfl (hb hby own_d25_9) rfl ?_
    refine XS.aloadN X0.here hx rfl (hb hby own_d25_10) rfl rfl ?_
    exact k
  obtain ⟨cl3, Ar3, q3, S3, M3, H3, G3⟩ := id V_a
  refine own_st (T' := s₁) (g' := (mkF m 17 #[.val (.ref a), .val (.ref b), .val (.int (0 : Int32))] [(.int (0 : Int32)), (.ref a)])) (fun t k => ?_) ?_
  · show Steps p.tables e below (s₁.setTop (mkF m 11 #[.val (.ref a), .val (.ref b), .val (.int (0 : Int32))] [(.ref a), (.int (0 : Int32))])) t
    refine X0.arraylength hx (by rw [e0]; exact Ar3.1) (State.isArrayOf_alike hZ.alike Ar3.2.1) (g := (mkF m 11 #[.val (.ref a), .val (.ref b), .val (.int (0 : Int32))] [(.ref a), (.int (0 : Int32))])) rfl rfl (hb hby own_d25_11) _ ?_
    rw [len_of S3 M3]
    show Steps p.tables e below (s₁.setTop (mkF m 12 #[.val (.ref a), .val (.ref b), .val (.int (0 : Int32))] [(.int (3 : Int32)), (.int (0 : Int32))])) t
    refine XS.icmpNo X0.here hx rfl (hb hby own_d25_12) rfl (tlt (by decide : (0 : Int32) < (3 : Int32))).2.1 ?_
    refine XS.aloadN X0.here hx rfl (hb hby own_d25_15) rfl rfl ?_
    refine XS.iloadN X0.here hx rfl (hb hby own_d25_16) rfl ?_
    exact k
  obtain ⟨cl4, Ar4, q4, S4, M4, H4, G4⟩ := id V_a
  refine own_st (T' := s₁) (g' := (mkF m 20 #[.val (.ref a), .val (.ref b), .val (.int (0 : Int32))] [(.int (0 : Int32)), (.ref b), (.int x0)])) (fun t k => ?_) ?_
  · show Steps p.tables e below (s₁.setTop (mkF m 17 #[.val (.ref a), .val (.ref b), .val (.int (0 : Int32))] [(.int (0 : Int32)), (.ref a)])) t
    refine X0.baloadBytes hx (j := (0 : Int32)) (v := (.int x0)) (by rw [e0]; exact Ar4.1) (State.isArrayOf_alike hZ.alike Ar4.2.1) Ar4.2.2 (inb_of S4 ⟨by decide, by decide⟩) (Has.at H4 (inb_of S4 ⟨by decide, by decide⟩) rfl) (g := (mkF m 17 #[.val (.ref a), .val (.ref b), .val (.int (0 : Int32))] [(.int (0 : Int32)), (.ref a)])) rfl rfl (hb hby own_d25_17) _ ?_
    show Steps p.tables e below (s₁.setTop (mkF m 18 #[.val (.ref a), .val (.ref b), .val (.int (0 : Int32))] [(.int x0)])) t
    refine XS.aloadN X0.here hx rfl (hb hby own_d25_18) rfl rfl ?_
    refine XS.iloadN X0.here hx rfl (hb hby own_d25_19) rfl ?_
    exact k
  obtain ⟨cl5, Ar5, q5, S5, M5, H5, G5⟩ := id V_b
  refine own_st (T' := s₁) (g' := (mkF m 11 #[.val (.ref a), .val (.ref b), .val (.int (1 : Int32))] [(.ref a), (.int (1 : Int32))])) (fun t k => ?_) ?_
  · show Steps p.tables e below (s₁.setTop (mkF m 20 #[.val (.ref a), .val (.ref b), .val (.int (0 : Int32))] [(.int (0 : Int32)), (.ref b), (.int x0)])) t
    refine X0.baloadBytes hx (j := (0 : Int32)) (v := (.int x0)) (by rw [e0]; exact Ar5.1) (State.isArrayOf_alike hZ.alike Ar5.2.1) Ar5.2.2 (inb_of S5 ⟨by decide, by decide⟩) (Has.at H5 (inb_of S5 ⟨by decide, by decide⟩) rfl) (g := (mkF m 20 #[.val (.ref a), .val (.ref b), .val (.int (0 : Int32))] [(.int (0 : Int32)), (.ref b), (.int x0)])) rfl rfl (hb hby own_d25_20) _ ?_
    show Steps p.tables e below (s₁.setTop (mkF m 21 #[.val (.ref a), .val (.ref b), .val (.int (0 : Int32))] [(.int x0), (.int x0)])) t
    refine XS.icmpYes X0.here hx rfl (pc0 := 21) (pc' := 26) rfl (hb hby own_d25_21) rfl (teq (rfl : x0 = x0)).1 (by decide) (by decide) ?_
    refine XS.iinc X0.here hx rfl (hb hby own_d25_26) rfl (l' := #[.val (.ref a), .val (.ref b), .val (.int (1 : Int32))]) rfl ?_
    refine XS.goto X0.here hx rfl (pc0 := 29) (pc' := 9) rfl (hb hby own_d25_29) (by decide) (by decide) ?_
    refine XS.iloadN X0.here hx rfl (hb hby own_d25_9) rfl ?_
    refine XS.aloadN X0.here hx rfl (hb hby own_d25_10) rfl rfl ?_
    exact k
  obtain ⟨cl6, Ar6, q6, S6, M6, H6, G6⟩ := id V_a
  refine own_st (T' := s₁) (g' := (mkF m 17 #[.val (.ref a), .val (.ref b), .val (.int (1 : Int32))] [(.int (1 : Int32)), (.ref a)])) (fun t k => ?_) ?_
  · show Steps p.tables e below (s₁.setTop (mkF m 11 #[.val (.ref a), .val (.ref b), .val (.int (1 : Int32))] [(.ref a), (.int (1 : Int32))])) t
    refine X0.arraylength hx (by rw [e0]; exact Ar6.1) (State.isArrayOf_alike hZ.alike Ar6.2.1) (g := (mkF m 11 #[.val (.ref a), .val (.ref b), .val (.int (1 : Int32))] [(.ref a), (.int (1 : Int32))])) rfl rfl (hb hby own_d25_11) _ ?_
    rw [len_of S6 M6]
    show Steps p.tables e below (s₁.setTop (mkF m 12 #[.val (.ref a), .val (.ref b), .val (.int (1 : Int32))] [(.int (3 : Int32)), (.int (1 : Int32))])) t
    refine XS.icmpNo X0.here hx rfl (hb hby own_d25_12) rfl (tlt (by decide : (1 : Int32) < (3 : Int32))).2.1 ?_
    refine XS.aloadN X0.here hx rfl (hb hby own_d25_15) rfl rfl ?_
    refine XS.iloadN X0.here hx rfl (hb hby own_d25_16) rfl ?_
    exact k
  obtain ⟨cl7, Ar7, q7, S7, M7, H7, G7⟩ := id V_a
  refine own_st (T' := s₁) (g' := (mkF m 20 #[.val (.ref a), .val (.ref b), .val (.int (1 : Int32))] [(.int (1 : Int32)), (.ref b), (.int x1)])) (fun t k => ?_) ?_
  · show Steps p.tables e below (s₁.setTop (mkF m 17 #[.val (.ref a), .val (.ref b), .val (.int (1 : Int32))] [(.int (1 : Int32)), (.ref a)])) t
    refine X0.baloadBytes hx (j := (1 : Int32)) (v := (.int x1)) (by rw [e0]; exact Ar7.1) (State.isArrayOf_alike hZ.alike Ar7.2.1) Ar7.2.2 (inb_of S7 ⟨by decide, by decide⟩) (Has.at H7 (inb_of S7 ⟨by decide, by decide⟩) rfl) (g := (mkF m 17 #[.val (.ref a), .val (.ref b), .val (.int (1 : Int32))] [(.int (1 : Int32)), (.ref a)])) rfl rfl (hb hby own_d25_17) _ ?_
    show Steps p.tables e below (s₁.setTop (mkF m 18 #[.val (.ref a), .val (.ref b), .val (.int (1 : Int32))] [(.int x1)])) t
    refine XS.aloadN X0.here hx rfl (hb hby own_d25_18) rfl rfl ?_
    refine XS.iloadN X0.here hx rfl (hb hby own_d25_19) rfl ?_
    exact k
  obtain ⟨cl8, Ar8, q8, S8, M8, H8, G8⟩ := id V_b
  refine own_st (T' := s₁) (g' := (mkF m 11 #[.val (.ref a), .val (.ref b), .val (.int (2 : Int32))] [(.ref a), (.int (2 : Int32))])) (fun t k => ?_) ?_
  · show Steps p.tables e below (s₁.setTop (mkF m 20 #[.val (.ref a), .val (.ref b), .val (.int (1 : Int32))] [(.int (1 : Int32)), (.ref b), (.int x1)])) t
    refine X0.baloadBytes hx (j := (1 : Int32)) (v := (.int x1)) (by rw [e0]; exact Ar8.1) (State.isArrayOf_alike hZ.alike Ar8.2.1) Ar8.2.2 (inb_of S8 ⟨by decide, by decide⟩) (Has.at H8 (inb_of S8 ⟨by decide, by decide⟩) rfl) (g := (mkF m 20 #[.val (.ref a), .val (.ref b), .val (.int (1 : Int32))] [(.int (1 : Int32)), (.ref b), (.int x1)])) rfl rfl (hb hby own_d25_20) _ ?_
    show Steps p.tables e below (s₁.setTop (mkF m 21 #[.val (.ref a), .val (.ref b), .val (.int (1 : Int32))] [(.int x1), (.int x1)])) t
    refine XS.icmpYes X0.here hx rfl (pc0 := 21) (pc' := 26) rfl (hb hby own_d25_21) rfl (teq (rfl : x1 = x1)).1 (by decide) (by decide) ?_
    refine XS.iinc X0.here hx rfl (hb hby own_d25_26) rfl (l' := #[.val (.ref a), .val (.ref b), .val (.int (2 : Int32))]) rfl ?_
    refine XS.goto X0.here hx rfl (pc0 := 29) (pc' := 9) rfl (hb hby own_d25_29) (by decide) (by decide) ?_
    refine XS.iloadN X0.here hx rfl (hb hby own_d25_9) rfl ?_
    refine XS.aloadN X0.here hx rfl (hb hby own_d25_10) rfl rfl ?_
    exact k
  obtain ⟨cl9, Ar9, q9, S9, M9, H9, G9⟩ := id V_a
  refine own_st (T' := s₁) (g' := (mkF m 17 #[.val (.ref a), .val (.ref b), .val (.int (2 : Int32))] [(.int (2 : Int32)), (.ref a)])) (fun t k => ?_) ?_
  · show Steps p.tables e below (s₁.setTop (mkF m 11 #[.val (.ref a), .val (.ref b), .val (.int (2 : Int32))] [(.ref a), (.int (2 : Int32))])) t
    refine X0.arraylength hx (by rw [e0]; exact Ar9.1) (State.isArrayOf_alike hZ.alike Ar9.2.1) (g := (mkF m 11 #[.val (.ref a), .val (.ref b), .val (.int (2 : Int32))] [(.ref a), (.int (2 : Int32))])) rfl rfl (hb hby own_d25_11) _ ?_
    rw [len_of S9 M9]
    show Steps p.tables e below (s₁.setTop (mkF m 12 #[.val (.ref a), .val (.ref b), .val (.int (2 : Int32))] [(.int (3 : Int32)), (.int (2 : Int32))])) t
    refine XS.icmpNo X0.here hx rfl (hb hby own_d25_12) rfl (tlt (by decide : (2 : Int32) < (3 : Int32))).2.1 ?_
    refine XS.aloadN X0.here hx rfl (hb hby own_d25_15) rfl rfl ?_
    refine XS.iloadN X0.here hx rfl (hb hby own_d25_16) rfl ?_
    exact k
  obtain ⟨cl10, Ar10, q10, S10, M10, H10, G10⟩ := id V_a
  refine own_st (T' := s₁) (g' := (mkF m 20 #[.val (.ref a), .val (.ref b), .val (.int (2 : Int32))] [(.int (2 : Int32)), (.ref b), (.int x2)])) (fun t k => ?_) ?_
  · show Steps p.tables e below (s₁.setTop (mkF m 17 #[.val (.ref a), .val (.ref b), .val (.int (2 : Int32))] [(.int (2 : Int32)), (.ref a)])) t
    refine X0.baloadBytes hx (j := (2 : Int32)) (v := (.int x2)) (by rw [e0]; exact Ar10.1) (State.isArrayOf_alike hZ.alike Ar10.2.1) Ar10.2.2 (inb_of S10 ⟨by decide, by decide⟩) (Has.at H10 (inb_of S10 ⟨by decide, by decide⟩) rfl) (g := (mkF m 17 #[.val (.ref a), .val (.ref b), .val (.int (2 : Int32))] [(.int (2 : Int32)), (.ref a)])) rfl rfl (hb hby own_d25_17) _ ?_
    show Steps p.tables e below (s₁.setTop (mkF m 18 #[.val (.ref a), .val (.ref b), .val (.int (2 : Int32))] [(.int x2)])) t
    refine XS.aloadN X0.here hx rfl (hb hby own_d25_18) rfl rfl ?_
    refine XS.iloadN X0.here hx rfl (hb hby own_d25_19) rfl ?_
    exact k
  obtain ⟨cl11, Ar11, q11, S11, M11, H11, G11⟩ := id V_b
  refine own_st (T' := s₁) (g' := (mkF m 11 #[.val (.ref a), .val (.ref b), .val (.int (3 : Int32))] [(.ref a), (.int (3 : Int32))])) (fun t k => ?_) ?_
  · show Steps p.tables e below (s₁.setTop (mkF m 20 #[.val (.ref a), .val (.ref b), .val (.int (2 : Int32))] [(.int (2 : Int32)), (.ref b), (.int x2)])) t
    refine X0.baloadBytes hx (j := (2 : Int32)) (v := (.int x2)) (by rw [e0]; exact Ar11.1) (State.isArrayOf_alike hZ.alike Ar11.2.1) Ar11.2.2 (inb_of S11 ⟨by decide, by decide⟩) (Has.at H11 (inb_of S11 ⟨by decide, by decide⟩) rfl) (g := (mkF m 20 #[.val (.ref a), .val (.ref b), .val (.int (2 : Int32))] [(.int (2 : Int32)), (.ref b), (.int x2)])) rfl rfl (hb hby own_d25_20) _ ?_
    show Steps p.tables e below (s₁.setTop (mkF m 21 #[.val (.ref a), .val (.ref b), .val (.int (2 : Int32))] [(.int x2), (.int x2)])) t
    refine XS.icmpYes X0.here hx rfl (pc0 := 21) (pc' := 26) rfl (hb hby own_d25_21) rfl (teq (rfl : x2 = x2)).1 (by decide) (by decide) ?_
    refine XS.iinc X0.here hx rfl (hb hby own_d25_26) rfl (l' := #[.val (.ref a), .val (.ref b), .val (.int (3 : Int32))]) rfl ?_
    refine XS.goto X0.here hx rfl (pc0 := 29) (pc' := 9) rfl (hb hby own_d25_29) (by decide) (by decide) ?_
    refine XS.iloadN X0.here hx rfl (hb hby own_d25_9) rfl ?_
    refine XS.aloadN X0.here hx rfl (hb hby own_d25_10) rfl rfl ?_
    exact k
  obtain ⟨cl12, Ar12, q12, S12, M12, H12, G12⟩ := id V_a
  refine own_st (T' := s₁) (g' := (mkF m 33 #[.val (.ref a), .val (.ref b), .val (.int (3 : Int32))] [(.int (1 : Int32))])) (fun t k => ?_) ?_
  · show Steps p.tables e below (s₁.setTop (mkF m 11 #[.val (.ref a), .val (.ref b), .val (.int (3 : Int32))] [(.ref a), (.int (3 : Int32))])) t
    refine X0.arraylength hx (by rw [e0]; exact Ar12.1) (State.isArrayOf_alike hZ.alike Ar12.2.1) (g := (mkF m 11 #[.val (.ref a), .val (.ref b), .val (.int (3 : Int32))] [(.ref a), (.int (3 : Int32))])) rfl rfl (hb hby own_d25_11) _ ?_
    rw [len_of S12 M12]
    show Steps p.tables e below (s₁.setTop (mkF m 12 #[.val (.ref a), .val (.ref b), .val (.int (3 : Int32))] [(.int (3 : Int32)), (.int (3 : Int32))])) t
    refine XS.icmpYes X0.here hx rfl (pc0 := 12) (pc' := 32) rfl (hb hby own_d25_12) rfl (flt Int32.lt_irrefl).2.1 (by decide) (by decide) ?_
    refine XS.iconst X0.here hx rfl (hb hby own_d25_32) ?_
    exact k
  exact own_retN X0 hx Bd (t := .boolean) (by simp) rfl (hb hby own_d25_33) e0 (⟨rfl, N0, rfl⟩) (by decide) (by decide)
def own_r24_1 : Room := { frames := 1, cells := 0, slots := 0, locals := 14 }
theorem own_ef24_1 (m : MethodId) (x0 : Addr) (x1 : Addr) : entryFrame m #[(.ref x0), (.ref x1)] 3 = mkF m 0 #[.val (.ref x0), .val (.ref x1), .unset] [] := by first | (simp [entryFrame, mkF, argsToLocals, Value.category]; done) | rfl
def own_Q24_1 (Z : State) (r arr : Addr) (ka : ClassId) (x0 : Int32) (u brr : Addr) (kb : ClassId) (cs : Int32) (h0 : Heap) (n0 : Nat) : Option Value → Heap → List Loc → Prop := fun v h L => v = some (.int (1 : Int32)) ∧ Fr n0 L ∧ h = h0
set_option maxRecDepth 65536 in
set_option maxHeartbeats 40000000 in
theorem own_rm24_1 (l : Launch) (Z : State) (a0 : Array Value) (hw : ∀ d ∈ tables_1, d.before a0 Z = true) (ws : List Jvm.Cond) (r arr : Addr) (ka : ClassId) (x0 : Int32) (u brr : Addr) (kb : ClassId) (cs : Int32) (h0 : Heap) (n0 : Nat) (Z0 : n0 ≤ h0.size) (O0 : Old Z n0 h0) (E_r : Exa Z h0 r "java/lang/String") (F_v : Fld Z h0 r "java/lang/String" "value" "[B" (.ref arr)) (F_c : Fld Z h0 r "java/lang/String" "coder" "B" (.int (0 : Int32))) (V_a : Arv Z h0 arr ka .byte (1 : Int32) [(.int x0)] (.int (0 : Int32))) (E2_u : Exa Z h0 u "java/lang/String") (F2_v : Fld Z h0 u "java/lang/String" "value" "[B" (.ref brr)) (F2_c : Fld Z h0 u "java/lang/String" "coder" "B" (.int (0 : Int32))) (V2_a : Arv Z h0 brr kb .byte (1 : Int32) [(.int x0)] (.int (0 : Int32))) (nru : r ≠ u) (hcs : ¬ cs = (0 : Int32)) (S_cs : Sta Z Z.heap "java/lang/String" "COMPACT_STRINGS" "Z" (.int cs)) :
    MetFree l (⟨"java/lang/String", "equals", "(Ljava/lang/Object;)Z"⟩ : MethodName) (head1 (Jvm.Cond.code (⟨"java/lang/String", "equals", "(Ljava/lang/Object;)Z"⟩ : MethodName) jdk_42_method_66_code 3 (some .boolean) :: ws) own_r24_1) (fun a_ U_ => a_ = #[(.ref r), (.ref u)] ∧ Z.Warmed39 U_.vm ∧ U_.heap = h0) (fun _ _ _ _ _ => True) (fun _ U_ o_ U'_ => ∃ v_ L_, o_ = .returned v_ ∧ own_Q24_1 Z r arr  ka  x0  u brr  kb  cs  h0 n0 v_ U'_.heap L_ ∧ FrameEnd U_ o_ U'_ L_ own_r24_1.cells own_r24_1.slots) := by
  refine MetFree.of_bodySF (plainFor_of_name own_pn1) hisR ?_
  intro p e s m args below meth c s₁ Bd hml0 hP hK
  obtain ⟨rfl, hZ, hh⟩ := hP
  have hx := Bd.exec
  have hby := Bd.bytes
  have hml : c.maxLocals = 3 := hml0
  have hown : s.vm.findClass "java/lang/String" = some m.cls := findClass_of_methodNamed Bd.named
  have hnm := (name_of_methodNamed Bd.named Bd.method).1
  have X0 : Stand p l e own_r24_1 s m #[(.ref r), (.ref u)] below meth c s₁ [] 0 0 := Stand.of_body Bd
  have e0 : s₁.heap = h0 := by rw [← hh, Bd.state]; rfl
  have N0 := Fr.nil n0
  refine own_in (own_ef24_1 m r u) ?_
  show own_Go p e below (own_K s (own_Q24_1 Z r arr  ka  x0  u brr  kb  cs  h0 n0) own_r24_1.cells own_r24_1.slots) s₁ (mkF m 0 #[.val (.ref r), .val (.ref u), .unset] [])
  refine own_st (T' := s₁) (g' := (mkF m 8 #[.val (.ref r), .val (.ref u), .unset] [(.ref u)])) (fun t k => ?_) ?_
  · show Steps p.tables e below (s₁.setTop (mkF m 0 #[.val (.ref r), .val (.ref u), .unset] [])) t
    refine XS.aloadN X0.here hx rfl (hb hby own_d24_0) rfl rfl ?_
    refine XS.aloadN X0.here hx rfl (hb hby own_d24_1) rfl rfl ?_
    refine Jvm.RoadKit.acmp (g := (mkF m 2 #[.val (.ref r), .val (.ref u), .unset] [(.ref u), (.ref r)])) X0 hx rfl rfl rfl (pc0 := 2) (pc' := 7) (same := false) rfl (hb hby own_d24_2) rfl (decide_eq_false fun q => nru (Value.ref.inj q)) (by decide) (by decide) ?_
    refine XS.aloadN X0.here hx rfl (hb hby own_d24_7) rfl rfl ?_
    exact k
  obtain ⟨T1, X1, e1, st1⟩ := instY X0 hx hZ hown (hw _ (List.mem_of_getElem? (i := 119) rfl)) e0 (Ins.self E2_u) (g := (mkF m 8 #[.val (.ref r), .val (.ref u), .unset] [(.ref u)])) rfl rfl (hb hby own_d24_8)
  refine own_st (T' := T1) (g' := (mkF m 11 #[.val (.ref r), .val (.ref u), .unset] [(.int (1 : Int32))])) st1 ?_
  refine own_st (T' := T1) (g' := (mkF m 15 #[.val (.ref r), .val (.ref u), .unset] [(.ref u)])) (fun t k => ?_) ?_
  · show Steps p.tables e below (T1.setTop (mkF m 11 #[.val (.ref r), .val (.ref u), .unset] [(.int (1 : Int32))])) t
    refine XS.ifNo X1.here hx rfl (hb hby own_d24_11) rfl ((if0 _ _).trans (feq (by decide : ¬ ((1 : Int32) = (0 : Int32)))).1) ?_
    refine XS.aloadN X1.here hx rfl (hb hby own_d24_14) rfl rfl ?_
    exact k
  obtain ⟨T2, X2, e2, st2⟩ := castY X1 hx hZ hown (hw _ (List.mem_of_getElem? (i := 119) rfl)) e1 (Ins.self E2_u) (g := (mkF m 15 #[.val (.ref r), .val (.ref u), .unset] [(.ref u)])) rfl rfl (hb hby own_d24_15)
  refine own_st (T' := T2) (g' := (mkF m 18 #[.val (.ref r), .val (.ref u), .unset] [(.ref u)])) st2 ?_
  refine own_st (T' := T2) (g' := (mkF m 19 #[.val (.ref r), .val (.ref u), .val (.ref u)] [])) (fun t k => ?_) ?_
  · show Steps p.tables e below (T2.setTop (mkF m 18 #[.val (.ref r), .val (.ref u), .unset] [(.ref u)])) t
    refine XS.astoreN X2.here hx rfl (hb hby own_d24_18) rfl rfl (l' := #[.val (.ref r), .val (.ref u), .val (.ref u)]) rfl ?_
    exact k
  have f3 := S_cs.ext O0.2
  obtain ⟨T4, X4, e4, st4⟩ := getS2 X2 hx hZ hown (host := "") (Or.inl (hw _ (List.mem_of_getElem? (i := 19) rfl))) Via.refl e2 f3 (g := (mkF m 19 #[.val (.ref r), .val (.ref u), .val (.ref u)] [])) rfl (hb hby own_d24_19)
  refine own_st (T' := T4) (g' := (mkF m 22 #[.val (.ref r), .val (.ref u), .val (.ref u)] [(.int cs)])) st4 ?_
  refine own_st (T' := T4) (g' := (mkF m 26 #[.val (.ref r), .val (.ref u), .val (.ref u)] [(.ref r)])) (fun t k => ?_) ?_
  · show Steps p.tables e below (T4.setTop (mkF m 22 #[.val (.ref r), .val (.ref u), .val (.ref u)] [(.int cs)])) t
    refine XS.ifNo X4.here hx rfl (hb hby own_d24_22) rfl ((if0 _ _).trans (feq hcs).1) ?_
    refine XS.aloadN X4.here hx rfl (hb hby own_d24_25) rfl rfl ?_
    exact k
  obtain ⟨T5, X5, e5, st5⟩ := getF X4 hx hZ hown (host := "") (Or.inl (hw _ (List.mem_of_getElem? (i := 31) rfl))) Via.refl e4 F_c (g := (mkF m 26 #[.val (.ref r), .val (.ref u), .val (.ref u)] [(.ref r)])) rfl rfl (hb hby own_d24_26)
  refine own_st (T' := T5) (g' := (mkF m 29 #[.val (.ref r), .val (.ref u), .val (.ref u)] [(.int (0 : Int32))])) st5 ?_
  refine own_st (T' := T5) (g' := (mkF m 30 #[.val (.ref r), .val (.ref u), .val (.ref u)] [(.ref u), (.int (0 : Int32))])) (fun t k => ?_) ?_
  · show Steps p.tables e below (T5.setTop (mkF m 29 #[.val (.ref r), .val (.ref u), .val (.ref u)] [(.int (0 : Int32))])) t
    refine XS.aloadN X5.here hx rfl (hb hby own_d24_29) rfl rfl ?_
    exact k
  obtain ⟨T6, X6, e6, st6⟩ := getF X5 hx hZ hown (host := "") (Or.inl (hw _ (List.mem_of_getElem? (i := 31) rfl))) Via.refl e5 F2_c (g := (mkF m 30 #[.val (.ref r), .val (.ref u), .val (.ref u)] [(.ref u), (.int (0 : Int32))])) rfl rfl (hb hby own_d24_30)
  refine own_st (T' := T6) (g' := (mkF m 33 #[.val (.ref r), .val (.ref u), .val (.ref u)] [(.int (0 : Int32)), (.int (0 : Int32))])) st6 ?_
  refine own_st (T' := T6) (g' := (mkF m 37 #[.val (.ref r), .val (.ref u), .val (.ref u)] [(.ref r)])) (fun t k => ?_) ?_
  · show Steps p.tables e below (T6.setTop (mkF m 33 #[.val (.ref r), .val (.ref u), .val (.ref u)] [(.int (0 : Int32)), (.int (0 : Int32))])) t
    refine XS.icmpNo X6.here hx rfl (hb hby own_d24_33) rfl (teq (rfl : (0 : Int32) = (0 : Int32))).2 ?_
    refine XS.aloadN X6.here hx rfl (hb hby own_d24_36) rfl rfl ?_
    exact k
  obtain ⟨T7, X7, e7, st7⟩ := getF X6 hx hZ hown (host := "") (Or.inl (hw _ (List.mem_of_getElem? (i := 33) rfl))) Via.refl e6 F_v (g := (mkF m 37 #[.val (.ref r), .val (.ref u), .val (.ref u)] [(.ref r)])) rfl rfl (hb hby own_d24_37)
  refine own_st (T' := T7) (g' := (mkF m 40 #[.val (.ref r), .val (.ref u), .val (.ref u)] [(.ref arr)])) st7 ?_
  refine own_st (T' := T7) (g' := (mkF m 41 #[.val (.ref r), .val (.ref u), .val (.ref u)] [(.ref u), (.ref arr)])) (fun t k => ?_) ?_
  · show Steps p.tables e below (T7.setTop (mkF m 40 #[.val (.ref r), .val (.ref u), .val (.ref u)] [(.ref arr)])) t
    refine XS.aloadN X7.here hx rfl (hb hby own_d24_40) rfl rfl ?_
    exact k
  obtain ⟨T8, X8, e8, st8⟩ := getF X7 hx hZ hown (host := "") (Or.inl (hw _ (List.mem_of_getElem? (i := 33) rfl))) Via.refl e7 F2_v (g := (mkF m 41 #[.val (.ref r), .val (.ref u), .val (.ref u)] [(.ref u), (.ref arr)])) rfl rfl (hb hby own_d24_41)
  refine own_st (T' := T8) (g' := (mkF m 44 #[.val (.ref r), .val (.ref u), .val (.ref u)] [(.ref brr), (.ref arr)])) st8 ?_
  obtain ⟨_, _, ⟨T9, L9, c9, n9⟩, -, X9, ⟨Lc9, hQ9, l9, y9, z9⟩, st9⟩ := Jvm.LawKit.callS X8 hx (y := (⟨"java/lang/StringLatin1", "equals", "([B[B)Z"⟩ : MethodName)) hown (mvT hZ (hw _ (List.mem_of_getElem? (i := 120) rfl))) (mvT hZ (hw _ (List.mem_of_getElem? (i := 121) rfl))) (mvT hZ (hw _ (List.mem_of_getElem? (i := 81) rfl))) (mvT hZ (hw _ (List.mem_of_getElem? (i := 122) rfl))) (by decide) (backOf (W := 0) (own_rm25_1 l Z a0 hw [] arr brr ka kb x0 cs h0 n0 Z0 O0 V_a V2_a hcs S_cs) hZ (hw _ (List.mem_of_getElem? (i := 122) rfl)) (hw _ (List.mem_of_getElem? (i := 81) rfl)) (by decide) (by decide)) (g := (mkF m 44 #[.val (.ref r), .val (.ref u), .val (.ref u)] [(.ref brr), (.ref arr)])) rfl (by rw [hml]; rfl) (argsL := [(.ref arr), (.ref brr)]) (rest := []) (lenOf own_pd10 rfl) rfl (by show 2 * 0 + _ ≤ _; exact Nat.le_of_eq rfl) (hb hby own_d24_44) (fun _ _ => ⟨rfl, e8, (by decide : 0 + 0 ≤ _), (by decide : 0 + 0 ≤ _)⟩)
  dsimp only [Pt.U, Pt.locs, Pt.cells, Pt.slots] at X9 l9 y9 z9 st9 hQ9
  subst l9 y9 z9
  obtain ⟨rfl, N9q, e9⟩ := hQ9
  have N9 := Fr.app N0 N9q
  refine own_st (T' := T9) (g' := (mkF m 47 #[.val (.ref r), .val (.ref u), .val (.ref u)] [(.int (1 : Int32))])) st9 ?_
  refine own_st (T' := T9) (g' := (mkF m 55 #[.val (.ref r), .val (.ref u), .val (.ref u)] [(.int (1 : Int32))])) (fun t k => ?_) ?_
  · show Steps p.tables e below (T9.setTop (mkF m 47 #[.val (.ref r), .val (.ref u), .val (.ref u)] [(.int (1 : Int32))])) t
    refine XS.ifNo X9.here hx rfl (hb hby own_d24_47) rfl ((if0 _ _).trans (feq (by decide : ¬ ((1 : Int32) = (0 : Int32)))).1) ?_
    refine XS.iconst X9.here hx rfl (hb hby own_d24_50) ?_
    refine XS.goto X9.here hx rfl (pc0 := 51) (pc' := 55) rfl (hb hby own_d24_51) (by decide) (by decide) ?_
    exact k
  exact own_retN X9 hx Bd (t := .boolean) (by simp) rfl (hb hby own_d24_55) e9 (⟨rfl, N9, rfl⟩) (by decide) (by decide)
def own_r24_2 : Room := { frames := 1, cells := 0, slots := 0, locals := 14 }
theorem own_ef24_2 (m : MethodId) (x0 : Addr) (x1 : Addr) : entryFrame m #[(.ref x0), (.ref x1)] 3 = mkF m 0 #[.val (.ref x0), .val (.ref x1), .unset] [] := by first | (simp [entryFrame, mkF, argsToLocals, Value.category]; done) | rfl
def own_Q24_2 (Z : State) (r arr : Addr) (ka : ClassId) (x0 x1 : Int32) (u brr : Addr) (kb : ClassId) (cs : Int32) (h0 : Heap) (n0 : Nat) : Option Value → Heap → List Loc → Prop := fun v h L => v = some (.int (1 : Int32)) ∧ Fr n0 L ∧ h = h0
set_option maxRecDepth 65536 in
set_option maxHeartbeats 40000000 in
theorem own_rm24_2 (l : Launch) (Z : State) (a0 : Array Value) (hw : ∀ d ∈ tables_1, d.before a0 Z = true) (ws : List Jvm.Cond) (r arr : Addr) (ka : ClassId) (x0 x1 : Int32) (u brr : Addr) (kb : ClassId) (cs : Int32) (h0 : Heap) (n0 : Nat) (Z0 : n0 ≤ h0.size) (O0 : Old Z n0 h0) (E_r : Exa Z h0 r "java/lang/String") (F_v : Fld Z h0 r "java/lang/String" "value" "[B" (.ref arr)) (F_c : Fld Z h0 r "java/lang/String" "coder" "B" (.int (0 : Int32))) (V_a : Arv Z h0 arr ka .byte (2 : Int32) [(.int x0), (.int x1)] (.int (0 : Int32))) (E2_u : Exa Z h0 u "java/lang/String") (F2_v : Fld Z h0 u "java/lang/String" "value" "[B" (.ref brr)) (F2_c : Fld Z h0 u "java/lang/String" "coder" "B" (.int (0 : Int32))) (V2_a : Arv Z h0 brr kb .byte (2 : Int32) [(.int x0), (.int x1)] (.int (0 : Int32))) (nru : r ≠ u) (hcs : ¬ cs = (0 : Int32)) (S_cs : Sta Z Z.heap "java/lang/String" "COMPACT_STRINGS" "Z" (.int cs)) :
    MetFree l (⟨"java/lang/String", "equals", "(Ljava/lang/Object;)Z"⟩ : MethodName) (head1 (Jvm.Cond.code (⟨"java/lang/String", "equals", "(Ljava/lang/Object;)Z"⟩ : MethodName) jdk_42_method_66_code 3 (some .boolean) :: ws) own_r24_2) (fun a_ U_ => a_ = #[(.ref r), (.ref u)] ∧ Z.Warmed39 U_.vm ∧ U_.heap = h0) (fun _ _ _ _ _ => True) (fun _ U_ o_ U'_ => ∃ v_ L_, o_ = .returned v_ ∧ own_Q24_2 Z r arr  ka  x0 x1  u brr  kb  cs  h0 n0 v_ U'_.heap L_ ∧ FrameEnd U_ o_ U'_ L_ own_r24_2.cells own_r24_2.slots) := by
  refine MetFree.of_bodySF (plainFor_of_name own_pn1) hisR ?_
  intro p e s m args below meth c s₁ Bd hml0 hP hK
  obtain ⟨rfl, hZ, hh⟩ := hP
  have hx := Bd.exec
  have hby := Bd.bytes
  have hml : c.maxLocals = 3 := hml0
  have hown : s.vm.findClass "java/lang/String" = some m.cls := findClass_of_methodNamed Bd.named
  have hnm := (name_of_methodNamed Bd.named Bd.method).1
  have X0 : Stand p l e own_r24_2 s m #[(.ref r), (.ref u)] below meth c s₁ [] 0 0 := Stand.of_body Bd
  have e0 : s₁.heap = h0 := by rw [← hh, Bd.state]; rfl
  have N0 := Fr.nil n0
  refine own_in (own_ef24_2 m r u) ?_
  show own_Go p e below (own_K s (own_Q24_2 Z r arr  ka  x0 x1  u brr  kb  cs  h0 n0) own_r24_2.cells own_r24_2.slots) s₁ (mkF m 0 #[.val (.ref r), .val (.ref u), .unset] [])
  refine own_st (T' := s₁) (g' := (mkF m 8 #[.val (.ref r), .val (.ref u), .unset] [(.ref u)])) (fun t k => ?_) ?_
  · show Steps p.tables e below (s₁.setTop (mkF m 0 #[.val (.ref r), .val (.ref u), .unset] [])) t
    refine XS.aloadN X0.here hx rfl (hb hby own_d24_0) rfl rfl ?_
    refine XS.aloadN X0.here hx rfl (hb hby own_d24_1) rfl rfl ?_
    refine Jvm.RoadKit.acmp (g := (mkF m 2 #[.val (.ref r), .val (.ref u), .unset] [(.ref u), (.ref r)])) X0 hx rfl rfl rfl (pc0 := 2) (pc' := 7) (same := false) rfl (hb hby own_d24_2) rfl (decide_eq_false fun q => nru (Value.ref.inj q)) (by decide) (by decide) ?_
    refine XS.aloadN X0.here hx rfl (hb hby own_d24_7) rfl rfl ?_
    exact k
  obtain ⟨T1, X1, e1, st1⟩ := instY X0 hx hZ hown (hw _ (List.mem_of_getElem? (i := 119) rfl)) e0 (Ins.self E2_u) (g := (mkF m 8 #[.val (.ref r), .val (.ref u), .unset] [(.ref u)])) rfl rfl (hb hby own_d24_8)
  refine own_st (T' := T1) (g' := (mkF m 11 #[.val (.ref r), .val (.ref u), .unset] [(.int (1 : Int32))])) st1 ?_
  refine own_st (T' := T1) (g' := (mkF m 15 #[.val (.ref r), .val (.ref u), .unset] [(.ref u)])) (fun t k => ?_) ?_
  · show Steps p.tables e below (T1.setTop (mkF m 11 #[.val (.ref r), .val (.ref u), .unset] [(.int (1 : Int32))])) t
    refine XS.ifNo X1.here hx rfl (hb hby own_d24_11) rfl ((if0 _ _).trans (feq (by decide : ¬ ((1 : Int32) = (0 : Int32)))).1) ?_
    refine XS.aloadN X1.here hx rfl (hb hby own_d24_14) rfl rfl ?_
    exact k
  obtain ⟨T2, X2, e2, st2⟩ := castY X1 hx hZ hown (hw _ (List.mem_of_getElem? (i := 119) rfl)) e1 (Ins.self E2_u) (g := (mkF m 15 #[.val (.ref r), .val (.ref u), .unset] [(.ref u)])) rfl rfl (hb hby own_d24_15)
  refine own_st (T' := T2) (g' := (mkF m 18 #[.val (.ref r), .val (.ref u), .unset] [(.ref u)])) st2 ?_
  refine own_st (T' := T2) (g' := (mkF m 19 #[.val (.ref r), .val (.ref u), .val (.ref u)] [])) (fun t k => ?_) ?_
  · show Steps p.tables e below (T2.setTop (mkF m 18 #[.val (.ref r), .val (.ref u), .unset] [(.ref u)])) t
    refine XS.astoreN X2.here hx rfl (hb hby own_d24_18) rfl rfl (l' := #[.val (.ref r), .val (.ref u), .val (.ref u)]) rfl ?_
    exact k
  have f3 := S_cs.ext O0.2
  obtain ⟨T4, X4, e4, st4⟩ := getS2 X2 hx hZ hown (host := "") (Or.inl (hw _ (List.mem_of_getElem? (i := 19) rfl))) Via.refl e2 f3 (g := (mkF m 19 #[.val (.ref r), .val (.ref u), .val (.ref u)] [])) rfl (hb hby own_d24_19)
  refine own_st (T' := T4) (g' := (mkF m 22 #[.val (.ref r), .val (.ref u), .val (.ref u)] [(.int cs)])) st4 ?_
  refine own_st (T' := T4) (g' := (mkF m 26 #[.val (.ref r), .val (.ref u), .val (.ref u)] [(.ref r)])) (fun t k => ?_) ?_
  · show Steps p.tables e below (T4.setTop (mkF m 22 #[.val (.ref r), .val (.ref u), .val (.ref u)] [(.int cs)])) t
    refine XS.ifNo X4.here hx rfl (hb hby own_d24_22) rfl ((if0 _ _).trans (feq hcs).1) ?_
    refine XS.aloadN X4.here hx rfl (hb hby own_d24_25) rfl rfl ?_
    exact k
  obtain ⟨T5, X5, e5, st5⟩ := getF X4 hx hZ hown (host := "") (Or.inl (hw _ (List.mem_of_getElem? (i := 31) rfl))) Via.refl e4 F_c (g := (mkF m 26 #[.val (.ref r), .val (.ref u), .val (.ref u)] [(.ref r)])) rfl rfl (hb hby own_d24_26)
  refine own_st (T' := T5) (g' := (mkF m 29 #[.val (.ref r), .val (.ref u), .val (.ref u)] [(.int (0 : Int32))])) st5 ?_
  refine own_st (T' := T5) (g' := (mkF m 30 #[.val (.ref r), .val (.ref u), .val (.ref u)] [(.ref u), (.int (0 : Int32))])) (fun t k => ?_) ?_
  · show Steps p.tables e below (T5.setTop (mkF m 29 #[.val (.ref r), .val (.ref u), .val (.ref u)] [(.int (0 : Int32))])) t
    refine XS.aloadN X5.here hx rfl (hb hby own_d24_29) rfl rfl ?_
    exact k
  obtain ⟨T6, X6, e6, st6⟩ := getF X5 hx hZ hown (host := "") (Or.inl (hw _ (List.mem_of_getElem? (i := 31) rfl))) Via.refl e5 F2_c (g := (mkF m 30 #[.val (.ref r), .val (.ref u), .val (.ref u)] [(.ref u), (.int (0 : Int32))])) rfl rfl (hb hby own_d24_30)
  refine own_st (T' := T6) (g' := (mkF m 33 #[.val (.ref r), .val (.ref u), .val (.ref u)] [(.int (0 : Int32)), (.int (0 : Int32))])) st6 ?_
  refine own_st (T' := T6) (g' := (mkF m 37 #[.val (.ref r), .val (.ref u), .val (.ref u)] [(.ref r)])) (fun t k => ?_) ?_
  · show Steps p.tables e below (T6.setTop (mkF m 33 #[.val (.ref r), .val (.ref u), .val (.ref u)] [(.int (0 : Int32)), (.int (0 : Int32))])) t
    refine XS.icmpNo X6.here hx rfl (hb hby own_d24_33) rfl (teq (rfl : (0 : Int32) = (0 : Int32))).2 ?_
    refine XS.aloadN X6.here hx rfl (hb hby own_d24_36) rfl rfl ?_
    exact k
  obtain ⟨T7, X7, e7, st7⟩ := getF X6 hx hZ hown (host := "") (Or.inl (hw _ (List.mem_of_getElem? (i := 33) rfl))) Via.refl e6 F_v (g := (mkF m 37 #[.val (.ref r), .val (.ref u), .val (.ref u)] [(.ref r)])) rfl rfl (hb hby own_d24_37)
  refine own_st (T' := T7) (g' := (mkF m 40 #[.val (.ref r), .val (.ref u), .val (.ref u)] [(.ref arr)])) st7 ?_
  refine own_st (T' := T7) (g' := (mkF m 41 #[.val (.ref r), .val (.ref u), .val (.ref u)] [(.ref u), (.ref arr)])) (fun t k => ?_) ?_
  · show Steps p.tables e below (T7.setTop (mkF m 40 #[.val (.ref r), .val (.ref u), .val (.ref u)] [(.ref arr)])) t
    refine XS.aloadN X7.here hx rfl (hb hby own_d24_40) rfl rfl ?_
    exact k
  obtain ⟨T8, X8, e8, st8⟩ := getF X7 hx hZ hown (host := "") (Or.inl (hw _ (List.mem_of_getElem? (i := 33) rfl))) Via.refl e7 F2_v (g := (mkF m 41 #[.val (.ref r), .val (.ref u), .val (.ref u)] [(.ref u), (.ref arr)])) rfl rfl (hb hby own_d24_41)
  refine own_st (T' := T8) (g' := (mkF m 44 #[.val (.ref r), .val (.ref u), .val (.ref u)] [(.ref brr), (.ref arr)])) st8 ?_
  obtain ⟨_, _, ⟨T9, L9, c9, n9⟩, -, X9, ⟨Lc9, hQ9, l9, y9, z9⟩, st9⟩ := Jvm.LawKit.callS X8 hx (y := (⟨"java/lang/StringLatin1", "equals", "([B[B)Z"⟩ : MethodName)) hown (mvT hZ (hw _ (List.mem_of_getElem? (i := 120) rfl))) (mvT hZ (hw _ (List.mem_of_getElem? (i := 121) rfl))) (mvT hZ (hw _ (List.mem_of_getElem? (i := 81) rfl))) (mvT hZ (hw _ (List.mem_of_getElem? (i := 122) rfl))) (by decide) (backOf (W := 0) (own_rm25_2 l Z a0 hw [] arr brr ka kb x0 x1 cs h0 n0 Z0 O0 V_a V2_a hcs S_cs) hZ (hw _ (List.mem_of_getElem? (i := 122) rfl)) (hw _ (List.mem_of_getElem? (i := 81) rfl)) (by decide) (by decide)) (g := (mkF m 44 #[.val (.ref r), .val (.ref u), .val (.ref u)] [(.ref brr), (.ref arr)])) rfl (by rw [hml]; rfl) (argsL := [(.ref arr), (.ref brr)]) (rest := []) (lenOf own_pd10 rfl) rfl (by show 2 * 0 + _ ≤ _; exact Nat.le_of_eq rfl) (hb hby own_d24_44) (fun _ _ => ⟨rfl, e8, (by decide : 0 + 0 ≤ _), (by decide : 0 + 0 ≤ _)⟩)
  dsimp only [Pt.U, Pt.locs, Pt.cells, Pt.slots] at X9 l9 y9 z9 st9 hQ9
  subst l9 y9 z9
  obtain ⟨rfl, N9q, e9⟩ := hQ9
  have N9 := Fr.app N0 N9q
  refine own_st (T' := T9) (g' := (mkF m 47 #[.val (.ref r), .val (.ref u), .val (.ref u)] [(.int (1 : Int32))])) st9 ?_
  refine own_st (T' := T9) (g' := (mkF m 55 #[.val (.ref r), .val (.ref u), .val (.ref u)] [(.int (1 : Int32))])) (fun t k => ?_) ?_
  · show Steps p.tables e below (T9.setTop (mkF m 47 #[.val (.ref r), .val (.ref u), .val (.ref u)] [(.int (1 : Int32))])) t
    refine XS.ifNo X9.here hx rfl (hb hby own_d24_47) rfl ((if0 _ _).trans (feq (by decide : ¬ ((1 : Int32) = (0 : Int32)))).1) ?_
    refine XS.iconst X9.here hx rfl (hb hby own_d24_50) ?_
    refine XS.goto X9.here hx rfl (pc0 := 51) (pc' := 55) rfl (hb hby own_d24_51) (by decide) (by decide) ?_
    exact k
  exact own_retN X9 hx Bd (t := .boolean) (by simp) rfl (hb hby own_d24_55) e9 (⟨rfl, N9, rfl⟩) (by decide) (by decide)
def own_r24_3 : Room := { frames := 1, cells := 0, slots := 0, locals := 14 }
theorem own_ef24_3 (m : MethodId) (x0 : Addr) (x1 : Addr) : entryFrame m #[(.ref x0), (.ref x1)] 3 = mkF m 0 #[.val (.ref x0), .val (.ref x1), .unset] [] := by first | (simp [entryFrame, mkF, argsToLocals, Value.category]; done) | rfl
def own_Q24_3 (Z : State) (r arr : Addr) (ka : ClassId) (x0 x1 x2 : Int32) (u brr : Addr) (kb : ClassId) (cs : Int32) (h0 : Heap) (n0 : Nat) : Option Value → Heap → List Loc → Prop := fun v h L => v = some (.int (1 : Int32)) ∧ Fr n0 L ∧ h = h0
set_option maxRecDepth 65536 in
set_option maxHeartbeats 40000000 in
theorem own_rm24_3 (l : Launch) (Z : State) (a0 : Array Value) (hw : ∀ d ∈ tables_1, d.before a0 Z = true) (ws : List Jvm.Cond) (r arr : Addr) (ka : ClassId) (x0 x1 x2 : Int32) (u brr : Addr) (kb : ClassId) (cs : Int32) (h0 : Heap) (n0 : Nat) (Z0 : n0 ≤ h0.size) (O0 : Old Z n0 h0) (E_r : Exa Z h0 r "java/lang/String") (F_v : Fld Z h0 r "java/lang/String" "value" "[B" (.ref arr)) (F_c : Fld Z h0 r "java/lang/String" "coder" "B" (.int (0 : Int32))) (V_a : Arv Z h0 arr ka .byte (3 : Int32) [(.int x0), (.int x1), (.int x2)] (.int (0 : Int32))) (E2_u : Exa Z h0 u "java/lang/String") (F2_v : Fld Z h0 u "java/lang/String" "value" "[B" (.ref brr)) (F2_c : Fld Z h0 u "java/lang/String" "coder" "B" (.int (0 : Int32))) (V2_a : Arv Z h0 brr kb .byte (3 : Int32) [(.int x0), (.int x1), (.int x2)] (.int (0 : Int32))) (nru : r ≠ u) (hcs : ¬ cs = (0 : Int32)) (S_cs : Sta Z Z.heap "java/lang/String" "COMPACT_STRINGS" "Z" (.int cs)) :
    MetFree l (⟨"java/lang/String", "equals", "(Ljava/lang/Object;)Z"⟩ : MethodName) (head1 (Jvm.Cond.code (⟨"java/lang/String", "equals", "(Ljava/lang/Object;)Z"⟩ : MethodName) jdk_42_method_66_code 3 (some .boolean) :: ws) own_r24_3) (fun a_ U_ => a_ = #[(.ref r), (.ref u)] ∧ Z.Warmed39 U_.vm ∧ U_.heap = h0) (fun _ _ _ _ _ => True) (fun _ U_ o_ U'_ => ∃ v_ L_, o_ = .returned v_ ∧ own_Q24_3 Z r arr  ka  x0 x1 x2  u brr  kb  cs  h0 n0 v_ U'_.heap L_ ∧ FrameEnd U_ o_ U'_ L_ own_r24_3.cells own_r24_3.slots) := by
  refine MetFree.of_bodySF (plainFor_of_name own_pn1) hisR ?_
  intro p e s m args below meth c s₁ Bd hml0 hP hK
  obtain ⟨rfl, hZ, hh⟩ := hP
  have hx := Bd.exec
  have hby := Bd.bytes
  have hml : c.maxLocals = 3 := hml0
  have hown : s.vm.findClass "java/lang/String" = some m.cls := findClass_of_methodNamed Bd.named
  have hnm := (name_of_methodNamed Bd.named Bd.method).1
  have X0 : Stand p l e own_r24_3 s m #[(.ref r), (.ref u)] below meth c s₁ [] 0 0 := Stand.of_body Bd
  have e0 : s₁.heap = h0 := by rw [← hh, Bd.state]; rfl
  have N0 := Fr.nil n0
  refine own_in (own_ef24_3 m r u) ?_
  show own_Go p e below (own_K s (own_Q24_3 Z r arr  ka  x0 x1 x2  u brr  kb  cs  h0 n0) own_r24_3.cells own_r24_3.slots) s₁ (mkF m 0 #[.val (.ref r), .val (.ref u), .unset] [])
  refine own_st (T' := s₁) (g' := (mkF m 8 #[.val (.ref r), .val (.ref u), .unset] [(.ref u)])) (fun t k => ?_) ?_
  · show Steps p.tables e below (s₁.setTop (mkF m 0 #[.val (.ref r), .val (.ref u), .unset] [])) t
    refine XS.aloadN X0.here hx rfl (hb hby own_d24_0) rfl rfl ?_
    refine XS.aloadN X0.here hx rfl (hb hby own_d24_1) rfl rfl ?_
    refine Jvm.RoadKit.acmp (g := (mkF m 2 #[.val (.ref r), .val (.ref u), .unset] [(.ref u), (.ref r)])) X0 hx rfl rfl rfl (pc0 := 2) (pc' := 7) (same := false) rfl (hb hby own_d24_2) rfl (decide_eq_false fun q => nru (Value.ref.inj q)) (by decide) (by decide) ?_
    refine XS.aloadN X0.here hx rfl (hb hby own_d24_7) rfl rfl ?_
    exact k
  obtain ⟨T1, X1, e1, st1⟩ := instY X0 hx hZ hown (hw _ (List.mem_of_getElem? (i := 119) rfl)) e0 (Ins.self E2_u) (g := (mkF m 8 #[.val (.ref r), .val (.ref u), .unset] [(.ref u)])) rfl rfl (hb hby own_d24_8)
  refine own_st (T' := T1) (g' := (mkF m 11 #[.val (.ref r), .val (.ref u), .unset] [(.int (1 : Int32))])) st1 ?_
  refine own_st (T' := T1) (g' := (mkF m 15 #[.val (.ref r), .val (.ref u), .unset] [(.ref u)])) (fun t k => ?_) ?_
  · show Steps p.tables e below (T1.setTop (mkF m 11 #[.val (.ref r), .val (.ref u), .unset] [(.int (1 : Int32))])) t
    refine XS.ifNo X1.here hx rfl (hb hby own_d24_11) rfl ((if0 _ _).trans (feq (by decide : ¬ ((1 : Int32) = (0 : Int32)))).1) ?_
    refine XS.aloadN X1.here hx rfl (hb hby own_d24_14) rfl rfl ?_
    exact k
  obtain ⟨T2, X2, e2, st2⟩ := castY X1 hx hZ hown (hw _ (List.mem_of_getElem? (i := 119) rfl)) e1 (Ins.self E2_u) (g := (mkF m 15 #[.val (.ref r), .val (.ref u), .unset] [(.ref u)])) rfl rfl (hb hby own_d24_15)
  refine own_st (T' := T2) (g' := (mkF m 18 #[.val (.ref r), .val (.ref u), .unset] [(.ref u)])) st2 ?_
  refine own_st (T' := T2) (g' := (mkF m 19 #[.val (.ref r), .val (.ref u), .val (.ref u)] [])) (fun t k => ?_) ?_
  · show Steps p.tables e below (T2.setTop (mkF m 18 #[.val (.ref r), .val (.ref u), .unset] [(.ref u)])) t
    refine XS.astoreN X2.here hx rfl (hb hby own_d24_18) rfl rfl (l' := #[.val (.ref r), .val (.ref u), .val (.ref u)]) rfl ?_
    exact k
  have f3 := S_cs.ext O0.2
  obtain ⟨T4, X4, e4, st4⟩ := getS2 X2 hx hZ hown (host := "") (Or.inl (hw _ (List.mem_of_getElem? (i := 19) rfl))) Via.refl e2 f3 (g := (mkF m 19 #[.val (.ref r), .val (.ref u), .val (.ref u)] [])) rfl (hb hby own_d24_19)
  refine own_st (T' := T4) (g' := (mkF m 22 #[.val (.ref r), .val (.ref u), .val (.ref u)] [(.int cs)])) st4 ?_
  refine own_st (T' := T4) (g' := (mkF m 26 #[.val (.ref r), .val (.ref u), .val (.ref u)] [(.ref r)])) (fun t k => ?_) ?_
  · show Steps p.tables e below (T4.setTop (mkF m 22 #[.val (.ref r), .val (.ref u), .val (.ref u)] [(.int cs)])) t
    refine XS.ifNo X4.here hx rfl (hb hby own_d24_22) rfl ((if0 _ _).trans (feq hcs).1) ?_
    refine XS.aloadN X4.here hx rfl (hb hby own_d24_25) rfl rfl ?_
    exact k
  obtain ⟨T5, X5, e5, st5⟩ := getF X4 hx hZ hown (host := "") (Or.inl (hw _ (List.mem_of_getElem? (i := 31) rfl))) Via.refl e4 F_c (g := (mkF m 26 #[.val (.ref r), .val (.ref u), .val (.ref u)] [(.ref r)])) rfl rfl (hb hby own_d24_26)
  refine own_st (T' := T5) (g' := (mkF m 29 #[.val (.ref r), .val (.ref u), .val (.ref u)] [(.int (0 : Int32))])) st5 ?_
  refine own_st (T' := T5) (g' := (mkF m 30 #[.val (.ref r), .val (.ref u), .val (.ref u)] [(.ref u), (.int (0 : Int32))])) (fun t k => ?_) ?_
  · show Steps p.tables e below (T5.setTop (mkF m 29 #[.val (.ref r), .val (.ref u), .val (.ref u)] [(.int (0 : Int32))])) t
    refine XS.aloadN X5.here hx rfl (hb hby own_d24_29) rfl rfl ?_
    exact k
  obtain ⟨T6, X6, e6, st6⟩ := getF X5 hx hZ hown (host := "") (Or.inl (hw _ (List.mem_of_getElem? (i := 31) rfl))) Via.refl e5 F2_c (g := (mkF m 30 #[.val (.ref r), .val (.ref u), .val (.ref u)] [(.ref u), (.int (0 : Int32))])) rfl rfl (hb hby own_d24_30)
  refine own_st (T' := T6) (g' := (mkF m 33 #[.val (.ref r), .val (.ref u), .val (.ref u)] [(.int (0 : Int32)), (.int (0 : Int32))])) st6 ?_
  refine own_st (T' := T6) (g' := (mkF m 37 #[.val (.ref r), .val (.ref u), .val (.ref u)] [(.ref r)])) (fun t k => ?_) ?_
  · show Steps p.tables e below (T6.setTop (mkF m 33 #[.val (.ref r), .val (.ref u), .val (.ref u)] [(.int (0 : Int32)), (.int (0 : Int32))])) t
    refine XS.icmpNo X6.here hx rfl (hb hby own_d24_33) rfl (teq (rfl : (0 : Int32) = (0 : Int32))).2 ?_
    refine XS.aloadN X6.here hx rfl (hb hby own_d24_36) rfl rfl ?_
    exact k
  obtain ⟨T7, X7, e7, st7⟩ := getF X6 hx hZ hown (host := "") (Or.inl (hw _ (List.mem_of_getElem? (i := 33) rfl))) Via.refl e6 F_v (g := (mkF m 37 #[.val (.ref r), .val (.ref u), .val (.ref u)] [(.ref r)])) rfl rfl (hb hby own_d24_37)
  refine own_st (T' := T7) (g' := (mkF m 40 #[.val (.ref r), .val (.ref u), .val (.ref u)] [(.ref arr)])) st7 ?_
  refine own_st (T' := T7) (g' := (mkF m 41 #[.val (.ref r), .val (.ref u), .val (.ref u)] [(.ref u), (.ref arr)])) (fun t k => ?_) ?_
  · show Steps p.tables e below (T7.setTop (mkF m 40 #[.val (.ref r), .val (.ref u), .val (.ref u)] [(.ref arr)])) t
    refine XS.aloadN X7.here hx rfl (hb hby own_d24_40) rfl rfl ?_
    exact k
  obtain ⟨T8, X8, e8, st8⟩ := getF X7 hx hZ hown (host := "") (Or.inl (hw _ (List.mem_of_getElem? (i := 33) rfl))) Via.refl e7 F2_v (g := (mkF m 41 #[.val (.ref r), .val (.ref u), .val (.ref u)] [(.ref u), (.ref arr)])) rfl rfl (hb hby own_d24_41)
  refine own_st (T' := T8) (g' := (mkF m 44 #[.val (.ref r), .val (.ref u), .val (.ref u)] [(.ref brr), (.ref arr)])) st8 ?_
  obtain ⟨_, _, ⟨T9, L9, c9, n9⟩, -, X9, ⟨Lc9, hQ9, l9, y9, z9⟩, st9⟩ := Jvm.LawKit.callS X8 hx (y := (⟨"java/lang/StringLatin1", "equals", "([B[B)Z"⟩ : MethodName)) hown (mvT hZ (hw _ (List.mem_of_getElem? (i := 120) rfl))) (mvT hZ (hw _ (List.mem_of_getElem? (i := 121) rfl))) (mvT hZ (hw _ (List.mem_of_getElem? (i := 81) rfl))) (mvT hZ (hw _ (List.mem_of_getElem? (i := 122) rfl))) (by decide) (backOf (W := 0) (own_rm25_3 l Z a0 hw [] arr brr ka kb x0 x1 x2 cs h0 n0 Z0 O0 V_a V2_a hcs S_cs) hZ (hw _ (List.mem_of_getElem? (i := 122) rfl)) (hw _ (List.mem_of_getElem? (i := 81) rfl)) (by decide) (by decide)) (g := (mkF m 44 #[.val (.ref r), .val (.ref u), .val (.ref u)] [(.ref brr), (.ref arr)])) rfl (by rw [hml]; rfl) (argsL := [(.ref arr), (.ref brr)]) (rest := []) (lenOf own_pd10 rfl) rfl (by show 2 * 0 + _ ≤ _; exact Nat.le_of_eq rfl) (hb hby own_d24_44) (fun _ _ => ⟨rfl, e8, (by decide : 0 + 0 ≤ _), (by decide : 0 + 0 ≤ _)⟩)
  dsimp only [Pt.U, Pt.locs, Pt.cells, Pt.slots] at X9 l9 y9 z9 st9 hQ9
  subst l9 y9 z9
  obtain ⟨rfl, N9q, e9⟩ := hQ9
  have N9 := Fr.app N0 N9q
  refine own_st (T' := T9) (g' := (mkF m 47 #[.val (.ref r), .val (.ref u), .val (.ref u)] [(.int (1 : Int32))])) st9 ?_
  refine own_st (T' := T9) (g' := (mkF m 55 #[.val (.ref r), .val (.ref u), .val (.ref u)] [(.int (1 : Int32))])) (fun t k => ?_) ?_
  · show Steps p.tables e below (T9.setTop (mkF m 47 #[.val (.ref r), .val (.ref u), .val (.ref u)] [(.int (1 : Int32))])) t
    refine XS.ifNo X9.here hx rfl (hb hby own_d24_47) rfl ((if0 _ _).trans (feq (by decide : ¬ ((1 : Int32) = (0 : Int32)))).1) ?_
    refine XS.iconst X9.here hx rfl (hb hby own_d24_50) ?_
    refine XS.goto X9.here hx rfl (pc0 := 51) (pc' := 55) rfl (hb hby own_d24_51) (by decide) (by decide) ?_
    exact k
  exact own_retN X9 hx Bd (t := .boolean) (by simp) rfl (hb hby own_d24_55) e9 (⟨rfl, N9, rfl⟩) (by decide) (by decide)
def own_r10 : Room := { frames := 0, cells := 0, slots := 0, locals := 0 }
theorem own_ef10 (m : MethodId) (x0 : Addr) (x1 : Addr) : entryFrame m #[(.ref x0), (.ref x1)] 2 = mkF m 0 #[.val (.ref x0), .val (.ref x1)] [] := by first | (simp [entryFrame, mkF, argsToLocals, Value.category]; done) | rfl
def own_Q10 (Z : State) (r u : Addr) (cs : Int32) (h0 : Heap) (n0 : Nat) : Option Value → Heap → List Loc → Prop := fun v h L => v = some (.ref r) ∧ Fr n0 L ∧ h = h0
set_option maxRecDepth 65536 in
set_option maxHeartbeats 40000000 in
theorem own_rm10 (l : Launch) (Z : State) (a0 : Array Value) (hw : ∀ d ∈ tables_1, d.before a0 Z = true) (ws : List Jvm.Cond) (r u : Addr) (cs : Int32) (h0 : Heap) (n0 : Nat) (Z0 : n0 ≤ h0.size) (O0 : Old Z n0 h0)  (hcs : ¬ cs = (0 : Int32)) (S_cs : Sta Z Z.heap "java/lang/String" "COMPACT_STRINGS" "Z" (.int cs)) :
    MetFree l (⟨"java/util/Objects", "requireNonNull", "(Ljava/lang/Object;Ljava/lang/String;)Ljava/lang/Object;"⟩ : MethodName) (head1 (Jvm.Cond.code (⟨"java/util/Objects", "requireNonNull", "(Ljava/lang/Object;Ljava/lang/String;)Ljava/lang/Object;"⟩ : MethodName) jdk_31_method_11_code 2 (some (.object "java/lang/Object")) :: ws) own_r10) (fun a_ U_ => a_ = #[(.ref r), (.ref u)] ∧ Z.Warmed39 U_.vm ∧ U_.heap = h0) (fun _ _ _ _ _ => True) (fun _ U_ o_ U'_ => ∃ v_ L_, o_ = .returned v_ ∧ own_Q10 Z r u  cs  h0 n0 v_ U'_.heap L_ ∧ FrameEnd U_ o_ U'_ L_ own_r10.cells own_r10.slots) := by
  refine MetFree.of_bodySF (plainFor_of_name own_pn4) hisR ?_
  intro p e s m args below meth c s₁ Bd hml0 hP hK
  obtain ⟨rfl, hZ, hh⟩ := hP
  have hx := Bd.exec
  have hby := Bd.bytes
  have hml : c.maxLocals = 2 := hml0
  have hown : s.vm.findClass "java/util/Objects" = some m.cls := findClass_of_methodNamed Bd.named
  have hnm := (name_of_methodNamed Bd.named Bd.method).1
  have X0 : Stand p l e own_r10 s m #[(.ref r), (.ref u)] below meth c s₁ [] 0 0 := Stand.of_body Bd
  have e0 : s₁.heap = h0 := by rw [← hh, Bd.state]; rfl
  have N0 := Fr.nil n0
  refine own_in (own_ef10 m r u) ?_
  show own_Go p e below (own_K s (own_Q10 Z r u  cs  h0 n0) own_r10.cells own_r10.slots) s₁ (mkF m 0 #[.val (.ref r), .val (.ref u)] [])
  refine own_st (T' := s₁) (g' := (mkF m 14 #[.val (.ref r), .val (.ref u)] [(.ref r)])) (fun t k => ?_) ?_
  · show Steps p.tables e below (s₁.setTop (mkF m 0 #[.val (.ref r), .val (.ref u)] [])) t
    refine XS.aloadN X0.here hx rfl (hb hby own_d10_0) rfl rfl ?_
    refine XS.ifnonnullYes X0.here hx rfl (pc0 := 1) (pc' := 13) rfl (hb hby own_d10_1) rfl (by decide) (by decide) ?_
    refine XS.aloadN X0.here hx rfl (hb hby own_d10_13) rfl rfl ?_
    exact k
  exact own_retA X0 hx Bd rfl rfl (hb hby own_d10_14) e0 (⟨rfl, N0, rfl⟩) (by decide) (by decide)
def own_r9_1 : Room := { frames := 4, cells := 2, slots := 24, locals := 59 }
theorem own_ef9_1 (m : MethodId) (x0 : Addr) : entryFrame m #[(.ref x0)] 1 = mkF m 0 #[.val (.ref x0)] [] := by first | (simp [entryFrame, mkF, argsToLocals, Value.category]; done) | rfl
def own_Q9_1 (Z : State) (r arr : Addr) (ka : ClassId) (x0 : Int32) (cs : Int32) (h0 : Heap) (n0 : Nat) : Option Value → Heap → List Loc → Prop := fun v h L => v = none ∧ Fr n0 L ∧ Keep h0 h []
set_option maxRecDepth 65536 in
set_option maxHeartbeats 40000000 in
theorem own_rm9_1 (l : Launch) (Z : State) (a0 : Array Value) (hw : ∀ d ∈ tables_1, d.before a0 Z = true) (ws : List Jvm.Cond) (r arr : Addr) (ka : ClassId) (x0 : Int32) (cs : Int32) (h0 : Heap) (n0 : Nat) (Z0 : n0 ≤ h0.size) (O0 : Old Z n0 h0) (E_r : Exa Z h0 r "java/lang/String") (F_v : Fld Z h0 r "java/lang/String" "value" "[B" (.ref arr)) (F_c : Fld Z h0 r "java/lang/String" "coder" "B" (.int (0 : Int32))) (V_a : Arv Z h0 arr ka .byte (1 : Int32) [(.int x0)] (.int (0 : Int32))) (hn0 : ¬ x0 = (46 : Int32)) (hcs : ¬ cs = (0 : Int32)) (S_cs : Sta Z Z.heap "java/lang/String" "COMPACT_STRINGS" "Z" (.int cs)) :
    MetFree l (⟨"com/example/operation_tracker/operationtracker/model/TaskId", "requireUsableJobId", "(Ljava/lang/String;)V"⟩ : MethodName) (head1 (Jvm.Cond.code (⟨"com/example/operation_tracker/operationtracker/model/TaskId", "requireUsableJobId", "(Ljava/lang/String;)V"⟩ : MethodName) prog_12_method_4_code 1 none :: ws) own_r9_1) (fun a_ U_ => a_ = #[(.ref r)] ∧ Z.Warmed39 U_.vm ∧ U_.heap = h0) (fun _ _ _ _ _ => True) (fun _ U_ o_ U'_ => ∃ v_ L_, o_ = .returned v_ ∧ own_Q9_1 Z r arr  ka  x0  cs  h0 n0 v_ U'_.heap L_ ∧ ReturnedEndW U_ o_ U'_ L_ own_r9_1.cells own_r9_1.slots) := by
  refine MetFree.of_bodySF (plainFor_of_name own_pn5) hisR ?_
  intro p e s m args below meth c s₁ Bd hml0 hP hK
  obtain ⟨rfl, hZ, hh⟩ := hP
  have hx := Bd.exec
  have hby := Bd.bytes
  have hml : c.maxLocals = 1 := hml0
  have hown : s.vm.findClass "com/example/operation_tracker/operationtracker/model/TaskId" = some m.cls := findClass_of_methodNamed Bd.named
  have hnm := (name_of_methodNamed Bd.named Bd.method).1
  have X0 : Stand p l e own_r9_1 s m #[(.ref r)] below meth c s₁ [] 0 0 := Stand.of_body Bd
  obtain ⟨v0, X0, hS0, hZ0, ho0⟩ : ∃ v0, Stand p l e own_r9_1 (s.setVm v0) m #[(.ref r)] below meth c s₁ [] 0 0 ∧ s.Since v0 h0.size ∧ Z.Warmed39 (s.setVm v0).vm ∧ (s.setVm v0).vm.findClass "com/example/operation_tracker/operationtracker/model/TaskId" = some m.cls := ⟨s.vm, X0, (State.WarmedH.refl s).since _, hZ, hown⟩
  have hstr : ∀ d ∈ Bundle.stringAtoms, d.before a0 Z = true := fun d hd => hw d (own_sa d hd)
  have e0 : s₁.heap = h0 := by rw [← hh, Bd.state]; rfl
  have N0 := Fr.nil n0
  refine own_in (own_ef9_1 m r) ?_
  show own_Go p e below (own_KW s (own_Q9_1 Z r arr  ka  x0  cs  h0 n0) own_r9_1.cells own_r9_1.slots) s₁ (mkF m 0 #[.val (.ref r)] [])
  refine own_st (T' := s₁) (g' := (mkF m 1 #[.val (.ref r)] [(.ref r)])) (fun t k => ?_) ?_
  · show Steps p.tables e below (s₁.setTop (mkF m 0 #[.val (.ref r)] [])) t
    refine XS.aloadN X0.here hx rfl (hb hby own_d9_0) rfl rfl ?_
    exact k
  obtain ⟨a1, T1, h1, j1, X1, e1, E1, hS1, hj1, hZ1, ho1, st1⟩ := ldcS X0 hx hZ0 ho0 (hw _ (List.mem_of_getElem? (i := 42) rfl)) hstr e0 hS0 (Nat.le_refl _) (g := (mkF m 1 #[.val (.ref r)] [(.ref r)])) rfl (hb hby own_d9_1) (n := 20) (by decide) (by decide) (by decide) (by decide)
  obtain ⟨v1, hv1⟩ : ∃ z, z = T1.vm := ⟨_, rfl⟩
  rw [← hv1] at X1 hS1 hZ1 ho1
  have K1 : Keep h0 h1 [] := (Keep.refl h0 []).ext E1
  have Z1 : n0 ≤ h1.size := Nat.le_trans Z0 E1.1
  have O1 := O0.ext E1
  refine own_st (T' := T1) (g' := (mkF m 3 #[.val (.ref r)] [(.ref a1), (.ref r)])) st1 ?_
  obtain ⟨_, _, ⟨T2, L2, c2, n2⟩, -, X2, ⟨Lc2, hQ2, l2, y2, z2⟩, st2⟩ := Jvm.LawKit.callS X1 hx (y := (⟨"java/util/Objects", "requireNonNull", "(Ljava/lang/Object;Ljava/lang/String;)Ljava/lang/Object;"⟩ : MethodName)) ho1 (mvT hZ1 (hw _ (List.mem_of_getElem? (i := 45) rfl))) (mvT hZ1 (hw _ (List.mem_of_getElem? (i := 46) rfl))) (mvT hZ1 (hw _ (List.mem_of_getElem? (i := 47) rfl))) (mvT hZ1 (hw _ (List.mem_of_getElem? (i := 48) rfl))) (by decide) (backOf (W := 0) (own_rm10 l Z a0 hw [] r a1 cs h1 n0 Z1 O1  hcs S_cs) hZ1 (hw _ (List.mem_of_getElem? (i := 48) rfl)) (hw _ (List.mem_of_getElem? (i := 47) rfl)) (by decide) (by decide)) (g := (mkF m 3 #[.val (.ref r)] [(.ref a1), (.ref r)])) rfl (by rw [hml]; rfl) (argsL := [(.ref r), (.ref a1)]) (rest := []) (lenOf own_pd11 rfl) rfl (by show 2 * 0 + _ ≤ _; exact Nat.le_of_eq rfl) (hb hby own_d9_3) (fun _ _ => ⟨rfl, e1, (by decide : 2 + 0 ≤ _), (by decide : 24 + 0 ≤ _)⟩)
  dsimp only [Pt.U, Pt.locs, Pt.cells, Pt.slots] at X2 l2 y2 z2 st2 hQ2
  subst l2 y2 z2
  obtain ⟨rfl, N2q, e2⟩ := hQ2
  have N2 := Fr.app N0 N2q
  refine own_st (T' := T2) (g' := (mkF m 6 #[.val (.ref r)] [(.ref r)])) st2 ?_
  refine own_st (T' := T2) (g' := (mkF m 8 #[.val (.ref r)] [(.ref r)])) (fun t k => ?_) ?_
  · show Steps p.tables e below (T2.setTop (mkF m 6 #[.val (.ref r)] [(.ref r)])) t
    refine XS.pop X2.here hx rfl (hb hby own_d9_6) rfl rfl ?_
    refine XS.aloadN X2.here hx rfl (hb hby own_d9_7) rfl rfl ?_
    exact k
  have f3 := E_r.ext E1
  have f4 := F_v.ext E1
  have f5 := F_c.ext E1
  have f6 := V_a.ext E1
  obtain ⟨cq7, kq7, q7a, q7b, q7c⟩ := isOf hZ1 e2 f3
  obtain ⟨_, _, ⟨T7, L7, c7, n7⟩, -, X7, ⟨Lc7, hQ7, l7, y7, z7⟩, st7⟩ := X2.virtualBack hx (y := (⟨"java/lang/String", "isEmpty", "()Z"⟩ : MethodName)) (z := (⟨"java/lang/String", "isEmpty", "()Z"⟩ : MethodName)) ho1 (mvT hZ1 (hw _ (List.mem_of_getElem? (i := 49) rfl))) (mvT hZ1 (hw _ (List.mem_of_getElem? (i := 50) rfl))) (notFace_of_selects (args := #[]) (mvT hZ1 (hw _ (List.mem_of_getElem? (i := 52) rfl)))) (mvT hZ1 (hw _ (List.mem_of_getElem? (i := 52) rfl))) (mvT hZ1 (hw _ (List.mem_of_getElem? (i := 51) rfl))) (by decide) (backOf (W := 0) (own_rm11_0_1 l Z a0 hw [] r arr ka x0  cs h1 n0 Z1 O1 f3 f4 f5 f6  hcs S_cs) hZ1 (hw _ (List.mem_of_getElem? (i := 53) rfl)) (hw _ (List.mem_of_getElem? (i := 8) rfl)) (by decide) (by decide)) q7a q7c (g := (mkF m 8 #[.val (.ref r)] [(.ref r)])) rfl (by rw [hml]; rfl) (Steps.refl _) (argsL := []) (rest := []) (lenOf own_pd8 rfl) rfl (by show 2 * 0 + _ ≤ _; exact Nat.le_of_eq rfl) (hb hby own_d9_8) (fun _ _ => ⟨rfl, e2, (by decide : 2 + 0 ≤ _), (by decide : 24 + 0 ≤ _)⟩)
  dsimp only [Pt.U, Pt.locs, Pt.cells, Pt.slots] at X7 l7 y7 z7 st7 hQ7
  subst l7 y7 z7
  obtain ⟨rfl, N7q, e7⟩ := hQ7
  have N7 := Fr.app N2 N7q
  refine own_tr (T' := T7) (g' := (mkF m 11 #[.val (.ref r)] [(.int (0 : Int32))])) st7 ?_
  refine own_st (T' := T7) (g' := (mkF m 17 #[.val (.ref r)] [(.int (46 : Int32)), (.ref r)])) (fun t k => ?_) ?_
  · show Steps p.tables e below (T7.setTop (mkF m 11 #[.val (.ref r)] [(.int (0 : Int32))])) t
    refine XS.ifNo X7.here hx rfl (hb hby own_d9_11) rfl ((if0 _ _).trans (teq (rfl : (0 : Int32) = (0 : Int32))).2) ?_
    refine XS.aloadN X7.here hx rfl (hb hby own_d9_14) rfl rfl ?_
    refine XS.bipush X7.here hx rfl (hb hby own_d9_15) ?_
    exact k
  obtain ⟨cq8, kq8, q8a, q8b, q8c⟩ := isOf hZ1 e7 f3
  obtain ⟨_, _, ⟨T8, L8, c8, n8⟩, -, X8, ⟨Lc8, hQ8, l8, y8, z8⟩, st8⟩ := X7.virtualBack hx (y := (⟨"java/lang/String", "indexOf", "(I)I"⟩ : MethodName)) (z := (⟨"java/lang/String", "indexOf", "(I)I"⟩ : MethodName)) ho1 (mvT hZ1 (hw _ (List.mem_of_getElem? (i := 54) rfl))) (mvT hZ1 (hw _ (List.mem_of_getElem? (i := 55) rfl))) (notFace_of_selects (args := #[]) (mvT hZ1 (hw _ (List.mem_of_getElem? (i := 57) rfl)))) (mvT hZ1 (hw _ (List.mem_of_getElem? (i := 57) rfl))) (mvT hZ1 (hw _ (List.mem_of_getElem? (i := 56) rfl))) (by decide) (backOf (W := 0) (own_rm12_0_1 l Z a0 hw [] r arr ka x0  cs h1 n0 Z1 O1 f3 f4 f5 f6 hn0 hcs S_cs) hZ1 (hw _ (List.mem_of_getElem? (i := 58) rfl)) (hw _ (List.mem_of_getElem? (i := 8) rfl)) (by decide) (by decide)) q8a q8c (g := (mkF m 17 #[.val (.ref r)] [(.int (46 : Int32)), (.ref r)])) rfl (by rw [hml]; rfl) (Steps.refl _) (argsL := [(.int (46 : Int32))]) (rest := []) (lenOf own_pd12 rfl) rfl (by show 2 * 0 + _ ≤ _; exact Nat.le_of_eq rfl) (hb hby own_d9_17) (fun _ _ => ⟨rfl, e7, (by decide : 2 + 0 ≤ _), (by decide : 24 + 0 ≤ _)⟩)
  dsimp only [Pt.U, Pt.locs, Pt.cells, Pt.slots] at X8 l8 y8 z8 st8 hQ8
  subst l8 y8 z8
  obtain ⟨rfl, N8q, e8⟩ := hQ8
  have N8 := Fr.app N7 N8q
  refine own_tr (T' := T8) (g' := (mkF m 20 #[.val (.ref r)] [(.int (-1 : Int32))])) st8 ?_
  refine own_st (T' := T8) (g' := (mkF m 33 #[.val (.ref r)] [])) (fun t k => ?_) ?_
  · show Steps p.tables e below (T8.setTop (mkF m 20 #[.val (.ref r)] [(.int (-1 : Int32))])) t
    refine XS.ifYes X8.here hx rfl (pc0 := 20) (pc' := 33) rfl (hb hby own_d9_20) rfl ((if0 _ _).trans (tlt (by decide : (-1 : Int32) < (0 : Int32))).1) (by decide) (by decide) ?_
    exact k
  exact own_retVW X8 hx Bd (hb hby own_d9_33) e8 (⟨rfl, N8, K1⟩) hS1 hj1 (by decide) (by decide)
def own_r9_2 : Room := { frames := 4, cells := 2, slots := 24, locals := 59 }
theorem own_ef9_2 (m : MethodId) (x0 : Addr) : entryFrame m #[(.ref x0)] 1 = mkF m 0 #[.val (.ref x0)] [] := by first | (simp [entryFrame, mkF, argsToLocals, Value.category]; done) | rfl
def own_Q9_2 (Z : State) (r arr : Addr) (ka : ClassId) (x0 x1 : Int32) (cs : Int32) (h0 : Heap) (n0 : Nat) : Option Value → Heap → List Loc → Prop := fun v h L => v = none ∧ Fr n0 L ∧ Keep h0 h []
set_option maxRecDepth 65536 in
set_option maxHeartbeats 40000000 in
theorem own_rm9_2 (l : Launch) (Z : State) (a0 : Array Value) (hw : ∀ d ∈ tables_1, d.before a0 Z = true) (ws : List Jvm.Cond) (r arr : Addr) (ka : ClassId) (x0 x1 : Int32) (cs : Int32) (h0 : Heap) (n0 : Nat) (Z0 : n0 ≤ h0.size) (O0 : Old Z n0 h0) (E_r : Exa Z h0 r "java/lang/String") (F_v : Fld Z h0 r "java/lang/String" "value" "[B" (.ref arr)) (F_c : Fld Z h0 r "java/lang/String" "coder" "B" (.int (0 : Int32))) (V_a : Arv Z h0 arr ka .byte (2 : Int32) [(.int x0), (.int x1)] (.int (0 : Int32))) (hn0 : ¬ x0 = (46 : Int32)) (hn1 : ¬ x1 = (46 : Int32)) (hcs : ¬ cs = (0 : Int32)) (S_cs : Sta Z Z.heap "java/lang/String" "COMPACT_STRINGS" "Z" (.int cs)) :
    MetFree l (⟨"com/example/operation_tracker/operationtracker/model/TaskId", "requireUsableJobId", "(Ljava/lang/String;)V"⟩ : MethodName) (head1 (Jvm.Cond.code (⟨"com/example/operation_tracker/operationtracker/model/TaskId", "requireUsableJobId", "(Ljava/lang/String;)V"⟩ : MethodName) prog_12_method_4_code 1 none :: ws) own_r9_2) (fun a_ U_ => a_ = #[(.ref r)] ∧ Z.Warmed39 U_.vm ∧ U_.heap = h0) (fun _ _ _ _ _ => True) (fun _ U_ o_ U'_ => ∃ v_ L_, o_ = .returned v_ ∧ own_Q9_2 Z r arr  ka  x0 x1  cs  h0 n0 v_ U'_.heap L_ ∧ ReturnedEndW U_ o_ U'_ L_ own_r9_2.cells own_r9_2.slots) := by
  refine MetFree.of_bodySF (plainFor_of_name own_pn5) hisR ?_
  intro p e s m args below meth c s₁ Bd hml0 hP hK
  obtain ⟨rfl, hZ, hh⟩ := hP
  have hx := Bd.exec
  have hby := Bd.bytes
  have hml : c.maxLocals = 1 := hml0
  have hown : s.vm.findClass "com/example/operation_tracker/operationtracker/model/TaskId" = some m.cls := findClass_of_methodNamed Bd.named
  have hnm := (name_of_methodNamed Bd.named Bd.method).1
  have X0 : Stand p l e own_r9_2 s m #[(.ref r)] below meth c s₁ [] 0 0 := Stand.of_body Bd
  obtain ⟨v0, X0, hS0, hZ0, ho0⟩ : ∃ v0, Stand p l e own_r9_2 (s.setVm v0) m #[(.ref r)] below meth c s₁ [] 0 0 ∧ s.Since v0 h0.size ∧ Z.Warmed39 (s.setVm v0).vm ∧ (s.setVm v0).vm.findClass "com/example/operation_tracker/operationtracker/model/TaskId" = some m.cls := ⟨s.vm, X0, (State.WarmedH.refl s).since _, hZ, hown⟩
  have hstr : ∀ d ∈ Bundle.stringAtoms, d.before a0 Z = true := fun d hd => hw d (own_sa d hd)
  have e0 : s₁.heap = h0 := by rw [← hh, Bd.state]; rfl
  have N0 := Fr.nil n0
  refine own_in (own_ef9_2 m r) ?_
  show own_Go p e below (own_KW s (own_Q9_2 Z r arr  ka  x0 x1  cs  h0 n0) own_r9_2.cells own_r9_2.slots) s₁ (mkF m 0 #[.val (.ref r)] [])
  refine own_st (T' := s₁) (g' := (mkF m 1 #[.val (.ref r)] [(.ref r)])) (fun t k => ?_) ?_
  · show Steps p.tables e below (s₁.setTop (mkF m 0 #[.val (.ref r)] [])) t
    refine XS.aloadN X0.here hx rfl (hb hby own_d9_0) rfl rfl ?_
    exact k
  obtain ⟨a1, T1, h1, j1, X1, e1, E1, hS1, hj1, hZ1, ho1, st1⟩ := ldcS X0 hx hZ0 ho0 (hw _ (List.mem_of_getElem? (i := 42) rfl)) hstr e0 hS0 (Nat.le_refl _) (g := (mkF m 1 #[.val (.ref r)] [(.ref r)])) rfl (hb hby own_d9_1) (n := 20) (by decide) (by decide) (by decide) (by decide)
  obtain ⟨v1, hv1⟩ : ∃ z, z = T1.vm := ⟨_, rfl⟩
  rw [← hv1] at X1 hS1 hZ1 ho1
  have K1 : Keep h0 h1 [] := (Keep.refl h0 []).ext E1
  have Z1 : n0 ≤ h1.size := Nat.le_trans Z0 E1.1
  have O1 := O0.ext E1
  refine own_st (T' := T1) (g' := (mkF m 3 #[.val (.ref r)] [(.ref a1), (.ref r)])) st1 ?_
  obtain ⟨_, _, ⟨T2, L2, c2, n2⟩, -, X2, ⟨Lc2, hQ2, l2, y2, z2⟩, st2⟩ := Jvm.LawKit.callS X1 hx (y := (⟨"java/util/Objects", "requireNonNull", "(Ljava/lang/Object;Ljava/lang/String;)Ljava/lang/Object;"⟩ : MethodName)) ho1 (mvT hZ1 (hw _ (List.mem_of_getElem? (i := 45) rfl))) (mvT hZ1 (hw _ (List.mem_of_getElem? (i := 46) rfl))) (mvT hZ1 (hw _ (List.mem_of_getElem? (i := 47) rfl))) (mvT hZ1 (hw _ (List.mem_of_getElem? (i := 48) rfl))) (by decide) (backOf (W := 0) (own_rm10 l Z a0 hw [] r a1 cs h1 n0 Z1 O1  hcs S_cs) hZ1 (hw _ (List.mem_of_getElem? (i := 48) rfl)) (hw _ (List.mem_of_getElem? (i := 47) rfl)) (by decide) (by decide)) (g := (mkF m 3 #[.val (.ref r)] [(.ref a1), (.ref r)])) rfl (by rw [hml]; rfl) (argsL := [(.ref r), (.ref a1)]) (rest := []) (lenOf own_pd11 rfl) rfl (by show 2 * 0 + _ ≤ _; exact Nat.le_of_eq rfl) (hb hby own_d9_3) (fun _ _ => ⟨rfl, e1, (by decide : 2 + 0 ≤ _), (by decide : 24 + 0 ≤ _)⟩)
  dsimp only [Pt.U, Pt.locs, Pt.cells, Pt.slots] at X2 l2 y2 z2 st2 hQ2
  subst l2 y2 z2
  obtain ⟨rfl, N2q, e2⟩ := hQ2
  have N2 := Fr.app N0 N2q
  refine own_st (T' := T2) (g' := (mkF m 6 #[.val (.ref r)] [(.ref r)])) st2 ?_
  refine own_st (T' := T2) (g' := (mkF m 8 #[.val (.ref r)] [(.ref r)])) (fun t k => ?_) ?_
  · show Steps p.tables e below (T2.setTop (mkF m 6 #[.val (.ref r)] [(.ref r)])) t
    refine XS.pop X2.here hx rfl (hb hby own_d9_6) rfl rfl ?_
    refine XS.aloadN X2.here hx rfl (hb hby own_d9_7) rfl rfl ?_
    exact k
  have f3 := E_r.ext E1
  have f4 := F_v.ext E1
  have f5 := F_c.ext E1
  have f6 := V_a.ext E1
  obtain ⟨cq7, kq7, q7a, q7b, q7c⟩ := isOf hZ1 e2 f3
  obtain ⟨_, _, ⟨T7, L7, c7, n7⟩, -, X7, ⟨Lc7, hQ7, l7, y7, z7⟩, st7⟩ := X2.virtualBack hx (y := (⟨"java/lang/String", "isEmpty", "()Z"⟩ : MethodName)) (z := (⟨"java/lang/String", "isEmpty", "()Z"⟩ : MethodName)) ho1 (mvT hZ1 (hw _ (List.mem_of_getElem? (i := 49) rfl))) (mvT hZ1 (hw _ (List.mem_of_getElem? (i := 50) rfl))) (notFace_of_selects (args := #[]) (mvT hZ1 (hw _ (List.mem_of_getElem? (i := 52) rfl)))) (mvT hZ1 (hw _ (List.mem_of_getElem? (i := 52) rfl))) (mvT hZ1 (hw _ (List.mem_of_getElem? (i := 51) rfl))) (by decide) (backOf (W := 0) (own_rm11_0_2 l Z a0 hw [] r arr ka x0 x1  cs h1 n0 Z1 O1 f3 f4 f5 f6  hcs S_cs) hZ1 (hw _ (List.mem_of_getElem? (i := 53) rfl)) (hw _ (List.mem_of_getElem? (i := 8) rfl)) (by decide) (by decide)) q7a q7c (g := (mkF m 8 #[.val (.ref r)] [(.ref r)])) rfl (by rw [hml]; rfl) (Steps.refl _) (argsL := []) (rest := []) (lenOf own_pd8 rfl) rfl (by show 2 * 0 + _ ≤ _; exact Nat.le_of_eq rfl) (hb hby own_d9_8) (fun _ _ => ⟨rfl, e2, (by decide : 2 + 0 ≤ _), (by decide : 24 + 0 ≤ _)⟩)
  dsimp only [Pt.U, Pt.locs, Pt.cells, Pt.slots] at X7 l7 y7 z7 st7 hQ7
  subst l7 y7 z7
  obtain ⟨rfl, N7q, e7⟩ := hQ7
  have N7 := Fr.app N2 N7q
  refine own_tr (T' := T7) (g' := (mkF m 11 #[.val (.ref r)] [(.int (0 : Int32))])) st7 ?_
  refine own_st (T' := T7) (g' := (mkF m 17 #[.val (.ref r)] [(.int (46 : Int32)), (.ref r)])) (fun t k => ?_) ?_
  · show Steps p.tables e below (T7.setTop (mkF m 11 #[.val (.ref r)] [(.int (0 : Int32))])) t
    refine XS.ifNo X7.here hx rfl (hb hby own_d9_11) rfl ((if0 _ _).trans (teq (rfl : (0 : Int32) = (0 : Int32))).2) ?_
    refine XS.aloadN X7.here hx rfl (hb hby own_d9_14) rfl rfl ?_
    refine XS.bipush X7.here hx rfl (hb hby own_d9_15) ?_
    exact k
  obtain ⟨cq8, kq8, q8a, q8b, q8c⟩ := isOf hZ1 e7 f3
  obtain ⟨_, _, ⟨T8, L8, c8, n8⟩, -, X8, ⟨Lc8, hQ8, l8, y8, z8⟩, st8⟩ := X7.virtualBack hx (y := (⟨"java/lang/String", "indexOf", "(I)I"⟩ : MethodName)) (z := (⟨"java/lang/String", "indexOf", "(I)I"⟩ : MethodName)) ho1 (mvT hZ1 (hw _ (List.mem_of_getElem? (i := 54) rfl))) (mvT hZ1 (hw _ (List.mem_of_getElem? (i := 55) rfl))) (notFace_of_selects (args := #[]) (mvT hZ1 (hw _ (List.mem_of_getElem? (i := 57) rfl)))) (mvT hZ1 (hw _ (List.mem_of_getElem? (i := 57) rfl))) (mvT hZ1 (hw _ (List.mem_of_getElem? (i := 56) rfl))) (by decide) (backOf (W := 0) (own_rm12_0_2 l Z a0 hw [] r arr ka x0 x1  cs h1 n0 Z1 O1 f3 f4 f5 f6 hn0 hn1 hcs S_cs) hZ1 (hw _ (List.mem_of_getElem? (i := 58) rfl)) (hw _ (List.mem_of_getElem? (i := 8) rfl)) (by decide) (by decide)) q8a q8c (g := (mkF m 17 #[.val (.ref r)] [(.int (46 : Int32)), (.ref r)])) rfl (by rw [hml]; rfl) (Steps.refl _) (argsL := [(.int (46 : Int32))]) (rest := []) (lenOf own_pd12 rfl) rfl (by show 2 * 0 + _ ≤ _; exact Nat.le_of_eq rfl) (hb hby own_d9_17) (fun _ _ => ⟨rfl, e7, (by decide : 2 + 0 ≤ _), (by decide : 24 + 0 ≤ _)⟩)
  dsimp only [Pt.U, Pt.locs, Pt.cells, Pt.slots] at X8 l8 y8 z8 st8 hQ8
  subst l8 y8 z8
  obtain ⟨rfl, N8q, e8⟩ := hQ8
  have N8 := Fr.app N7 N8q
  refine own_tr (T' := T8) (g' := (mkF m 20 #[.val (.ref r)] [(.int (-1 : Int32))])) st8 ?_
  refine own_st (T' := T8) (g' := (mkF m 33 #[.val (.ref r)] [])) (fun t k => ?_) ?_
  · show Steps p.tables e below (T8.setTop (mkF m 20 #[.val (.ref r)] [(.int (-1 : Int32))])) t
    refine XS.ifYes X8.here hx rfl (pc0 := 20) (pc' := 33) rfl (hb hby own_d9_20) rfl ((if0 _ _).trans (tlt (by decide : (-1 : Int32) < (0 : Int32))).1) (by decide) (by decide) ?_
    exact k
  exact own_retVW X8 hx Bd (hb hby own_d9_33) e8 (⟨rfl, N8, K1⟩) hS1 hj1 (by decide) (by decide)
def own_r9_3 : Room := { frames := 4, cells := 2, slots := 24, locals := 59 }
theorem own_ef9_3 (m : MethodId) (x0 : Addr) : entryFrame m #[(.ref x0)] 1 = mkF m 0 #[.val (.ref x0)] [] := by first | (simp [entryFrame, mkF, argsToLocals, Value.category]; done) | rfl
def own_Q9_3 (Z : State) (r arr : Addr) (ka : ClassId) (x0 x1 x2 : Int32) (cs : Int32) (h0 : Heap) (n0 : Nat) : Option Value → Heap → List Loc → Prop := fun v h L => v = none ∧ Fr n0 L ∧ Keep h0 h []
set_option maxRecDepth 65536 in
set_option maxHeartbeats 40000000 in
theorem own_rm9_3 (l : Launch) (Z : State) (a0 : Array Value) (hw : ∀ d ∈ tables_1, d.before a0 Z = true) (ws : List Jvm.Cond) (r arr : Addr) (ka : ClassId) (x0 x1 x2 : Int32) (cs : Int32) (h0 : Heap) (n0 : Nat) (Z0 : n0 ≤ h0.size) (O0 : Old Z n0 h0) (E_r : Exa Z h0 r "java/lang/String") (F_v : Fld Z h0 r "java/lang/String" "value" "[B" (.ref arr)) (F_c : Fld Z h0 r "java/lang/String" "coder" "B" (.int (0 : Int32))) (V_a : Arv Z h0 arr ka .byte (3 : Int32) [(.int x0), (.int x1), (.int x2)] (.int (0 : Int32))) (hn0 : ¬ x0 = (46 : Int32)) (hn1 : ¬ x1 = (46 : Int32)) (hn2 : ¬ x2 = (46 : Int32)) (hcs : ¬ cs = (0 : Int32)) (S_cs : Sta Z Z.heap "java/lang/String" "COMPACT_STRINGS" "Z" (.int cs)) :
    MetFree l (⟨"com/example/operation_tracker/operationtracker/model/TaskId", "requireUsableJobId", "(Ljava/lang/String;)V"⟩ : MethodName) (head1 (Jvm.Cond.code (⟨"com/example/operation_tracker/operationtracker/model/TaskId", "requireUsableJobId", "(Ljava/lang/String;)V"⟩ : MethodName) prog_12_method_4_code 1 none :: ws) own_r9_3) (fun a_ U_ => a_ = #[(.ref r)] ∧ Z.Warmed39 U_.vm ∧ U_.heap = h0) (fun _ _ _ _ _ => True) (fun _ U_ o_ U'_ => ∃ v_ L_, o_ = .returned v_ ∧ own_Q9_3 Z r arr  ka  x0 x1 x2  cs  h0 n0 v_ U'_.heap L_ ∧ ReturnedEndW U_ o_ U'_ L_ own_r9_3.cells own_r9_3.slots) := by
  refine MetFree.of_bodySF (plainFor_of_name own_pn5) hisR ?_
  intro p e s m args below meth c s₁ Bd hml0 hP hK
  obtain ⟨rfl, hZ, hh⟩ := hP
  have hx := Bd.exec
  have hby := Bd.bytes
  have hml : c.maxLocals = 1 := hml0
  have hown : s.vm.findClass "com/example/operation_tracker/operationtracker/model/TaskId" = some m.cls := findClass_of_methodNamed Bd.named
  have hnm := (name_of_methodNamed Bd.named Bd.method).1
  have X0 : Stand p l e own_r9_3 s m #[(.ref r)] below meth c s₁ [] 0 0 := Stand.of_body Bd
  obtain ⟨v0, X0, hS0, hZ0, ho0⟩ : ∃ v0, Stand p l e own_r9_3 (s.setVm v0) m #[(.ref r)] below meth c s₁ [] 0 0 ∧ s.Since v0 h0.size ∧ Z.Warmed39 (s.setVm v0).vm ∧ (s.setVm v0).vm.findClass "com/example/operation_tracker/operationtracker/model/TaskId" = some m.cls := ⟨s.vm, X0, (State.WarmedH.refl s).since _, hZ, hown⟩
  have hstr : ∀ d ∈ Bundle.stringAtoms, d.before a0 Z = true := fun d hd => hw d (own_sa d hd)
  have e0 : s₁.heap = h0 := by rw [← hh, Bd.state]; rfl
  have N0 := Fr.nil n0
  refine own_in (own_ef9_3 m r) ?_
  show own_Go p e below (own_KW s (own_Q9_3 Z r arr  ka  x0 x1 x2  cs  h0 n0) own_r9_3.cells own_r9_3.slots) s₁ (mkF m 0 #[.val (.ref r)] [])
  refine own_st (T' := s₁) (g' := (mkF m 1 #[.val (.ref r)] [(.ref r)])) (fun t k => ?_) ?_
  · show Steps p.tables e below (s₁.setTop (mkF m 0 #[.val (.ref r)] [])) t
    refine XS.aloadN X0.here hx rfl (hb hby own_d9_0) rfl rfl ?_
    exact k
  obtain ⟨a1, T1, h1, j1, X1, e1, E1, hS1, hj1, hZ1, ho1, st1⟩ := ldcS X0 hx hZ0 ho0 (hw _ (List.mem_of_getElem? (i := 42) rfl)) hstr e0 hS0 (Nat.le_refl _) (g := (mkF m 1 #[.val (.ref r)] [(.ref r)])) rfl (hb hby own_d9_1) (n := 20) (by decide) (by decide) (by decide) (by decide)
  obtain ⟨v1, hv1⟩ : ∃ z, z = T1.vm := ⟨_, rfl⟩
  rw [← hv1] at X1 hS1 hZ1 ho1
  have K1 : Keep h0 h1 [] := (Keep.refl h0 []).ext E1
  have Z1 : n0 ≤ h1.size := Nat.le_trans Z0 E1.1
  have O1 := O0.ext E1
  refine own_st (T' := T1) (g' := (mkF m 3 #[.val (.ref r)] [(.ref a1), (.ref r)])) st1 ?_
  obtain ⟨_, _, ⟨T2, L2, c2, n2⟩, -, X2, ⟨Lc2, hQ2, l2, y2, z2⟩, st2⟩ := Jvm.LawKit.callS X1 hx (y := (⟨"java/util/Objects", "requireNonNull", "(Ljava/lang/Object;Ljava/lang/String;)Ljava/lang/Object;"⟩ : MethodName)) ho1 (mvT hZ1 (hw _ (List.mem_of_getElem? (i := 45) rfl))) (mvT hZ1 (hw _ (List.mem_of_getElem? (i := 46) rfl))) (mvT hZ1 (hw _ (List.mem_of_getElem? (i := 47) rfl))) (mvT hZ1 (hw _ (List.mem_of_getElem? (i := 48) rfl))) (by decide) (backOf (W := 0) (own_rm10 l Z a0 hw [] r a1 cs h1 n0 Z1 O1  hcs S_cs) hZ1 (hw _ (List.mem_of_getElem? (i := 48) rfl)) (hw _ (List.mem_of_getElem? (i := 47) rfl)) (by decide) (by decide)) (g := (mkF m 3 #[.val (.ref r)] [(.ref a1), (.ref r)])) rfl (by rw [hml]; rfl) (argsL := [(.ref r), (.ref a1)]) (rest := []) (lenOf own_pd11 rfl) rfl (by show 2 * 0 + _ ≤ _; exact Nat.le_of_eq rfl) (hb hby own_d9_3) (fun _ _ => ⟨rfl, e1, (by decide : 2 + 0 ≤ _), (by decide : 24 + 0 ≤ _)⟩)
  dsimp only [Pt.U, Pt.locs, Pt.cells, Pt.slots] at X2 l2 y2 z2 st2 hQ2
  subst l2 y2 z2
  obtain ⟨rfl, N2q, e2⟩ := hQ2
  have N2 := Fr.app N0 N2q
  refine own_st (T' := T2) (g' := (mkF m 6 #[.val (.ref r)] [(.ref r)])) st2 ?_
  refine own_st (T' := T2) (g' := (mkF m 8 #[.val (.ref r)] [(.ref r)])) (fun t k => ?_) ?_
  · show Steps p.tables e below (T2.setTop (mkF m 6 #[.val (.ref r)] [(.ref r)])) t
    refine XS.pop X2.here hx rfl (hb hby own_d9_6) rfl rfl ?_
    refine XS.aloadN X2.here hx rfl (hb hby own_d9_7) rfl rfl ?_
    exact k
  have f3 := E_r.ext E1
  have f4 := F_v.ext E1
  have f5 := F_c.ext E1
  have f6 := V_a.ext E1
  obtain ⟨cq7, kq7, q7a, q7b, q7c⟩ := isOf hZ1 e2 f3
  obtain ⟨_, _, ⟨T7, L7, c7, n7⟩, -, X7, ⟨Lc7, hQ7, l7, y7, z7⟩, st7⟩ := X2.virtualBack hx (y := (⟨"java/lang/String", "isEmpty", "()Z"⟩ : MethodName)) (z := (⟨"java/lang/String", "isEmpty", "()Z"⟩ : MethodName)) ho1 (mvT hZ1 (hw _ (List.mem_of_getElem? (i := 49) rfl))) (mvT hZ1 (hw _ (List.mem_of_getElem? (i := 50) rfl))) (notFace_of_selects (args := #[]) (mvT hZ1 (hw _ (List.mem_of_getElem? (i := 52) rfl)))) (mvT hZ1 (hw _ (List.mem_of_getElem? (i := 52) rfl))) (mvT hZ1 (hw _ (List.mem_of_getElem? (i := 51) rfl))) (by decide) (backOf (W := 0) (own_rm11_0_3 l Z a0 hw [] r arr ka x0 x1 x2  cs h1 n0 Z1 O1 f3 f4 f5 f6  hcs S_cs) hZ1 (hw _ (List.mem_of_getElem? (i := 53) rfl)) (hw _ (List.mem_of_getElem? (i := 8) rfl)) (by decide) (by decide)) q7a q7c (g := (mkF m 8 #[.val (.ref r)] [(.ref r)])) rfl (by rw [hml]; rfl) (Steps.refl _) (argsL := []) (rest := []) (lenOf own_pd8 rfl) rfl (by show 2 * 0 + _ ≤ _; exact Nat.le_of_eq rfl) (hb hby own_d9_8) (fun _ _ => ⟨rfl, e2, (by decide : 2 + 0 ≤ _), (by decide : 24 + 0 ≤ _)⟩)
  dsimp only [Pt.U, Pt.locs, Pt.cells, Pt.slots] at X7 l7 y7 z7 st7 hQ7
  subst l7 y7 z7
  obtain ⟨rfl, N7q, e7⟩ := hQ7
  have N7 := Fr.app N2 N7q
  refine own_tr (T' := T7) (g' := (mkF m 11 #[.val (.ref r)] [(.int (0 : Int32))])) st7 ?_
  refine own_st (T' := T7) (g' := (mkF m 17 #[.val (.ref r)] [(.int (46 : Int32)), (.ref r)])) (fun t k => ?_) ?_
  · show Steps p.tables e below (T7.setTop (mkF m 11 #[.val (.ref r)] [(.int (0 : Int32))])) t
    refine XS.ifNo X7.here hx rfl (hb hby own_d9_11) rfl ((if0 _ _).trans (teq (rfl : (0 : Int32) = (0 : Int32))).2) ?_
    refine XS.aloadN X7.here hx rfl (hb hby own_d9_14) rfl rfl ?_
    refine XS.bipush X7.here hx rfl (hb hby own_d9_15) ?_
    exact k
  obtain ⟨cq8, kq8, q8a, q8b, q8c⟩ := isOf hZ1 e7 f3
  obtain ⟨_, _, ⟨T8, L8, c8, n8⟩, -, X8, ⟨Lc8, hQ8, l8, y8, z8⟩, st8⟩ := X7.virtualBack hx (y := (⟨"java/lang/String", "indexOf", "(I)I"⟩ : MethodName)) (z := (⟨"java/lang/String", "indexOf", "(I)I"⟩ : MethodName)) ho1 (mvT hZ1 (hw _ (List.mem_of_getElem? (i := 54) rfl))) (mvT hZ1 (hw _ (List.mem_of_getElem? (i := 55) rfl))) (notFace_of_selects (args := #[]) (mvT hZ1 (hw _ (List.mem_of_getElem? (i := 57) rfl)))) (mvT hZ1 (hw _ (List.mem_of_getElem? (i := 57) rfl))) (mvT hZ1 (hw _ (List.mem_of_getElem? (i := 56) rfl))) (by decide) (backOf (W := 0) (own_rm12_0_3 l Z a0 hw [] r arr ka x0 x1 x2  cs h1 n0 Z1 O1 f3 f4 f5 f6 hn0 hn1 hn2 hcs S_cs) hZ1 (hw _ (List.mem_of_getElem? (i := 58) rfl)) (hw _ (List.mem_of_getElem? (i := 8) rfl)) (by decide) (by decide)) q8a q8c (g := (mkF m 17 #[.val (.ref r)] [(.int (46 : Int32)), (.ref r)])) rfl (by rw [hml]; rfl) (Steps.refl _) (argsL := [(.int (46 : Int32))]) (rest := []) (lenOf own_pd12 rfl) rfl (by show 2 * 0 + _ ≤ _; exact Nat.le_of_eq rfl) (hb hby own_d9_17) (fun _ _ => ⟨rfl, e7, (by decide : 2 + 0 ≤ _), (by decide : 24 + 0 ≤ _)⟩)
  dsimp only [Pt.U, Pt.locs, Pt.cells, Pt.slots] at X8 l8 y8 z8 st8 hQ8
  subst l8 y8 z8
  obtain ⟨rfl, N8q, e8⟩ := hQ8
  have N8 := Fr.app N7 N8q
  refine own_tr (T' := T8) (g' := (mkF m 20 #[.val (.ref r)] [(.int (-1 : Int32))])) st8 ?_
  refine own_st (T' := T8) (g' := (mkF m 33 #[.val (.ref r)] [])) (fun t k => ?_) ?_
  · show Steps p.tables e below (T8.setTop (mkF m 20 #[.val (.ref r)] [(.int (-1 : Int32))])) t
    refine XS.ifYes X8.here hx rfl (pc0 := 20) (pc' := 33) rfl (hb hby own_d9_20) rfl ((if0 _ _).trans (tlt (by decide : (-1 : Int32) < (0 : Int32))).1) (by decide) (by decide) ?_
    exact k
  exact own_retVW X8 hx Bd (hb hby own_d9_33) e8 (⟨rfl, N8, K1⟩) hS1 hj1 (by decide) (by decide)
def own_r22 : Room := { frames := 1, cells := 0, slots := 0, locals := 12 }
theorem own_ef22 (m : MethodId) (x0 : Addr) (x1 : Value) (hx1 : x1.isRef = true) (x2 : Value) (hx2 : x2.isRef = true) (x3 : Value) (hx3 : x3.isRef = true) : entryFrame m #[(.ref x0), x1, x2, x3] 4 = mkF m 0 #[.val (.ref x0), .val x1, .val x2, .val x3] [] := by rcases ref_cases hx1 with rfl | ⟨y1, rfl⟩ <;> rcases ref_cases hx2 with rfl | ⟨y2, rfl⟩ <;> rcases ref_cases hx3 with rfl | ⟨y3, rfl⟩ <;> first | (simp [entryFrame, mkF, argsToLocals, Value.category]; done) | rfl
def own_Q22 (Z : State) (b : Addr) (y0 : Value) (y1 : Value) (y2 : Value) (h0 : Heap) (n0 : Nat) : Option Value → Heap → List Loc → Prop := fun v h L => v = none ∧ Fr n0 L ∧ Keep h0 h [b] ∧ Fld Z h b "com/example/operation_tracker/operationtracker/model/TaskId" "jobId" "Ljava/lang/String;" y0 ∧ Fld Z h b "com/example/operation_tracker/operationtracker/model/TaskId" "subtaskNumbers" "[I" y1 ∧ Fld Z h b "com/example/operation_tracker/operationtracker/model/TaskId" "text" "Ljava/lang/String;" y2
set_option maxRecDepth 65536 in
set_option maxHeartbeats 40000000 in
theorem own_rm22 (l : Launch) (Z : State) (a0 : Array Value) (hw : ∀ d ∈ tables_1, d.before a0 Z = true) (ws : List Jvm.Cond) (b : Addr) (y0 : Value) (y1 : Value) (y2 : Value) (h0 : Heap) (n0 : Nat) (Z0 : n0 ≤ h0.size) (hy0 : y0.isRef = true) (hy1 : y1.isRef = true) (hy2 : y2.isRef = true) (E_b : Exa Z h0 b "com/example/operation_tracker/operationtracker/model/TaskId") (F0 : Fld Z h0 b "com/example/operation_tracker/operationtracker/model/TaskId" "jobId" "Ljava/lang/String;" .null) (F1 : Fld Z h0 b "com/example/operation_tracker/operationtracker/model/TaskId" "subtaskNumbers" "[I" .null) (F2 : Fld Z h0 b "com/example/operation_tracker/operationtracker/model/TaskId" "text" "Ljava/lang/String;" .null) (g_b : n0 ≤ b) :
    MetFree l (⟨"com/example/operation_tracker/operationtracker/model/TaskId", "<init>", "(Ljava/lang/String;[ILjava/lang/String;)V"⟩ : MethodName) (head1 (Jvm.Cond.code (⟨"com/example/operation_tracker/operationtracker/model/TaskId", "<init>", "(Ljava/lang/String;[ILjava/lang/String;)V"⟩ : MethodName) prog_12_method_1_code 4 none :: ws) own_r22) (fun a_ U_ => a_ = #[(.ref b), y0, y1, y2] ∧ Z.Warmed39 U_.vm ∧ U_.heap = h0) (fun _ _ _ _ _ => True) (fun _ U_ o_ U'_ => ∃ v_ L_, o_ = .returned v_ ∧ own_Q22 Z b  y0  y1  y2  h0 n0 v_ U'_.heap L_ ∧ FrameEnd U_ o_ U'_ L_ own_r22.cells own_r22.slots) := by
  refine MetFree.of_bodySF (plainFor_of_name own_pn5) hisR ?_
  intro p e s m args below meth c s₁ Bd hml0 hP hK
  obtain ⟨rfl, hZ, hh⟩ := hP
  have hx := Bd.exec
  have hby := Bd.bytes
  have hml : c.maxLocals = 4 := hml0
  have hown : s.vm.findClass "com/example/operation_tracker/operationtracker/model/TaskId" = some m.cls := findClass_of_methodNamed Bd.named
  have hnm := (name_of_methodNamed Bd.named Bd.method).1
  have X0 : Stand p l e own_r22 s m #[(.ref b), y0, y1, y2] below meth c s₁ [] 0 0 := Stand.of_body Bd
  have e0 : s₁.heap = h0 := by rw [← hh, Bd.state]; rfl
  have N0 := Fr.nil n0
  refine own_in (own_ef22 m b y0 hy0 y1 hy1 y2 hy2) ?_
  show own_Go p e below (own_K s (own_Q22 Z b  y0  y1  y2  h0 n0) own_r22.cells own_r22.slots) s₁ (mkF m 0 #[.val (.ref b), .val y0, .val y1, .val y2] [])
  refine own_st (T' := s₁) (g' := (mkF m 1 #[.val (.ref b), .val y0, .val y1, .val y2] [(.ref b)])) (fun t k => ?_) ?_
  · show Steps p.tables e below (s₁.setTop (mkF m 0 #[.val (.ref b), .val y0, .val y1, .val y2] [])) t
    refine XS.aloadN X0.here hx rfl (hb hby own_d22_0) rfl rfl ?_
    exact k
  obtain ⟨T1, X1, e1, st1⟩ := initO X0 hx hZ hown (hw _ (List.mem_of_getElem? (i := 102) rfl)) (hw _ (List.mem_of_getElem? (i := 17) rfl)) (hw _ (List.mem_of_getElem? (i := 18) rfl)) e0 (g := (mkF m 1 #[.val (.ref b), .val y0, .val y1, .val y2] [(.ref b)])) rfl (by rw [hml]; rfl) rfl (hb hby own_d22_1) (by decide) (W := 0) (by show 2 * 0 + _ ≤ _; exact Nat.le_of_eq rfl) (by decide)
  refine own_st (T' := T1) (g' := (mkF m 4 #[.val (.ref b), .val y0, .val y1, .val y2] [])) st1 ?_
  refine own_st (T' := T1) (g' := (mkF m 6 #[.val (.ref b), .val y0, .val y1, .val y2] [y0, (.ref b)])) (fun t k => ?_) ?_
  · show Steps p.tables e below (T1.setTop (mkF m 4 #[.val (.ref b), .val y0, .val y1, .val y2] [])) t
    refine XS.aloadN X1.here hx rfl (hb hby own_d22_4) rfl rfl ?_
    refine XS.aloadN X1.here hx rfl (hb hby own_d22_5) rfl hy0 ?_
    exact k
  obtain ⟨T2, h2, X2, e2, W2, st2⟩ := putF X1 hx hZ hown (host := "") (Or.inl (hw _ (List.mem_of_getElem? (i := 103) rfl))) Via.refl e1 F0 E_b (Or.inr ⟨(hw _ (List.mem_of_getElem? (i := 104) rfl)), rfl, hnm⟩) (hw _ (List.mem_of_getElem? (i := 97) rfl)) (ty := (.object "java/lang/String")) (by decide) (own_nar_ref hy0 rfl) (own_fits_ref hy0 rfl) (g := (mkF m 6 #[.val (.ref b), .val y0, .val y1, .val y2] [y0, (.ref b)])) rfl rfl (hb hby own_d22_6)
  have N2 := Fr.snoc X2 N0 g_b
  have K2 : Keep h0 h2 [b] := (Keep.refl h0 [b]).wr W2 (Or.inl (List.mem_of_getElem? (i := 0) rfl))
  have Z2 : n0 ≤ h2.size := Nat.le_trans Z0 (Keep.of_wr W2).1
  have fw2 := (F0.same W2)
  refine own_st (T' := T2) (g' := (mkF m 9 #[.val (.ref b), .val y0, .val y1, .val y2] [])) st2 ?_
  refine own_st (T' := T2) (g' := (mkF m 11 #[.val (.ref b), .val y0, .val y1, .val y2] [y1, (.ref b)])) (fun t k => ?_) ?_
  · show Steps p.tables e below (T2.setTop (mkF m 9 #[.val (.ref b), .val y0, .val y1, .val y2] [])) t
    refine XS.aloadN X2.here hx rfl (hb hby own_d22_9) rfl rfl ?_
    refine XS.aloadN X2.here hx rfl (hb hby own_d22_10) rfl hy1 ?_
    exact k
  have f3 := F1.other W2 (Or.inr (slot_ne (Or.inr (hw _ (List.mem_of_getElem? (i := 106) rfl))) (Or.inr (hw _ (List.mem_of_getElem? (i := 104) rfl))) (by decide) (t := (.array .int)) (t' := (.object "java/lang/String")) (by decide) (by decide)))
  have f4 := E_b.wr W2
  obtain ⟨T5, h5, X5, e5, W5, st5⟩ := putF X2 hx hZ hown (host := "") (Or.inl (hw _ (List.mem_of_getElem? (i := 105) rfl))) Via.refl e2 f3 f4 (Or.inr ⟨(hw _ (List.mem_of_getElem? (i := 106) rfl)), rfl, hnm⟩) (hw _ (List.mem_of_getElem? (i := 97) rfl)) (ty := (.array .int)) (by decide) (own_nar_ref hy1 rfl) (own_fits_ref hy1 rfl) (g := (mkF m 11 #[.val (.ref b), .val y0, .val y1, .val y2] [y1, (.ref b)])) rfl rfl (hb hby own_d22_11)
  have N5 := Fr.snoc X5 N2 g_b
  have K5 : Keep h0 h5 [b] := K2.wr W5 (Or.inl (List.mem_of_getElem? (i := 0) rfl))
  have Z5 : n0 ≤ h5.size := Nat.le_trans Z2 (Keep.of_wr W5).1
  have fw5 := (f3.same W5)
  refine own_st (T' := T5) (g' := (mkF m 14 #[.val (.ref b), .val y0, .val y1, .val y2] [])) st5 ?_
  refine own_st (T' := T5) (g' := (mkF m 16 #[.val (.ref b), .val y0, .val y1, .val y2] [y2, (.ref b)])) (fun t k => ?_) ?_
  · show Steps p.tables e below (T5.setTop (mkF m 14 #[.val (.ref b), .val y0, .val y1, .val y2] [])) t
    refine XS.aloadN X5.here hx rfl (hb hby own_d22_14) rfl rfl ?_
    refine XS.aloadN X5.here hx rfl (hb hby own_d22_15) rfl hy2 ?_
    exact k
  have f6 := (F2.other W2 (Or.inr (slot_ne (Or.inr (hw _ (List.mem_of_getElem? (i := 108) rfl))) (Or.inr (hw _ (List.mem_of_getElem? (i := 104) rfl))) (by decide) (t := (.object "java/lang/String")) (t' := (.object "java/lang/String")) (by decide) (by decide)))).other W5 (Or.inr (slot_ne (Or.inr (hw _ (List.mem_of_getElem? (i := 108) rfl))) (Or.inr (hw _ (List.mem_of_getElem? (i := 106) rfl))) (by decide) (t := (.object "java/lang/String")) (t' := (.array .int)) (by decide) (by decide)))
  have f7 := f4.wr W5
  obtain ⟨T8, h8, X8, e8, W8, st8⟩ := putF X5 hx hZ hown (host := "") (Or.inl (hw _ (List.mem_of_getElem? (i := 107) rfl))) Via.refl e5 f6 f7 (Or.inr ⟨(hw _ (List.mem_of_getElem? (i := 108) rfl)), rfl, hnm⟩) (hw _ (List.mem_of_getElem? (i := 97) rfl)) (ty := (.object "java/lang/String")) (by decide) (own_nar_ref hy2 rfl) (own_fits_ref hy2 rfl) (g := (mkF m 16 #[.val (.ref b), .val y0, .val y1, .val y2] [y2, (.ref b)])) rfl rfl (hb hby own_d22_16)
  have N8 := Fr.snoc X8 N5 g_b
  have K8 : Keep h0 h8 [b] := K5.wr W8 (Or.inl (List.mem_of_getElem? (i := 0) rfl))
  have Z8 : n0 ≤ h8.size := Nat.le_trans Z5 (Keep.of_wr W8).1
  have fw8 := (f6.same W8)
  refine own_st (T' := T8) (g' := (mkF m 19 #[.val (.ref b), .val y0, .val y1, .val y2] [])) st8 ?_
  have f9 := (fw2.other W5 (Or.inr (slot_ne (Or.inr (hw _ (List.mem_of_getElem? (i := 104) rfl))) (Or.inr (hw _ (List.mem_of_getElem? (i := 106) rfl))) (by decide) (t := (.object "java/lang/String")) (t' := (.array .int)) (by decide) (by decide)))).other W8 (Or.inr (slot_ne (Or.inr (hw _ (List.mem_of_getElem? (i := 104) rfl))) (Or.inr (hw _ (List.mem_of_getElem? (i := 108) rfl))) (by decide) (t := (.object "java/lang/String")) (t' := (.object "java/lang/String")) (by decide) (by decide)))
  have f10 := fw5.other W8 (Or.inr (slot_ne (Or.inr (hw _ (List.mem_of_getElem? (i := 106) rfl))) (Or.inr (hw _ (List.mem_of_getElem? (i := 108) rfl))) (by decide) (t := (.array .int)) (t' := (.object "java/lang/String")) (by decide) (by decide)))
  exact own_retV X8 hx Bd (hb hby own_d22_19) e8 (⟨rfl, N8, K8, f9, f10, fw8⟩) (by decide) (by decide)
def own_r23 : Room := { frames := 0, cells := 0, slots := 0, locals := 0 }
theorem own_ef23 (m : MethodId) (x0 : Addr) : entryFrame m #[(.ref x0)] 1 = mkF m 0 #[.val (.ref x0)] [] := by first | (simp [entryFrame, mkF, argsToLocals, Value.category]; done) | rfl
def own_Q23 (Z : State) (b : Addr) (yv : Value) (h0 : Heap) (n0 : Nat) : Option Value → Heap → List Loc → Prop := fun v h L => v = some yv ∧ Fr n0 L ∧ h = h0
set_option maxRecDepth 65536 in
set_option maxHeartbeats 40000000 in
theorem own_rm23 (l : Launch) (Z : State) (a0 : Array Value) (hw : ∀ d ∈ tables_1, d.before a0 Z = true) (ws : List Jvm.Cond) (b : Addr) (yv : Value) (h0 : Heap) (n0 : Nat) (Z0 : n0 ≤ h0.size) (hyv : yv.isRef = true) (F_b : Fld Z h0 b "com/example/operation_tracker/operationtracker/model/TaskId" "text" "Ljava/lang/String;" yv) :
    MetFree l (⟨"com/example/operation_tracker/operationtracker/model/TaskId", "toString", "()Ljava/lang/String;"⟩ : MethodName) (head1 (Jvm.Cond.code (⟨"com/example/operation_tracker/operationtracker/model/TaskId", "toString", "()Ljava/lang/String;"⟩ : MethodName) prog_12_method_11_code 1 (some (.object "java/lang/String")) :: ws) own_r23) (fun a_ U_ => a_ = #[(.ref b)] ∧ Z.Warmed39 U_.vm ∧ U_.heap = h0) (fun _ _ _ _ _ => True) (fun _ U_ o_ U'_ => ∃ v_ L_, o_ = .returned v_ ∧ own_Q23 Z b  yv  h0 n0 v_ U'_.heap L_ ∧ FrameEnd U_ o_ U'_ L_ own_r23.cells own_r23.slots) := by
  refine MetFree.of_bodySF (plainFor_of_name own_pn5) hisR ?_
  intro p e s m args below meth c s₁ Bd hml0 hP hK
  obtain ⟨rfl, hZ, hh⟩ := hP
  have hx := Bd.exec
  have hby := Bd.bytes
  have hml : c.maxLocals = 1 := hml0
  have hown : s.vm.findClass "com/example/operation_tracker/operationtracker/model/TaskId" = some m.cls := findClass_of_methodNamed Bd.named
  have hnm := (name_of_methodNamed Bd.named Bd.method).1
  have X0 : Stand p l e own_r23 s m #[(.ref b)] below meth c s₁ [] 0 0 := Stand.of_body Bd
  have e0 : s₁.heap = h0 := by rw [← hh, Bd.state]; rfl
  have N0 := Fr.nil n0
  refine own_in (own_ef23 m b) ?_
  show own_Go p e below (own_K s (own_Q23 Z b  yv  h0 n0) own_r23.cells own_r23.slots) s₁ (mkF m 0 #[.val (.ref b)] [])
  refine own_st (T' := s₁) (g' := (mkF m 1 #[.val (.ref b)] [(.ref b)])) (fun t k => ?_) ?_
  · show Steps p.tables e below (s₁.setTop (mkF m 0 #[.val (.ref b)] [])) t
    refine XS.aloadN X0.here hx rfl (hb hby own_d23_0) rfl rfl ?_
    exact k
  obtain ⟨T1, X1, e1, st1⟩ := getF X0 hx hZ hown (host := "") (Or.inl (hw _ (List.mem_of_getElem? (i := 107) rfl))) Via.refl e0 F_b (g := (mkF m 1 #[.val (.ref b)] [(.ref b)])) rfl rfl (hb hby own_d23_1)
  refine own_st (T' := T1) (g' := (mkF m 4 #[.val (.ref b)] [yv])) st1 ?_
  exact own_retA X1 hx Bd rfl hyv (hb hby own_d23_4) e1 (⟨rfl, N0, rfl⟩) (by decide) (by decide)
def own_r26 : Room := { frames := 0, cells := 0, slots := 0, locals := 0 }
theorem own_ef26 (m : MethodId) (x0 : Addr) : entryFrame m #[(.ref x0)] 1 = mkF m 0 #[.val (.ref x0)] [] := by first | (simp [entryFrame, mkF, argsToLocals, Value.category]; done) | rfl
def own_Q26 (Z : State) (b : Addr) (yv : Value) (h0 : Heap) (n0 : Nat) : Option Value → Heap → List Loc → Prop := fun v h L => v = some yv ∧ Fr n0 L ∧ h = h0
set_option maxRecDepth 65536 in
set_option maxHeartbeats 40000000 in
theorem own_rm26 (l : Launch) (Z : State) (a0 : Array Value) (hw : ∀ d ∈ tables_1, d.before a0 Z = true) (ws : List Jvm.Cond) (b : Addr) (yv : Value) (h0 : Heap) (n0 : Nat) (Z0 : n0 ≤ h0.size) (hyv : yv.isRef = true) (F_b : Fld Z h0 b "com/example/operation_tracker/operationtracker/model/TaskId" "jobId" "Ljava/lang/String;" yv) :
    MetFree l (⟨"com/example/operation_tracker/operationtracker/model/TaskId", "jobId", "()Ljava/lang/String;"⟩ : MethodName) (head1 (Jvm.Cond.code (⟨"com/example/operation_tracker/operationtracker/model/TaskId", "jobId", "()Ljava/lang/String;"⟩ : MethodName) prog_12_method_10_code 1 (some (.object "java/lang/String")) :: ws) own_r26) (fun a_ U_ => a_ = #[(.ref b)] ∧ Z.Warmed39 U_.vm ∧ U_.heap = h0) (fun _ _ _ _ _ => True) (fun _ U_ o_ U'_ => ∃ v_ L_, o_ = .returned v_ ∧ own_Q26 Z b  yv  h0 n0 v_ U'_.heap L_ ∧ FrameEnd U_ o_ U'_ L_ own_r26.cells own_r26.slots) := by
  refine MetFree.of_bodySF (plainFor_of_name own_pn5) hisR ?_
  intro p e s m args below meth c s₁ Bd hml0 hP hK
  obtain ⟨rfl, hZ, hh⟩ := hP
  have hx := Bd.exec
  have hby := Bd.bytes
  have hml : c.maxLocals = 1 := hml0
  have hown : s.vm.findClass "com/example/operation_tracker/operationtracker/model/TaskId" = some m.cls := findClass_of_methodNamed Bd.named
  have hnm := (name_of_methodNamed Bd.named Bd.method).1
  have X0 : Stand p l e own_r26 s m #[(.ref b)] below meth c s₁ [] 0 0 := Stand.of_body Bd
  have e0 : s₁.heap = h0 := by rw [← hh, Bd.state]; rfl
  have N0 := Fr.nil n0
  refine own_in (own_ef26 m b) ?_
  show own_Go p e below (own_K s (own_Q26 Z b  yv  h0 n0) own_r26.cells own_r26.slots) s₁ (mkF m 0 #[.val (.ref b)] [])
  refine own_st (T' := s₁) (g' := (mkF m 1 #[.val (.ref b)] [(.ref b)])) (fun t k => ?_) ?_
  · show Steps p.tables e below (s₁.setTop (mkF m 0 #[.val (.ref b)] [])) t
    refine XS.aloadN X0.here hx rfl (hb hby own_d26_0) rfl rfl ?_
    exact k
  obtain ⟨T1, X1, e1, st1⟩ := getF X0 hx hZ hown (host := "") (Or.inl (hw _ (List.mem_of_getElem? (i := 103) rfl))) Via.refl e0 F_b (g := (mkF m 1 #[.val (.ref b)] [(.ref b)])) rfl rfl (hb hby own_d26_1)
  refine own_st (T' := T1) (g' := (mkF m 4 #[.val (.ref b)] [yv])) st1 ?_
  exact own_retA X1 hx Bd rfl hyv (hb hby own_d26_4) e1 (⟨rfl, N0, rfl⟩) (by decide) (by decide)
def own_r27 : Room := { frames := 0, cells := 0, slots := 0, locals := 0 }
theorem own_ef27 (m : MethodId) (x0 : Addr) : entryFrame m #[(.ref x0)] 1 = mkF m 0 #[.val (.ref x0)] [] := by first | (simp [entryFrame, mkF, argsToLocals, Value.category]; done) | rfl
def own_Q27 (Z : State) (b arr : Addr) (ka : ClassId) (h0 : Heap) (n0 : Nat) : Option Value → Heap → List Loc → Prop := fun v h L => v = some (.int (0 : Int32)) ∧ Fr n0 L ∧ h = h0
set_option maxRecDepth 65536 in
set_option maxHeartbeats 40000000 in
theorem own_rm27 (l : Launch) (Z : State) (a0 : Array Value) (hw : ∀ d ∈ tables_1, d.before a0 Z = true) (ws : List Jvm.Cond) (b arr : Addr) (ka : ClassId) (h0 : Heap) (n0 : Nat) (Z0 : n0 ≤ h0.size) (F_s : Fld Z h0 b "com/example/operation_tracker/operationtracker/model/TaskId" "subtaskNumbers" "[I" (.ref arr)) (V_a : Arv Z h0 arr ka .int (0 : Int32) [] (.int (0 : Int32))) :
    MetFree l (⟨"com/example/operation_tracker/operationtracker/model/TaskId", "depth", "()I"⟩ : MethodName) (head1 (Jvm.Cond.code (⟨"com/example/operation_tracker/operationtracker/model/TaskId", "depth", "()I"⟩ : MethodName) prog_12_method_9_code 1 (some .int) :: ws) own_r27) (fun a_ U_ => a_ = #[(.ref b)] ∧ Z.Warmed39 U_.vm ∧ U_.heap = h0) (fun _ _ _ _ _ => True) (fun _ U_ o_ U'_ => ∃ v_ L_, o_ = .returned v_ ∧ own_Q27 Z b arr  ka  h0 n0 v_ U'_.heap L_ ∧ FrameEnd U_ o_ U'_ L_ own_r27.cells own_r27.slots) := by
  refine MetFree.of_bodySF (plainFor_of_name own_pn5) hisR ?_
  intro p e s m args below meth c s₁ Bd hml0 hP hK
  obtain ⟨rfl, hZ, hh⟩ := hP
  have hx := Bd.exec
  have hby := Bd.bytes
  have hml : c.maxLocals = 1 := hml0
  have hown : s.vm.findClass "com/example/operation_tracker/operationtracker/model/TaskId" = some m.cls := findClass_of_methodNamed Bd.named
  have hnm := (name_of_methodNamed Bd.named Bd.method).1
  have X0 : Stand p l e own_r27 s m #[(.ref b)] below meth c s₁ [] 0 0 := Stand.of_body Bd
  have e0 : s₁.heap = h0 := by rw [← hh, Bd.state]; rfl
  have N0 := Fr.nil n0
  refine own_in (own_ef27 m b) ?_
  show own_Go p e below (own_K s (own_Q27 Z b arr  ka  h0 n0) own_r27.cells own_r27.slots) s₁ (mkF m 0 #[.val (.ref b)] [])
  refine own_st (T' := s₁) (g' := (mkF m 1 #[.val (.ref b)] [(.ref b)])) (fun t k => ?_) ?_
  · show Steps p.tables e below (s₁.setTop (mkF m 0 #[.val (.ref b)] [])) t
    refine XS.aloadN X0.here hx rfl (hb hby own_d27_0) rfl rfl ?_
    exact k
  obtain ⟨T1, X1, e1, st1⟩ := getF X0 hx hZ hown (host := "") (Or.inl (hw _ (List.mem_of_getElem? (i := 105) rfl))) Via.refl e0 F_s (g := (mkF m 1 #[.val (.ref b)] [(.ref b)])) rfl rfl (hb hby own_d27_1)
  refine own_st (T' := T1) (g' := (mkF m 4 #[.val (.ref b)] [(.ref arr)])) st1 ?_
  obtain ⟨cl2, Ar2, q2, S2, M2, H2, G2⟩ := id V_a
  refine own_st (T' := T1) (g' := (mkF m 5 #[.val (.ref b)] [(.int (0 : Int32))])) (fun t k => ?_) ?_
  · show Steps p.tables e below (T1.setTop (mkF m 4 #[.val (.ref b)] [(.ref arr)])) t
    refine X1.arraylength hx (by rw [e1]; exact Ar2.1) (State.isArrayOf_alike hZ.alike Ar2.2.1) (g := (mkF m 4 #[.val (.ref b)] [(.ref arr)])) rfl rfl (hb hby own_d27_4) _ ?_
    rw [len_of S2 M2]
    show Steps p.tables e below (T1.setTop (mkF m 5 #[.val (.ref b)] [(.int (0 : Int32))])) t
    exact k
  exact own_retI X1 hx Bd (hb hby own_d27_5) e1 (⟨rfl, N0, rfl⟩) (by decide) (by decide)
def own_r8_1 : Room := { frames := 5, cells := 4, slots := 27, locals := 71 }
theorem own_ef8_1 (m : MethodId) (x0 : Addr) : entryFrame m #[(.ref x0)] 1 = mkF m 0 #[.val (.ref x0)] [] := by first | (simp [entryFrame, mkF, argsToLocals, Value.category]; done) | rfl
def own_Q8_1 (Z : State) (r arr : Addr) (ka : ClassId) (x0 : Int32) (cs : Int32) (h0 : Heap) (n0 : Nat) : Option Value → Heap → List Loc → Prop := fun v h L => ∃ u a k, v = some (.ref u) ∧ Fr n0 L ∧ Keep h0 h [] ∧ n0 ≤ u ∧ h0.size ≤ u ∧ Exa Z h u "com/example/operation_tracker/operationtracker/model/TaskId" ∧ Fld Z h u "com/example/operation_tracker/operationtracker/model/TaskId" "jobId" "Ljava/lang/String;" (.ref r) ∧ Fld Z h u "com/example/operation_tracker/operationtracker/model/TaskId" "subtaskNumbers" "[I" (.ref a) ∧ Fld Z h u "com/example/operation_tracker/operationtracker/model/TaskId" "text" "Ljava/lang/String;" (.ref r) ∧ Arv Z h a k .int (0 : Int32) [] (.int (0 : Int32))
set_option maxRecDepth 65536 in
set_option maxHeartbeats 40000000 in
theorem own_rm8_1 (l : Launch) (Z : State) (a0 : Array Value) (hw : ∀ d ∈ tables_1, d.before a0 Z = true) (ws : List Jvm.Cond) (r arr : Addr) (ka : ClassId) (x0 : Int32) (cs : Int32) (h0 : Heap) (n0 : Nat) (Z0 : n0 ≤ h0.size) (O0 : Old Z n0 h0) (E_r : Exa Z h0 r "java/lang/String") (F_v : Fld Z h0 r "java/lang/String" "value" "[B" (.ref arr)) (F_c : Fld Z h0 r "java/lang/String" "coder" "B" (.int (0 : Int32))) (V_a : Arv Z h0 arr ka .byte (1 : Int32) [(.int x0)] (.int (0 : Int32))) (hn0 : ¬ x0 = (46 : Int32)) (hcs : ¬ cs = (0 : Int32)) (S_cs : Sta Z Z.heap "java/lang/String" "COMPACT_STRINGS" "Z" (.int cs)) :
    MetFree l (⟨"com/example/operation_tracker/operationtracker/model/TaskId", "first", "(Ljava/lang/String;)Lcom/example/operation_tracker/operationtracker/model/TaskId;"⟩ : MethodName) (head1 (Jvm.Cond.code (⟨"com/example/operation_tracker/operationtracker/model/TaskId", "first", "(Ljava/lang/String;)Lcom/example/operation_tracker/operationtracker/model/TaskId;"⟩ : MethodName) prog_12_method_2_code 1 (some (.object "com/example/operation_tracker/operationtracker/model/TaskId")) :: ws) own_r8_1) (fun a_ U_ => a_ = #[(.ref r)] ∧ Z.Warmed39 U_.vm ∧ U_.heap = h0) (fun _ _ _ _ _ => True) (fun _ U_ o_ U'_ => ∃ v_ L_, o_ = .returned v_ ∧ own_Q8_1 Z r arr  ka  x0  cs  h0 n0 v_ U'_.heap L_ ∧ ReturnedEndW U_ o_ U'_ L_ own_r8_1.cells own_r8_1.slots) := by
  refine MetFree.of_bodySF (plainFor_of_name own_pn5) hisR ?_
  intro p e s m args below meth c s₁ Bd hml0 hP hK
  obtain ⟨rfl, hZ, hh⟩ := hP
  have hx := Bd.exec
  have hby := Bd.bytes
  have hml : c.maxLocals = 1 := hml0
  have hown : s.vm.findClass "com/example/operation_tracker/operationtracker/model/TaskId" = some m.cls := findClass_of_methodNamed Bd.named
  have hnm := (name_of_methodNamed Bd.named Bd.method).1
  have X0 : Stand p l e own_r8_1 s m #[(.ref r)] below meth c s₁ [] 0 0 := Stand.of_body Bd
  obtain ⟨v0, X0, hS0, hZ0, ho0⟩ : ∃ v0, Stand p l e own_r8_1 (s.setVm v0) m #[(.ref r)] below meth c s₁ [] 0 0 ∧ s.Since v0 h0.size ∧ Z.Warmed39 (s.setVm v0).vm ∧ (s.setVm v0).vm.findClass "com/example/operation_tracker/operationtracker/model/TaskId" = some m.cls := ⟨s.vm, X0, (State.WarmedH.refl s).since _, hZ, hown⟩
  have hstr : ∀ d ∈ Bundle.stringAtoms, d.before a0 Z = true := fun d hd => hw d (own_sa d hd)
  have e0 : s₁.heap = h0 := by rw [← hh, Bd.state]; rfl
  have N0 := Fr.nil n0
  refine own_in (own_ef8_1 m r) ?_
  show own_Go p e below (own_KW s (own_Q8_1 Z r arr  ka  x0  cs  h0 n0) own_r8_1.cells own_r8_1.slots) s₁ (mkF m 0 #[.val (.ref r)] [])
  refine own_st (T' := s₁) (g' := (mkF m 1 #[.val (.ref r)] [(.ref r)])) (fun t k => ?_) ?_
  · show Steps p.tables e below (s₁.setTop (mkF m 0 #[.val (.ref r)] [])) t
    refine XS.aloadN X0.here hx rfl (hb hby own_d8_0) rfl rfl ?_
    exact k
  obtain ⟨_, _, ⟨T1, L1, c1, n1⟩, -, Y1, hI1, hG1, ⟨Lc1, hQ1, l1, y1, z1⟩, st1⟩ := callSS X0 hx (y := (⟨"com/example/operation_tracker/operationtracker/model/TaskId", "requireUsableJobId", "(Ljava/lang/String;)V"⟩ : MethodName)) ho0 (mvT hZ0 (hw _ (List.mem_of_getElem? (i := 39) rfl))) (mvT hZ0 (hw _ (List.mem_of_getElem? (i := 40) rfl))) (mvT hZ0 (hw _ (List.mem_of_getElem? (i := 37) rfl))) (mvT hZ0 (hw _ (List.mem_of_getElem? (i := 41) rfl))) (by decide) (backOfS (W := 0) (own_rm9_1 l Z a0 hw [] r arr ka x0 cs h0 n0 Z0 O0 E_r F_v F_c V_a hn0 hcs S_cs) hZ0 (hw _ (List.mem_of_getElem? (i := 41) rfl)) (hw _ (List.mem_of_getElem? (i := 37) rfl)) (by decide) (by decide)) (g := (mkF m 1 #[.val (.ref r)] [(.ref r)])) rfl (by rw [hml]; rfl) (argsL := [(.ref r)]) (rest := []) (lenOf own_pd13 rfl) rfl (by show 2 * 0 + _ ≤ _; exact Nat.le_of_eq rfl) (hb hby own_d8_1) (fun _ _ => ⟨rfl, e0, (by decide : 0 + 2 ≤ _), (by decide : 0 + 24 ≤ _)⟩)
  dsimp only [Pt.U, Pt.locs, Pt.cells, Pt.slots] at Y1 hI1 hG1 l1 y1 z1 st1 hQ1
  subst l1 y1 z1
  obtain ⟨X1, hS1, hZ1, ho1⟩ := rebS hS0 (by rw [e0]; exact (Nat.le_refl _)) Y1 hI1 hG1 hZ0 ho0
  obtain ⟨v1, hv1⟩ : ∃ z, z = T1.vm := ⟨_, rfl⟩
  rw [← hv1] at X1 hS1 hZ1 ho1
  obtain ⟨h1, e1⟩ : ∃ z, T1.heap = z := ⟨_, rfl⟩
  rw [e1] at hQ1
  obtain ⟨rfl, N1q, Kc1⟩ := hQ1
  have N1 := Fr.app N0 N1q
  have K1 : Keep h0 h1 [] := (Keep.refl h0 []).trans Kc1 all0
  have Z1 : n0 ≤ h1.size := Nat.le_trans Z0 Kc1.1
  have O1 := O0.keep Kc1 all0
  have hk1 : T1.heap.size ≤ h1.size := Nat.le_of_eq (by rw [e1])
  refine own_tr (T' := T1) (g' := (mkF m 4 #[.val (.ref r)] [])) st1 ?_
  obtain ⟨T2, h2, X2, e2, E2, A2, D2, U2, st2⟩ := newO X1 hx hZ1 ho1 (hw _ (List.mem_of_getElem? (i := 96) rfl)) (hw _ (List.mem_of_getElem? (i := 97) rfl)) (hw _ (List.mem_of_getElem? (i := 37) rfl)) e1 (g := (mkF m 4 #[.val (.ref r)] [])) rfl (hb hby own_d8_4) (by decide) (by decide)
  obtain ⟨b2, g2⟩ : ∃ z, z = h1.size := ⟨_, rfl⟩
  rw [← g2] at A2 D2 U2 st2
  have sz2 : h1.size ≤ b2 := Nat.le_of_eq g2.symm
  have f3 := E_r.keep Kc1
  have ne_r_b2 : r ≠ b2 := Nat.ne_of_lt (Nat.lt_of_lt_of_le f3.lt sz2)
  have f4 := V_a.keep Kc1 nin0
  have ne_arr_b2 : arr ≠ b2 := Nat.ne_of_lt (Nat.lt_of_lt_of_le f4.lt sz2)
  have g_b2 : n0 ≤ b2 := Nat.le_trans Z1 sz2
  have hz_b2 : h0.size ≤ b2 := Nat.le_trans K1.1 sz2
  have K2 : Keep h0 h2 [] := K1.ext E2
  have Z2 : n0 ≤ h2.size := Nat.le_trans Z1 E2.1
  have O2 := O1.ext E2
  have hk2 := Nat.le_trans hk1 E2.1
  refine own_st (T' := T2) (g' := (mkF m 7 #[.val (.ref r)] [(.ref b2)])) st2 ?_
  refine own_st (T' := T2) (g' := (mkF m 10 #[.val (.ref r)] [(.int (0 : Int32)), (.ref r), (.ref b2), (.ref b2)])) (fun t k => ?_) ?_
  · show Steps p.tables e below (T2.setTop (mkF m 7 #[.val (.ref r)] [(.ref b2)])) t
    refine XS.dup X2.here hx rfl (hb hby own_d8_7) rfl rfl ?_
    refine XS.aloadN X2.here hx rfl (hb hby own_d8_8) rfl rfl ?_
    refine XS.iconst X2.here hx rfl (hb hby own_d8_9) ?_
    exact k
  obtain ⟨T5, h5, k5, X5, e5, E5, A5, st5⟩ := newP X2 hx hZ1 (hw _ (List.mem_of_getElem? (i := 98) rfl)) e2 (g := (mkF m 10 #[.val (.ref r)] [(.int (0 : Int32)), (.ref r), (.ref b2), (.ref b2)])) rfl (hb hby own_d8_10) rfl (by decide) (cap := 0) (by decide) (by decide) (by decide) (by decide)
  obtain ⟨b5, g5⟩ : ∃ z, z = h2.size := ⟨_, rfl⟩
  rw [← g5] at A5 st5
  have sz5 : h2.size ≤ b5 := Nat.le_of_eq g5.symm
  have f6 := f3.ext E2
  have ne_r_b5 : r ≠ b5 := Nat.ne_of_lt (Nat.lt_of_lt_of_le f6.lt sz5)
  have f7 := f4.ext E2
  have ne_arr_b5 : arr ≠ b5 := Nat.ne_of_lt (Nat.lt_of_lt_of_le f7.lt sz5)
  have ne_b2_b5 : b2 ≠ b5 := Nat.ne_of_lt (Nat.lt_of_lt_of_le A2.lt sz5)
  have g_b5 : n0 ≤ b5 := Nat.le_trans Z2 sz5
  have hz_b5 : h0.size ≤ b5 := Nat.le_trans K2.1 sz5
  have K5 : Keep h0 h5 [] := K2.ext E5
  have Z5 : n0 ≤ h5.size := Nat.le_trans Z2 E5.1
  have O5 := O2.ext E5
  have hk5 := Nat.le_trans hk2 E5.1
  have V5 : Arv Z h5 b5 k5 .int (0 : Int32) [] (.int (0 : Int32)) := (Arv.new A5 (by decide)).pad (pad_rep [] (.int (0 : Int32)) 0)
  refine own_st (T' := T5) (g' := (mkF m 12 #[.val (.ref r)] [(.ref b5), (.ref r), (.ref b2), (.ref b2)])) st5 ?_
  refine own_st (T' := T5) (g' := (mkF m 13 #[.val (.ref r)] [(.ref r), (.ref b5), (.ref r), (.ref b2), (.ref b2)])) (fun t k => ?_) ?_
  · show Steps p.tables e below (T5.setTop (mkF m 12 #[.val (.ref r)] [(.ref b5), (.ref r), (.ref b2), (.ref b2)])) t
    refine XS.aloadN X5.here hx rfl (hb hby own_d8_12) rfl rfl ?_
    exact k
  have f8 := A2.ext E5
  have f9 := (D2 (Or.inr (hw _ (List.mem_of_getElem? (i := 104) rfl))) (ty := (.object "java/lang/String")) (by decide) : Fld Z h2 b2 "com/example/operation_tracker/operationtracker/model/TaskId" "jobId" "Ljava/lang/String;" .null).ext E5
  have f10 := (D2 (Or.inr (hw _ (List.mem_of_getElem? (i := 106) rfl))) (ty := (.array .int)) (by decide) : Fld Z h2 b2 "com/example/operation_tracker/operationtracker/model/TaskId" "subtaskNumbers" "[I" .null).ext E5
  have f11 := (D2 (Or.inr (hw _ (List.mem_of_getElem? (i := 108) rfl))) (ty := (.object "java/lang/String")) (by decide) : Fld Z h2 b2 "com/example/operation_tracker/operationtracker/model/TaskId" "text" "Ljava/lang/String;" .null).ext E5
  obtain ⟨_, _, ⟨T12, L12, c12, n12⟩, -, X12, ⟨Lc12, hQ12, l12, y12, z12⟩, st12⟩ := X5.specialBack hx (y := (⟨"com/example/operation_tracker/operationtracker/model/TaskId", "<init>", "(Ljava/lang/String;[ILjava/lang/String;)V"⟩ : MethodName)) rfl ho1 (mvT hZ1 (hw _ (List.mem_of_getElem? (i := 99) rfl))) (mvT hZ1 (hw _ (List.mem_of_getElem? (i := 100) rfl))) (mvT hZ1 (hw _ (List.mem_of_getElem? (i := 101) rfl))) (by decide) (backOf (W := 1) (own_rm22 l Z a0 hw [] b2 (.ref r) (.ref b5) (.ref r) h5 n0 Z5 rfl rfl rfl f8 f9 f10 f11 g_b2) hZ1 (hw _ (List.mem_of_getElem? (i := 101) rfl)) (hw _ (List.mem_of_getElem? (i := 37) rfl)) (by decide) (by decide)) (g := (mkF m 13 #[.val (.ref r)] [(.ref r), (.ref b5), (.ref r), (.ref b2), (.ref b2)])) rfl (by rw [hml]; rfl) (Steps.refl _) (a := b2) (argsL := [(.ref r), (.ref b5), (.ref r)]) (rest := [(.ref b2)]) (lenOf own_pd14 rfl) rfl (by show 2 * 0 + _ ≤ _; exact Nat.le_of_eq rfl) (hb hby own_d8_13) (fun _ _ => ⟨rfl, e5, (by decide : 4 + 0 ≤ _), (by decide : 27 + 0 ≤ _)⟩)
  dsimp only [Pt.U, Pt.locs, Pt.cells, Pt.slots] at X12 l12 y12 z12 st12 hQ12
  subst l12 y12 z12
  obtain ⟨h12, e12⟩ : ∃ z, T12.heap = z := ⟨_, rfl⟩
  rw [e12] at hQ12
  obtain ⟨rfl, N12q, Kc12, Fc12_0, Fc12_1, Fc12_2⟩ := hQ12
  have N12 := Fr.app N1 N12q
  have K12 : Keep h0 h12 [] := K5.trans Kc12 (allS (Or.inr hz_b2) all0)
  have Z12 : n0 ≤ h12.size := Nat.le_trans Z5 Kc12.1
  have O12 := O5.keep Kc12 (allS g_b2 all0)
  have hk12 := Nat.le_trans hk5 Kc12.1
  refine own_tr (T' := T12) (g' := (mkF m 16 #[.val (.ref r)] [(.ref b2)])) st12 ?_
  have f13 := f8.keep Kc12
  have f14 := V5.keep Kc12 (ninS (Ne.symm ne_b2_b5) nin0)
  exact own_retAW X12 hx Bd rfl rfl (hb hby own_d8_16) e12 (⟨b2, b5, k5, rfl, N12, K12, g_b2, hz_b2, f13, Fc12_0, Fc12_1, Fc12_2, f14⟩) hS1 hk12 (by decide) (by decide)
def own_r8_2 : Room := { frames := 5, cells := 4, slots := 27, locals := 71 }
theorem own_ef8_2 (m : MethodId) (x0 : Addr) : entryFrame m #[(.ref x0)] 1 = mkF m 0 #[.val (.ref x0)] [] := by first | (simp [entryFrame, mkF, argsToLocals, Value.category]; done) | rfl
def own_Q8_2 (Z : State) (r arr : Addr) (ka : ClassId) (x0 x1 : Int32) (cs : Int32) (h0 : Heap) (n0 : Nat) : Option Value → Heap → List Loc → Prop := fun v h L => ∃ u a k, v = some (.ref u) ∧ Fr n0 L ∧ Keep h0 h [] ∧ n0 ≤ u ∧ h0.size ≤ u ∧ Exa Z h u "com/example/operation_tracker/operationtracker/model/TaskId" ∧ Fld Z h u "com/example/operation_tracker/operationtracker/model/TaskId" "jobId" "Ljava/lang/String;" (.ref r) ∧ Fld Z h u "com/example/operation_tracker/operationtracker/model/TaskId" "subtaskNumbers" "[I" (.ref a) ∧ Fld Z h u "com/example/operation_tracker/operationtracker/model/TaskId" "text" "Ljava/lang/String;" (.ref r) ∧ Arv Z h a k .int (0 : Int32) [] (.int (0 : Int32))
set_option maxRecDepth 65536 in
set_option maxHeartbeats 40000000 in
theorem own_rm8_2 (l : Launch) (Z : State) (a0 : Array Value) (hw : ∀ d ∈ tables_1, d.before a0 Z = true) (ws : List Jvm.Cond) (r arr : Addr) (ka : ClassId) (x0 x1 : Int32) (cs : Int32) (h0 : Heap) (n0 : Nat) (Z0 : n0 ≤ h0.size) (O0 : Old Z n0 h0) (E_r : Exa Z h0 r "java/lang/String") (F_v : Fld Z h0 r "java/lang/String" "value" "[B" (.ref arr)) (F_c : Fld Z h0 r "java/lang/String" "coder" "B" (.int (0 : Int32))) (V_a : Arv Z h0 arr ka .byte (2 : Int32) [(.int x0), (.int x1)] (.int (0 : Int32))) (hn0 : ¬ x0 = (46 : Int32)) (hn1 : ¬ x1 = (46 : Int32)) (hcs : ¬ cs = (0 : Int32)) (S_cs : Sta Z Z.heap "java/lang/String" "COMPACT_STRINGS" "Z" (.int cs)) :
    MetFree l (⟨"com/example/operation_tracker/operationtracker/model/TaskId", "first", "(Ljava/lang/String;)Lcom/example/operation_tracker/operationtracker/model/TaskId;"⟩ : MethodName) (head1 (Jvm.Cond.code (⟨"com/example/operation_tracker/operationtracker/model/TaskId", "first", "(Ljava/lang/String;)Lcom/example/operation_tracker/operationtracker/model/TaskId;"⟩ : MethodName) prog_12_method_2_code 1 (some (.object "com/example/operation_tracker/operationtracker/model/TaskId")) :: ws) own_r8_2) (fun a_ U_ => a_ = #[(.ref r)] ∧ Z.Warmed39 U_.vm ∧ U_.heap = h0) (fun _ _ _ _ _ => True) (fun _ U_ o_ U'_ => ∃ v_ L_, o_ = .returned v_ ∧ own_Q8_2 Z r arr  ka  x0 x1  cs  h0 n0 v_ U'_.heap L_ ∧ ReturnedEndW U_ o_ U'_ L_ own_r8_2.cells own_r8_2.slots) := by
  refine MetFree.of_bodySF (plainFor_of_name own_pn5) hisR ?_
  intro p e s m args below meth c s₁ Bd hml0 hP hK
  obtain ⟨rfl, hZ, hh⟩ := hP
  have hx := Bd.exec
  have hby := Bd.bytes
  have hml : c.maxLocals = 1 := hml0
  have hown : s.vm.findClass "com/example/operation_tracker/operationtracker/model/TaskId" = some m.cls := findClass_of_methodNamed Bd.named
  have hnm := (name_of_methodNamed Bd.named Bd.method).1
  have X0 : Stand p l e own_r8_2 s m #[(.ref r)] below meth c s₁ [] 0 0 := Stand.of_body Bd
  obtain ⟨v0, X0, hS0, hZ0, ho0⟩ : ∃ v0, Stand p l e own_r8_2 (s.setVm v0) m #[(.ref r)] below meth c s₁ [] 0 0 ∧ s.Since v0 h0.size ∧ Z.Warmed39 (s.setVm v0).vm ∧ (s.setVm v0).vm.findClass "com/example/operation_tracker/operationtracker/model/TaskId" = some m.cls := ⟨s.vm, X0, (State.WarmedH.refl s).since _, hZ, hown⟩
  have hstr : ∀ d ∈ Bundle.stringAtoms, d.before a0 Z = true := fun d hd => hw d (own_sa d hd)
  have e0 : s₁.heap = h0 := by rw [← hh, Bd.state]; rfl
  have N0 := Fr.nil n0
  refine own_in (own_ef8_2 m r) ?_
  show own_Go p e below (own_KW s (own_Q8_2 Z r arr  ka  x0 x1  cs  h0 n0) own_r8_2.cells own_r8_2.slots) s₁ (mkF m 0 #[.val (.ref r)] [])
  refine own_st (T' := s₁) (g' := (mkF m 1 #[.val (.ref r)] [(.ref r)])) (fun t k => ?_) ?_
  · show Steps p.tables e below (s₁.setTop (mkF m 0 #[.val (.ref r)] [])) t
    refine XS.aloadN X0.here hx rfl (hb hby own_d8_0) rfl rfl ?_
    exact k
  obtain ⟨_, _, ⟨T1, L1, c1, n1⟩, -, Y1, hI1, hG1, ⟨Lc1, hQ1, l1, y1, z1⟩, st1⟩ := callSS X0 hx (y := (⟨"com/example/operation_tracker/operationtracker/model/TaskId", "requireUsableJobId", "(Ljava/lang/String;)V"⟩ : MethodName)) ho0 (mvT hZ0 (hw _ (List.mem_of_getElem? (i := 39) rfl))) (mvT hZ0 (hw _ (List.mem_of_getElem? (i := 40) rfl))) (mvT hZ0 (hw _ (List.mem_of_getElem? (i := 37) rfl))) (mvT hZ0 (hw _ (List.mem_of_getElem? (i := 41) rfl))) (by decide) (backOfS (W := 0) (own_rm9_2 l Z a0 hw [] r arr ka x0 x1 cs h0 n0 Z0 O0 E_r F_v F_c V_a hn0 hn1 hcs S_cs) hZ0 (hw _ (List.mem_of_getElem? (i := 41) rfl)) (hw _ (List.mem_of_getElem? (i := 37) rfl)) (by decide) (by decide)) (g := (mkF m 1 #[.val (.ref r)] [(.ref r)])) rfl (by rw [hml]; rfl) (argsL := [(.ref r)]) (rest := []) (lenOf own_pd13 rfl) rfl (by show 2 * 0 + _ ≤ _; exact Nat.le_of_eq rfl) (hb hby own_d8_1) (fun _ _ => ⟨rfl, e0, (by decide : 0 + 2 ≤ _), (by decide : 0 + 24 ≤ _)⟩)
  dsimp only [Pt.U, Pt.locs, Pt.cells, Pt.slots] at Y1 hI1 hG1 l1 y1 z1 st1 hQ1
  subst l1 y1 z1
  obtain ⟨X1, hS1, hZ1, ho1⟩ := rebS hS0 (by rw [e0]; exact (Nat.le_refl _)) Y1 hI1 hG1 hZ0 ho0
  obtain ⟨v1, hv1⟩ : ∃ z, z = T1.vm := ⟨_, rfl⟩
  rw [← hv1] at X1 hS1 hZ1 ho1
  obtain ⟨h1, e1⟩ : ∃ z, T1.heap = z := ⟨_, rfl⟩
  rw [e1] at hQ1
  obtain ⟨rfl, N1q, Kc1⟩ := hQ1
  have N1 := Fr.app N0 N1q
  have K1 : Keep h0 h1 [] := (Keep.refl h0 []).trans Kc1 all0
  have Z1 : n0 ≤ h1.size := Nat.le_trans Z0 Kc1.1
  have O1 := O0.keep Kc1 all0
  have hk1 : T1.heap.size ≤ h1.size := Nat.le_of_eq (by rw [e1])
  refine own_tr (T' := T1) (g' := (mkF m 4 #[.val (.ref r)] [])) st1 ?_
  obtain ⟨T2, h2, X2, e2, E2, A2, D2, U2, st2⟩ := newO X1 hx hZ1 ho1 (hw _ (List.mem_of_getElem? (i := 96) rfl)) (hw _ (List.mem_of_getElem? (i := 97) rfl)) (hw _ (List.mem_of_getElem? (i := 37) rfl)) e1 (g := (mkF m 4 #[.val (.ref r)] [])) rfl (hb hby own_d8_4) (by decide) (by decide)
  obtain ⟨b2, g2⟩ : ∃ z, z = h1.size := ⟨_, rfl⟩
  rw [← g2] at A2 D2 U2 st2
  have sz2 : h1.size ≤ b2 := Nat.le_of_eq g2.symm
  have f3 := E_r.keep Kc1
  have ne_r_b2 : r ≠ b2 := Nat.ne_of_lt (Nat.lt_of_lt_of_le f3.lt sz2)
  have f4 := V_a.keep Kc1 nin0
  have ne_arr_b2 : arr ≠ b2 := Nat.ne_of_lt (Nat.lt_of_lt_of_le f4.lt sz2)
  have g_b2 : n0 ≤ b2 := Nat.le_trans Z1 sz2
  have hz_b2 : h0.size ≤ b2 := Nat.le_trans K1.1 sz2
  have K2 : Keep h0 h2 [] := K1.ext E2
  have Z2 : n0 ≤ h2.size := Nat.le_trans Z1 E2.1
  have O2 := O1.ext E2
  have hk2 := Nat.le_trans hk1 E2.1
  refine own_st (T' := T2) (g' := (mkF m 7 #[.val (.ref r)] [(.ref b2)])) st2 ?_
  refine own_st (T' := T2) (g' := (mkF m 10 #[.val (.ref r)] [(.int (0 : Int32)), (.ref r), (.ref b2), (.ref b2)])) (fun t k => ?_) ?_
  · show Steps p.tables e below (T2.setTop (mkF m 7 #[.val (.ref r)] [(.ref b2)])) t
    refine XS.dup X2.here hx rfl (hb hby own_d8_7) rfl rfl ?_
    refine XS.aloadN X2.here hx rfl (hb hby own_d8_8) rfl rfl ?_
    refine XS.iconst X2.here hx rfl (hb hby own_d8_9) ?_
    exact k
  obtain ⟨T5, h5, k5, X5, e5, E5, A5, st5⟩ := newP X2 hx hZ1 (hw _ (List.mem_of_getElem? (i := 98) rfl)) e2 (g := (mkF m 10 #[.val (.ref r)] [(.int (0 : Int32)), (.ref r), (.ref b2), (.ref b2)])) rfl (hb hby own_d8_10) rfl (by decide) (cap := 0) (by decide) (by decide) (by decide) (by decide)
  obtain ⟨b5, g5⟩ : ∃ z, z = h2.size := ⟨_, rfl⟩
  rw [← g5] at A5 st5
  have sz5 : h2.size ≤ b5 := Nat.le_of_eq g5.symm
  have f6 := f3.ext E2
  have ne_r_b5 : r ≠ b5 := Nat.ne_of_lt (Nat.lt_of_lt_of_le f6.lt sz5)
  have f7 := f4.ext E2
  have ne_arr_b5 : arr ≠ b5 := Nat.ne_of_lt (Nat.lt_of_lt_of_le f7.lt sz5)
  have ne_b2_b5 : b2 ≠ b5 := Nat.ne_of_lt (Nat.lt_of_lt_of_le A2.lt sz5)
  have g_b5 : n0 ≤ b5 := Nat.le_trans Z2 sz5
  have hz_b5 : h0.size ≤ b5 := Nat.le_trans K2.1 sz5
  have K5 : Keep h0 h5 [] := K2.ext E5
  have Z5 : n0 ≤ h5.size := Nat.le_trans Z2 E5.1
  have O5 := O2.ext E5
  have hk5 := Nat.le_trans hk2 E5.1
  have V5 : Arv Z h5 b5 k5 .int (0 : Int32) [] (.int (0 : Int32)) := (Arv.new A5 (by decide)).pad (pad_rep [] (.int (0 : Int32)) 0)
  refine own_st (T' := T5) (g' := (mkF m 12 #[.val (.ref r)] [(.ref b5), (.ref r), (.ref b2), (.ref b2)])) st5 ?_
  refine own_st (T' := T5) (g' := (mkF m 13 #[.val (.ref r)] [(.ref r), (.ref b5), (.ref r), (.ref b2), (.ref b2)])) (fun t k => ?_) ?_
  · show Steps p.tables e below (T5.setTop (mkF m 12 #[.val (.ref r)] [(.ref b5), (.ref r), (.ref b2), (.ref b2)])) t
    refine XS.aloadN X5.here hx rfl (hb hby own_d8_12) rfl rfl ?_
    exact k
  have f8 := A2.ext E5
  have f9 := (D2 (Or.inr (hw _ (List.mem_of_getElem? (i := 104) rfl))) (ty := (.object "java/lang/String")) (by decide) : Fld Z h2 b2 "com/example/operation_tracker/operationtracker/model/TaskId" "jobId" "Ljava/lang/String;" .null).ext E5
  have f10 := (D2 (Or.inr (hw _ (List.mem_of_getElem? (i := 106) rfl))) (ty := (.array .int)) (by decide) : Fld Z h2 b2 "com/example/operation_tracker/operationtracker/model/TaskId" "subtaskNumbers" "[I" .null).ext E5
  have f11 := (D2 (Or.inr (hw _ (List.mem_of_getElem? (i := 108) rfl))) (ty := (.object "java/lang/String")) (by decide) : Fld Z h2 b2 "com/example/operation_tracker/operationtracker/model/TaskId" "text" "Ljava/lang/String;" .null).ext E5
  obtain ⟨_, _, ⟨T12, L12, c12, n12⟩, -, X12, ⟨Lc12, hQ12, l12, y12, z12⟩, st12⟩ := X5.specialBack hx (y := (⟨"com/example/operation_tracker/operationtracker/model/TaskId", "<init>", "(Ljava/lang/String;[ILjava/lang/String;)V"⟩ : MethodName)) rfl ho1 (mvT hZ1 (hw _ (List.mem_of_getElem? (i := 99) rfl))) (mvT hZ1 (hw _ (List.mem_of_getElem? (i := 100) rfl))) (mvT hZ1 (hw _ (List.mem_of_getElem? (i := 101) rfl))) (by decide) (backOf (W := 1) (own_rm22 l Z a0 hw [] b2 (.ref r) (.ref b5) (.ref r) h5 n0 Z5 rfl rfl rfl f8 f9 f10 f11 g_b2) hZ1 (hw _ (List.mem_of_getElem? (i := 101) rfl)) (hw _ (List.mem_of_getElem? (i := 37) rfl)) (by decide) (by decide)) (g := (mkF m 13 #[.val (.ref r)] [(.ref r), (.ref b5), (.ref r), (.ref b2), (.ref b2)])) rfl (by rw [hml]; rfl) (Steps.refl _) (a := b2) (argsL := [(.ref r), (.ref b5), (.ref r)]) (rest := [(.ref b2)]) (lenOf own_pd14 rfl) rfl (by show 2 * 0 + _ ≤ _; exact Nat.le_of_eq rfl) (hb hby own_d8_13) (fun _ _ => ⟨rfl, e5, (by decide : 4 + 0 ≤ _), (by decide : 27 + 0 ≤ _)⟩)
  dsimp only [Pt.U, Pt.locs, Pt.cells, Pt.slots] at X12 l12 y12 z12 st12 hQ12
  subst l12 y12 z12
  obtain ⟨h12, e12⟩ : ∃ z, T12.heap = z := ⟨_, rfl⟩
  rw [e12] at hQ12
  obtain ⟨rfl, N12q, Kc12, Fc12_0, Fc12_1, Fc12_2⟩ := hQ12
  have N12 := Fr.app N1 N12q
  have K12 : Keep h0 h12 [] := K5.trans Kc12 (allS (Or.inr hz_b2) all0)
  have Z12 : n0 ≤ h12.size := Nat.le_trans Z5 Kc12.1
  have O12 := O5.keep Kc12 (allS g_b2 all0)
  have hk12 := Nat.le_trans hk5 Kc12.1
  refine own_tr (T' := T12) (g' := (mkF m 16 #[.val (.ref r)] [(.ref b2)])) st12 ?_
  have f13 := f8.keep Kc12
  have f14 := V5.keep Kc12 (ninS (Ne.symm ne_b2_b5) nin0)
  exact own_retAW X12 hx Bd rfl rfl (hb hby own_d8_16) e12 (⟨b2, b5, k5, rfl, N12, K12, g_b2, hz_b2, f13, Fc12_0, Fc12_1, Fc12_2, f14⟩) hS1 hk12 (by decide) (by decide)
def own_r8_3 : Room := { frames := 5, cells := 4, slots := 27, locals := 71 }
theorem own_ef8_3 (m : MethodId) (x0 : Addr) : entryFrame m #[(.ref x0)] 1 = mkF m 0 #[.val (.ref x0)] [] := by first | (simp [entryFrame, mkF, argsToLocals, Value.category]; done) | rfl
def own_Q8_3 (Z : State) (r arr : Addr) (ka : ClassId) (x0 x1 x2 : Int32) (cs : Int32) (h0 : Heap) (n0 : Nat) : Option Value → Heap → List Loc → Prop := fun v h L => ∃ u a k, v = some (.ref u) ∧ Fr n0 L ∧ Keep h0 h [] ∧ n0 ≤ u ∧ h0.size ≤ u ∧ Exa Z h u "com/example/operation_tracker/operationtracker/model/TaskId" ∧ Fld Z h u "com/example/operation_tracker/operationtracker/model/TaskId" "jobId" "Ljava/lang/String;" (.ref r) ∧ Fld Z h u "com/example/operation_tracker/operationtracker/model/TaskId" "subtaskNumbers" "[I" (.ref a) ∧ Fld Z h u "com/example/operation_tracker/operationtracker/model/TaskId" "text" "Ljava/lang/String;" (.ref r) ∧ Arv Z h a k .int (0 : Int32) [] (.int (0 : Int32))
set_option maxRecDepth 65536 in
set_option maxHeartbeats 40000000 in
theorem own_rm8_3 (l : Launch) (Z : State) (a0 : Array Value) (hw : ∀ d ∈ tables_1, d.before a0 Z = true) (ws : List Jvm.Cond) (r arr : Addr) (ka : ClassId) (x0 x1 x2 : Int32) (cs : Int32) (h0 : Heap) (n0 : Nat) (Z0 : n0 ≤ h0.size) (O0 : Old Z n0 h0) (E_r : Exa Z h0 r "java/lang/String") (F_v : Fld Z h0 r "java/lang/String" "value" "[B" (.ref arr)) (F_c : Fld Z h0 r "java/lang/String" "coder" "B" (.int (0 : Int32))) (V_a : Arv Z h0 arr ka .byte (3 : Int32) [(.int x0), (.int x1), (.int x2)] (.int (0 : Int32))) (hn0 : ¬ x0 = (46 : Int32)) (hn1 : ¬ x1 = (46 : Int32)) (hn2 : ¬ x2 = (46 : Int32)) (hcs : ¬ cs = (0 : Int32)) (S_cs : Sta Z Z.heap "java/lang/String" "COMPACT_STRINGS" "Z" (.int cs)) :
    MetFree l (⟨"com/example/operation_tracker/operationtracker/model/TaskId", "first", "(Ljava/lang/String;)Lcom/example/operation_tracker/operationtracker/model/TaskId;"⟩ : MethodName) (head1 (Jvm.Cond.code (⟨"com/example/operation_tracker/operationtracker/model/TaskId", "first", "(Ljava/lang/String;)Lcom/example/operation_tracker/operationtracker/model/TaskId;"⟩ : MethodName) prog_12_method_2_code 1 (some (.object "com/example/operation_tracker/operationtracker/model/TaskId")) :: ws) own_r8_3) (fun a_ U_ => a_ = #[(.ref r)] ∧ Z.Warmed39 U_.vm ∧ U_.heap = h0) (fun _ _ _ _ _ => True) (fun _ U_ o_ U'_ => ∃ v_ L_, o_ = .returned v_ ∧ own_Q8_3 Z r arr  ka  x0 x1 x2  cs  h0 n0 v_ U'_.heap L_ ∧ ReturnedEndW U_ o_ U'_ L_ own_r8_3.cells own_r8_3.slots) := by
  refine MetFree.of_bodySF (plainFor_of_name own_pn5) hisR ?_
  intro p e s m args below meth c s₁ Bd hml0 hP hK
  obtain ⟨rfl, hZ, hh⟩ := hP
  have hx := Bd.exec
  have hby := Bd.bytes
  have hml : c.maxLocals = 1 := hml0
  have hown : s.vm.findClass "com/example/operation_tracker/operationtracker/model/TaskId" = some m.cls := findClass_of_methodNamed Bd.named
  have hnm := (name_of_methodNamed Bd.named Bd.method).1
  have X0 : Stand p l e own_r8_3 s m #[(.ref r)] below meth c s₁ [] 0 0 := Stand.of_body Bd
  obtain ⟨v0, X0, hS0, hZ0, ho0⟩ : ∃ v0, Stand p l e own_r8_3 (s.setVm v0) m #[(.ref r)] below meth c s₁ [] 0 0 ∧ s.Since v0 h0.size ∧ Z.Warmed39 (s.setVm v0).vm ∧ (s.setVm v0).vm.findClass "com/example/operation_tracker/operationtracker/model/TaskId" = some m.cls := ⟨s.vm, X0, (State.WarmedH.refl s).since _, hZ, hown⟩
  have hstr : ∀ d ∈ Bundle.stringAtoms, d.before a0 Z = true := fun d hd => hw d (own_sa d hd)
  have e0 : s₁.heap = h0 := by rw [← hh, Bd.state]; rfl
  have N0 := Fr.nil n0
  refine own_in (own_ef8_3 m r) ?_
  show own_Go p e below (own_KW s (own_Q8_3 Z r arr  ka  x0 x1 x2  cs  h0 n0) own_r8_3.cells own_r8_3.slots) s₁ (mkF m 0 #[.val (.ref r)] [])
  refine own_st (T' := s₁) (g' := (mkF m 1 #[.val (.ref r)] [(.ref r)])) (fun t k => ?_) ?_
  · show Steps p.tables e below (s₁.setTop (mkF m 0 #[.val (.ref r)] [])) t
    refine XS.aloadN X0.here hx rfl (hb hby own_d8_0) rfl rfl ?_
    exact k
  obtain ⟨_, _, ⟨T1, L1, c1, n1⟩, -, Y1, hI1, hG1, ⟨Lc1, hQ1, l1, y1, z1⟩, st1⟩ := callSS X0 hx (y := (⟨"com/example/operation_tracker/operationtracker/model/TaskId", "requireUsableJobId", "(Ljava/lang/String;)V"⟩ : MethodName)) ho0 (mvT hZ0 (hw _ (List.mem_of_getElem? (i := 39) rfl))) (mvT hZ0 (hw _ (List.mem_of_getElem? (i := 40) rfl))) (mvT hZ0 (hw _ (List.mem_of_getElem? (i := 37) rfl))) (mvT hZ0 (hw _ (List.mem_of_getElem? (i := 41) rfl))) (by decide) (backOfS (W := 0) (own_rm9_3 l Z a0 hw [] r arr ka x0 x1 x2 cs h0 n0 Z0 O0 E_r F_v F_c V_a hn0 hn1 hn2 hcs S_cs) hZ0 (hw _ (List.mem_of_getElem? (i := 41) rfl)) (hw _ (List.mem_of_getElem? (i := 37) rfl)) (by decide) (by decide)) (g := (mkF m 1 #[.val (.ref r)] [(.ref r)])) rfl (by rw [hml]; rfl) (argsL := [(.ref r)]) (rest := []) (lenOf own_pd13 rfl) rfl (by show 2 * 0 + _ ≤ _; exact Nat.le_of_eq rfl) (hb hby own_d8_1) (fun _ _ => ⟨rfl, e0, (by decide : 0 + 2 ≤ _), (by decide : 0 + 24 ≤ _)⟩)
  dsimp only [Pt.U, Pt.locs, Pt.cells, Pt.slots] at Y1 hI1 hG1 l1 y1 z1 st1 hQ1
  subst l1 y1 z1
  obtain ⟨X1, hS1, hZ1, ho1⟩ := rebS hS0 (by rw [e0]; exact (Nat.le_refl _)) Y1 hI1 hG1 hZ0 ho0
  obtain ⟨v1, hv1⟩ : ∃ z, z = T1.vm := ⟨_, rfl⟩
  rw [← hv1] at X1 hS1 hZ1 ho1
  obtain ⟨h1, e1⟩ : ∃ z, T1.heap = z := ⟨_, rfl⟩
  rw [e1] at hQ1
  obtain ⟨rfl, N1q, Kc1⟩ := hQ1
  have N1 := Fr.app N0 N1q
  have K1 : Keep h0 h1 [] := (Keep.refl h0 []).trans Kc1 all0
  have Z1 : n0 ≤ h1.size := Nat.le_trans Z0 Kc1.1
  have O1 := O0.keep Kc1 all0
  have hk1 : T1.heap.size ≤ h1.size := Nat.le_of_eq (by rw [e1])
  refine own_tr (T' := T1) (g' := (mkF m 4 #[.val (.ref r)] [])) st1 ?_
  obtain ⟨T2, h2, X2, e2, E2, A2, D2, U2, st2⟩ := newO X1 hx hZ1 ho1 (hw _ (List.mem_of_getElem? (i := 96) rfl)) (hw _ (List.mem_of_getElem? (i := 97) rfl)) (hw _ (List.mem_of_getElem? (i := 37) rfl)) e1 (g := (mkF m 4 #[.val (.ref r)] [])) rfl (hb hby own_d8_4) (by decide) (by decide)
  obtain ⟨b2, g2⟩ : ∃ z, z = h1.size := ⟨_, rfl⟩
  rw [← g2] at A2 D2 U2 st2
  have sz2 : h1.size ≤ b2 := Nat.le_of_eq g2.symm
  have f3 := E_r.keep Kc1
  have ne_r_b2 : r ≠ b2 := Nat.ne_of_lt (Nat.lt_of_lt_of_le f3.lt sz2)
  have f4 := V_a.keep Kc1 nin0
  have ne_arr_b2 : arr ≠ b2 := Nat.ne_of_lt (Nat.lt_of_lt_of_le f4.lt sz2)
  have g_b2 : n0 ≤ b2 := Nat.le_trans Z1 sz2
  have hz_b2 : h0.size ≤ b2 := Nat.le_trans K1.1 sz2
  have K2 : Keep h0 h2 [] := K1.ext E2
  have Z2 : n0 ≤ h2.size := Nat.le_trans Z1 E2.1
  have O2 := O1.ext E2
  have hk2 := Nat.le_trans hk1 E2.1
  refine own_st (T' := T2) (g' := (mkF m 7 #[.val (.ref r)] [(.ref b2)])) st2 ?_
  refine own_st (T' := T2) (g' := (mkF m 10 #[.val (.ref r)] [(.int (0 : Int32)), (.ref r), (.ref b2), (.ref b2)])) (fun t k => ?_) ?_
  · show Steps p.tables e below (T2.setTop (mkF m 7 #[.val (.ref r)] [(.ref b2)])) t
    refine XS.dup X2.here hx rfl (hb hby own_d8_7) rfl rfl ?_
    refine XS.aloadN X2.here hx rfl (hb hby own_d8_8) rfl rfl ?_
    refine XS.iconst X2.here hx rfl (hb hby own_d8_9) ?_
    exact k
  obtain ⟨T5, h5, k5, X5, e5, E5, A5, st5⟩ := newP X2 hx hZ1 (hw _ (List.mem_of_getElem? (i := 98) rfl)) e2 (g := (mkF m 10 #[.val (.ref r)] [(.int (0 : Int32)), (.ref r), (.ref b2), (.ref b2)])) rfl (hb hby own_d8_10) rfl (by decide) (cap := 0) (by decide) (by decide) (by decide) (by decide)
  obtain ⟨b5, g5⟩ : ∃ z, z = h2.size := ⟨_, rfl⟩
  rw [← g5] at A5 st5
  have sz5 : h2.size ≤ b5 := Nat.le_of_eq g5.symm
  have f6 := f3.ext E2
  have ne_r_b5 : r ≠ b5 := Nat.ne_of_lt (Nat.lt_of_lt_of_le f6.lt sz5)
  have f7 := f4.ext E2
  have ne_arr_b5 : arr ≠ b5 := Nat.ne_of_lt (Nat.lt_of_lt_of_le f7.lt sz5)
  have ne_b2_b5 : b2 ≠ b5 := Nat.ne_of_lt (Nat.lt_of_lt_of_le A2.lt sz5)
  have g_b5 : n0 ≤ b5 := Nat.le_trans Z2 sz5
  have hz_b5 : h0.size ≤ b5 := Nat.le_trans K2.1 sz5
  have K5 : Keep h0 h5 [] := K2.ext E5
  have Z5 : n0 ≤ h5.size := Nat.le_trans Z2 E5.1
  have O5 := O2.ext E5
  have hk5 := Nat.le_trans hk2 E5.1
  have V5 : Arv Z h5 b5 k5 .int (0 : Int32) [] (.int (0 : Int32)) := (Arv.new A5 (by decide)).pad (pad_rep [] (.int (0 : Int32)) 0)
  refine own_st (T' := T5) (g' := (mkF m 12 #[.val (.ref r)] [(.ref b5), (.ref r), (.ref b2), (.ref b2)])) st5 ?_
  refine own_st (T' := T5) (g' := (mkF m 13 #[.val (.ref r)] [(.ref r), (.ref b5), (.ref r), (.ref b2), (.ref b2)])) (fun t k => ?_) ?_
  · show Steps p.tables e below (T5.setTop (mkF m 12 #[.val (.ref r)] [(.ref b5), (.ref r), (.ref b2), (.ref b2)])) t
    refine XS.aloadN X5.here hx rfl (hb hby own_d8_12) rfl rfl ?_
    exact k
  have f8 := A2.ext E5
  have f9 := (D2 (Or.inr (hw _ (List.mem_of_getElem? (i := 104) rfl))) (ty := (.object "java/lang/String")) (by decide) : Fld Z h2 b2 "com/example/operation_tracker/operationtracker/model/TaskId" "jobId" "Ljava/lang/String;" .null).ext E5
  have f10 := (D2 (Or.inr (hw _ (List.mem_of_getElem? (i := 106) rfl))) (ty := (.array .int)) (by decide) : Fld Z h2 b2 "com/example/operation_tracker/operationtracker/model/TaskId" "subtaskNumbers" "[I" .null).ext E5
  have f11 := (D2 (Or.inr (hw _ (List.mem_of_getElem? (i := 108) rfl))) (ty := (.object "java/lang/String")) (by decide) : Fld Z h2 b2 "com/example/operation_tracker/operationtracker/model/TaskId" "text" "Ljava/lang/String;" .null).ext E5
  obtain ⟨_, _, ⟨T12, L12, c12, n12⟩, -, X12, ⟨Lc12, hQ12, l12, y12, z12⟩, st12⟩ := X5.specialBack hx (y := (⟨"com/example/operation_tracker/operationtracker/model/TaskId", "<init>", "(Ljava/lang/String;[ILjava/lang/String;)V"⟩ : MethodName)) rfl ho1 (mvT hZ1 (hw _ (List.mem_of_getElem? (i := 99) rfl))) (mvT hZ1 (hw _ (List.mem_of_getElem? (i := 100) rfl))) (mvT hZ1 (hw _ (List.mem_of_getElem? (i := 101) rfl))) (by decide) (backOf (W := 1) (own_rm22 l Z a0 hw [] b2 (.ref r) (.ref b5) (.ref r) h5 n0 Z5 rfl rfl rfl f8 f9 f10 f11 g_b2) hZ1 (hw _ (List.mem_of_getElem? (i := 101) rfl)) (hw _ (List.mem_of_getElem? (i := 37) rfl)) (by decide) (by decide)) (g := (mkF m 13 #[.val (.ref r)] [(.ref r), (.ref b5), (.ref r), (.ref b2), (.ref b2)])) rfl (by rw [hml]; rfl) (Steps.refl _) (a := b2) (argsL := [(.ref r), (.ref b5), (.ref r)]) (rest := [(.ref b2)]) (lenOf own_pd14 rfl) rfl (by show 2 * 0 + _ ≤ _; exact Nat.le_of_eq rfl) (hb hby own_d8_13) (fun _ _ => ⟨rfl, e5, (by decide : 4 + 0 ≤ _), (by decide : 27 + 0 ≤ _)⟩)
  dsimp only [Pt.U, Pt.locs, Pt.cells, Pt.slots] at X12 l12 y12 z12 st12 hQ12
  subst l12 y12 z12
  obtain ⟨h12, e12⟩ : ∃ z, T12.heap = z := ⟨_, rfl⟩
  rw [e12] at hQ12
  obtain ⟨rfl, N12q, Kc12, Fc12_0, Fc12_1, Fc12_2⟩ := hQ12
  have N12 := Fr.app N1 N12q
  have K12 : Keep h0 h12 [] := K5.trans Kc12 (allS (Or.inr hz_b2) all0)
  have Z12 : n0 ≤ h12.size := Nat.le_trans Z5 Kc12.1
  have O12 := O5.keep Kc12 (allS g_b2 all0)
  have hk12 := Nat.le_trans hk5 Kc12.1
  refine own_tr (T' := T12) (g' := (mkF m 16 #[.val (.ref r)] [(.ref b2)])) st12 ?_
  have f13 := f8.keep Kc12
  have f14 := V5.keep Kc12 (ninS (Ne.symm ne_b2_b5) nin0)
  exact own_retAW X12 hx Bd rfl rfl (hb hby own_d8_16) e12 (⟨b2, b5, k5, rfl, N12, K12, g_b2, hz_b2, f13, Fc12_0, Fc12_1, Fc12_2, f14⟩) hS1 hk12 (by decide) (by decide)
theorem own_ef0 (m : MethodId) (x0 : Int32) (x1 : Int32) (x2 : Int32) (x3 : Int32) : entryFrame m #[(.int x0), (.int x1), (.int x2), (.int x3)] maxLocals = mkF m 0 #[.val (.int x0), .val (.int x1), .val (.int x2), .val (.int x3), .unset, .unset, .unset, .unset, .unset, .unset, .unset, .unset] [] := by first | (simp [entryFrame, mkF, argsToLocals, Value.category, maxLocals]; done) | rfl
def own_Q0 (Z : State) (pa pb pc_ pn : Int32) (cs : Int32) (h0 : Heap) (n0 : Nat) : Option Value → Heap → List Loc → Prop := fun v h L => v = some (.int 1) ∧ Fr n0 L
set_option maxRecDepth 65536 in
set_option maxHeartbeats 40000000 in
theorem own_rm0 (l : Launch) (Z : State) (a0 : Array Value) (hw : ∀ d ∈ tables_1, d.before a0 Z = true) (ws : List Jvm.Cond) (pa pb pc_ pn : Int32) (cs : Int32) (h0 : Heap) (n0 : Nat) (Z0 : n0 ≤ h0.size) (O0 : Old Z n0 h0) (hcs : ¬ cs = (0 : Int32)) (S_cs : Sta Z Z.heap "java/lang/String" "COMPACT_STRINGS" "Z" (.int cs)) :
    MetFree l x (head1 (Jvm.Cond.code x code maxLocals ret :: ws) room_1) (fun a_ U_ => a_ = #[(.int pa), (.int pb), (.int pc_), (.int pn)] ∧ Z.Warmed39 U_.vm ∧ U_.heap = h0) (fun _ _ _ _ _ => True) (fun _ U_ o_ U'_ => ∃ v_ L_, o_ = .returned v_ ∧ own_Q0 Z pa pb pc_ pn  cs  h0 n0 v_ U'_.heap L_ ∧ ReturnedEndW U_ o_ U'_ L_ room_1.cells room_1.slots) := by
  refine MetFree.of_bodySF (plainFor_of_name own_pn2) hisR ?_
  intro p e s m args below meth c s₁ Bd hml0 hP hK
  obtain ⟨rfl, hZ, hh⟩ := hP
  have hx := Bd.exec
  have hby := Bd.bytes
  have hml : c.maxLocals = 12 := hml0
  have hown : s.vm.findClass "com/example/operation_tracker/operationtracker/model/TaskIdFirstPinLaw" = some m.cls := findClass_of_methodNamed Bd.named
  have hnm := (name_of_methodNamed Bd.named Bd.method).1
  have X0 : Stand p l e room_1 s m #[(.int pa), (.int pb), (.int pc_), (.int pn)] below meth c s₁ [] 0 0 := Stand.of_body Bd
  obtain ⟨v0, X0, hS0, hZ0, ho0⟩ : ∃ v0, Stand p l e room_1 (s.setVm v0) m #[(.int pa), (.int pb), (.int pc_), (.int pn)] below meth c s₁ [] 0 0 ∧ s.Since v0 h0.size ∧ Z.Warmed39 (s.setVm v0).vm ∧ (s.setVm v0).vm.findClass "com/example/operation_tracker/operationtracker/model/TaskIdFirstPinLaw" = some m.cls := ⟨s.vm, X0, (State.WarmedH.refl s).since _, hZ, hown⟩
  have hstr : ∀ d ∈ Bundle.stringAtoms, d.before a0 Z = true := fun d hd => hw d (own_sa d hd)
  have e0 : s₁.heap = h0 := by rw [← hh, Bd.state]; rfl
  have N0 := Fr.nil n0
  refine own_in (own_ef0 m pa pb pc_ pn) ?_
  show own_Go p e below (own_KW s (own_Q0 Z pa pb pc_ pn  cs  h0 n0) room_1.cells room_1.slots) s₁ (mkF m 0 #[.val (.int pa), .val (.int pb), .val (.int pc_), .val (.int pn), .unset, .unset, .unset, .unset, .unset, .unset, .unset, .unset] [])
  refine own_st (T' := s₁) (g' := (mkF m 1 #[.val (.int pa), .val (.int pb), .val (.int pc_), .val (.int pn), .unset, .unset, .unset, .unset, .unset, .unset, .unset, .unset] [(.int pa)])) (fun t k => ?_) ?_
  · show Steps p.tables e below (s₁.setTop (mkF m 0 #[.val (.int pa), .val (.int pb), .val (.int pc_), .val (.int pn), .unset, .unset, .unset, .unset, .unset, .unset, .unset, .unset] [])) t
    refine XS.iloadN X0.here hx rfl (hb hby at_0) rfl ?_
    exact k
  obtain ⟨_, _, ⟨T1, L1, c1, n1⟩, -, X1, ⟨Lc1, hQ1, l1, y1, z1⟩, st1⟩ := Jvm.LawKit.callS X0 hx (y := (⟨"com/example/operation_tracker/operationtracker/model/TaskIdFirstPinLaw", "draw", "(I)C"⟩ : MethodName)) ho0 (mvT hZ0 (hw _ (List.mem_of_getElem? (i := 0) rfl))) (mvT hZ0 (hw _ (List.mem_of_getElem? (i := 1) rfl))) (mvT hZ0 (hw _ (List.mem_of_getElem? (i := 2) rfl))) (mvT hZ0 (hw _ (List.mem_of_getElem? (i := 3) rfl))) (by decide) (backOf (W := 0) (own_rm1 l Z a0 hw [] pa h0 n0 Z0) hZ0 (hw _ (List.mem_of_getElem? (i := 3) rfl)) (hw _ (List.mem_of_getElem? (i := 2) rfl)) (by decide) (by decide)) (g := (mkF m 1 #[.val (.int pa), .val (.int pb), .val (.int pc_), .val (.int pn), .unset, .unset, .unset, .unset, .unset, .unset, .unset, .unset] [(.int pa)])) rfl (by rw [hml]; rfl) (argsL := [(.int pa)]) (rest := []) (lenOf own_pd15 rfl) rfl (by show 2 * 0 + _ ≤ _; exact Nat.le_of_eq rfl) (hb hby at_1) (fun _ _ => ⟨rfl, e0, (by decide : 0 + 0 ≤ _), (by decide : 0 + 0 ≤ _)⟩)
  dsimp only [Pt.U, Pt.locs, Pt.cells, Pt.slots] at X1 l1 y1 z1 st1 hQ1
  subst l1 y1 z1
  obtain ⟨h1, e1⟩ : ∃ z, T1.heap = z := ⟨_, rfl⟩
  rw [e1] at hQ1
  obtain ⟨c0, rfl, N1q, hd0, eq1⟩ := hQ1
  have N1 := Fr.app N0 N1q
  rw [eq1] at e1
  refine own_st (T' := T1) (g' := (mkF m 4 #[.val (.int pa), .val (.int pb), .val (.int pc_), .val (.int pn), .unset, .unset, .unset, .unset, .unset, .unset, .unset, .unset] [(.int c0)])) st1 ?_
  refine own_st (T' := T1) (g' := (mkF m 7 #[.val (.int pa), .val (.int pb), .val (.int pc_), .val (.int pn), .val (.int c0), .unset, .unset, .unset, .unset, .unset, .unset, .unset] [(.int pb)])) (fun t k => ?_) ?_
  · show Steps p.tables e below (T1.setTop (mkF m 4 #[.val (.int pa), .val (.int pb), .val (.int pc_), .val (.int pn), .unset, .unset, .unset, .unset, .unset, .unset, .unset, .unset] [(.int c0)])) t
    refine XS.istore X1.here hx rfl (hb hby at_4) rfl (l' := #[.val (.int pa), .val (.int pb), .val (.int pc_), .val (.int pn), .val (.int c0), .unset, .unset, .unset, .unset, .unset, .unset, .unset]) rfl ?_
    refine XS.iloadN X1.here hx rfl (hb hby at_6) rfl ?_
    exact k
  obtain ⟨_, _, ⟨T2, L2, c2, n2⟩, -, X2, ⟨Lc2, hQ2, l2, y2, z2⟩, st2⟩ := Jvm.LawKit.callS X1 hx (y := (⟨"com/example/operation_tracker/operationtracker/model/TaskIdFirstPinLaw", "draw", "(I)C"⟩ : MethodName)) ho0 (mvT hZ0 (hw _ (List.mem_of_getElem? (i := 0) rfl))) (mvT hZ0 (hw _ (List.mem_of_getElem? (i := 1) rfl))) (mvT hZ0 (hw _ (List.mem_of_getElem? (i := 2) rfl))) (mvT hZ0 (hw _ (List.mem_of_getElem? (i := 3) rfl))) (by decide) (backOf (W := 0) (own_rm1 l Z a0 hw [] pb h0 n0 Z0) hZ0 (hw _ (List.mem_of_getElem? (i := 3) rfl)) (hw _ (List.mem_of_getElem? (i := 2) rfl)) (by decide) (by decide)) (g := (mkF m 7 #[.val (.int pa), .val (.int pb), .val (.int pc_), .val (.int pn), .val (.int c0), .unset, .unset, .unset, .unset, .unset, .unset, .unset] [(.int pb)])) rfl (by rw [hml]; rfl) (argsL := [(.int pb)]) (rest := []) (lenOf own_pd15 rfl) rfl (by show 2 * 0 + _ ≤ _; exact Nat.le_of_eq rfl) (hb hby at_7) (fun _ _ => ⟨rfl, e1, (by decide : 0 + 0 ≤ _), (by decide : 0 + 0 ≤ _)⟩)
  dsimp only [Pt.U, Pt.locs, Pt.cells, Pt.slots] at X2 l2 y2 z2 st2 hQ2
  subst l2 y2 z2
  obtain ⟨h2, e2⟩ : ∃ z, T2.heap = z := ⟨_, rfl⟩
  rw [e2] at hQ2
  obtain ⟨c1, rfl, N2q, hd1, eq2⟩ := hQ2
  have N2 := Fr.app N1 N2q
  rw [eq2] at e2
  refine own_st (T' := T2) (g' := (mkF m 10 #[.val (.int pa), .val (.int pb), .val (.int pc_), .val (.int pn), .val (.int c0), .unset, .unset, .unset, .unset, .unset, .unset, .unset] [(.int c1)])) st2 ?_
  refine own_st (T' := T2) (g' := (mkF m 13 #[.val (.int pa), .val (.int pb), .val (.int pc_), .val (.int pn), .val (.int c0), .val (.int c1), .unset, .unset, .unset, .unset, .unset, .unset] [(.int pc_)])) (fun t k => ?_) ?_
  · show Steps p.tables e below (T2.setTop (mkF m 10 #[.val (.int pa), .val (.int pb), .val (.int pc_), .val (.int pn), .val (.int c0), .unset, .unset, .unset, .unset, .unset, .unset, .unset] [(.int c1)])) t
    refine XS.istore X2.here hx rfl (hb hby at_10) rfl (l' := #[.val (.int pa), .val (.int pb), .val (.int pc_), .val (.int pn), .val (.int c0), .val (.int c1), .unset, .unset, .unset, .unset, .unset, .unset]) rfl ?_
    refine XS.iloadN X2.here hx rfl (hb hby at_12) rfl ?_
    exact k
  obtain ⟨_, _, ⟨T3, L3, c3, n3⟩, -, X3, ⟨Lc3, hQ3, l3, y3, z3⟩, st3⟩ := Jvm.LawKit.callS X2 hx (y := (⟨"com/example/operation_tracker/operationtracker/model/TaskIdFirstPinLaw", "draw", "(I)C"⟩ : MethodName)) ho0 (mvT hZ0 (hw _ (List.mem_of_getElem? (i := 0) rfl))) (mvT hZ0 (hw _ (List.mem_of_getElem? (i := 1) rfl))) (mvT hZ0 (hw _ (List.mem_of_getElem? (i := 2) rfl))) (mvT hZ0 (hw _ (List.mem_of_getElem? (i := 3) rfl))) (by decide) (backOf (W := 0) (own_rm1 l Z a0 hw [] pc_ h0 n0 Z0) hZ0 (hw _ (List.mem_of_getElem? (i := 3) rfl)) (hw _ (List.mem_of_getElem? (i := 2) rfl)) (by decide) (by decide)) (g := (mkF m 13 #[.val (.int pa), .val (.int pb), .val (.int pc_), .val (.int pn), .val (.int c0), .val (.int c1), .unset, .unset, .unset, .unset, .unset, .unset] [(.int pc_)])) rfl (by rw [hml]; rfl) (argsL := [(.int pc_)]) (rest := []) (lenOf own_pd15 rfl) rfl (by show 2 * 0 + _ ≤ _; exact Nat.le_of_eq rfl) (hb hby at_13) (fun _ _ => ⟨rfl, e2, (by decide : 0 + 0 ≤ _), (by decide : 0 + 0 ≤ _)⟩)
  dsimp only [Pt.U, Pt.locs, Pt.cells, Pt.slots] at X3 l3 y3 z3 st3 hQ3
  subst l3 y3 z3
  obtain ⟨h3, e3⟩ : ∃ z, T3.heap = z := ⟨_, rfl⟩
  rw [e3] at hQ3
  obtain ⟨c2, rfl, N3q, hd2, eq3⟩ := hQ3
  have N3 := Fr.app N2 N3q
  rw [eq3] at e3
  refine own_st (T' := T3) (g' := (mkF m 16 #[.val (.int pa), .val (.int pb), .val (.int pc_), .val (.int pn), .val (.int c0), .val (.int c1), .unset, .unset, .unset, .unset, .unset, .unset] [(.int c2)])) st3 ?_
  refine own_st (T' := T3) (g' := (mkF m 31 #[.val (.int pa), .val (.int pb), .val (.int pc_), .val (.int pn), .val (.int c0), .val (.int c1), .val (.int c2), .val (.int ((1 : Int32) + ((pn &&& (2147483647 : Int32)) % (3 : Int32)))), .unset, .unset, .unset, .unset] [(.int (1 : Int32)), (.int ((1 : Int32) + ((pn &&& (2147483647 : Int32)) % (3 : Int32))))])) (fun t k => ?_) ?_
  · show Steps p.tables e below (T3.setTop (mkF m 16 #[.val (.int pa), .val (.int pb), .val (.int pc_), .val (.int pn), .val (.int c0), .val (.int c1), .unset, .unset, .unset, .unset, .unset, .unset] [(.int c2)])) t
    refine XS.istore X3.here hx rfl (hb hby at_16) rfl (l' := #[.val (.int pa), .val (.int pb), .val (.int pc_), .val (.int pn), .val (.int c0), .val (.int c1), .val (.int c2), .unset, .unset, .unset, .unset, .unset]) rfl ?_
    refine XS.iconst X3.here hx rfl (hb hby at_18) ?_
    refine XS.iloadN X3.here hx rfl (hb hby at_19) rfl ?_
    refine X3.ldcInt hx ho0 (mvT hZ0 (hw _ (List.mem_of_getElem? (i := 4) rfl))) (g := (mkF m 20 #[.val (.int pa), .val (.int pb), .val (.int pc_), .val (.int pn), .val (.int c0), .val (.int c1), .val (.int c2), .unset, .unset, .unset, .unset, .unset] [(.int pn), (.int (1 : Int32))])) rfl (hb hby at_20) _ ?_
    refine XS.iand X3.here hx rfl (hb hby at_22) rfl ?_
    refine XS.iconst X3.here hx rfl (hb hby at_23) ?_
    refine iremM X3 hx rfl (hb hby at_24) rfl (by decide) ?_
    refine XS.iadd X3.here hx rfl (hb hby at_25) rfl ?_
    refine XS.istore X3.here hx rfl (hb hby at_26) rfl (l' := #[.val (.int pa), .val (.int pb), .val (.int pc_), .val (.int pn), .val (.int c0), .val (.int c1), .val (.int c2), .val (.int ((1 : Int32) + ((pn &&& (2147483647 : Int32)) % (3 : Int32)))), .unset, .unset, .unset, .unset]) rfl ?_
    refine XS.iload X3.here hx rfl (hb hby at_28) rfl ?_
    refine XS.iconst X3.here hx rfl (hb hby at_30) ?_
    exact k
  by_cases h1 : ((1 : Int32) + ((pn &&& (2147483647 : Int32)) % (3 : Int32))) = (1 : Int32)
  · refine own_st (T' := T3) (g' := (mkF m 34 #[.val (.int pa), .val (.int pb), .val (.int pc_), .val (.int pn), .val (.int c0), .val (.int c1), .val (.int c2), .val (.int ((1 : Int32) + ((pn &&& (2147483647 : Int32)) % (3 : Int32)))), .unset, .unset, .unset, .unset] [])) (fun t k => ?_) ?_
    · show Steps p.tables e below (T3.setTop (mkF m 31 #[.val (.int pa), .val (.int pb), .val (.int pc_), .val (.int pn), .val (.int c0), .val (.int c1), .val (.int c2), .val (.int ((1 : Int32) + ((pn &&& (2147483647 : Int32)) % (3 : Int32)))), .unset, .unset, .unset, .unset] [(.int (1 : Int32)), (.int ((1 : Int32) + ((pn &&& (2147483647 : Int32)) % (3 : Int32))))])) t
      refine XS.icmpNo X3.here hx rfl (hb hby at_31) rfl (teq h1).2 ?_
      exact k
    have hE := h1.symm
    refine own_st (T' := T3) (g' := (mkF m 35 #[.val (.int pa), .val (.int pb), .val (.int pc_), .val (.int pn), .val (.int c0), .val (.int c1), .val (.int c2), .val (.int ((1 : Int32) + ((pn &&& (2147483647 : Int32)) % (3 : Int32)))), .unset, .unset, .unset, .unset] [(.int (1 : Int32))])) (fun t k => ?_) ?_
    · show Steps p.tables e below (T3.setTop (mkF m 34 #[.val (.int pa), .val (.int pb), .val (.int pc_), .val (.int pn), .val (.int c0), .val (.int c1), .val (.int c2), .val (.int ((1 : Int32) + ((pn &&& (2147483647 : Int32)) % (3 : Int32)))), .unset, .unset, .unset, .unset] [])) t
      refine XS.iconst X3.here hx rfl (hb hby at_34) ?_
      exact k
    obtain ⟨T4, h4, k4, X4, e4, E4, A4, st4⟩ := newP X3 hx hZ0 (hw _ (List.mem_of_getElem? (i := 5) rfl)) e3 (g := (mkF m 35 #[.val (.int pa), .val (.int pb), .val (.int pc_), .val (.int pn), .val (.int c0), .val (.int c1), .val (.int c2), .val (.int ((1 : Int32) + ((pn &&& (2147483647 : Int32)) % (3 : Int32)))), .unset, .unset, .unset, .unset] [(.int (1 : Int32))])) rfl (hb hby at_35) rfl (by decide) (cap := 1) (by decide) (by decide) (by decide) (by decide)
    obtain ⟨b4, g4⟩ : ∃ z, z = h0.size := ⟨_, rfl⟩
    rw [← g4] at A4 st4
    have sz4 : h0.size ≤ b4 := Nat.le_of_eq g4.symm
    have g_b4 : n0 ≤ b4 := Nat.le_trans Z0 sz4
    have hz_b4 : h0.size ≤ b4 := Nat.le_trans (Keep.refl h0 []).1 sz4
    have K4 : Keep h0 h4 [] := (Keep.refl h0 []).ext E4
    have Z4 : n0 ≤ h4.size := Nat.le_trans Z0 E4.1
    have O4 := O0.ext E4
    have hk4 := Nat.le_trans (Nat.le_refl _) E4.1
    have V4 : Arv Z h4 b4 k4 .char (1 : Int32) [(.int (0 : Int32))] (.int (0 : Int32)) := (Arv.new A4 (by decide)).pad (pad_rep [] (.int (0 : Int32)) 1)
    refine own_st (T' := T4) (g' := (mkF m 37 #[.val (.int pa), .val (.int pb), .val (.int pc_), .val (.int pn), .val (.int c0), .val (.int c1), .val (.int c2), .val (.int ((1 : Int32) + ((pn &&& (2147483647 : Int32)) % (3 : Int32)))), .unset, .unset, .unset, .unset] [(.ref b4)])) st4 ?_
    refine own_st (T' := T4) (g' := (mkF m 41 #[.val (.int pa), .val (.int pb), .val (.int pc_), .val (.int pn), .val (.int c0), .val (.int c1), .val (.int c2), .val (.int ((1 : Int32) + ((pn &&& (2147483647 : Int32)) % (3 : Int32)))), .unset, .unset, .unset, .unset] [(.int c0), (.int (0 : Int32)), (.ref b4), (.ref b4)])) (fun t k => ?_) ?_
    · show Steps p.tables e below (T4.setTop (mkF m 37 #[.val (.int pa), .val (.int pb), .val (.int pc_), .val (.int pn), .val (.int c0), .val (.int c1), .val (.int c2), .val (.int ((1 : Int32) + ((pn &&& (2147483647 : Int32)) % (3 : Int32)))), .unset, .unset, .unset, .unset] [(.ref b4)])) t
      refine XS.dup X4.here hx rfl (hb hby at_37) rfl rfl ?_
      refine XS.iconst X4.here hx rfl (hb hby at_38) ?_
      refine XS.iload X4.here hx rfl (hb hby at_39) rfl ?_
      exact k
    obtain ⟨cl5, Ar5, q5, S5, M5, H5, G5⟩ := id V4
    obtain ⟨T6, h6, X6, e6, W6, st6⟩ := stC X4 hx hZ0 e4 Ar5 (j := (0 : Int32)) (inb_of S5 ⟨by decide, by decide⟩) (g := (mkF m 41 #[.val (.int pa), .val (.int pb), .val (.int pc_), .val (.int pn), .val (.int c0), .val (.int c1), .val (.int c2), .val (.int ((1 : Int32) + ((pn &&& (2147483647 : Int32)) % (3 : Int32)))), .unset, .unset, .unset, .unset] [(.int c0), (.int (0 : Int32)), (.ref b4), (.ref b4)])) rfl rfl (hb hby at_41)
    have N6 := Fr.snoc X6 N3 g_b4
    have K6 : Keep h0 h6 [] := K4.wr W6 (Or.inr hz_b4)
    have Z6 : n0 ≤ h6.size := Nat.le_trans Z4 (Keep.of_wr W6).1
    have O6 := O4.wr W6 g_b4
    have hk6 := Nat.le_trans hk4 (Keep.of_wr W6).1
    have fw6 := (show Arv Z h6 b4 k4 .char (1 : Int32) [(.int c0)] (.int (0 : Int32)) by have q : Arv Z h6 b4 k4 .char (1 : Int32) [(.int (c0.toUInt32.toUInt16.toUInt32.toInt32))] (.int (0 : Int32)) := Arv.set Ar5 q5 S5 M5 H5 G5 (fits_nar_char _) W6 0 rfl (Nat.le_of_ble_eq_true rfl); rw [own_dr_id hd0] at q; exact q)
    refine own_st (T' := T6) (g' := (mkF m 42 #[.val (.int pa), .val (.int pb), .val (.int pc_), .val (.int pn), .val (.int c0), .val (.int c1), .val (.int c2), .val (.int ((1 : Int32) + ((pn &&& (2147483647 : Int32)) % (3 : Int32)))), .unset, .unset, .unset, .unset] [(.ref b4)])) st6 ?_
    refine own_st (T' := T6) (g' := (mkF m 91 #[.val (.int pa), .val (.int pb), .val (.int pc_), .val (.int pn), .val (.int c0), .val (.int c1), .val (.int c2), .val (.int ((1 : Int32) + ((pn &&& (2147483647 : Int32)) % (3 : Int32)))), .val (.ref b4), .unset, .unset, .unset] [])) (fun t k => ?_) ?_
    · show Steps p.tables e below (T6.setTop (mkF m 42 #[.val (.int pa), .val (.int pb), .val (.int pc_), .val (.int pn), .val (.int c0), .val (.int c1), .val (.int c2), .val (.int ((1 : Int32) + ((pn &&& (2147483647 : Int32)) % (3 : Int32)))), .unset, .unset, .unset, .unset] [(.ref b4)])) t
      refine XS.astore X6.here hx rfl (hb hby at_42) rfl rfl (l' := #[.val (.int pa), .val (.int pb), .val (.int pc_), .val (.int pn), .val (.int c0), .val (.int c1), .val (.int c2), .val (.int ((1 : Int32) + ((pn &&& (2147483647 : Int32)) % (3 : Int32)))), .val (.ref b4), .unset, .unset, .unset]) rfl ?_
      refine XS.goto X6.here hx rfl (pc0 := 44) (pc' := 91) rfl (hb hby at_44) (by decide) (by decide) ?_
      exact k
    obtain ⟨T7, h7, X7, e7, E7, A7, D7, U7, st7⟩ := newO X6 hx hZ0 ho0 (hw _ (List.mem_of_getElem? (i := 6) rfl)) (hw _ (List.mem_of_getElem? (i := 7) rfl)) (hw _ (List.mem_of_getElem? (i := 8) rfl)) e6 (g := (mkF m 91 #[.val (.int pa), .val (.int pb), .val (.int pc_), .val (.int pn), .val (.int c0), .val (.int c1), .val (.int c2), .val (.int ((1 : Int32) + ((pn &&& (2147483647 : Int32)) % (3 : Int32)))), .val (.ref b4), .unset, .unset, .unset] [])) rfl (hb hby at_91) (by decide) (by decide)
    obtain ⟨b7, g7⟩ : ∃ z, z = h6.size := ⟨_, rfl⟩
    rw [← g7] at A7 D7 U7 st7
    have sz7 : h6.size ≤ b7 := Nat.le_of_eq g7.symm
    have ne_b4_b7 : b4 ≠ b7 := Nat.ne_of_lt (Nat.lt_of_lt_of_le fw6.lt sz7)
    have g_b7 : n0 ≤ b7 := Nat.le_trans Z6 sz7
    have hz_b7 : h0.size ≤ b7 := Nat.le_trans K6.1 sz7
    have K7 : Keep h0 h7 [] := K6.ext E7
    have Z7 : n0 ≤ h7.size := Nat.le_trans Z6 E7.1
    have O7 := O6.ext E7
    have hk7 := Nat.le_trans hk6 E7.1
    refine own_st (T' := T7) (g' := (mkF m 94 #[.val (.int pa), .val (.int pb), .val (.int pc_), .val (.int pn), .val (.int c0), .val (.int c1), .val (.int c2), .val (.int ((1 : Int32) + ((pn &&& (2147483647 : Int32)) % (3 : Int32)))), .val (.ref b4), .unset, .unset, .unset] [(.ref b7)])) st7 ?_
    refine own_st (T' := T7) (g' := (mkF m 97 #[.val (.int pa), .val (.int pb), .val (.int pc_), .val (.int pn), .val (.int c0), .val (.int c1), .val (.int c2), .val (.int ((1 : Int32) + ((pn &&& (2147483647 : Int32)) % (3 : Int32)))), .val (.ref b4), .unset, .unset, .unset] [(.ref b4), (.ref b7), (.ref b7)])) (fun t k => ?_) ?_
    · show Steps p.tables e below (T7.setTop (mkF m 94 #[.val (.int pa), .val (.int pb), .val (.int pc_), .val (.int pn), .val (.int c0), .val (.int c1), .val (.int c2), .val (.int ((1 : Int32) + ((pn &&& (2147483647 : Int32)) % (3 : Int32)))), .val (.ref b4), .unset, .unset, .unset] [(.ref b7)])) t
      refine XS.dup X7.here hx rfl (hb hby at_94) rfl rfl ?_
      refine XS.aload X7.here hx rfl (hb hby at_95) rfl rfl ?_
      exact k
    have f8 := fw6.ext E7
    obtain ⟨_, _, ⟨T9, L9, c9, n9⟩, -, X9, ⟨Lc9, hQ9, l9, y9, z9⟩, st9⟩ := X7.specialBack hx (y := (⟨"java/lang/String", "<init>", "([C)V"⟩ : MethodName)) rfl ho0 (mvT hZ0 (hw _ (List.mem_of_getElem? (i := 9) rfl))) (mvT hZ0 (hw _ (List.mem_of_getElem? (i := 10) rfl))) (mvT hZ0 (hw _ (List.mem_of_getElem? (i := 11) rfl))) (by decide) (backOf (W := 1) (own_rm2_1 l Z a0 hw [] b7 b4 k4 c0 cs h7 n0 Z7 O7 A7 (D7 (Or.inr (hw _ (List.mem_of_getElem? (i := 34) rfl))) (ty := (.array .byte)) (by decide) : Fld Z h7 b7 "java/lang/String" "value" "[B" .null) (D7 (Or.inr (hw _ (List.mem_of_getElem? (i := 32) rfl))) (ty := .byte) (by decide) : Fld Z h7 b7 "java/lang/String" "coder" "B" (.int (0 : Int32))) g_b7 f8 (Ne.symm ne_b4_b7) (own_dr_l hd0) hcs S_cs) hZ0 (hw _ (List.mem_of_getElem? (i := 11) rfl)) (hw _ (List.mem_of_getElem? (i := 8) rfl)) (by decide) (by decide)) (g := (mkF m 97 #[.val (.int pa), .val (.int pb), .val (.int pc_), .val (.int pn), .val (.int c0), .val (.int c1), .val (.int c2), .val (.int ((1 : Int32) + ((pn &&& (2147483647 : Int32)) % (3 : Int32)))), .val (.ref b4), .unset, .unset, .unset] [(.ref b4), (.ref b7), (.ref b7)])) rfl (by rw [hml]; rfl) (Steps.refl _) (a := b7) (argsL := [(.ref b4)]) (rest := [(.ref b7)]) (lenOf own_pd16 rfl) rfl (by show 2 * 0 + _ ≤ _; exact Nat.le_of_eq rfl) (hb hby at_97) (fun _ _ => ⟨rfl, e7, (by decide : 2 + 1 ≤ _), (by decide : 5 + 1 ≤ _)⟩)
    dsimp only [Pt.U, Pt.locs, Pt.cells, Pt.slots] at X9 l9 y9 z9 st9 hQ9
    subst l9 y9 z9
    obtain ⟨h9, e9⟩ : ∃ z, T9.heap = z := ⟨_, rfl⟩
    rw [e9] at hQ9
    obtain ⟨t9, k9, rfl, N9q, Kc9, g9, hz9, Fv9, Fo9, Vc9⟩ := hQ9
    have N9 := Fr.app N6 N9q
    have ne_b4_t9 : b4 ≠ t9 := Nat.ne_of_lt (Nat.lt_of_lt_of_le f8.lt hz9)
    have ne_b7_t9 : b7 ≠ t9 := Nat.ne_of_lt (Nat.lt_of_lt_of_le A7.lt hz9)
    have hwt9 : h0.size ≤ t9 := Nat.le_trans K7.1 hz9
    have K9 : Keep h0 h9 [] := K7.trans Kc9 (allS (Or.inr hz_b7) all0)
    have Z9 : n0 ≤ h9.size := Nat.le_trans Z7 Kc9.1
    have O9 := O7.keep Kc9 (allS g_b7 all0)
    have hk9 := Nat.le_trans hk7 Kc9.1
    refine own_tr (T' := T9) (g' := (mkF m 100 #[.val (.int pa), .val (.int pb), .val (.int pc_), .val (.int pn), .val (.int c0), .val (.int c1), .val (.int c2), .val (.int ((1 : Int32) + ((pn &&& (2147483647 : Int32)) % (3 : Int32)))), .val (.ref b4), .unset, .unset, .unset] [(.ref b7)])) st9 ?_
    refine own_st (T' := T9) (g' := (mkF m 102 #[.val (.int pa), .val (.int pb), .val (.int pc_), .val (.int pn), .val (.int c0), .val (.int c1), .val (.int c2), .val (.int ((1 : Int32) + ((pn &&& (2147483647 : Int32)) % (3 : Int32)))), .val (.ref b4), .val (.ref b7), .unset, .unset] [])) (fun t k => ?_) ?_
    · show Steps p.tables e below (T9.setTop (mkF m 100 #[.val (.int pa), .val (.int pb), .val (.int pc_), .val (.int pn), .val (.int c0), .val (.int c1), .val (.int c2), .val (.int ((1 : Int32) + ((pn &&& (2147483647 : Int32)) % (3 : Int32)))), .val (.ref b4), .unset, .unset, .unset] [(.ref b7)])) t
      refine XS.astore X9.here hx rfl (hb hby at_100) rfl rfl (l' := #[.val (.int pa), .val (.int pb), .val (.int pc_), .val (.int pn), .val (.int c0), .val (.int c1), .val (.int c2), .val (.int ((1 : Int32) + ((pn &&& (2147483647 : Int32)) % (3 : Int32)))), .val (.ref b4), .val (.ref b7), .unset, .unset]) rfl ?_
      exact k
    obtain ⟨T10, h10, X10, e10, E10, A10, D10, U10, st10⟩ := newO X9 hx hZ0 ho0 (hw _ (List.mem_of_getElem? (i := 6) rfl)) (hw _ (List.mem_of_getElem? (i := 7) rfl)) (hw _ (List.mem_of_getElem? (i := 8) rfl)) e9 (g := (mkF m 102 #[.val (.int pa), .val (.int pb), .val (.int pc_), .val (.int pn), .val (.int c0), .val (.int c1), .val (.int c2), .val (.int ((1 : Int32) + ((pn &&& (2147483647 : Int32)) % (3 : Int32)))), .val (.ref b4), .val (.ref b7), .unset, .unset] [])) rfl (hb hby at_102) (by decide) (by decide)
    obtain ⟨b10, g10⟩ : ∃ z, z = h9.size := ⟨_, rfl⟩
    rw [← g10] at A10 D10 U10 st10
    have sz10 : h9.size ≤ b10 := Nat.le_of_eq g10.symm
    have f11 := f8.keep Kc9 (ninS ne_b4_b7 nin0)
    have ne_b4_b10 : b4 ≠ b10 := Nat.ne_of_lt (Nat.lt_of_lt_of_le f11.lt sz10)
    have f12 := A7.keep Kc9
    have ne_b7_b10 : b7 ≠ b10 := Nat.ne_of_lt (Nat.lt_of_lt_of_le f12.lt sz10)
    have ne_t9_b10 : t9 ≠ b10 := Nat.ne_of_lt (Nat.lt_of_lt_of_le Vc9.lt sz10)
    have g_b10 : n0 ≤ b10 := Nat.le_trans Z9 sz10
    have hz_b10 : h0.size ≤ b10 := Nat.le_trans K9.1 sz10
    have K10 : Keep h0 h10 [] := K9.ext E10
    have Z10 : n0 ≤ h10.size := Nat.le_trans Z9 E10.1
    have O10 := O9.ext E10
    have hk10 := Nat.le_trans hk9 E10.1
    refine own_st (T' := T10) (g' := (mkF m 105 #[.val (.int pa), .val (.int pb), .val (.int pc_), .val (.int pn), .val (.int c0), .val (.int c1), .val (.int c2), .val (.int ((1 : Int32) + ((pn &&& (2147483647 : Int32)) % (3 : Int32)))), .val (.ref b4), .val (.ref b7), .unset, .unset] [(.ref b10)])) st10 ?_
    refine own_st (T' := T10) (g' := (mkF m 108 #[.val (.int pa), .val (.int pb), .val (.int pc_), .val (.int pn), .val (.int c0), .val (.int c1), .val (.int c2), .val (.int ((1 : Int32) + ((pn &&& (2147483647 : Int32)) % (3 : Int32)))), .val (.ref b4), .val (.ref b7), .unset, .unset] [(.ref b4), (.ref b10), (.ref b10)])) (fun t k => ?_) ?_
    · show Steps p.tables e below (T10.setTop (mkF m 105 #[.val (.int pa), .val (.int pb), .val (.int pc_), .val (.int pn), .val (.int c0), .val (.int c1), .val (.int c2), .val (.int ((1 : Int32) + ((pn &&& (2147483647 : Int32)) % (3 : Int32)))), .val (.ref b4), .val (.ref b7), .unset, .unset] [(.ref b10)])) t
      refine XS.dup X10.here hx rfl (hb hby at_105) rfl rfl ?_
      refine XS.aload X10.here hx rfl (hb hby at_106) rfl rfl ?_
      exact k
    have f13 := f11.ext E10
    obtain ⟨_, _, ⟨T14, L14, c14, n14⟩, -, X14, ⟨Lc14, hQ14, l14, y14, z14⟩, st14⟩ := X10.specialBack hx (y := (⟨"java/lang/String", "<init>", "([C)V"⟩ : MethodName)) rfl ho0 (mvT hZ0 (hw _ (List.mem_of_getElem? (i := 9) rfl))) (mvT hZ0 (hw _ (List.mem_of_getElem? (i := 10) rfl))) (mvT hZ0 (hw _ (List.mem_of_getElem? (i := 11) rfl))) (by decide) (backOf (W := 1) (own_rm2_1 l Z a0 hw [] b10 b4 k4 c0 cs h10 n0 Z10 O10 A10 (D10 (Or.inr (hw _ (List.mem_of_getElem? (i := 34) rfl))) (ty := (.array .byte)) (by decide) : Fld Z h10 b10 "java/lang/String" "value" "[B" .null) (D10 (Or.inr (hw _ (List.mem_of_getElem? (i := 32) rfl))) (ty := .byte) (by decide) : Fld Z h10 b10 "java/lang/String" "coder" "B" (.int (0 : Int32))) g_b10 f13 (Ne.symm ne_b4_b10) (own_dr_l hd0) hcs S_cs) hZ0 (hw _ (List.mem_of_getElem? (i := 11) rfl)) (hw _ (List.mem_of_getElem? (i := 8) rfl)) (by decide) (by decide)) (g := (mkF m 108 #[.val (.int pa), .val (.int pb), .val (.int pc_), .val (.int pn), .val (.int c0), .val (.int c1), .val (.int c2), .val (.int ((1 : Int32) + ((pn &&& (2147483647 : Int32)) % (3 : Int32)))), .val (.ref b4), .val (.ref b7), .unset, .unset] [(.ref b4), (.ref b10), (.ref b10)])) rfl (by rw [hml]; rfl) (Steps.refl _) (a := b10) (argsL := [(.ref b4)]) (rest := [(.ref b10)]) (lenOf own_pd16 rfl) rfl (by show 2 * 0 + _ ≤ _; exact Nat.le_of_eq rfl) (hb hby at_108) (fun _ _ => ⟨rfl, e10, (by decide : 4 + 1 ≤ _), (by decide : 10 + 1 ≤ _)⟩)
    dsimp only [Pt.U, Pt.locs, Pt.cells, Pt.slots] at X14 l14 y14 z14 st14 hQ14
    subst l14 y14 z14
    obtain ⟨h14, e14⟩ : ∃ z, T14.heap = z := ⟨_, rfl⟩
    rw [e14] at hQ14
    obtain ⟨t14, k14, rfl, N14q, Kc14, g14, hz14, Fv14, Fo14, Vc14⟩ := hQ14
    have N14 := Fr.app N9 N14q
    have ne_b4_t14 : b4 ≠ t14 := Nat.ne_of_lt (Nat.lt_of_lt_of_le f13.lt hz14)
    have f15 := f12.ext E10
    have ne_b7_t14 : b7 ≠ t14 := Nat.ne_of_lt (Nat.lt_of_lt_of_le f15.lt hz14)
    have f16 := Vc9.ext E10
    have ne_t9_t14 : t9 ≠ t14 := Nat.ne_of_lt (Nat.lt_of_lt_of_le f16.lt hz14)
    have ne_b10_t14 : b10 ≠ t14 := Nat.ne_of_lt (Nat.lt_of_lt_of_le A10.lt hz14)
    have hwt14 : h0.size ≤ t14 := Nat.le_trans K10.1 hz14
    have K14 : Keep h0 h14 [] := K10.trans Kc14 (allS (Or.inr hz_b10) all0)
    have Z14 : n0 ≤ h14.size := Nat.le_trans Z10 Kc14.1
    have O14 := O10.keep Kc14 (allS g_b10 all0)
    have hk14 := Nat.le_trans hk10 Kc14.1
    refine own_tr (T' := T14) (g' := (mkF m 111 #[.val (.int pa), .val (.int pb), .val (.int pc_), .val (.int pn), .val (.int c0), .val (.int c1), .val (.int c2), .val (.int ((1 : Int32) + ((pn &&& (2147483647 : Int32)) % (3 : Int32)))), .val (.ref b4), .val (.ref b7), .unset, .unset] [(.ref b10)])) st14 ?_
    refine own_st (T' := T14) (g' := (mkF m 115 #[.val (.int pa), .val (.int pb), .val (.int pc_), .val (.int pn), .val (.int c0), .val (.int c1), .val (.int c2), .val (.int ((1 : Int32) + ((pn &&& (2147483647 : Int32)) % (3 : Int32)))), .val (.ref b4), .val (.ref b7), .val (.ref b10), .unset] [(.ref b7)])) (fun t k => ?_) ?_
    · show Steps p.tables e below (T14.setTop (mkF m 111 #[.val (.int pa), .val (.int pb), .val (.int pc_), .val (.int pn), .val (.int c0), .val (.int c1), .val (.int c2), .val (.int ((1 : Int32) + ((pn &&& (2147483647 : Int32)) % (3 : Int32)))), .val (.ref b4), .val (.ref b7), .unset, .unset] [(.ref b10)])) t
      refine XS.astore X14.here hx rfl (hb hby at_111) rfl rfl (l' := #[.val (.int pa), .val (.int pb), .val (.int pc_), .val (.int pn), .val (.int c0), .val (.int c1), .val (.int c2), .val (.int ((1 : Int32) + ((pn &&& (2147483647 : Int32)) % (3 : Int32)))), .val (.ref b4), .val (.ref b7), .val (.ref b10), .unset]) rfl ?_
      refine XS.aload X14.here hx rfl (hb hby at_113) rfl rfl ?_
      exact k
    have f17 := f15.keep Kc14
    have f18 := (Fv9.ext E10).keep Kc14 (ninS ne_b7_b10 nin0)
    have f19 := (Fo9.ext E10).keep Kc14 (ninS ne_b7_b10 nin0)
    have f20 := f16.keep Kc14 (ninS ne_t9_b10 nin0)
    obtain ⟨_, _, ⟨T21, L21, c21, n21⟩, -, Y21, hI21, hG21, ⟨Lc21, hQ21, l21, y21, z21⟩, st21⟩ := callSS X14 hx (y := (⟨"com/example/operation_tracker/operationtracker/model/TaskId", "first", "(Ljava/lang/String;)Lcom/example/operation_tracker/operationtracker/model/TaskId;"⟩ : MethodName)) ho0 (mvT hZ0 (hw _ (List.mem_of_getElem? (i := 35) rfl))) (mvT hZ0 (hw _ (List.mem_of_getElem? (i := 36) rfl))) (mvT hZ0 (hw _ (List.mem_of_getElem? (i := 37) rfl))) (mvT hZ0 (hw _ (List.mem_of_getElem? (i := 38) rfl))) (by decide) (backOfS (W := 0) (own_rm8_1 l Z a0 hw [] b7 t9 k9 (c0.toInt8.toInt32) cs h14 n0 Z14 O14 f17 f18 f19 f20 (own_dr_46 hd0) hcs S_cs) hZ0 (hw _ (List.mem_of_getElem? (i := 38) rfl)) (hw _ (List.mem_of_getElem? (i := 37) rfl)) (by decide) (by decide)) (g := (mkF m 115 #[.val (.int pa), .val (.int pb), .val (.int pc_), .val (.int pn), .val (.int c0), .val (.int c1), .val (.int c2), .val (.int ((1 : Int32) + ((pn &&& (2147483647 : Int32)) % (3 : Int32)))), .val (.ref b4), .val (.ref b7), .val (.ref b10), .unset] [(.ref b7)])) rfl (by rw [hml]; rfl) (argsL := [(.ref b7)]) (rest := []) (lenOf own_pd17 rfl) rfl (by show 2 * 0 + _ ≤ _; exact Nat.le_of_eq rfl) (hb hby at_115) (fun _ _ => ⟨rfl, e14, (by decide : 5 + 4 ≤ _), (by decide : 11 + 27 ≤ _)⟩)
    dsimp only [Pt.U, Pt.locs, Pt.cells, Pt.slots] at Y21 hI21 hG21 l21 y21 z21 st21 hQ21
    subst l21 y21 z21
    obtain ⟨X21, hS21, hZ21, ho21⟩ := rebS hS0 (by rw [e14]; exact hk14) Y21 hI21 hG21 hZ0 ho0
    obtain ⟨v21, hv21⟩ : ∃ z, z = T21.vm := ⟨_, rfl⟩
    rw [← hv21] at X21 hS21 hZ21 ho21
    obtain ⟨h21, e21⟩ : ∃ z, T21.heap = z := ⟨_, rfl⟩
    rw [e21] at hQ21
    obtain ⟨u21, y_21, k21, rfl, N21q, Kc21, g21, hz21, Ec21, Fa21, Fb21, Fd21, Vc21⟩ := hQ21
    have N21 := Fr.app N14 N21q
    have f22 := f13.keep Kc14 (ninS ne_b4_b10 nin0)
    have ne_b4_u21 : b4 ≠ u21 := Nat.ne_of_lt (Nat.lt_of_lt_of_le f22.lt hz21)
    have ne_b7_u21 : b7 ≠ u21 := Nat.ne_of_lt (Nat.lt_of_lt_of_le f17.lt hz21)
    have ne_t9_u21 : t9 ≠ u21 := Nat.ne_of_lt (Nat.lt_of_lt_of_le f20.lt hz21)
    have f23 := A10.keep Kc14
    have ne_b10_u21 : b10 ≠ u21 := Nat.ne_of_lt (Nat.lt_of_lt_of_le f23.lt hz21)
    have ne_t14_u21 : t14 ≠ u21 := Nat.ne_of_lt (Nat.lt_of_lt_of_le Vc14.lt hz21)
    have hwu21 : h0.size ≤ u21 := Nat.le_trans K14.1 hz21
    have K21 : Keep h0 h21 [] := K14.trans Kc21 all0
    have Z21 : n0 ≤ h21.size := Nat.le_trans Z14 Kc21.1
    have O21 := O14.keep Kc21 all0
    have hk21 : T21.heap.size ≤ h21.size := Nat.le_of_eq (by rw [e21])
    refine own_tr (T' := T21) (g' := (mkF m 118 #[.val (.int pa), .val (.int pb), .val (.int pc_), .val (.int pn), .val (.int c0), .val (.int c1), .val (.int c2), .val (.int ((1 : Int32) + ((pn &&& (2147483647 : Int32)) % (3 : Int32)))), .val (.ref b4), .val (.ref b7), .val (.ref b10), .unset] [(.ref u21)])) st21 ?_
    refine own_st (T' := T21) (g' := (mkF m 122 #[.val (.int pa), .val (.int pb), .val (.int pc_), .val (.int pn), .val (.int c0), .val (.int c1), .val (.int c2), .val (.int ((1 : Int32) + ((pn &&& (2147483647 : Int32)) % (3 : Int32)))), .val (.ref b4), .val (.ref b7), .val (.ref b10), .val (.ref u21)] [(.ref u21)])) (fun t k => ?_) ?_
    · show Steps p.tables e below (T21.setTop (mkF m 118 #[.val (.int pa), .val (.int pb), .val (.int pc_), .val (.int pn), .val (.int c0), .val (.int c1), .val (.int c2), .val (.int ((1 : Int32) + ((pn &&& (2147483647 : Int32)) % (3 : Int32)))), .val (.ref b4), .val (.ref b7), .val (.ref b10), .unset] [(.ref u21)])) t
      refine XS.astore X21.here hx rfl (hb hby at_118) rfl rfl (l' := #[.val (.int pa), .val (.int pb), .val (.int pc_), .val (.int pn), .val (.int c0), .val (.int c1), .val (.int c2), .val (.int ((1 : Int32) + ((pn &&& (2147483647 : Int32)) % (3 : Int32)))), .val (.ref b4), .val (.ref b7), .val (.ref b10), .val (.ref u21)]) rfl ?_
      refine XS.aload X21.here hx rfl (hb hby at_120) rfl rfl ?_
      exact k
    obtain ⟨cq24, kq24, q24a, q24b, q24c⟩ := isOf hZ21 e21 Ec21
    obtain ⟨_, _, ⟨T24, L24, c24, n24⟩, -, X24, ⟨Lc24, hQ24, l24, y24, z24⟩, st24⟩ := X21.virtualBack hx (y := (⟨"com/example/operation_tracker/operationtracker/model/TaskId", "toString", "()Ljava/lang/String;"⟩ : MethodName)) (z := (⟨"com/example/operation_tracker/operationtracker/model/TaskId", "toString", "()Ljava/lang/String;"⟩ : MethodName)) ho21 (mvT hZ21 (hw _ (List.mem_of_getElem? (i := 109) rfl))) (mvT hZ21 (hw _ (List.mem_of_getElem? (i := 110) rfl))) (notFace_of_selects (args := #[]) (mvT hZ21 (hw _ (List.mem_of_getElem? (i := 112) rfl)))) (mvT hZ21 (hw _ (List.mem_of_getElem? (i := 112) rfl))) (mvT hZ21 (hw _ (List.mem_of_getElem? (i := 111) rfl))) (by decide) (backOf (W := 0) (own_rm23 l Z a0 hw [] u21 (.ref b7) h21 n0 Z21 rfl Fd21) hZ21 (hw _ (List.mem_of_getElem? (i := 113) rfl)) (hw _ (List.mem_of_getElem? (i := 37) rfl)) (by decide) (by decide)) q24a q24c (g := (mkF m 122 #[.val (.int pa), .val (.int pb), .val (.int pc_), .val (.int pn), .val (.int c0), .val (.int c1), .val (.int c2), .val (.int ((1 : Int32) + ((pn &&& (2147483647 : Int32)) % (3 : Int32)))), .val (.ref b4), .val (.ref b7), .val (.ref b10), .val (.ref u21)] [(.ref u21)])) rfl (by rw [hml]; rfl) (Steps.refl _) (argsL := []) (rest := []) (lenOf own_pd18 rfl) rfl (by show 2 * 0 + _ ≤ _; exact Nat.le_of_eq rfl) (hb hby at_122) (fun _ _ => ⟨rfl, e21, (by decide : 9 + 0 ≤ _), (by decide : 38 + 0 ≤ _)⟩)
    dsimp only [Pt.U, Pt.locs, Pt.cells, Pt.slots] at X24 l24 y24 z24 st24 hQ24
    subst l24 y24 z24
    obtain ⟨rfl, N24q, e24⟩ := hQ24
    have N24 := Fr.app N21 N24q
    refine own_tr (T' := T24) (g' := (mkF m 125 #[.val (.int pa), .val (.int pb), .val (.int pc_), .val (.int pn), .val (.int c0), .val (.int c1), .val (.int c2), .val (.int ((1 : Int32) + ((pn &&& (2147483647 : Int32)) % (3 : Int32)))), .val (.ref b4), .val (.ref b7), .val (.ref b10), .val (.ref u21)] [(.ref b7)])) st24 ?_
    refine own_st (T' := T24) (g' := (mkF m 127 #[.val (.int pa), .val (.int pb), .val (.int pc_), .val (.int pn), .val (.int c0), .val (.int c1), .val (.int c2), .val (.int ((1 : Int32) + ((pn &&& (2147483647 : Int32)) % (3 : Int32)))), .val (.ref b4), .val (.ref b7), .val (.ref b10), .val (.ref u21)] [(.ref b10), (.ref b7)])) (fun t k => ?_) ?_
    · show Steps p.tables e below (T24.setTop (mkF m 125 #[.val (.int pa), .val (.int pb), .val (.int pc_), .val (.int pn), .val (.int c0), .val (.int c1), .val (.int c2), .val (.int ((1 : Int32) + ((pn &&& (2147483647 : Int32)) % (3 : Int32)))), .val (.ref b4), .val (.ref b7), .val (.ref b10), .val (.ref u21)] [(.ref b7)])) t
      refine XS.aload X24.here hx rfl (hb hby at_125) rfl rfl ?_
      exact k
    have f25 := f17.keep Kc21
    have f26 := f18.keep Kc21 nin0
    have f27 := f19.keep Kc21 nin0
    have f28 := f20.keep Kc21 nin0
    have f29 := f23.keep Kc21
    have f30 := Fv14.keep Kc21 nin0
    have f31 := Fo14.keep Kc21 nin0
    have f32 := Vc14.keep Kc21 nin0
    obtain ⟨cq33, kq33, q33a, q33b, q33c⟩ := isOf hZ21 e24 f25
    obtain ⟨_, _, ⟨T33, L33, c33, n33⟩, -, X33, ⟨Lc33, hQ33, l33, y33, z33⟩, st33⟩ := X24.virtualBack hx (y := (⟨"java/lang/String", "equals", "(Ljava/lang/Object;)Z"⟩ : MethodName)) (z := (⟨"java/lang/String", "equals", "(Ljava/lang/Object;)Z"⟩ : MethodName)) ho21 (mvT hZ21 (hw _ (List.mem_of_getElem? (i := 114) rfl))) (mvT hZ21 (hw _ (List.mem_of_getElem? (i := 115) rfl))) (notFace_of_selects (args := #[]) (mvT hZ21 (hw _ (List.mem_of_getElem? (i := 117) rfl)))) (mvT hZ21 (hw _ (List.mem_of_getElem? (i := 117) rfl))) (mvT hZ21 (hw _ (List.mem_of_getElem? (i := 116) rfl))) (by decide) (backOf (W := 0) (own_rm24_1 l Z a0 hw [] b7 t9 k9 (c0.toInt8.toInt32) b10 t14 k14 cs h21 n0 Z21 O21 f25 f26 f27 f28 f29 f30 f31 f32 ne_b7_b10 hcs S_cs) hZ21 (hw _ (List.mem_of_getElem? (i := 118) rfl)) (hw _ (List.mem_of_getElem? (i := 8) rfl)) (by decide) (by decide)) q33a q33c (g := (mkF m 127 #[.val (.int pa), .val (.int pb), .val (.int pc_), .val (.int pn), .val (.int c0), .val (.int c1), .val (.int c2), .val (.int ((1 : Int32) + ((pn &&& (2147483647 : Int32)) % (3 : Int32)))), .val (.ref b4), .val (.ref b7), .val (.ref b10), .val (.ref u21)] [(.ref b10), (.ref b7)])) rfl (by rw [hml]; rfl) (Steps.refl _) (argsL := [(.ref b10)]) (rest := []) (lenOf own_pd19 rfl) rfl (by show 2 * 0 + _ ≤ _; exact Nat.le_of_eq rfl) (hb hby at_127) (fun _ _ => ⟨rfl, e24, (by decide : 9 + 0 ≤ _), (by decide : 38 + 0 ≤ _)⟩)
    dsimp only [Pt.U, Pt.locs, Pt.cells, Pt.slots] at X33 l33 y33 z33 st33 hQ33
    subst l33 y33 z33
    obtain ⟨rfl, N33q, e33⟩ := hQ33
    have N33 := Fr.app N24 N33q
    refine own_tr (T' := T33) (g' := (mkF m 130 #[.val (.int pa), .val (.int pb), .val (.int pc_), .val (.int pn), .val (.int c0), .val (.int c1), .val (.int c2), .val (.int ((1 : Int32) + ((pn &&& (2147483647 : Int32)) % (3 : Int32)))), .val (.ref b4), .val (.ref b7), .val (.ref b10), .val (.ref u21)] [(.int (1 : Int32))])) st33 ?_
    refine own_st (T' := T33) (g' := (mkF m 135 #[.val (.int pa), .val (.int pb), .val (.int pc_), .val (.int pn), .val (.int c0), .val (.int c1), .val (.int c2), .val (.int ((1 : Int32) + ((pn &&& (2147483647 : Int32)) % (3 : Int32)))), .val (.ref b4), .val (.ref b7), .val (.ref b10), .val (.ref u21)] [(.ref u21)])) (fun t k => ?_) ?_
    · show Steps p.tables e below (T33.setTop (mkF m 130 #[.val (.int pa), .val (.int pb), .val (.int pc_), .val (.int pn), .val (.int c0), .val (.int c1), .val (.int c2), .val (.int ((1 : Int32) + ((pn &&& (2147483647 : Int32)) % (3 : Int32)))), .val (.ref b4), .val (.ref b7), .val (.ref b10), .val (.ref u21)] [(.int (1 : Int32))])) t
      refine XS.ifNo X33.here hx rfl (hb hby at_130) rfl ((if0 _ _).trans (feq (by decide : ¬ ((1 : Int32) = (0 : Int32)))).1) ?_
      refine XS.aload X33.here hx rfl (hb hby at_133) rfl rfl ?_
      exact k
    obtain ⟨cq34, kq34, q34a, q34b, q34c⟩ := isOf hZ21 e33 Ec21
    obtain ⟨_, _, ⟨T34, L34, c34, n34⟩, -, X34, ⟨Lc34, hQ34, l34, y34, z34⟩, st34⟩ := X33.virtualBack hx (y := (⟨"com/example/operation_tracker/operationtracker/model/TaskId", "toString", "()Ljava/lang/String;"⟩ : MethodName)) (z := (⟨"com/example/operation_tracker/operationtracker/model/TaskId", "toString", "()Ljava/lang/String;"⟩ : MethodName)) ho21 (mvT hZ21 (hw _ (List.mem_of_getElem? (i := 109) rfl))) (mvT hZ21 (hw _ (List.mem_of_getElem? (i := 110) rfl))) (notFace_of_selects (args := #[]) (mvT hZ21 (hw _ (List.mem_of_getElem? (i := 112) rfl)))) (mvT hZ21 (hw _ (List.mem_of_getElem? (i := 112) rfl))) (mvT hZ21 (hw _ (List.mem_of_getElem? (i := 111) rfl))) (by decide) (backOf (W := 0) (own_rm23 l Z a0 hw [] u21 (.ref b7) h21 n0 Z21 rfl Fd21) hZ21 (hw _ (List.mem_of_getElem? (i := 113) rfl)) (hw _ (List.mem_of_getElem? (i := 37) rfl)) (by decide) (by decide)) q34a q34c (g := (mkF m 135 #[.val (.int pa), .val (.int pb), .val (.int pc_), .val (.int pn), .val (.int c0), .val (.int c1), .val (.int c2), .val (.int ((1 : Int32) + ((pn &&& (2147483647 : Int32)) % (3 : Int32)))), .val (.ref b4), .val (.ref b7), .val (.ref b10), .val (.ref u21)] [(.ref u21)])) rfl (by rw [hml]; rfl) (Steps.refl _) (argsL := []) (rest := []) (lenOf own_pd18 rfl) rfl (by show 2 * 0 + _ ≤ _; exact Nat.le_of_eq rfl) (hb hby at_135) (fun _ _ => ⟨rfl, e33, (by decide : 9 + 0 ≤ _), (by decide : 38 + 0 ≤ _)⟩)
    dsimp only [Pt.U, Pt.locs, Pt.cells, Pt.slots] at X34 l34 y34 z34 st34 hQ34
    subst l34 y34 z34
    obtain ⟨rfl, N34q, e34⟩ := hQ34
    have N34 := Fr.app N33 N34q
    refine own_tr (T' := T34) (g' := (mkF m 138 #[.val (.int pa), .val (.int pb), .val (.int pc_), .val (.int pn), .val (.int c0), .val (.int c1), .val (.int c2), .val (.int ((1 : Int32) + ((pn &&& (2147483647 : Int32)) % (3 : Int32)))), .val (.ref b4), .val (.ref b7), .val (.ref b10), .val (.ref u21)] [(.ref b7)])) st34 ?_
    obtain ⟨cq35, kq35, q35a, q35b, q35c⟩ := isOf hZ21 e34 f25
    obtain ⟨_, _, ⟨T35, L35, c35, n35⟩, -, X35, ⟨Lc35, hQ35, l35, y35, z35⟩, st35⟩ := X34.virtualBack hx (y := (⟨"java/lang/String", "length", "()I"⟩ : MethodName)) (z := (⟨"java/lang/String", "length", "()I"⟩ : MethodName)) ho21 (mvT hZ21 (hw _ (List.mem_of_getElem? (i := 123) rfl))) (mvT hZ21 (hw _ (List.mem_of_getElem? (i := 70) rfl))) (notFace_of_selects (args := #[]) (mvT hZ21 (hw _ (List.mem_of_getElem? (i := 72) rfl)))) (mvT hZ21 (hw _ (List.mem_of_getElem? (i := 72) rfl))) (mvT hZ21 (hw _ (List.mem_of_getElem? (i := 71) rfl))) (by decide) (backOf (W := 0) (own_rm15_0_1 l Z a0 hw [] b7 t9 k9 (c0.toInt8.toInt32)  cs h21 n0 Z21 O21 f25 f26 f27 f28  hcs S_cs) hZ21 (hw _ (List.mem_of_getElem? (i := 73) rfl)) (hw _ (List.mem_of_getElem? (i := 8) rfl)) (by decide) (by decide)) q35a q35c (g := (mkF m 138 #[.val (.int pa), .val (.int pb), .val (.int pc_), .val (.int pn), .val (.int c0), .val (.int c1), .val (.int c2), .val (.int ((1 : Int32) + ((pn &&& (2147483647 : Int32)) % (3 : Int32)))), .val (.ref b4), .val (.ref b7), .val (.ref b10), .val (.ref u21)] [(.ref b7)])) rfl (by rw [hml]; rfl) (Steps.refl _) (argsL := []) (rest := []) (lenOf own_pd9 rfl) rfl (by show 2 * 0 + _ ≤ _; exact Nat.le_of_eq rfl) (hb hby at_138) (fun _ _ => ⟨rfl, e34, (by decide : 9 + 0 ≤ _), (by decide : 38 + 0 ≤ _)⟩)
    dsimp only [Pt.U, Pt.locs, Pt.cells, Pt.slots] at X35 l35 y35 z35 st35 hQ35
    subst l35 y35 z35
    obtain ⟨rfl, N35q, e35⟩ := hQ35
    have N35 := Fr.app N34 N35q
    refine own_tr (T' := T35) (g' := (mkF m 141 #[.val (.int pa), .val (.int pb), .val (.int pc_), .val (.int pn), .val (.int c0), .val (.int c1), .val (.int c2), .val (.int ((1 : Int32) + ((pn &&& (2147483647 : Int32)) % (3 : Int32)))), .val (.ref b4), .val (.ref b7), .val (.ref b10), .val (.ref u21)] [(.int (1 : Int32))])) st35 ?_
    refine own_st (T' := T35) (g' := (mkF m 148 #[.val (.int pa), .val (.int pb), .val (.int pc_), .val (.int pn), .val (.int c0), .val (.int c1), .val (.int c2), .val (.int ((1 : Int32) + ((pn &&& (2147483647 : Int32)) % (3 : Int32)))), .val (.ref b4), .val (.ref b7), .val (.ref b10), .val (.ref u21)] [(.ref u21)])) (fun t k => ?_) ?_
    · show Steps p.tables e below (T35.setTop (mkF m 141 #[.val (.int pa), .val (.int pb), .val (.int pc_), .val (.int pn), .val (.int c0), .val (.int c1), .val (.int c2), .val (.int ((1 : Int32) + ((pn &&& (2147483647 : Int32)) % (3 : Int32)))), .val (.ref b4), .val (.ref b7), .val (.ref b10), .val (.ref u21)] [(.int (1 : Int32))])) t
      refine XS.iload X35.here hx rfl (hb hby at_141) rfl ?_
      refine XS.icmpNo X35.here hx rfl (hb hby at_143) rfl (teq hE).2 ?_
      refine XS.aload X35.here hx rfl (hb hby at_146) rfl rfl ?_
      exact k
    obtain ⟨cq36, kq36, q36a, q36b, q36c⟩ := isOf hZ21 e35 Ec21
    obtain ⟨_, _, ⟨T36, L36, c36, n36⟩, -, X36, ⟨Lc36, hQ36, l36, y36, z36⟩, st36⟩ := X35.virtualBack hx (y := (⟨"com/example/operation_tracker/operationtracker/model/TaskId", "jobId", "()Ljava/lang/String;"⟩ : MethodName)) (z := (⟨"com/example/operation_tracker/operationtracker/model/TaskId", "jobId", "()Ljava/lang/String;"⟩ : MethodName)) ho21 (mvT hZ21 (hw _ (List.mem_of_getElem? (i := 124) rfl))) (mvT hZ21 (hw _ (List.mem_of_getElem? (i := 125) rfl))) (notFace_of_selects (args := #[]) (mvT hZ21 (hw _ (List.mem_of_getElem? (i := 127) rfl)))) (mvT hZ21 (hw _ (List.mem_of_getElem? (i := 127) rfl))) (mvT hZ21 (hw _ (List.mem_of_getElem? (i := 126) rfl))) (by decide) (backOf (W := 0) (own_rm26 l Z a0 hw [] u21 (.ref b7) h21 n0 Z21 rfl Fa21) hZ21 (hw _ (List.mem_of_getElem? (i := 128) rfl)) (hw _ (List.mem_of_getElem? (i := 37) rfl)) (by decide) (by decide)) q36a q36c (g := (mkF m 148 #[.val (.int pa), .val (.int pb), .val (.int pc_), .val (.int pn), .val (.int c0), .val (.int c1), .val (.int c2), .val (.int ((1 : Int32) + ((pn &&& (2147483647 : Int32)) % (3 : Int32)))), .val (.ref b4), .val (.ref b7), .val (.ref b10), .val (.ref u21)] [(.ref u21)])) rfl (by rw [hml]; rfl) (Steps.refl _) (argsL := []) (rest := []) (lenOf own_pd18 rfl) rfl (by show 2 * 0 + _ ≤ _; exact Nat.le_of_eq rfl) (hb hby at_148) (fun _ _ => ⟨rfl, e35, (by decide : 9 + 0 ≤ _), (by decide : 38 + 0 ≤ _)⟩)
    dsimp only [Pt.U, Pt.locs, Pt.cells, Pt.slots] at X36 l36 y36 z36 st36 hQ36
    subst l36 y36 z36
    obtain ⟨rfl, N36q, e36⟩ := hQ36
    have N36 := Fr.app N35 N36q
    refine own_tr (T' := T36) (g' := (mkF m 151 #[.val (.int pa), .val (.int pb), .val (.int pc_), .val (.int pn), .val (.int c0), .val (.int c1), .val (.int c2), .val (.int ((1 : Int32) + ((pn &&& (2147483647 : Int32)) % (3 : Int32)))), .val (.ref b4), .val (.ref b7), .val (.ref b10), .val (.ref u21)] [(.ref b7)])) st36 ?_
    refine own_st (T' := T36) (g' := (mkF m 153 #[.val (.int pa), .val (.int pb), .val (.int pc_), .val (.int pn), .val (.int c0), .val (.int c1), .val (.int c2), .val (.int ((1 : Int32) + ((pn &&& (2147483647 : Int32)) % (3 : Int32)))), .val (.ref b4), .val (.ref b7), .val (.ref b10), .val (.ref u21)] [(.ref b10), (.ref b7)])) (fun t k => ?_) ?_
    · show Steps p.tables e below (T36.setTop (mkF m 151 #[.val (.int pa), .val (.int pb), .val (.int pc_), .val (.int pn), .val (.int c0), .val (.int c1), .val (.int c2), .val (.int ((1 : Int32) + ((pn &&& (2147483647 : Int32)) % (3 : Int32)))), .val (.ref b4), .val (.ref b7), .val (.ref b10), .val (.ref u21)] [(.ref b7)])) t
      refine XS.aload X36.here hx rfl (hb hby at_151) rfl rfl ?_
      exact k
    obtain ⟨cq37, kq37, q37a, q37b, q37c⟩ := isOf hZ21 e36 f25
    obtain ⟨_, _, ⟨T37, L37, c37, n37⟩, -, X37, ⟨Lc37, hQ37, l37, y37, z37⟩, st37⟩ := X36.virtualBack hx (y := (⟨"java/lang/String", "equals", "(Ljava/lang/Object;)Z"⟩ : MethodName)) (z := (⟨"java/lang/String", "equals", "(Ljava/lang/Object;)Z"⟩ : MethodName)) ho21 (mvT hZ21 (hw _ (List.mem_of_getElem? (i := 114) rfl))) (mvT hZ21 (hw _ (List.mem_of_getElem? (i := 115) rfl))) (notFace_of_selects (args := #[]) (mvT hZ21 (hw _ (List.mem_of_getElem? (i := 117) rfl)))) (mvT hZ21 (hw _ (List.mem_of_getElem? (i := 117) rfl))) (mvT hZ21 (hw _ (List.mem_of_getElem? (i := 116) rfl))) (by decide) (backOf (W := 0) (own_rm24_1 l Z a0 hw [] b7 t9 k9 (c0.toInt8.toInt32) b10 t14 k14 cs h21 n0 Z21 O21 f25 f26 f27 f28 f29 f30 f31 f32 ne_b7_b10 hcs S_cs) hZ21 (hw _ (List.mem_of_getElem? (i := 118) rfl)) (hw _ (List.mem_of_getElem? (i := 8) rfl)) (by decide) (by decide)) q37a q37c (g := (mkF m 153 #[.val (.int pa), .val (.int pb), .val (.int pc_), .val (.int pn), .val (.int c0), .val (.int c1), .val (.int c2), .val (.int ((1 : Int32) + ((pn &&& (2147483647 : Int32)) % (3 : Int32)))), .val (.ref b4), .val (.ref b7), .val (.ref b10), .val (.ref u21)] [(.ref b10), (.ref b7)])) rfl (by rw [hml]; rfl) (Steps.refl _) (argsL := [(.ref b10)]) (rest := []) (lenOf own_pd19 rfl) rfl (by show 2 * 0 + _ ≤ _; exact Nat.le_of_eq rfl) (hb hby at_153) (fun _ _ => ⟨rfl, e36, (by decide : 9 + 0 ≤ _), (by decide : 38 + 0 ≤ _)⟩)
    dsimp only [Pt.U, Pt.locs, Pt.cells, Pt.slots] at X37 l37 y37 z37 st37 hQ37
    subst l37 y37 z37
    obtain ⟨rfl, N37q, e37⟩ := hQ37
    have N37 := Fr.app N36 N37q
    refine own_tr (T' := T37) (g' := (mkF m 156 #[.val (.int pa), .val (.int pb), .val (.int pc_), .val (.int pn), .val (.int c0), .val (.int c1), .val (.int c2), .val (.int ((1 : Int32) + ((pn &&& (2147483647 : Int32)) % (3 : Int32)))), .val (.ref b4), .val (.ref b7), .val (.ref b10), .val (.ref u21)] [(.int (1 : Int32))])) st37 ?_
    refine own_st (T' := T37) (g' := (mkF m 161 #[.val (.int pa), .val (.int pb), .val (.int pc_), .val (.int pn), .val (.int c0), .val (.int c1), .val (.int c2), .val (.int ((1 : Int32) + ((pn &&& (2147483647 : Int32)) % (3 : Int32)))), .val (.ref b4), .val (.ref b7), .val (.ref b10), .val (.ref u21)] [(.ref u21)])) (fun t k => ?_) ?_
    · show Steps p.tables e below (T37.setTop (mkF m 156 #[.val (.int pa), .val (.int pb), .val (.int pc_), .val (.int pn), .val (.int c0), .val (.int c1), .val (.int c2), .val (.int ((1 : Int32) + ((pn &&& (2147483647 : Int32)) % (3 : Int32)))), .val (.ref b4), .val (.ref b7), .val (.ref b10), .val (.ref u21)] [(.int (1 : Int32))])) t
      refine XS.ifNo X37.here hx rfl (hb hby at_156) rfl ((if0 _ _).trans (feq (by decide : ¬ ((1 : Int32) = (0 : Int32)))).1) ?_
      refine XS.aload X37.here hx rfl (hb hby at_159) rfl rfl ?_
      exact k
    obtain ⟨cq38, kq38, q38a, q38b, q38c⟩ := isOf hZ21 e37 Ec21
    obtain ⟨_, _, ⟨T38, L38, c38, n38⟩, -, X38, ⟨Lc38, hQ38, l38, y38, z38⟩, st38⟩ := X37.virtualBack hx (y := (⟨"com/example/operation_tracker/operationtracker/model/TaskId", "depth", "()I"⟩ : MethodName)) (z := (⟨"com/example/operation_tracker/operationtracker/model/TaskId", "depth", "()I"⟩ : MethodName)) ho21 (mvT hZ21 (hw _ (List.mem_of_getElem? (i := 129) rfl))) (mvT hZ21 (hw _ (List.mem_of_getElem? (i := 130) rfl))) (notFace_of_selects (args := #[]) (mvT hZ21 (hw _ (List.mem_of_getElem? (i := 132) rfl)))) (mvT hZ21 (hw _ (List.mem_of_getElem? (i := 132) rfl))) (mvT hZ21 (hw _ (List.mem_of_getElem? (i := 131) rfl))) (by decide) (backOf (W := 0) (own_rm27 l Z a0 hw [] u21 y_21 k21 h21 n0 Z21 Fb21 Vc21) hZ21 (hw _ (List.mem_of_getElem? (i := 133) rfl)) (hw _ (List.mem_of_getElem? (i := 37) rfl)) (by decide) (by decide)) q38a q38c (g := (mkF m 161 #[.val (.int pa), .val (.int pb), .val (.int pc_), .val (.int pn), .val (.int c0), .val (.int c1), .val (.int c2), .val (.int ((1 : Int32) + ((pn &&& (2147483647 : Int32)) % (3 : Int32)))), .val (.ref b4), .val (.ref b7), .val (.ref b10), .val (.ref u21)] [(.ref u21)])) rfl (by rw [hml]; rfl) (Steps.refl _) (argsL := []) (rest := []) (lenOf own_pd9 rfl) rfl (by show 2 * 0 + _ ≤ _; exact Nat.le_of_eq rfl) (hb hby at_161) (fun _ _ => ⟨rfl, e37, (by decide : 9 + 0 ≤ _), (by decide : 38 + 0 ≤ _)⟩)
    dsimp only [Pt.U, Pt.locs, Pt.cells, Pt.slots] at X38 l38 y38 z38 st38 hQ38
    subst l38 y38 z38
    obtain ⟨rfl, N38q, e38⟩ := hQ38
    have N38 := Fr.app N37 N38q
    refine own_tr (T' := T38) (g' := (mkF m 164 #[.val (.int pa), .val (.int pb), .val (.int pc_), .val (.int pn), .val (.int c0), .val (.int c1), .val (.int c2), .val (.int ((1 : Int32) + ((pn &&& (2147483647 : Int32)) % (3 : Int32)))), .val (.ref b4), .val (.ref b7), .val (.ref b10), .val (.ref u21)] [(.int (0 : Int32))])) st38 ?_
    refine own_st (T' := T38) (g' := (mkF m 172 #[.val (.int pa), .val (.int pb), .val (.int pc_), .val (.int pn), .val (.int c0), .val (.int c1), .val (.int c2), .val (.int ((1 : Int32) + ((pn &&& (2147483647 : Int32)) % (3 : Int32)))), .val (.ref b4), .val (.ref b7), .val (.ref b10), .val (.ref u21)] [(.int (1 : Int32))])) (fun t k => ?_) ?_
    · show Steps p.tables e below (T38.setTop (mkF m 164 #[.val (.int pa), .val (.int pb), .val (.int pc_), .val (.int pn), .val (.int c0), .val (.int c1), .val (.int c2), .val (.int ((1 : Int32) + ((pn &&& (2147483647 : Int32)) % (3 : Int32)))), .val (.ref b4), .val (.ref b7), .val (.ref b10), .val (.ref u21)] [(.int (0 : Int32))])) t
      refine XS.ifNo X38.here hx rfl (hb hby at_164) rfl ((if0 _ _).trans (teq (rfl : (0 : Int32) = (0 : Int32))).2) ?_
      refine XS.iconst X38.here hx rfl (hb hby at_167) ?_
      refine XS.goto X38.here hx rfl (pc0 := 168) (pc' := 172) rfl (hb hby at_168) (by decide) (by decide) ?_
      exact k
    exact own_retNW X38 hx Bd (t := .boolean) (by simp) rfl (hb hby at_172) e38 (⟨rfl, N38⟩) hS21 hk21 (by decide) (by decide)
  · refine own_st (T' := T3) (g' := (mkF m 50 #[.val (.int pa), .val (.int pb), .val (.int pc_), .val (.int pn), .val (.int c0), .val (.int c1), .val (.int c2), .val (.int ((1 : Int32) + ((pn &&& (2147483647 : Int32)) % (3 : Int32)))), .unset, .unset, .unset, .unset] [(.int (2 : Int32)), (.int ((1 : Int32) + ((pn &&& (2147483647 : Int32)) % (3 : Int32))))])) (fun t k => ?_) ?_
    · show Steps p.tables e below (T3.setTop (mkF m 31 #[.val (.int pa), .val (.int pb), .val (.int pc_), .val (.int pn), .val (.int c0), .val (.int c1), .val (.int c2), .val (.int ((1 : Int32) + ((pn &&& (2147483647 : Int32)) % (3 : Int32)))), .unset, .unset, .unset, .unset] [(.int (1 : Int32)), (.int ((1 : Int32) + ((pn &&& (2147483647 : Int32)) % (3 : Int32))))])) t
      refine XS.icmpYes X3.here hx rfl (pc0 := 31) (pc' := 47) rfl (hb hby at_31) rfl (feq h1).2 (by decide) (by decide) ?_
      refine XS.iload X3.here hx rfl (hb hby at_47) rfl ?_
      refine XS.iconst X3.here hx rfl (hb hby at_49) ?_
      exact k
    by_cases h2 : ((1 : Int32) + ((pn &&& (2147483647 : Int32)) % (3 : Int32))) = (2 : Int32)
    · refine own_st (T' := T3) (g' := (mkF m 53 #[.val (.int pa), .val (.int pb), .val (.int pc_), .val (.int pn), .val (.int c0), .val (.int c1), .val (.int c2), .val (.int ((1 : Int32) + ((pn &&& (2147483647 : Int32)) % (3 : Int32)))), .unset, .unset, .unset, .unset] [])) (fun t k => ?_) ?_
      · show Steps p.tables e below (T3.setTop (mkF m 50 #[.val (.int pa), .val (.int pb), .val (.int pc_), .val (.int pn), .val (.int c0), .val (.int c1), .val (.int c2), .val (.int ((1 : Int32) + ((pn &&& (2147483647 : Int32)) % (3 : Int32)))), .unset, .unset, .unset, .unset] [(.int (2 : Int32)), (.int ((1 : Int32) + ((pn &&& (2147483647 : Int32)) % (3 : Int32))))])) t
        refine XS.icmpNo X3.here hx rfl (hb hby at_50) rfl (teq h2).2 ?_
        exact k
      have hE := h2.symm
      refine own_st (T' := T3) (g' := (mkF m 54 #[.val (.int pa), .val (.int pb), .val (.int pc_), .val (.int pn), .val (.int c0), .val (.int c1), .val (.int c2), .val (.int ((1 : Int32) + ((pn &&& (2147483647 : Int32)) % (3 : Int32)))), .unset, .unset, .unset, .unset] [(.int (2 : Int32))])) (fun t k => ?_) ?_
      · show Steps p.tables e below (T3.setTop (mkF m 53 #[.val (.int pa), .val (.int pb), .val (.int pc_), .val (.int pn), .val (.int c0), .val (.int c1), .val (.int c2), .val (.int ((1 : Int32) + ((pn &&& (2147483647 : Int32)) % (3 : Int32)))), .unset, .unset, .unset, .unset] [])) t
        refine XS.iconst X3.here hx rfl (hb hby at_53) ?_
        exact k
      obtain ⟨T39, h39, k39, X39, e39, E39, A39, st39⟩ := newP X3 hx hZ0 (hw _ (List.mem_of_getElem? (i := 5) rfl)) e3 (g := (mkF m 54 #[.val (.int pa), .val (.int pb), .val (.int pc_), .val (.int pn), .val (.int c0), .val (.int c1), .val (.int c2), .val (.int ((1 : Int32) + ((pn &&& (2147483647 : Int32)) % (3 : Int32)))), .unset, .unset, .unset, .unset] [(.int (2 : Int32))])) rfl (hb hby at_54) rfl (by decide) (cap := 2) (by decide) (by decide) (by decide) (by decide)
      obtain ⟨b39, g39⟩ : ∃ z, z = h0.size := ⟨_, rfl⟩
      rw [← g39] at A39 st39
      have sz39 : h0.size ≤ b39 := Nat.le_of_eq g39.symm
      have g_b39 : n0 ≤ b39 := Nat.le_trans Z0 sz39
      have hz_b39 : h0.size ≤ b39 := Nat.le_trans (Keep.refl h0 []).1 sz39
      have K39 : Keep h0 h39 [] := (Keep.refl h0 []).ext E39
      have Z39 : n0 ≤ h39.size := Nat.le_trans Z0 E39.1
      have O39 := O0.ext E39
      have hk39 := Nat.le_trans (Nat.le_refl _) E39.1
      have V39 : Arv Z h39 b39 k39 .char (2 : Int32) [(.int (0 : Int32)), (.int (0 : Int32))] (.int (0 : Int32)) := (Arv.new A39 (by decide)).pad (pad_rep [] (.int (0 : Int32)) 2)
      refine own_st (T' := T39) (g' := (mkF m 56 #[.val (.int pa), .val (.int pb), .val (.int pc_), .val (.int pn), .val (.int c0), .val (.int c1), .val (.int c2), .val (.int ((1 : Int32) + ((pn &&& (2147483647 : Int32)) % (3 : Int32)))), .unset, .unset, .unset, .unset] [(.ref b39)])) st39 ?_
      refine own_st (T' := T39) (g' := (mkF m 60 #[.val (.int pa), .val (.int pb), .val (.int pc_), .val (.int pn), .val (.int c0), .val (.int c1), .val (.int c2), .val (.int ((1 : Int32) + ((pn &&& (2147483647 : Int32)) % (3 : Int32)))), .unset, .unset, .unset, .unset] [(.int c0), (.int (0 : Int32)), (.ref b39), (.ref b39)])) (fun t k => ?_) ?_
      · show Steps p.tables e below (T39.setTop (mkF m 56 #[.val (.int pa), .val (.int pb), .val (.int pc_), .val (.int pn), .val (.int c0), .val (.int c1), .val (.int c2), .val (.int ((1 : Int32) + ((pn &&& (2147483647 : Int32)) % (3 : Int32)))), .unset, .unset, .unset, .unset] [(.ref b39)])) t
        refine XS.dup X39.here hx rfl (hb hby at_56) rfl rfl ?_
        refine XS.iconst X39.here hx rfl (hb hby at_57) ?_
        refine XS.iload X39.here hx rfl (hb hby at_58) rfl ?_
        exact k
      obtain ⟨cl40, Ar40, q40, S40, M40, H40, G40⟩ := id V39
      obtain ⟨T41, h41, X41, e41, W41, st41⟩ := stC X39 hx hZ0 e39 Ar40 (j := (0 : Int32)) (inb_of S40 ⟨by decide, by decide⟩) (g := (mkF m 60 #[.val (.int pa), .val (.int pb), .val (.int pc_), .val (.int pn), .val (.int c0), .val (.int c1), .val (.int c2), .val (.int ((1 : Int32) + ((pn &&& (2147483647 : Int32)) % (3 : Int32)))), .unset, .unset, .unset, .unset] [(.int c0), (.int (0 : Int32)), (.ref b39), (.ref b39)])) rfl rfl (hb hby at_60)
      have N41 := Fr.snoc X41 N3 g_b39
      have K41 : Keep h0 h41 [] := K39.wr W41 (Or.inr hz_b39)
      have Z41 : n0 ≤ h41.size := Nat.le_trans Z39 (Keep.of_wr W41).1
      have O41 := O39.wr W41 g_b39
      have hk41 := Nat.le_trans hk39 (Keep.of_wr W41).1
      have fw41 := (show Arv Z h41 b39 k39 .char (2 : Int32) [(.int c0), (.int (0 : Int32))] (.int (0 : Int32)) by have q : Arv Z h41 b39 k39 .char (2 : Int32) [(.int (c0.toUInt32.toUInt16.toUInt32.toInt32)), (.int (0 : Int32))] (.int (0 : Int32)) := Arv.set Ar40 q40 S40 M40 H40 G40 (fits_nar_char _) W41 0 rfl (Nat.le_of_ble_eq_true rfl); rw [own_dr_id hd0] at q; exact q)
      refine own_st (T' := T41) (g' := (mkF m 61 #[.val (.int pa), .val (.int pb), .val (.int pc_), .val (.int pn), .val (.int c0), .val (.int c1), .val (.int c2), .val (.int ((1 : Int32) + ((pn &&& (2147483647 : Int32)) % (3 : Int32)))), .unset, .unset, .unset, .unset] [(.ref b39)])) st41 ?_
      refine own_st (T' := T41) (g' := (mkF m 65 #[.val (.int pa), .val (.int pb), .val (.int pc_), .val (.int pn), .val (.int c0), .val (.int c1), .val (.int c2), .val (.int ((1 : Int32) + ((pn &&& (2147483647 : Int32)) % (3 : Int32)))), .unset, .unset, .unset, .unset] [(.int c1), (.int (1 : Int32)), (.ref b39), (.ref b39)])) (fun t k => ?_) ?_
      · show Steps p.tables e below (T41.setTop (mkF m 61 #[.val (.int pa), .val (.int pb), .val (.int pc_), .val (.int pn), .val (.int c0), .val (.int c1), .val (.int c2), .val (.int ((1 : Int32) + ((pn &&& (2147483647 : Int32)) % (3 : Int32)))), .unset, .unset, .unset, .unset] [(.ref b39)])) t
        refine XS.dup X41.here hx rfl (hb hby at_61) rfl rfl ?_
        refine XS.iconst X41.here hx rfl (hb hby at_62) ?_
        refine XS.iload X41.here hx rfl (hb hby at_63) rfl ?_
        exact k
      obtain ⟨cl42, Ar42, q42, S42, M42, H42, G42⟩ := id fw41
      obtain ⟨T43, h43, X43, e43, W43, st43⟩ := stC X41 hx hZ0 e41 Ar42 (j := (1 : Int32)) (inb_of S42 ⟨by decide, by decide⟩) (g := (mkF m 65 #[.val (.int pa), .val (.int pb), .val (.int pc_), .val (.int pn), .val (.int c0), .val (.int c1), .val (.int c2), .val (.int ((1 : Int32) + ((pn &&& (2147483647 : Int32)) % (3 : Int32)))), .unset, .unset, .unset, .unset] [(.int c1), (.int (1 : Int32)), (.ref b39), (.ref b39)])) rfl rfl (hb hby at_65)
      have N43 := Fr.snoc X43 N41 g_b39
      have K43 : Keep h0 h43 [] := K41.wr W43 (Or.inr hz_b39)
      have Z43 : n0 ≤ h43.size := Nat.le_trans Z41 (Keep.of_wr W43).1
      have O43 := O41.wr W43 g_b39
      have hk43 := Nat.le_trans hk41 (Keep.of_wr W43).1
      have fw43 := (show Arv Z h43 b39 k39 .char (2 : Int32) [(.int c0), (.int c1)] (.int (0 : Int32)) by have q : Arv Z h43 b39 k39 .char (2 : Int32) [(.int c0), (.int (c1.toUInt32.toUInt16.toUInt32.toInt32))] (.int (0 : Int32)) := Arv.set Ar42 q42 S42 M42 H42 G42 (fits_nar_char _) W43 1 rfl (Nat.le_of_ble_eq_true rfl); rw [own_dr_id hd1] at q; exact q)
      refine own_st (T' := T43) (g' := (mkF m 66 #[.val (.int pa), .val (.int pb), .val (.int pc_), .val (.int pn), .val (.int c0), .val (.int c1), .val (.int c2), .val (.int ((1 : Int32) + ((pn &&& (2147483647 : Int32)) % (3 : Int32)))), .unset, .unset, .unset, .unset] [(.ref b39)])) st43 ?_
      refine own_st (T' := T43) (g' := (mkF m 91 #[.val (.int pa), .val (.int pb), .val (.int pc_), .val (.int pn), .val (.int c0), .val (.int c1), .val (.int c2), .val (.int ((1 : Int32) + ((pn &&& (2147483647 : Int32)) % (3 : Int32)))), .val (.ref b39), .unset, .unset, .unset] [])) (fun t k => ?_) ?_
      · show Steps p.tables e below (T43.setTop (mkF m 66 #[.val (.int pa), .val (.int pb), .val (.int pc_), .val (.int pn), .val (.int c0), .val (.int c1), .val (.int c2), .val (.int ((1 : Int32) + ((pn &&& (2147483647 : Int32)) % (3 : Int32)))), .unset, .unset, .unset, .unset] [(.ref b39)])) t
        refine XS.astore X43.here hx rfl (hb hby at_66) rfl rfl (l' := #[.val (.int pa), .val (.int pb), .val (.int pc_), .val (.int pn), .val (.int c0), .val (.int c1), .val (.int c2), .val (.int ((1 : Int32) + ((pn &&& (2147483647 : Int32)) % (3 : Int32)))), .val (.ref b39), .unset, .unset, .unset]) rfl ?_
        refine XS.goto X43.here hx rfl (pc0 := 68) (pc' := 91) rfl (hb hby at_68) (by decide) (by decide) ?_
        exact k
      obtain ⟨T44, h44, X44, e44, E44, A44, D44, U44, st44⟩ := newO X43 hx hZ0 ho0 (hw _ (List.mem_of_getElem? (i := 6) rfl)) (hw _ (List.mem_of_getElem? (i := 7) rfl)) (hw _ (List.mem_of_getElem? (i := 8) rfl)) e43 (g := (mkF m 91 #[.val (.int pa), .val (.int pb), .val (.int pc_), .val (.int pn), .val (.int c0), .val (.int c1), .val (.int c2), .val (.int ((1 : Int32) + ((pn &&& (2147483647 : Int32)) % (3 : Int32)))), .val (.ref b39), .unset, .unset, .unset] [])) rfl (hb hby at_91) (by decide) (by decide)
      obtain ⟨b44, g44⟩ : ∃ z, z = h43.size := ⟨_, rfl⟩
      rw [← g44] at A44 D44 U44 st44
      have sz44 : h43.size ≤ b44 := Nat.le_of_eq g44.symm
      have ne_b39_b44 : b39 ≠ b44 := Nat.ne_of_lt (Nat.lt_of_lt_of_le fw43.lt sz44)
      have g_b44 : n0 ≤ b44 := Nat.le_trans Z43 sz44
      have hz_b44 : h0.size ≤ b44 := Nat.le_trans K43.1 sz44
      have K44 : Keep h0 h44 [] := K43.ext E44
      have Z44 : n0 ≤ h44.size := Nat.le_trans Z43 E44.1
      have O44 := O43.ext E44
      have hk44 := Nat.le_trans hk43 E44.1
      refine own_st (T' := T44) (g' := (mkF m 94 #[.val (.int pa), .val (.int pb), .val (.int pc_), .val (.int pn), .val (.int c0), .val (.int c1), .val (.int c2), .val (.int ((1 : Int32) + ((pn &&& (2147483647 : Int32)) % (3 : Int32)))), .val (.ref b39), .unset, .unset, .unset] [(.ref b44)])) st44 ?_
      refine own_st (T' := T44) (g' := (mkF m 97 #[.val (.int pa), .val (.int pb), .val (.int pc_), .val (.int pn), .val (.int c0), .val (.int c1), .val (.int c2), .val (.int ((1 : Int32) + ((pn &&& (2147483647 : Int32)) % (3 : Int32)))), .val (.ref b39), .unset, .unset, .unset] [(.ref b39), (.ref b44), (.ref b44)])) (fun t k => ?_) ?_
      · show Steps p.tables e below (T44.setTop (mkF m 94 #[.val (.int pa), .val (.int pb), .val (.int pc_), .val (.int pn), .val (.int c0), .val (.int c1), .val (.int c2), .val (.int ((1 : Int32) + ((pn &&& (2147483647 : Int32)) % (3 : Int32)))), .val (.ref b39), .unset, .unset, .unset] [(.ref b44)])) t
        refine XS.dup X44.here hx rfl (hb hby at_94) rfl rfl ?_
        refine XS.aload X44.here hx rfl (hb hby at_95) rfl rfl ?_
        exact k
      have f45 := fw43.ext E44
      obtain ⟨_, _, ⟨T46, L46, c46, n46⟩, -, X46, ⟨Lc46, hQ46, l46, y46, z46⟩, st46⟩ := X44.specialBack hx (y := (⟨"java/lang/String", "<init>", "([C)V"⟩ : MethodName)) rfl ho0 (mvT hZ0 (hw _ (List.mem_of_getElem? (i := 9) rfl))) (mvT hZ0 (hw _ (List.mem_of_getElem? (i := 10) rfl))) (mvT hZ0 (hw _ (List.mem_of_getElem? (i := 11) rfl))) (by decide) (backOf (W := 1) (own_rm2_2 l Z a0 hw [] b44 b39 k39 c0 c1 cs h44 n0 Z44 O44 A44 (D44 (Or.inr (hw _ (List.mem_of_getElem? (i := 34) rfl))) (ty := (.array .byte)) (by decide) : Fld Z h44 b44 "java/lang/String" "value" "[B" .null) (D44 (Or.inr (hw _ (List.mem_of_getElem? (i := 32) rfl))) (ty := .byte) (by decide) : Fld Z h44 b44 "java/lang/String" "coder" "B" (.int (0 : Int32))) g_b44 f45 (Ne.symm ne_b39_b44) (own_dr_l hd0) (own_dr_l hd1) hcs S_cs) hZ0 (hw _ (List.mem_of_getElem? (i := 11) rfl)) (hw _ (List.mem_of_getElem? (i := 8) rfl)) (by decide) (by decide)) (g := (mkF m 97 #[.val (.int pa), .val (.int pb), .val (.int pc_), .val (.int pn), .val (.int c0), .val (.int c1), .val (.int c2), .val (.int ((1 : Int32) + ((pn &&& (2147483647 : Int32)) % (3 : Int32)))), .val (.ref b39), .unset, .unset, .unset] [(.ref b39), (.ref b44), (.ref b44)])) rfl (by rw [hml]; rfl) (Steps.refl _) (a := b44) (argsL := [(.ref b39)]) (rest := [(.ref b44)]) (lenOf own_pd16 rfl) rfl (by show 2 * 0 + _ ≤ _; exact Nat.le_of_eq rfl) (hb hby at_97) (fun _ _ => ⟨rfl, e44, (by decide : 2 + 1 ≤ _), (by decide : 6 + 2 ≤ _)⟩)
      dsimp only [Pt.U, Pt.locs, Pt.cells, Pt.slots] at X46 l46 y46 z46 st46 hQ46
      subst l46 y46 z46
      obtain ⟨h46, e46⟩ : ∃ z, T46.heap = z := ⟨_, rfl⟩
      rw [e46] at hQ46
      obtain ⟨t46, k46, rfl, N46q, Kc46, g46, hz46, Fv46, Fo46, Vc46⟩ := hQ46
      have N46 := Fr.app N43 N46q
      have ne_b39_t46 : b39 ≠ t46 := Nat.ne_of_lt (Nat.lt_of_lt_of_le f45.lt hz46)
      have ne_b44_t46 : b44 ≠ t46 := Nat.ne_of_lt (Nat.lt_of_lt_of_le A44.lt hz46)
      have hwt46 : h0.size ≤ t46 := Nat.le_trans K44.1 hz46
      have K46 : Keep h0 h46 [] := K44.trans Kc46 (allS (Or.inr hz_b44) all0)
      have Z46 : n0 ≤ h46.size := Nat.le_trans Z44 Kc46.1
      have O46 := O44.keep Kc46 (allS g_b44 all0)
      have hk46 := Nat.le_trans hk44 Kc46.1
      refine own_tr (T' := T46) (g' := (mkF m 100 #[.val (.int pa), .val (.int pb), .val (.int pc_), .val (.int pn), .val (.int c0), .val (.int c1), .val (.int c2), .val (.int ((1 : Int32) + ((pn &&& (2147483647 : Int32)) % (3 : Int32)))), .val (.ref b39), .unset, .unset, .unset] [(.ref b44)])) st46 ?_
      refine own_st (T' := T46) (g' := (mkF m 102 #[.val (.int pa), .val (.int pb), .val (.int pc_), .val (.int pn), .val (.int c0), .val (.int c1), .val (.int c2), .val (.int ((1 : Int32) + ((pn &&& (2147483647 : Int32)) % (3 : Int32)))), .val (.ref b39), .val (.ref b44), .unset, .unset] [])) (fun t k => ?_) ?_
      · show Steps p.tables e below (T46.setTop (mkF m 100 #[.val (.int pa), .val (.int pb), .val (.int pc_), .val (.int pn), .val (.int c0), .val (.int c1), .val (.int c2), .val (.int ((1 : Int32) + ((pn &&& (2147483647 : Int32)) % (3 : Int32)))), .val (.ref b39), .unset, .unset, .unset] [(.ref b44)])) t
        refine XS.astore X46.here hx rfl (hb hby at_100) rfl rfl (l' := #[.val (.int pa), .val (.int pb), .val (.int pc_), .val (.int pn), .val (.int c0), .val (.int c1), .val (.int c2), .val (.int ((1 : Int32) + ((pn &&& (2147483647 : Int32)) % (3 : Int32)))), .val (.ref b39), .val (.ref b44), .unset, .unset]) rfl ?_
        exact k
      obtain ⟨T47, h47, X47, e47, E47, A47, D47, U47, st47⟩ := newO X46 hx hZ0 ho0 (hw _ (List.mem_of_getElem? (i := 6) rfl)) (hw _ (List.mem_of_getElem? (i := 7) rfl)) (hw _ (List.mem_of_getElem? (i := 8) rfl)) e46 (g := (mkF m 102 #[.val (.int pa), .val (.int pb), .val (.int pc_), .val (.int pn), .val (.int c0), .val (.int c1), .val (.int c2), .val (.int ((1 : Int32) + ((pn &&& (2147483647 : Int32)) % (3 : Int32)))), .val (.ref b39), .val (.ref b44), .unset, .unset] [])) rfl (hb hby at_102) (by decide) (by decide)
      obtain ⟨b47, g47⟩ : ∃ z, z = h46.size := ⟨_, rfl⟩
      rw [← g47] at A47 D47 U47 st47
      have sz47 : h46.size ≤ b47 := Nat.le_of_eq g47.symm
      have f48 := f45.keep Kc46 (ninS ne_b39_b44 nin0)
      have ne_b39_b47 : b39 ≠ b47 := Nat.ne_of_lt (Nat.lt_of_lt_of_le f48.lt sz47)
      have f49 := A44.keep Kc46
      have ne_b44_b47 : b44 ≠ b47 := Nat.ne_of_lt (Nat.lt_of_lt_of_le f49.lt sz47)
      have ne_t46_b47 : t46 ≠ b47 := Nat.ne_of_lt (Nat.lt_of_lt_of_le Vc46.lt sz47)
      have g_b47 : n0 ≤ b47 := Nat.le_trans Z46 sz47
      have hz_b47 : h0.size ≤ b47 := Nat.le_trans K46.1 sz47
      have K47 : Keep h0 h47 [] := K46.ext E47
      have Z47 : n0 ≤ h47.size := Nat.le_trans Z46 E47.1
      have O47 := O46.ext E47
      have hk47 := Nat.le_trans hk46 E47.1
      refine own_st (T' := T47) (g' := (mkF m 105 #[.val (.int pa), .val (.int pb), .val (.int pc_), .val (.int pn), .val (.int c0), .val (.int c1), .val (.int c2), .val (.int ((1 : Int32) + ((pn &&& (2147483647 : Int32)) % (3 : Int32)))), .val (.ref b39), .val (.ref b44), .unset, .unset] [(.ref b47)])) st47 ?_
      refine own_st (T' := T47) (g' := (mkF m 108 #[.val (.int pa), .val (.int pb), .val (.int pc_), .val (.int pn), .val (.int c0), .val (.int c1), .val (.int c2), .val (.int ((1 : Int32) + ((pn &&& (2147483647 : Int32)) % (3 : Int32)))), .val (.ref b39), .val (.ref b44), .unset, .unset] [(.ref b39), (.ref b47), (.ref b47)])) (fun t k => ?_) ?_
      · show Steps p.tables e below (T47.setTop (mkF m 105 #[.val (.int pa), .val (.int pb), .val (.int pc_), .val (.int pn), .val (.int c0), .val (.int c1), .val (.int c2), .val (.int ((1 : Int32) + ((pn &&& (2147483647 : Int32)) % (3 : Int32)))), .val (.ref b39), .val (.ref b44), .unset, .unset] [(.ref b47)])) t
        refine XS.dup X47.here hx rfl (hb hby at_105) rfl rfl ?_
        refine XS.aload X47.here hx rfl (hb hby at_106) rfl rfl ?_
        exact k
      have f50 := f48.ext E47
      obtain ⟨_, _, ⟨T51, L51, c51, n51⟩, -, X51, ⟨Lc51, hQ51, l51, y51, z51⟩, st51⟩ := X47.specialBack hx (y := (⟨"java/lang/String", "<init>", "([C)V"⟩ : MethodName)) rfl ho0 (mvT hZ0 (hw _ (List.mem_of_getElem? (i := 9) rfl))) (mvT hZ0 (hw _ (List.mem_of_getElem? (i := 10) rfl))) (mvT hZ0 (hw _ (List.mem_of_getElem? (i := 11) rfl))) (by decide) (backOf (W := 1) (own_rm2_2 l Z a0 hw [] b47 b39 k39 c0 c1 cs h47 n0 Z47 O47 A47 (D47 (Or.inr (hw _ (List.mem_of_getElem? (i := 34) rfl))) (ty := (.array .byte)) (by decide) : Fld Z h47 b47 "java/lang/String" "value" "[B" .null) (D47 (Or.inr (hw _ (List.mem_of_getElem? (i := 32) rfl))) (ty := .byte) (by decide) : Fld Z h47 b47 "java/lang/String" "coder" "B" (.int (0 : Int32))) g_b47 f50 (Ne.symm ne_b39_b47) (own_dr_l hd0) (own_dr_l hd1) hcs S_cs) hZ0 (hw _ (List.mem_of_getElem? (i := 11) rfl)) (hw _ (List.mem_of_getElem? (i := 8) rfl)) (by decide) (by decide)) (g := (mkF m 108 #[.val (.int pa), .val (.int pb), .val (.int pc_), .val (.int pn), .val (.int c0), .val (.int c1), .val (.int c2), .val (.int ((1 : Int32) + ((pn &&& (2147483647 : Int32)) % (3 : Int32)))), .val (.ref b39), .val (.ref b44), .unset, .unset] [(.ref b39), (.ref b47), (.ref b47)])) rfl (by rw [hml]; rfl) (Steps.refl _) (a := b47) (argsL := [(.ref b39)]) (rest := [(.ref b47)]) (lenOf own_pd16 rfl) rfl (by show 2 * 0 + _ ≤ _; exact Nat.le_of_eq rfl) (hb hby at_108) (fun _ _ => ⟨rfl, e47, (by decide : 4 + 1 ≤ _), (by decide : 12 + 2 ≤ _)⟩)
      dsimp only [Pt.U, Pt.locs, Pt.cells, Pt.slots] at X51 l51 y51 z51 st51 hQ51
      subst l51 y51 z51
      obtain ⟨h51, e51⟩ : ∃ z, T51.heap = z := ⟨_, rfl⟩
      rw [e51] at hQ51
      obtain ⟨t51, k51, rfl, N51q, Kc51, g51, hz51, Fv51, Fo51, Vc51⟩ := hQ51
      have N51 := Fr.app N46 N51q
      have ne_b39_t51 : b39 ≠ t51 := Nat.ne_of_lt (Nat.lt_of_lt_of_le f50.lt hz51)
      have f52 := f49.ext E47
      have ne_b44_t51 : b44 ≠ t51 := Nat.ne_of_lt (Nat.lt_of_lt_of_le f52.lt hz51)
      have f53 := Vc46.ext E47
      have ne_t46_t51 : t46 ≠ t51 := Nat.ne_of_lt (Nat.lt_of_lt_of_le f53.lt hz51)
      have ne_b47_t51 : b47 ≠ t51 := Nat.ne_of_lt (Nat.lt_of_lt_of_le A47.lt hz51)
      have hwt51 : h0.size ≤ t51 := Nat.le_trans K47.1 hz51
      have K51 : Keep h0 h51 [] := K47.trans Kc51 (allS (Or.inr hz_b47) all0)
      have Z51 : n0 ≤ h51.size := Nat.le_trans Z47 Kc51.1
      have O51 := O47.keep Kc51 (allS g_b47 all0)
      have hk51 := Nat.le_trans hk47 Kc51.1
      refine own_tr (T' := T51) (g' := (mkF m 111 #[.val (.int pa), .val (.int pb), .val (.int pc_), .val (.int pn), .val (.int c0), .val (.int c1), .val (.int c2), .val (.int ((1 : Int32) + ((pn &&& (2147483647 : Int32)) % (3 : Int32)))), .val (.ref b39), .val (.ref b44), .unset, .unset] [(.ref b47)])) st51 ?_
      refine own_st (T' := T51) (g' := (mkF m 115 #[.val (.int pa), .val (.int pb), .val (.int pc_), .val (.int pn), .val (.int c0), .val (.int c1), .val (.int c2), .val (.int ((1 : Int32) + ((pn &&& (2147483647 : Int32)) % (3 : Int32)))), .val (.ref b39), .val (.ref b44), .val (.ref b47), .unset] [(.ref b44)])) (fun t k => ?_) ?_
      · show Steps p.tables e below (T51.setTop (mkF m 111 #[.val (.int pa), .val (.int pb), .val (.int pc_), .val (.int pn), .val (.int c0), .val (.int c1), .val (.int c2), .val (.int ((1 : Int32) + ((pn &&& (2147483647 : Int32)) % (3 : Int32)))), .val (.ref b39), .val (.ref b44), .unset, .unset] [(.ref b47)])) t
        refine XS.astore X51.here hx rfl (hb hby at_111) rfl rfl (l' := #[.val (.int pa), .val (.int pb), .val (.int pc_), .val (.int pn), .val (.int c0), .val (.int c1), .val (.int c2), .val (.int ((1 : Int32) + ((pn &&& (2147483647 : Int32)) % (3 : Int32)))), .val (.ref b39), .val (.ref b44), .val (.ref b47), .unset]) rfl ?_
        refine XS.aload X51.here hx rfl (hb hby at_113) rfl rfl ?_
        exact k
      have f54 := f52.keep Kc51
      have f55 := (Fv46.ext E47).keep Kc51 (ninS ne_b44_b47 nin0)
      have f56 := (Fo46.ext E47).keep Kc51 (ninS ne_b44_b47 nin0)
      have f57 := f53.keep Kc51 (ninS ne_t46_b47 nin0)
      obtain ⟨_, _, ⟨T58, L58, c58, n58⟩, -, Y58, hI58, hG58, ⟨Lc58, hQ58, l58, y58, z58⟩, st58⟩ := callSS X51 hx (y := (⟨"com/example/operation_tracker/operationtracker/model/TaskId", "first", "(Ljava/lang/String;)Lcom/example/operation_tracker/operationtracker/model/TaskId;"⟩ : MethodName)) ho0 (mvT hZ0 (hw _ (List.mem_of_getElem? (i := 35) rfl))) (mvT hZ0 (hw _ (List.mem_of_getElem? (i := 36) rfl))) (mvT hZ0 (hw _ (List.mem_of_getElem? (i := 37) rfl))) (mvT hZ0 (hw _ (List.mem_of_getElem? (i := 38) rfl))) (by decide) (backOfS (W := 0) (own_rm8_2 l Z a0 hw [] b44 t46 k46 (c0.toInt8.toInt32) (c1.toInt8.toInt32) cs h51 n0 Z51 O51 f54 f55 f56 f57 (own_dr_46 hd0) (own_dr_46 hd1) hcs S_cs) hZ0 (hw _ (List.mem_of_getElem? (i := 38) rfl)) (hw _ (List.mem_of_getElem? (i := 37) rfl)) (by decide) (by decide)) (g := (mkF m 115 #[.val (.int pa), .val (.int pb), .val (.int pc_), .val (.int pn), .val (.int c0), .val (.int c1), .val (.int c2), .val (.int ((1 : Int32) + ((pn &&& (2147483647 : Int32)) % (3 : Int32)))), .val (.ref b39), .val (.ref b44), .val (.ref b47), .unset] [(.ref b44)])) rfl (by rw [hml]; rfl) (argsL := [(.ref b44)]) (rest := []) (lenOf own_pd17 rfl) rfl (by show 2 * 0 + _ ≤ _; exact Nat.le_of_eq rfl) (hb hby at_115) (fun _ _ => ⟨rfl, e51, (by decide : 5 + 4 ≤ _), (by decide : 14 + 27 ≤ _)⟩)
      dsimp only [Pt.U, Pt.locs, Pt.cells, Pt.slots] at Y58 hI58 hG58 l58 y58 z58 st58 hQ58
      subst l58 y58 z58
      obtain ⟨X58, hS58, hZ58, ho58⟩ := rebS hS0 (by rw [e51]; exact hk51) Y58 hI58 hG58 hZ0 ho0
      obtain ⟨v58, hv58⟩ : ∃ z, z = T58.vm := ⟨_, rfl⟩
      rw [← hv58] at X58 hS58 hZ58 ho58
      obtain ⟨h58, e58⟩ : ∃ z, T58.heap = z := ⟨_, rfl⟩
      rw [e58] at hQ58
      obtain ⟨u58, y_58, k58, rfl, N58q, Kc58, g58, hz58, Ec58, Fa58, Fb58, Fd58, Vc58⟩ := hQ58
      have N58 := Fr.app N51 N58q
      have f59 := f50.keep Kc51 (ninS ne_b39_b47 nin0)
      have ne_b39_u58 : b39 ≠ u58 := Nat.ne_of_lt (Nat.lt_of_lt_of_le f59.lt hz58)
      have ne_b44_u58 : b44 ≠ u58 := Nat.ne_of_lt (Nat.lt_of_lt_of_le f54.lt hz58)
      have ne_t46_u58 : t46 ≠ u58 := Nat.ne_of_lt (Nat.lt_of_lt_of_le f57.lt hz58)
      have f60 := A47.keep Kc51
      have ne_b47_u58 : b47 ≠ u58 := Nat.ne_of_lt (Nat.lt_of_lt_of_le f60.lt hz58)
      have ne_t51_u58 : t51 ≠ u58 := Nat.ne_of_lt (Nat.lt_of_lt_of_le Vc51.lt hz58)
      have hwu58 : h0.size ≤ u58 := Nat.le_trans K51.1 hz58
      have K58 : Keep h0 h58 [] := K51.trans Kc58 all0
      have Z58 : n0 ≤ h58.size := Nat.le_trans Z51 Kc58.1
      have O58 := O51.keep Kc58 all0
      have hk58 : T58.heap.size ≤ h58.size := Nat.le_of_eq (by rw [e58])
      refine own_tr (T' := T58) (g' := (mkF m 118 #[.val (.int pa), .val (.int pb), .val (.int pc_), .val (.int pn), .val (.int c0), .val (.int c1), .val (.int c2), .val (.int ((1 : Int32) + ((pn &&& (2147483647 : Int32)) % (3 : Int32)))), .val (.ref b39), .val (.ref b44), .val (.ref b47), .unset] [(.ref u58)])) st58 ?_
      refine own_st (T' := T58) (g' := (mkF m 122 #[.val (.int pa), .val (.int pb), .val (.int pc_), .val (.int pn), .val (.int c0), .val (.int c1), .val (.int c2), .val (.int ((1 : Int32) + ((pn &&& (2147483647 : Int32)) % (3 : Int32)))), .val (.ref b39), .val (.ref b44), .val (.ref b47), .val (.ref u58)] [(.ref u58)])) (fun t k => ?_) ?_
      · show Steps p.tables e below (T58.setTop (mkF m 118 #[.val (.int pa), .val (.int pb), .val (.int pc_), .val (.int pn), .val (.int c0), .val (.int c1), .val (.int c2), .val (.int ((1 : Int32) + ((pn &&& (2147483647 : Int32)) % (3 : Int32)))), .val (.ref b39), .val (.ref b44), .val (.ref b47), .unset] [(.ref u58)])) t
        refine XS.astore X58.here hx rfl (hb hby at_118) rfl rfl (l' := #[.val (.int pa), .val (.int pb), .val (.int pc_), .val (.int pn), .val (.int c0), .val (.int c1), .val (.int c2), .val (.int ((1 : Int32) + ((pn &&& (2147483647 : Int32)) % (3 : Int32)))), .val (.ref b39), .val (.ref b44), .val (.ref b47), .val (.ref u58)]) rfl ?_
        refine XS.aload X58.here hx rfl (hb hby at_120) rfl rfl ?_
        exact k
      obtain ⟨cq61, kq61, q61a, q61b, q61c⟩ := isOf hZ58 e58 Ec58
      obtain ⟨_, _, ⟨T61, L61, c61, n61⟩, -, X61, ⟨Lc61, hQ61, l61, y61, z61⟩, st61⟩ := X58.virtualBack hx (y := (⟨"com/example/operation_tracker/operationtracker/model/TaskId", "toString", "()Ljava/lang/String;"⟩ : MethodName)) (z := (⟨"com/example/operation_tracker/operationtracker/model/TaskId", "toString", "()Ljava/lang/String;"⟩ : MethodName)) ho58 (mvT hZ58 (hw _ (List.mem_of_getElem? (i := 109) rfl))) (mvT hZ58 (hw _ (List.mem_of_getElem? (i := 110) rfl))) (notFace_of_selects (args := #[]) (mvT hZ58 (hw _ (List.mem_of_getElem? (i := 112) rfl)))) (mvT hZ58 (hw _ (List.mem_of_getElem? (i := 112) rfl))) (mvT hZ58 (hw _ (List.mem_of_getElem? (i := 111) rfl))) (by decide) (backOf (W := 0) (own_rm23 l Z a0 hw [] u58 (.ref b44) h58 n0 Z58 rfl Fd58) hZ58 (hw _ (List.mem_of_getElem? (i := 113) rfl)) (hw _ (List.mem_of_getElem? (i := 37) rfl)) (by decide) (by decide)) q61a q61c (g := (mkF m 122 #[.val (.int pa), .val (.int pb), .val (.int pc_), .val (.int pn), .val (.int c0), .val (.int c1), .val (.int c2), .val (.int ((1 : Int32) + ((pn &&& (2147483647 : Int32)) % (3 : Int32)))), .val (.ref b39), .val (.ref b44), .val (.ref b47), .val (.ref u58)] [(.ref u58)])) rfl (by rw [hml]; rfl) (Steps.refl _) (argsL := []) (rest := []) (lenOf own_pd18 rfl) rfl (by show 2 * 0 + _ ≤ _; exact Nat.le_of_eq rfl) (hb hby at_122) (fun _ _ => ⟨rfl, e58, (by decide : 9 + 0 ≤ _), (by decide : 41 + 0 ≤ _)⟩)
      dsimp only [Pt.U, Pt.locs, Pt.cells, Pt.slots] at X61 l61 y61 z61 st61 hQ61
      subst l61 y61 z61
      obtain ⟨rfl, N61q, e61⟩ := hQ61
      have N61 := Fr.app N58 N61q
      refine own_tr (T' := T61) (g' := (mkF m 125 #[.val (.int pa), .val (.int pb), .val (.int pc_), .val (.int pn), .val (.int c0), .val (.int c1), .val (.int c2), .val (.int ((1 : Int32) + ((pn &&& (2147483647 : Int32)) % (3 : Int32)))), .val (.ref b39), .val (.ref b44), .val (.ref b47), .val (.ref u58)] [(.ref b44)])) st61 ?_
      refine own_st (T' := T61) (g' := (mkF m 127 #[.val (.int pa), .val (.int pb), .val (.int pc_), .val (.int pn), .val (.int c0), .val (.int c1), .val (.int c2), .val (.int ((1 : Int32) + ((pn &&& (2147483647 : Int32)) % (3 : Int32)))), .val (.ref b39), .val (.ref b44), .val (.ref b47), .val (.ref u58)] [(.ref b47), (.ref b44)])) (fun t k => ?_) ?_
      · show Steps p.tables e below (T61.setTop (mkF m 125 #[.val (.int pa), .val (.int pb), .val (.int pc_), .val (.int pn), .val (.int c0), .val (.int c1), .val (.int c2), .val (.int ((1 : Int32) + ((pn &&& (2147483647 : Int32)) % (3 : Int32)))), .val (.ref b39), .val (.ref b44), .val (.ref b47), .val (.ref u58)] [(.ref b44)])) t
        refine XS.aload X61.here hx rfl (hb hby at_125) rfl rfl ?_
        exact k
      have f62 := f54.keep Kc58
      have f63 := f55.keep Kc58 nin0
      have f64 := f56.keep Kc58 nin0
      have f65 := f57.keep Kc58 nin0
      have f66 := f60.keep Kc58
      have f67 := Fv51.keep Kc58 nin0
      have f68 := Fo51.keep Kc58 nin0
      have f69 := Vc51.keep Kc58 nin0
      obtain ⟨cq70, kq70, q70a, q70b, q70c⟩ := isOf hZ58 e61 f62
      obtain ⟨_, _, ⟨T70, L70, c70, n70⟩, -, X70, ⟨Lc70, hQ70, l70, y70, z70⟩, st70⟩ := X61.virtualBack hx (y := (⟨"java/lang/String", "equals", "(Ljava/lang/Object;)Z"⟩ : MethodName)) (z := (⟨"java/lang/String", "equals", "(Ljava/lang/Object;)Z"⟩ : MethodName)) ho58 (mvT hZ58 (hw _ (List.mem_of_getElem? (i := 114) rfl))) (mvT hZ58 (hw _ (List.mem_of_getElem? (i := 115) rfl))) (notFace_of_selects (args := #[]) (mvT hZ58 (hw _ (List.mem_of_getElem? (i := 117) rfl)))) (mvT hZ58 (hw _ (List.mem_of_getElem? (i := 117) rfl))) (mvT hZ58 (hw _ (List.mem_of_getElem? (i := 116) rfl))) (by decide) (backOf (W := 0) (own_rm24_2 l Z a0 hw [] b44 t46 k46 (c0.toInt8.toInt32) (c1.toInt8.toInt32) b47 t51 k51 cs h58 n0 Z58 O58 f62 f63 f64 f65 f66 f67 f68 f69 ne_b44_b47 hcs S_cs) hZ58 (hw _ (List.mem_of_getElem? (i := 118) rfl)) (hw _ (List.mem_of_getElem? (i := 8) rfl)) (by decide) (by decide)) q70a q70c (g := (mkF m 127 #[.val (.int pa), .val (.int pb), .val (.int pc_), .val (.int pn), .val (.int c0), .val (.int c1), .val (.int c2), .val (.int ((1 : Int32) + ((pn &&& (2147483647 : Int32)) % (3 : Int32)))), .val (.ref b39), .val (.ref b44), .val (.ref b47), .val (.ref u58)] [(.ref b47), (.ref b44)])) rfl (by rw [hml]; rfl) (Steps.refl _) (argsL := [(.ref b47)]) (rest := []) (lenOf own_pd19 rfl) rfl (by show 2 * 0 + _ ≤ _; exact Nat.le_of_eq rfl) (hb hby at_127) (fun _ _ => ⟨rfl, e61, (by decide : 9 + 0 ≤ _), (by decide : 41 + 0 ≤ _)⟩)
      dsimp only [Pt.U, Pt.locs, Pt.cells, Pt.slots] at X70 l70 y70 z70 st70 hQ70
      subst l70 y70 z70
      obtain ⟨rfl, N70q, e70⟩ := hQ70
      have N70 := Fr.app N61 N70q
      refine own_tr (T' := T70) (g' := (mkF m 130 #[.val (.int pa), .val (.int pb), .val (.int pc_), .val (.int pn), .val (.int c0), .val (.int c1), .val (.int c2), .val (.int ((1 : Int32) + ((pn &&& (2147483647 : Int32)) % (3 : Int32)))), .val (.ref b39), .val (.ref b44), .val (.ref b47), .val (.ref u58)] [(.int (1 : Int32))])) st70 ?_
      refine own_st (T' := T70) (g' := (mkF m 135 #[.val (.int pa), .val (.int pb), .val (.int pc_), .val (.int pn), .val (.int c0), .val (.int c1), .val (.int c2), .val (.int ((1 : Int32) + ((pn &&& (2147483647 : Int32)) % (3 : Int32)))), .val (.ref b39), .val (.ref b44), .val (.ref b47), .val (.ref u58)] [(.ref u58)])) (fun t k => ?_) ?_
      · show Steps p.tables e below (T70.setTop (mkF m 130 #[.val (.int pa), .val (.int pb), .val (.int pc_), .val (.int pn), .val (.int c0), .val (.int c1), .val (.int c2), .val (.int ((1 : Int32) + ((pn &&& (2147483647 : Int32)) % (3 : Int32)))), .val (.ref b39), .val (.ref b44), .val (.ref b47), .val (.ref u58)] [(.int (1 : Int32))])) t
        refine XS.ifNo X70.here hx rfl (hb hby at_130) rfl ((if0 _ _).trans (feq (by decide : ¬ ((1 : Int32) = (0 : Int32)))).1) ?_
        refine XS.aload X70.here hx rfl (hb hby at_133) rfl rfl ?_
        exact k
      obtain ⟨cq71, kq71, q71a, q71b, q71c⟩ := isOf hZ58 e70 Ec58
      obtain ⟨_, _, ⟨T71, L71, c71, n71⟩, -, X71, ⟨Lc71, hQ71, l71, y71, z71⟩, st71⟩ := X70.virtualBack hx (y := (⟨"com/example/operation_tracker/operationtracker/model/TaskId", "toString", "()Ljava/lang/String;"⟩ : MethodName)) (z := (⟨"com/example/operation_tracker/operationtracker/model/TaskId", "toString", "()Ljava/lang/String;"⟩ : MethodName)) ho58 (mvT hZ58 (hw _ (List.mem_of_getElem? (i := 109) rfl))) (mvT hZ58 (hw _ (List.mem_of_getElem? (i := 110) rfl))) (notFace_of_selects (args := #[]) (mvT hZ58 (hw _ (List.mem_of_getElem? (i := 112) rfl)))) (mvT hZ58 (hw _ (List.mem_of_getElem? (i := 112) rfl))) (mvT hZ58 (hw _ (List.mem_of_getElem? (i := 111) rfl))) (by decide) (backOf (W := 0) (own_rm23 l Z a0 hw [] u58 (.ref b44) h58 n0 Z58 rfl Fd58) hZ58 (hw _ (List.mem_of_getElem? (i := 113) rfl)) (hw _ (List.mem_of_getElem? (i := 37) rfl)) (by decide) (by decide)) q71a q71c (g := (mkF m 135 #[.val (.int pa), .val (.int pb), .val (.int pc_), .val (.int pn), .val (.int c0), .val (.int c1), .val (.int c2), .val (.int ((1 : Int32) + ((pn &&& (2147483647 : Int32)) % (3 : Int32)))), .val (.ref b39), .val (.ref b44), .val (.ref b47), .val (.ref u58)] [(.ref u58)])) rfl (by rw [hml]; rfl) (Steps.refl _) (argsL := []) (rest := []) (lenOf own_pd18 rfl) rfl (by show 2 * 0 + _ ≤ _; exact Nat.le_of_eq rfl) (hb hby at_135) (fun _ _ => ⟨rfl, e70, (by decide : 9 + 0 ≤ _), (by decide : 41 + 0 ≤ _)⟩)
      dsimp only [Pt.U, Pt.locs, Pt.cells, Pt.slots] at X71 l71 y71 z71 st71 hQ71
      subst l71 y71 z71
      obtain ⟨rfl, N71q, e71⟩ := hQ71
      have N71 := Fr.app N70 N71q
      refine own_tr (T' := T71) (g' := (mkF m 138 #[.val (.int pa), .val (.int pb), .val (.int pc_), .val (.int pn), .val (.int c0), .val (.int c1), .val (.int c2), .val (.int ((1 : Int32) + ((pn &&& (2147483647 : Int32)) % (3 : Int32)))), .val (.ref b39), .val (.ref b44), .val (.ref b47), .val (.ref u58)] [(.ref b44)])) st71 ?_
      obtain ⟨cq72, kq72, q72a, q72b, q72c⟩ := isOf hZ58 e71 f62
      obtain ⟨_, _, ⟨T72, L72, c72, n72⟩, -, X72, ⟨Lc72, hQ72, l72, y72, z72⟩, st72⟩ := X71.virtualBack hx (y := (⟨"java/lang/String", "length", "()I"⟩ : MethodName)) (z := (⟨"java/lang/String", "length", "()I"⟩ : MethodName)) ho58 (mvT hZ58 (hw _ (List.mem_of_getElem? (i := 123) rfl))) (mvT hZ58 (hw _ (List.mem_of_getElem? (i := 70) rfl))) (notFace_of_selects (args := #[]) (mvT hZ58 (hw _ (List.mem_of_getElem? (i := 72) rfl)))) (mvT hZ58 (hw _ (List.mem_of_getElem? (i := 72) rfl))) (mvT hZ58 (hw _ (List.mem_of_getElem? (i := 71) rfl))) (by decide) (backOf (W := 0) (own_rm15_0_2 l Z a0 hw [] b44 t46 k46 (c0.toInt8.toInt32) (c1.toInt8.toInt32)  cs h58 n0 Z58 O58 f62 f63 f64 f65  hcs S_cs) hZ58 (hw _ (List.mem_of_getElem? (i := 73) rfl)) (hw _ (List.mem_of_getElem? (i := 8) rfl)) (by decide) (by decide)) q72a q72c (g := (mkF m 138 #[.val (.int pa), .val (.int pb), .val (.int pc_), .val (.int pn), .val (.int c0), .val (.int c1), .val (.int c2), .val (.int ((1 : Int32) + ((pn &&& (2147483647 : Int32)) % (3 : Int32)))), .val (.ref b39), .val (.ref b44), .val (.ref b47), .val (.ref u58)] [(.ref b44)])) rfl (by rw [hml]; rfl) (Steps.refl _) (argsL := []) (rest := []) (lenOf own_pd9 rfl) rfl (by show 2 * 0 + _ ≤ _; exact Nat.le_of_eq rfl) (hb hby at_138) (fun _ _ => ⟨rfl, e71, (by decide : 9 + 0 ≤ _), (by decide : 41 + 0 ≤ _)⟩)
      dsimp only [Pt.U, Pt.locs, Pt.cells, Pt.slots] at X72 l72 y72 z72 st72 hQ72
      subst l72 y72 z72
      obtain ⟨rfl, N72q, e72⟩ := hQ72
      have N72 := Fr.app N71 N72q
      refine own_tr (T' := T72) (g' := (mkF m 141 #[.val (.int pa), .val (.int pb), .val (.int pc_), .val (.int pn), .val (.int c0), .val (.int c1), .val (.int c2), .val (.int ((1 : Int32) + ((pn &&& (2147483647 : Int32)) % (3 : Int32)))), .val (.ref b39), .val (.ref b44), .val (.ref b47), .val (.ref u58)] [(.int (2 : Int32))])) st72 ?_
      refine own_st (T' := T72) (g' := (mkF m 148 #[.val (.int pa), .val (.int pb), .val (.int pc_), .val (.int pn), .val (.int c0), .val (.int c1), .val (.int c2), .val (.int ((1 : Int32) + ((pn &&& (2147483647 : Int32)) % (3 : Int32)))), .val (.ref b39), .val (.ref b44), .val (.ref b47), .val (.ref u58)] [(.ref u58)])) (fun t k => ?_) ?_
      · show Steps p.tables e below (T72.setTop (mkF m 141 #[.val (.int pa), .val (.int pb), .val (.int pc_), .val (.int pn), .val (.int c0), .val (.int c1), .val (.int c2), .val (.int ((1 : Int32) + ((pn &&& (2147483647 : Int32)) % (3 : Int32)))), .val (.ref b39), .val (.ref b44), .val (.ref b47), .val (.ref u58)] [(.int (2 : Int32))])) t
        refine XS.iload X72.here hx rfl (hb hby at_141) rfl ?_
        refine XS.icmpNo X72.here hx rfl (hb hby at_143) rfl (teq hE).2 ?_
        refine XS.aload X72.here hx rfl (hb hby at_146) rfl rfl ?_
        exact k
      obtain ⟨cq73, kq73, q73a, q73b, q73c⟩ := isOf hZ58 e72 Ec58
      obtain ⟨_, _, ⟨T73, L73, c73, n73⟩, -, X73, ⟨Lc73, hQ73, l73, y73, z73⟩, st73⟩ := X72.virtualBack hx (y := (⟨"com/example/operation_tracker/operationtracker/model/TaskId", "jobId", "()Ljava/lang/String;"⟩ : MethodName)) (z := (⟨"com/example/operation_tracker/operationtracker/model/TaskId", "jobId", "()Ljava/lang/String;"⟩ : MethodName)) ho58 (mvT hZ58 (hw _ (List.mem_of_getElem? (i := 124) rfl))) (mvT hZ58 (hw _ (List.mem_of_getElem? (i := 125) rfl))) (notFace_of_selects (args := #[]) (mvT hZ58 (hw _ (List.mem_of_getElem? (i := 127) rfl)))) (mvT hZ58 (hw _ (List.mem_of_getElem? (i := 127) rfl))) (mvT hZ58 (hw _ (List.mem_of_getElem? (i := 126) rfl))) (by decide) (backOf (W := 0) (own_rm26 l Z a0 hw [] u58 (.ref b44) h58 n0 Z58 rfl Fa58) hZ58 (hw _ (List.mem_of_getElem? (i := 128) rfl)) (hw _ (List.mem_of_getElem? (i := 37) rfl)) (by decide) (by decide)) q73a q73c (g := (mkF m 148 #[.val (.int pa), .val (.int pb), .val (.int pc_), .val (.int pn), .val (.int c0), .val (.int c1), .val (.int c2), .val (.int ((1 : Int32) + ((pn &&& (2147483647 : Int32)) % (3 : Int32)))), .val (.ref b39), .val (.ref b44), .val (.ref b47), .val (.ref u58)] [(.ref u58)])) rfl (by rw [hml]; rfl) (Steps.refl _) (argsL := []) (rest := []) (lenOf own_pd18 rfl) rfl (by show 2 * 0 + _ ≤ _; exact Nat.le_of_eq rfl) (hb hby at_148) (fun _ _ => ⟨rfl, e72, (by decide : 9 + 0 ≤ _), (by decide : 41 + 0 ≤ _)⟩)
      dsimp only [Pt.U, Pt.locs, Pt.cells, Pt.slots] at X73 l73 y73 z73 st73 hQ73
      subst l73 y73 z73
      obtain ⟨rfl, N73q, e73⟩ := hQ73
      have N73 := Fr.app N72 N73q
      refine own_tr (T' := T73) (g' := (mkF m 151 #[.val (.int pa), .val (.int pb), .val (.int pc_), .val (.int pn), .val (.int c0), .val (.int c1), .val (.int c2), .val (.int ((1 : Int32) + ((pn &&& (2147483647 : Int32)) % (3 : Int32)))), .val (.ref b39), .val (.ref b44), .val (.ref b47), .val (.ref u58)] [(.ref b44)])) st73 ?_
      refine own_st (T' := T73) (g' := (mkF m 153 #[.val (.int pa), .val (.int pb), .val (.int pc_), .val (.int pn), .val (.int c0), .val (.int c1), .val (.int c2), .val (.int ((1 : Int32) + ((pn &&& (2147483647 : Int32)) % (3 : Int32)))), .val (.ref b39), .val (.ref b44), .val (.ref b47), .val (.ref u58)] [(.ref b47), (.ref b44)])) (fun t k => ?_) ?_
      · show Steps p.tables e below (T73.setTop (mkF m 151 #[.val (.int pa), .val (.int pb), .val (.int pc_), .val (.int pn), .val (.int c0), .val (.int c1), .val (.int c2), .val (.int ((1 : Int32) + ((pn &&& (2147483647 : Int32)) % (3 : Int32)))), .val (.ref b39), .val (.ref b44), .val (.ref b47), .val (.ref u58)] [(.ref b44)])) t
        refine XS.aload X73.here hx rfl (hb hby at_151) rfl rfl ?_
        exact k
      obtain ⟨cq74, kq74, q74a, q74b, q74c⟩ := isOf hZ58 e73 f62
      obtain ⟨_, _, ⟨T74, L74, c74, n74⟩, -, X74, ⟨Lc74, hQ74, l74, y74, z74⟩, st74⟩ := X73.virtualBack hx (y := (⟨"java/lang/String", "equals", "(Ljava/lang/Object;)Z"⟩ : MethodName)) (z := (⟨"java/lang/String", "equals", "(Ljava/lang/Object;)Z"⟩ : MethodName)) ho58 (mvT hZ58 (hw _ (List.mem_of_getElem? (i := 114) rfl))) (mvT hZ58 (hw _ (List.mem_of_getElem? (i := 115) rfl))) (notFace_of_selects (args := #[]) (mvT hZ58 (hw _ (List.mem_of_getElem? (i := 117) rfl)))) (mvT hZ58 (hw _ (List.mem_of_getElem? (i := 117) rfl))) (mvT hZ58 (hw _ (List.mem_of_getElem? (i := 116) rfl))) (by decide) (backOf (W := 0) (own_rm24_2 l Z a0 hw [] b44 t46 k46 (c0.toInt8.toInt32) (c1.toInt8.toInt32) b47 t51 k51 cs h58 n0 Z58 O58 f62 f63 f64 f65 f66 f67 f68 f69 ne_b44_b47 hcs S_cs) hZ58 (hw _ (List.mem_of_getElem? (i := 118) rfl)) (hw _ (List.mem_of_getElem? (i := 8) rfl)) (by decide) (by decide)) q74a q74c (g := (mkF m 153 #[.val (.int pa), .val (.int pb), .val (.int pc_), .val (.int pn), .val (.int c0), .val (.int c1), .val (.int c2), .val (.int ((1 : Int32) + ((pn &&& (2147483647 : Int32)) % (3 : Int32)))), .val (.ref b39), .val (.ref b44), .val (.ref b47), .val (.ref u58)] [(.ref b47), (.ref b44)])) rfl (by rw [hml]; rfl) (Steps.refl _) (argsL := [(.ref b47)]) (rest := []) (lenOf own_pd19 rfl) rfl (by show 2 * 0 + _ ≤ _; exact Nat.le_of_eq rfl) (hb hby at_153) (fun _ _ => ⟨rfl, e73, (by decide : 9 + 0 ≤ _), (by decide : 41 + 0 ≤ _)⟩)
      dsimp only [Pt.U, Pt.locs, Pt.cells, Pt.slots] at X74 l74 y74 z74 st74 hQ74
      subst l74 y74 z74
      obtain ⟨rfl, N74q, e74⟩ := hQ74
      have N74 := Fr.app N73 N74q
      refine own_tr (T' := T74) (g' := (mkF m 156 #[.val (.int pa), .val (.int pb), .val (.int pc_), .val (.int pn), .val (.int c0), .val (.int c1), .val (.int c2), .val (.int ((1 : Int32) + ((pn &&& (2147483647 : Int32)) % (3 : Int32)))), .val (.ref b39), .val (.ref b44), .val (.ref b47), .val (.ref u58)] [(.int (1 : Int32))])) st74 ?_
      refine own_st (T' := T74) (g' := (mkF m 161 #[.val (.int pa), .val (.int pb), .val (.int pc_), .val (.int pn), .val (.int c0), .val (.int c1), .val (.int c2), .val (.int ((1 : Int32) + ((pn &&& (2147483647 : Int32)) % (3 : Int32)))), .val (.ref b39), .val (.ref b44), .val (.ref b47), .val (.ref u58)] [(.ref u58)])) (fun t k => ?_) ?_
      · show Steps p.tables e below (T74.setTop (mkF m 156 #[.val (.int pa), .val (.int pb), .val (.int pc_), .val (.int pn), .val (.int c0), .val (.int c1), .val (.int c2), .val (.int ((1 : Int32) + ((pn &&& (2147483647 : Int32)) % (3 : Int32)))), .val (.ref b39), .val (.ref b44), .val (.ref b47), .val (.ref u58)] [(.int (1 : Int32))])) t
        refine XS.ifNo X74.here hx rfl (hb hby at_156) rfl ((if0 _ _).trans (feq (by decide : ¬ ((1 : Int32) = (0 : Int32)))).1) ?_
        refine XS.aload X74.here hx rfl (hb hby at_159) rfl rfl ?_
        exact k
      obtain ⟨cq75, kq75, q75a, q75b, q75c⟩ := isOf hZ58 e74 Ec58
      obtain ⟨_, _, ⟨T75, L75, c75, n75⟩, -, X75, ⟨Lc75, hQ75, l75, y75, z75⟩, st75⟩ := X74.virtualBack hx (y := (⟨"com/example/operation_tracker/operationtracker/model/TaskId", "depth", "()I"⟩ : MethodName)) (z := (⟨"com/example/operation_tracker/operationtracker/model/TaskId", "depth", "()I"⟩ : MethodName)) ho58 (mvT hZ58 (hw _ (List.mem_of_getElem? (i := 129) rfl))) (mvT hZ58 (hw _ (List.mem_of_getElem? (i := 130) rfl))) (notFace_of_selects (args := #[]) (mvT hZ58 (hw _ (List.mem_of_getElem? (i := 132) rfl)))) (mvT hZ58 (hw _ (List.mem_of_getElem? (i := 132) rfl))) (mvT hZ58 (hw _ (List.mem_of_getElem? (i := 131) rfl))) (by decide) (backOf (W := 0) (own_rm27 l Z a0 hw [] u58 y_58 k58 h58 n0 Z58 Fb58 Vc58) hZ58 (hw _ (List.mem_of_getElem? (i := 133) rfl)) (hw _ (List.mem_of_getElem? (i := 37) rfl)) (by decide) (by decide)) q75a q75c (g := (mkF m 161 #[.val (.int pa), .val (.int pb), .val (.int pc_), .val (.int pn), .val (.int c0), .val (.int c1), .val (.int c2), .val (.int ((1 : Int32) + ((pn &&& (2147483647 : Int32)) % (3 : Int32)))), .val (.ref b39), .val (.ref b44), .val (.ref b47), .val (.ref u58)] [(.ref u58)])) rfl (by rw [hml]; rfl) (Steps.refl _) (argsL := []) (rest := []) (lenOf own_pd9 rfl) rfl (by show 2 * 0 + _ ≤ _; exact Nat.le_of_eq rfl) (hb hby at_161) (fun _ _ => ⟨rfl, e74, (by decide : 9 + 0 ≤ _), (by decide : 41 + 0 ≤ _)⟩)
      dsimp only [Pt.U, Pt.locs, Pt.cells, Pt.slots] at X75 l75 y75 z75 st75 hQ75
      subst l75 y75 z75
      obtain ⟨rfl, N75q, e75⟩ := hQ75
      have N75 := Fr.app N74 N75q
      refine own_tr (T' := T75) (g' := (mkF m 164 #[.val (.int pa), .val (.int pb), .val (.int pc_), .val (.int pn), .val (.int c0), .val (.int c1), .val (.int c2), .val (.int ((1 : Int32) + ((pn &&& (2147483647 : Int32)) % (3 : Int32)))), .val (.ref b39), .val (.ref b44), .val (.ref b47), .val (.ref u58)] [(.int (0 : Int32))])) st75 ?_
      refine own_st (T' := T75) (g' := (mkF m 172 #[.val (.int pa), .val (.int pb), .val (.int pc_), .val (.int pn), .val (.int c0), .val (.int c1), .val (.int c2), .val (.int ((1 : Int32) + ((pn &&& (2147483647 : Int32)) % (3 : Int32)))), .val (.ref b39), .val (.ref b44), .val (.ref b47), .val (.ref u58)] [(.int (1 : Int32))])) (fun t k => ?_) ?_
      · show Steps p.tables e below (T75.setTop (mkF m 164 #[.val (.int pa), .val (.int pb), .val (.int pc_), .val (.int pn), .val (.int c0), .val (.int c1), .val (.int c2), .val (.int ((1 : Int32) + ((pn &&& (2147483647 : Int32)) % (3 : Int32)))), .val (.ref b39), .val (.ref b44), .val (.ref b47), .val (.ref u58)] [(.int (0 : Int32))])) t
        refine XS.ifNo X75.here hx rfl (hb hby at_164) rfl ((if0 _ _).trans (teq (rfl : (0 : Int32) = (0 : Int32))).2) ?_
        refine XS.iconst X75.here hx rfl (hb hby at_167) ?_
        refine XS.goto X75.here hx rfl (pc0 := 168) (pc' := 172) rfl (hb hby at_168) (by decide) (by decide) ?_
        exact k
      exact own_retNW X75 hx Bd (t := .boolean) (by simp) rfl (hb hby at_172) e75 (⟨rfl, N75⟩) hS58 hk58 (by decide) (by decide)
    · refine own_st (T' := T3) (g' := (mkF m 71 #[.val (.int pa), .val (.int pb), .val (.int pc_), .val (.int pn), .val (.int c0), .val (.int c1), .val (.int c2), .val (.int ((1 : Int32) + ((pn &&& (2147483647 : Int32)) % (3 : Int32)))), .unset, .unset, .unset, .unset] [])) (fun t k => ?_) ?_
      · show Steps p.tables e below (T3.setTop (mkF m 50 #[.val (.int pa), .val (.int pb), .val (.int pc_), .val (.int pn), .val (.int c0), .val (.int c1), .val (.int c2), .val (.int ((1 : Int32) + ((pn &&& (2147483647 : Int32)) % (3 : Int32)))), .unset, .unset, .unset, .unset] [(.int (2 : Int32)), (.int ((1 : Int32) + ((pn &&& (2147483647 : Int32)) % (3 : Int32))))])) t
        refine XS.icmpYes X3.here hx rfl (pc0 := 50) (pc' := 71) rfl (hb hby at_50) rfl (feq h2).2 (by decide) (by decide) ?_
        exact k
      have hE := (own_len3 h1 h2).symm
      refine own_st (T' := T3) (g' := (mkF m 72 #[.val (.int pa), .val (.int pb), .val (.int pc_), .val (.int pn), .val (.int c0), .val (.int c1), .val (.int c2), .val (.int ((1 : Int32) + ((pn &&& (2147483647 : Int32)) % (3 : Int32)))), .unset, .unset, .unset, .unset] [(.int (3 : Int32))])) (fun t k => ?_) ?_
      · show Steps p.tables e below (T3.setTop (mkF m 71 #[.val (.int pa), .val (.int pb), .val (.int pc_), .val (.int pn), .val (.int c0), .val (.int c1), .val (.int c2), .val (.int ((1 : Int32) + ((pn &&& (2147483647 : Int32)) % (3 : Int32)))), .unset, .unset, .unset, .unset] [])) t
        refine XS.iconst X3.here hx rfl (hb hby at_71) ?_
        exact k
      obtain ⟨T76, h76, k76, X76, e76, E76, A76, st76⟩ := newP X3 hx hZ0 (hw _ (List.mem_of_getElem? (i := 5) rfl)) e3 (g := (mkF m 72 #[.val (.int pa), .val (.int pb), .val (.int pc_), .val (.int pn), .val (.int c0), .val (.int c1), .val (.int c2), .val (.int ((1 : Int32) + ((pn &&& (2147483647 : Int32)) % (3 : Int32)))), .unset, .unset, .unset, .unset] [(.int (3 : Int32))])) rfl (hb hby at_72) rfl (by decide) (cap := 3) (by decide) (by decide) (by decide) (by decide)
      obtain ⟨b76, g76⟩ : ∃ z, z = h0.size := ⟨_, rfl⟩
      rw [← g76] at A76 st76
      have sz76 : h0.size ≤ b76 := Nat.le_of_eq g76.symm
      have g_b76 : n0 ≤ b76 := Nat.le_trans Z0 sz76
      have hz_b76 : h0.size ≤ b76 := Nat.le_trans (Keep.refl h0 []).1 sz76
      have K76 : Keep h0 h76 [] := (Keep.refl h0 []).ext E76
      have Z76 : n0 ≤ h76.size := Nat.le_trans Z0 E76.1
      have O76 := O0.ext E76
      have hk76 := Nat.le_trans (Nat.le_refl _) E76.1
      have V76 : Arv Z h76 b76 k76 .char (3 : Int32) [(.int (0 : Int32)), (.int (0 : Int32)), (.int (0 : Int32))] (.int (0 : Int32)) := (Arv.new A76 (by decide)).pad (pad_rep [] (.int (0 : Int32)) 3)
      refine own_st (T' := T76) (g' := (mkF m 74 #[.val (.int pa), .val (.int pb), .val (.int pc_), .val (.int pn), .val (.int c0), .val (.int c1), .val (.int c2), .val (.int ((1 : Int32) + ((pn &&& (2147483647 : Int32)) % (3 : Int32)))), .unset, .unset, .unset, .unset] [(.ref b76)])) st76 ?_
      refine own_st (T' := T76) (g' := (mkF m 78 #[.val (.int pa), .val (.int pb), .val (.int pc_), .val (.int pn), .val (.int c0), .val (.int c1), .val (.int c2), .val (.int ((1 : Int32) + ((pn &&& (2147483647 : Int32)) % (3 : Int32)))), .unset, .unset, .unset, .unset] [(.int c0), (.int (0 : Int32)), (.ref b76), (.ref b76)])) (fun t k => ?_) ?_
      · show Steps p.tables e below (T76.setTop (mkF m 74 #[.val (.int pa), .val (.int pb), .val (.int pc_), .val (.int pn), .val (.int c0), .val (.int c1), .val (.int c2), .val (.int ((1 : Int32) + ((pn &&& (2147483647 : Int32)) % (3 : Int32)))), .unset, .unset, .unset, .unset] [(.ref b76)])) t
        refine XS.dup X76.here hx rfl (hb hby at_74) rfl rfl ?_
        refine XS.iconst X76.here hx rfl (hb hby at_75) ?_
        refine XS.iload X76.here hx rfl (hb hby at_76) rfl ?_
        exact k
      obtain ⟨cl77, Ar77, q77, S77, M77, H77, G77⟩ := id V76
      obtain ⟨T78, h78, X78, e78, W78, st78⟩ := stC X76 hx hZ0 e76 Ar77 (j := (0 : Int32)) (inb_of S77 ⟨by decide, by decide⟩) (g := (mkF m 78 #[.val (.int pa), .val (.int pb), .val (.int pc_), .val (.int pn), .val (.int c0), .val (.int c1), .val (.int c2), .val (.int ((1 : Int32) + ((pn &&& (2147483647 : Int32)) % (3 : Int32)))), .unset, .unset, .unset, .unset] [(.int c0), (.int (0 : Int32)), (.ref b76), (.ref b76)])) rfl rfl (hb hby at_78)
      have N78 := Fr.snoc X78 N3 g_b76
      have K78 : Keep h0 h78 [] := K76.wr W78 (Or.inr hz_b76)
      have Z78 : n0 ≤ h78.size := Nat.le_trans Z76 (Keep.of_wr W78).1
      have O78 := O76.wr W78 g_b76
      have hk78 := Nat.le_trans hk76 (Keep.of_wr W78).1
      have fw78 := (show Arv Z h78 b76 k76 .char (3 : Int32) [(.int c0), (.int (0 : Int32)), (.int (0 : Int32))] (.int (0 : Int32)) by have q : Arv Z h78 b76 k76 .char (3 : Int32) [(.int (c0.toUInt32.toUInt16.toUInt32.toInt32)), (.int (0 : Int32)), (.int (0 : Int32))] (.int (0 : Int32)) := Arv.set Ar77 q77 S77 M77 H77 G77 (fits_nar_char _) W78 0 rfl (Nat.le_of_ble_eq_true rfl); rw [own_dr_id hd0] at q; exact q)
      refine own_st (T' := T78) (g' := (mkF m 79 #[.val (.int pa), .val (.int pb), .val (.int pc_), .val (.int pn), .val (.int c0), .val (.int c1), .val (.int c2), .val (.int ((1 : Int32) + ((pn &&& (2147483647 : Int32)) % (3 : Int32)))), .unset, .unset, .unset, .unset] [(.ref b76)])) st78 ?_
      refine own_st (T' := T78) (g' := (mkF m 83 #[.val (.int pa), .val (.int pb), .val (.int pc_), .val (.int pn), .val (.int c0), .val (.int c1), .val (.int c2), .val (.int ((1 : Int32) + ((pn &&& (2147483647 : Int32)) % (3 : Int32)))), .unset, .unset, .unset, .unset] [(.int c1), (.int (1 : Int32)), (.ref b76), (.ref b76)])) (fun t k => ?_) ?_
      · show Steps p.tables e below (T78.setTop (mkF m 79 #[.val (.int pa), .val (.int pb), .val (.int pc_), .val (.int pn), .val (.int c0), .val (.int c1), .val (.int c2), .val (.int ((1 : Int32) + ((pn &&& (2147483647 : Int32)) % (3 : Int32)))), .unset, .unset, .unset, .unset] [(.ref b76)])) t
        refine XS.dup X78.here hx rfl (hb hby at_79) rfl rfl ?_
        refine XS.iconst X78.here hx rfl (hb hby at_80) ?_
        refine XS.iload X78.here hx rfl (hb hby at_81) rfl ?_
        exact k
      obtain ⟨cl79, Ar79, q79, S79, M79, H79, G79⟩ := id fw78
      obtain ⟨T80, h80, X80, e80, W80, st80⟩ := stC X78 hx hZ0 e78 Ar79 (j := (1 : Int32)) (inb_of S79 ⟨by decide, by decide⟩) (g := (mkF m 83 #[.val (.int pa), .val (.int pb), .val (.int pc_), .val (.int pn), .val (.int c0), .val (.int c1), .val (.int c2), .val (.int ((1 : Int32) + ((pn &&& (2147483647 : Int32)) % (3 : Int32)))), .unset, .unset, .unset, .unset] [(.int c1), (.int (1 : Int32)), (.ref b76), (.ref b76)])) rfl rfl (hb hby at_83)
      have N80 := Fr.snoc X80 N78 g_b76
      have K80 : Keep h0 h80 [] := K78.wr W80 (Or.inr hz_b76)
      have Z80 : n0 ≤ h80.size := Nat.le_trans Z78 (Keep.of_wr W80).1
      have O80 := O78.wr W80 g_b76
      have hk80 := Nat.le_trans hk78 (Keep.of_wr W80).1
      have fw80 := (show Arv Z h80 b76 k76 .char (3 : Int32) [(.int c0), (.int c1), (.int (0 : Int32))] (.int (0 : Int32)) by have q : Arv Z h80 b76 k76 .char (3 : Int32) [(.int c0), (.int (c1.toUInt32.toUInt16.toUInt32.toInt32)), (.int (0 : Int32))] (.int (0 : Int32)) := Arv.set Ar79 q79 S79 M79 H79 G79 (fits_nar_char _) W80 1 rfl (Nat.le_of_ble_eq_true rfl); rw [own_dr_id hd1] at q; exact q)
      refine own_st (T' := T80) (g' := (mkF m 84 #[.val (.int pa), .val (.int pb), .val (.int pc_), .val (.int pn), .val (.int c0), .val (.int c1), .val (.int c2), .val (.int ((1 : Int32) + ((pn &&& (2147483647 : Int32)) % (3 : Int32)))), .unset, .unset, .unset, .unset] [(.ref b76)])) st80 ?_
      refine own_st (T' := T80) (g' := (mkF m 88 #[.val (.int pa), .val (.int pb), .val (.int pc_), .val (.int pn), .val (.int c0), .val (.int c1), .val (.int c2), .val (.int ((1 : Int32) + ((pn &&& (2147483647 : Int32)) % (3 : Int32)))), .unset, .unset, .unset, .unset] [(.int c2), (.int (2 : Int32)), (.ref b76), (.ref b76)])) (fun t k => ?_) ?_
      · show Steps p.tables e below (T80.setTop (mkF m 84 #[.val (.int pa), .val (.int pb), .val (.int pc_), .val (.int pn), .val (.int c0), .val (.int c1), .val (.int c2), .val (.int ((1 : Int32) + ((pn &&& (2147483647 : Int32)) % (3 : Int32)))), .unset, .unset, .unset, .unset] [(.ref b76)])) t
        refine XS.dup X80.here hx rfl (hb hby at_84) rfl rfl ?_
        refine XS.iconst X80.here hx rfl (hb hby at_85) ?_
        refine XS.iload X80.here hx rfl (hb hby at_86) rfl ?_
        exact k
      obtain ⟨cl81, Ar81, q81, S81, M81, H81, G81⟩ := id fw80
      obtain ⟨T82, h82, X82, e82, W82, st82⟩ := stC X80 hx hZ0 e80 Ar81 (j := (2 : Int32)) (inb_of S81 ⟨by decide, by decide⟩) (g := (mkF m 88 #[.val (.int pa), .val (.int pb), .val (.int pc_), .val (.int pn), .val (.int c0), .val (.int c1), .val (.int c2), .val (.int ((1 : Int32) + ((pn &&& (2147483647 : Int32)) % (3 : Int32)))), .unset, .unset, .unset, .unset] [(.int c2), (.int (2 : Int32)), (.ref b76), (.ref b76)])) rfl rfl (hb hby at_88)
      have N82 := Fr.snoc X82 N80 g_b76
      have K82 : Keep h0 h82 [] := K80.wr W82 (Or.inr hz_b76)
      have Z82 : n0 ≤ h82.size := Nat.le_trans Z80 (Keep.of_wr W82).1
      have O82 := O80.wr W82 g_b76
      have hk82 := Nat.le_trans hk80 (Keep.of_wr W82).1
      have fw82 := (show Arv Z h82 b76 k76 .char (3 : Int32) [(.int c0), (.int c1), (.int c2)] (.int (0 : Int32)) by have q : Arv Z h82 b76 k76 .char (3 : Int32) [(.int c0), (.int c1), (.int (c2.toUInt32.toUInt16.toUInt32.toInt32))] (.int (0 : Int32)) := Arv.set Ar81 q81 S81 M81 H81 G81 (fits_nar_char _) W82 2 rfl (Nat.le_of_ble_eq_true rfl); rw [own_dr_id hd2] at q; exact q)
      refine own_st (T' := T82) (g' := (mkF m 89 #[.val (.int pa), .val (.int pb), .val (.int pc_), .val (.int pn), .val (.int c0), .val (.int c1), .val (.int c2), .val (.int ((1 : Int32) + ((pn &&& (2147483647 : Int32)) % (3 : Int32)))), .unset, .unset, .unset, .unset] [(.ref b76)])) st82 ?_
      refine own_st (T' := T82) (g' := (mkF m 91 #[.val (.int pa), .val (.int pb), .val (.int pc_), .val (.int pn), .val (.int c0), .val (.int c1), .val (.int c2), .val (.int ((1 : Int32) + ((pn &&& (2147483647 : Int32)) % (3 : Int32)))), .val (.ref b76), .unset, .unset, .unset] [])) (fun t k => ?_) ?_
      · show Steps p.tables e below (T82.setTop (mkF m 89 #[.val (.int pa), .val (.int pb), .val (.int pc_), .val (.int pn), .val (.int c0), .val (.int c1), .val (.int c2), .val (.int ((1 : Int32) + ((pn &&& (2147483647 : Int32)) % (3 : Int32)))), .unset, .unset, .unset, .unset] [(.ref b76)])) t
        refine XS.astore X82.here hx rfl (hb hby at_89) rfl rfl (l' := #[.val (.int pa), .val (.int pb), .val (.int pc_), .val (.int pn), .val (.int c0), .val (.int c1), .val (.int c2), .val (.int ((1 : Int32) + ((pn &&& (2147483647 : Int32)) % (3 : Int32)))), .val (.ref b76), .unset, .unset, .unset]) rfl ?_
        exact k
      obtain ⟨T83, h83, X83, e83, E83, A83, D83, U83, st83⟩ := newO X82 hx hZ0 ho0 (hw _ (List.mem_of_getElem? (i := 6) rfl)) (hw _ (List.mem_of_getElem? (i := 7) rfl)) (hw _ (List.mem_of_getElem? (i := 8) rfl)) e82 (g := (mkF m 91 #[.val (.int pa), .val (.int pb), .val (.int pc_), .val (.int pn), .val (.int c0), .val (.int c1), .val (.int c2), .val (.int ((1 : Int32) + ((pn &&& (2147483647 : Int32)) % (3 : Int32)))), .val (.ref b76), .unset, .unset, .unset] [])) rfl (hb hby at_91) (by decide) (by decide)
      obtain ⟨b83, g83⟩ : ∃ z, z = h82.size := ⟨_, rfl⟩
      rw [← g83] at A83 D83 U83 st83
      have sz83 : h82.size ≤ b83 := Nat.le_of_eq g83.symm
      have ne_b76_b83 : b76 ≠ b83 := Nat.ne_of_lt (Nat.lt_of_lt_of_le fw82.lt sz83)
      have g_b83 : n0 ≤ b83 := Nat.le_trans Z82 sz83
      have hz_b83 : h0.size ≤ b83 := Nat.le_trans K82.1 sz83
      have K83 : Keep h0 h83 [] := K82.ext E83
      have Z83 : n0 ≤ h83.size := Nat.le_trans Z82 E83.1
      have O83 := O82.ext E83
      have hk83 := Nat.le_trans hk82 E83.1
      refine own_st (T' := T83) (g' := (mkF m 94 #[.val (.int pa), .val (.int pb), .val (.int pc_), .val (.int pn), .val (.int c0), .val (.int c1), .val (.int c2), .val (.int ((1 : Int32) + ((pn &&& (2147483647 : Int32)) % (3 : Int32)))), .val (.ref b76), .unset, .unset, .unset] [(.ref b83)])) st83 ?_
      refine own_st (T' := T83) (g' := (mkF m 97 #[.val (.int pa), .val (.int pb), .val (.int pc_), .val (.int pn), .val (.int c0), .val (.int c1), .val (.int c2), .val (.int ((1 : Int32) + ((pn &&& (2147483647 : Int32)) % (3 : Int32)))), .val (.ref b76), .unset, .unset, .unset] [(.ref b76), (.ref b83), (.ref b83)])) (fun t k => ?_) ?_
      · show Steps p.tables e below (T83.setTop (mkF m 94 #[.val (.int pa), .val (.int pb), .val (.int pc_), .val (.int pn), .val (.int c0), .val (.int c1), .val (.int c2), .val (.int ((1 : Int32) + ((pn &&& (2147483647 : Int32)) % (3 : Int32)))), .val (.ref b76), .unset, .unset, .unset] [(.ref b83)])) t
        refine XS.dup X83.here hx rfl (hb hby at_94) rfl rfl ?_
        refine XS.aload X83.here hx rfl (hb hby at_95) rfl rfl ?_
        exact k
      have f84 := fw82.ext E83
      obtain ⟨_, _, ⟨T85, L85, c85, n85⟩, -, X85, ⟨Lc85, hQ85, l85, y85, z85⟩, st85⟩ := X83.specialBack hx (y := (⟨"java/lang/String", "<init>", "([C)V"⟩ : MethodName)) rfl ho0 (mvT hZ0 (hw _ (List.mem_of_getElem? (i := 9) rfl))) (mvT hZ0 (hw _ (List.mem_of_getElem? (i := 10) rfl))) (mvT hZ0 (hw _ (List.mem_of_getElem? (i := 11) rfl))) (by decide) (backOf (W := 1) (own_rm2_3 l Z a0 hw [] b83 b76 k76 c0 c1 c2 cs h83 n0 Z83 O83 A83 (D83 (Or.inr (hw _ (List.mem_of_getElem? (i := 34) rfl))) (ty := (.array .byte)) (by decide) : Fld Z h83 b83 "java/lang/String" "value" "[B" .null) (D83 (Or.inr (hw _ (List.mem_of_getElem? (i := 32) rfl))) (ty := .byte) (by decide) : Fld Z h83 b83 "java/lang/String" "coder" "B" (.int (0 : Int32))) g_b83 f84 (Ne.symm ne_b76_b83) (own_dr_l hd0) (own_dr_l hd1) (own_dr_l hd2) hcs S_cs) hZ0 (hw _ (List.mem_of_getElem? (i := 11) rfl)) (hw _ (List.mem_of_getElem? (i := 8) rfl)) (by decide) (by decide)) (g := (mkF m 97 #[.val (.int pa), .val (.int pb), .val (.int pc_), .val (.int pn), .val (.int c0), .val (.int c1), .val (.int c2), .val (.int ((1 : Int32) + ((pn &&& (2147483647 : Int32)) % (3 : Int32)))), .val (.ref b76), .unset, .unset, .unset] [(.ref b76), (.ref b83), (.ref b83)])) rfl (by rw [hml]; rfl) (Steps.refl _) (a := b83) (argsL := [(.ref b76)]) (rest := [(.ref b83)]) (lenOf own_pd16 rfl) rfl (by show 2 * 0 + _ ≤ _; exact Nat.le_of_eq rfl) (hb hby at_97) (fun _ _ => ⟨rfl, e83, (by decide : 2 + 1 ≤ _), (by decide : 7 + 3 ≤ _)⟩)
      dsimp only [Pt.U, Pt.locs, Pt.cells, Pt.slots] at X85 l85 y85 z85 st85 hQ85
      subst l85 y85 z85
      obtain ⟨h85, e85⟩ : ∃ z, T85.heap = z := ⟨_, rfl⟩
      rw [e85] at hQ85
      obtain ⟨t85, k85, rfl, N85q, Kc85, g85, hz85, Fv85, Fo85, Vc85⟩ := hQ85
      have N85 := Fr.app N82 N85q
      have ne_b76_t85 : b76 ≠ t85 := Nat.ne_of_lt (Nat.lt_of_lt_of_le f84.lt hz85)
      have ne_b83_t85 : b83 ≠ t85 := Nat.ne_of_lt (Nat.lt_of_lt_of_le A83.lt hz85)
      have hwt85 : h0.size ≤ t85 := Nat.le_trans K83.1 hz85
      have K85 : Keep h0 h85 [] := K83.trans Kc85 (allS (Or.inr hz_b83) all0)
      have Z85 : n0 ≤ h85.size := Nat.le_trans Z83 Kc85.1
      have O85 := O83.keep Kc85 (allS g_b83 all0)
      have hk85 := Nat.le_trans hk83 Kc85.1
      refine own_tr (T' := T85) (g' := (mkF m 100 #[.val (.int pa), .val (.int pb), .val (.int pc_), .val (.int pn), .val (.int c0), .val (.int c1), .val (.int c2), .val (.int ((1 : Int32) + ((pn &&& (2147483647 : Int32)) % (3 : Int32)))), .val (.ref b76), .unset, .unset, .unset] [(.ref b83)])) st85 ?_
      refine own_st (T' := T85) (g' := (mkF m 102 #[.val (.int pa), .val (.int pb), .val (.int pc_), .val (.int pn), .val (.int c0), .val (.int c1), .val (.int c2), .val (.int ((1 : Int32) + ((pn &&& (2147483647 : Int32)) % (3 : Int32)))), .val (.ref b76), .val (.ref b83), .unset, .unset] [])) (fun t k => ?_) ?_
      · show Steps p.tables e below (T85.setTop (mkF m 100 #[.val (.int pa), .val (.int pb), .val (.int pc_), .val (.int pn), .val (.int c0), .val (.int c1), .val (.int c2), .val (.int ((1 : Int32) + ((pn &&& (2147483647 : Int32)) % (3 : Int32)))), .val (.ref b76), .unset, .unset, .unset] [(.ref b83)])) t
        refine XS.astore X85.here hx rfl (hb hby at_100) rfl rfl (l' := #[.val (.int pa), .val (.int pb), .val (.int pc_), .val (.int pn), .val (.int c0), .val (.int c1), .val (.int c2), .val (.int ((1 : Int32) + ((pn &&& (2147483647 : Int32)) % (3 : Int32)))), .val (.ref b76), .val (.ref b83), .unset, .unset]) rfl ?_
        exact k
      obtain ⟨T86, h86, X86, e86, E86, A86, D86, U86, st86⟩ := newO X85 hx hZ0 ho0 (hw _ (List.mem_of_getElem? (i := 6) rfl)) (hw _ (List.mem_of_getElem? (i := 7) rfl)) (hw _ (List.mem_of_getElem? (i := 8) rfl)) e85 (g := (mkF m 102 #[.val (.int pa), .val (.int pb), .val (.int pc_), .val (.int pn), .val (.int c0), .val (.int c1), .val (.int c2), .val (.int ((1 : Int32) + ((pn &&& (2147483647 : Int32)) % (3 : Int32)))), .val (.ref b76), .val (.ref b83), .unset, .unset] [])) rfl (hb hby at_102) (by decide) (by decide)
      obtain ⟨b86, g86⟩ : ∃ z, z = h85.size := ⟨_, rfl⟩
      rw [← g86] at A86 D86 U86 st86
      have sz86 : h85.size ≤ b86 := Nat.le_of_eq g86.symm
      have f87 := f84.keep Kc85 (ninS ne_b76_b83 nin0)
      have ne_b76_b86 : b76 ≠ b86 := Nat.ne_of_lt (Nat.lt_of_lt_of_le f87.lt sz86)
      have f88 := A83.keep Kc85
      have ne_b83_b86 : b83 ≠ b86 := Nat.ne_of_lt (Nat.lt_of_lt_of_le f88.lt sz86)
      have ne_t85_b86 : t85 ≠ b86 := Nat.ne_of_lt (Nat.lt_of_lt_of_le Vc85.lt sz86)
      have g_b86 : n0 ≤ b86 := Nat.le_trans Z85 sz86
      have hz_b86 : h0.size ≤ b86 := Nat.le_trans K85.1 sz86
      have K86 : Keep h0 h86 [] := K85.ext E86
      have Z86 : n0 ≤ h86.size := Nat.le_trans Z85 E86.1
      have O86 := O85.ext E86
      have hk86 := Nat.le_trans hk85 E86.1
      refine own_st (T' := T86) (g' := (mkF m 105 #[.val (.int pa), .val (.int pb), .val (.int pc_), .val (.int pn), .val (.int c0), .val (.int c1), .val (.int c2), .val (.int ((1 : Int32) + ((pn &&& (2147483647 : Int32)) % (3 : Int32)))), .val (.ref b76), .val (.ref b83), .unset, .unset] [(.ref b86)])) st86 ?_
      refine own_st (T' := T86) (g' := (mkF m 108 #[.val (.int pa), .val (.int pb), .val (.int pc_), .val (.int pn), .val (.int c0), .val (.int c1), .val (.int c2), .val (.int ((1 : Int32) + ((pn &&& (2147483647 : Int32)) % (3 : Int32)))), .val (.ref b76), .val (.ref b83), .unset, .unset] [(.ref b76), (.ref b86), (.ref b86)])) (fun t k => ?_) ?_
      · show Steps p.tables e below (T86.setTop (mkF m 105 #[.val (.int pa), .val (.int pb), .val (.int pc_), .val (.int pn), .val (.int c0), .val (.int c1), .val (.int c2), .val (.int ((1 : Int32) + ((pn &&& (2147483647 : Int32)) % (3 : Int32)))), .val (.ref b76), .val (.ref b83), .unset, .unset] [(.ref b86)])) t
        refine XS.dup X86.here hx rfl (hb hby at_105) rfl rfl ?_
        refine XS.aload X86.here hx rfl (hb hby at_106) rfl rfl ?_
        exact k
      have f89 := f87.ext E86
      obtain ⟨_, _, ⟨T90, L90, c90, n90⟩, -, X90, ⟨Lc90, hQ90, l90, y90, z90⟩, st90⟩ := X86.specialBack hx (y := (⟨"java/lang/String", "<init>", "([C)V"⟩ : MethodName)) rfl ho0 (mvT hZ0 (hw _ (List.mem_of_getElem? (i := 9) rfl))) (mvT hZ0 (hw _ (List.mem_of_getElem? (i := 10) rfl))) (mvT hZ0 (hw _ (List.mem_of_getElem? (i := 11) rfl))) (by decide) (backOf (W := 1) (own_rm2_3 l Z a0 hw [] b86 b76 k76 c0 c1 c2 cs h86 n0 Z86 O86 A86 (D86 (Or.inr (hw _ (List.mem_of_getElem? (i := 34) rfl))) (ty := (.array .byte)) (by decide) : Fld Z h86 b86 "java/lang/String" "value" "[B" .null) (D86 (Or.inr (hw _ (List.mem_of_getElem? (i := 32) rfl))) (ty := .byte) (by decide) : Fld Z h86 b86 "java/lang/String" "coder" "B" (.int (0 : Int32))) g_b86 f89 (Ne.symm ne_b76_b86) (own_dr_l hd0) (own_dr_l hd1) (own_dr_l hd2) hcs S_cs) hZ0 (hw _ (List.mem_of_getElem? (i := 11) rfl)) (hw _ (List.mem_of_getElem? (i := 8) rfl)) (by decide) (by decide)) (g := (mkF m 108 #[.val (.int pa), .val (.int pb), .val (.int pc_), .val (.int pn), .val (.int c0), .val (.int c1), .val (.int c2), .val (.int ((1 : Int32) + ((pn &&& (2147483647 : Int32)) % (3 : Int32)))), .val (.ref b76), .val (.ref b83), .unset, .unset] [(.ref b76), (.ref b86), (.ref b86)])) rfl (by rw [hml]; rfl) (Steps.refl _) (a := b86) (argsL := [(.ref b76)]) (rest := [(.ref b86)]) (lenOf own_pd16 rfl) rfl (by show 2 * 0 + _ ≤ _; exact Nat.le_of_eq rfl) (hb hby at_108) (fun _ _ => ⟨rfl, e86, (by decide : 4 + 1 ≤ _), (by decide : 14 + 3 ≤ _)⟩)
      dsimp only [Pt.U, Pt.locs, Pt.cells, Pt.slots] at X90 l90 y90 z90 st90 hQ90
      subst l90 y90 z90
      obtain ⟨h90, e90⟩ : ∃ z, T90.heap = z := ⟨_, rfl⟩
      rw [e90] at hQ90
      obtain ⟨t90, k90, rfl, N90q, Kc90, g90, hz90, Fv90, Fo90, Vc90⟩ := hQ90
      have N90 := Fr.app N85 N90q
      have ne_b76_t90 : b76 ≠ t90 := Nat.ne_of_lt (Nat.lt_of_lt_of_le f89.lt hz90)
      have f91 := f88.ext E86
      have ne_b83_t90 : b83 ≠ t90 := Nat.ne_of_lt (Nat.lt_of_lt_of_le f91.lt hz90)
      have f92 := Vc85.ext E86
      have ne_t85_t90 : t85 ≠ t90 := Nat.ne_of_lt (Nat.lt_of_lt_of_le f92.lt hz90)
      have ne_b86_t90 : b86 ≠ t90 := Nat.ne_of_lt (Nat.lt_of_lt_of_le A86.lt hz90)
      have hwt90 : h0.size ≤ t90 := Nat.le_trans K86.1 hz90
      have K90 : Keep h0 h90 [] := K86.trans Kc90 (allS (Or.inr hz_b86) all0)
      have Z90 : n0 ≤ h90.size := Nat.le_trans Z86 Kc90.1
      have O90 := O86.keep Kc90 (allS g_b86 all0)
      have hk90 := Nat.le_trans hk86 Kc90.1
      refine own_tr (T' := T90) (g' := (mkF m 111 #[.val (.int pa), .val (.int pb), .val (.int pc_), .val (.int pn), .val (.int c0), .val (.int c1), .val (.int c2), .val (.int ((1 : Int32) + ((pn &&& (2147483647 : Int32)) % (3 : Int32)))), .val (.ref b76), .val (.ref b83), .unset, .unset] [(.ref b86)])) st90 ?_
      refine own_st (T' := T90) (g' := (mkF m 115 #[.val (.int pa), .val (.int pb), .val (.int pc_), .val (.int pn), .val (.int c0), .val (.int c1), .val (.int c2), .val (.int ((1 : Int32) + ((pn &&& (2147483647 : Int32)) % (3 : Int32)))), .val (.ref b76), .val (.ref b83), .val (.ref b86), .unset] [(.ref b83)])) (fun t k => ?_) ?_
      · show Steps p.tables e below (T90.setTop (mkF m 111 #[.val (.int pa), .val (.int pb), .val (.int pc_), .val (.int pn), .val (.int c0), .val (.int c1), .val (.int c2), .val (.int ((1 : Int32) + ((pn &&& (2147483647 : Int32)) % (3 : Int32)))), .val (.ref b76), .val (.ref b83), .unset, .unset] [(.ref b86)])) t
        refine XS.astore X90.here hx rfl (hb hby at_111) rfl rfl (l' := #[.val (.int pa), .val (.int pb), .val (.int pc_), .val (.int pn), .val (.int c0), .val (.int c1), .val (.int c2), .val (.int ((1 : Int32) + ((pn &&& (2147483647 : Int32)) % (3 : Int32)))), .val (.ref b76), .val (.ref b83), .val (.ref b86), .unset]) rfl ?_
        refine XS.aload X90.here hx rfl (hb hby at_113) rfl rfl ?_
        exact k
      have f93 := f91.keep Kc90
      have f94 := (Fv85.ext E86).keep Kc90 (ninS ne_b83_b86 nin0)
      have f95 := (Fo85.ext E86).keep Kc90 (ninS ne_b83_b86 nin0)
      have f96 := f92.keep Kc90 (ninS ne_t85_b86 nin0)
      obtain ⟨_, _, ⟨T97, L97, c97, n97⟩, -, Y97, hI97, hG97, ⟨Lc97, hQ97, l97, y97, z97⟩, st97⟩ := callSS X90 hx (y := (⟨"com/example/operation_tracker/operationtracker/model/TaskId", "first", "(Ljava/lang/String;)Lcom/example/operation_tracker/operationtracker/model/TaskId;"⟩ : MethodName)) ho0 (mvT hZ0 (hw _ (List.mem_of_getElem? (i := 35) rfl))) (mvT hZ0 (hw _ (List.mem_of_getElem? (i := 36) rfl))) (mvT hZ0 (hw _ (List.mem_of_getElem? (i := 37) rfl))) (mvT hZ0 (hw _ (List.mem_of_getElem? (i := 38) rfl))) (by decide) (backOfS (W := 0) (own_rm8_3 l Z a0 hw [] b83 t85 k85 (c0.toInt8.toInt32) (c1.toInt8.toInt32) (c2.toInt8.toInt32) cs h90 n0 Z90 O90 f93 f94 f95 f96 (own_dr_46 hd0) (own_dr_46 hd1) (own_dr_46 hd2) hcs S_cs) hZ0 (hw _ (List.mem_of_getElem? (i := 38) rfl)) (hw _ (List.mem_of_getElem? (i := 37) rfl)) (by decide) (by decide)) (g := (mkF m 115 #[.val (.int pa), .val (.int pb), .val (.int pc_), .val (.int pn), .val (.int c0), .val (.int c1), .val (.int c2), .val (.int ((1 : Int32) + ((pn &&& (2147483647 : Int32)) % (3 : Int32)))), .val (.ref b76), .val (.ref b83), .val (.ref b86), .unset] [(.ref b83)])) rfl (by rw [hml]; rfl) (argsL := [(.ref b83)]) (rest := []) (lenOf own_pd17 rfl) rfl (by show 2 * 0 + _ ≤ _; exact Nat.le_of_eq rfl) (hb hby at_115) (fun _ _ => ⟨rfl, e90, (by decide : 5 + 4 ≤ _), (by decide : 17 + 27 ≤ _)⟩)
      dsimp only [Pt.U, Pt.locs, Pt.cells, Pt.slots] at Y97 hI97 hG97 l97 y97 z97 st97 hQ97
      subst l97 y97 z97
      obtain ⟨X97, hS97, hZ97, ho97⟩ := rebS hS0 (by rw [e90]; exact hk90) Y97 hI97 hG97 hZ0 ho0
      obtain ⟨v97, hv97⟩ : ∃ z, z = T97.vm := ⟨_, rfl⟩
      rw [← hv97] at X97 hS97 hZ97 ho97
      obtain ⟨h97, e97⟩ : ∃ z, T97.heap = z := ⟨_, rfl⟩
      rw [e97] at hQ97
      obtain ⟨u97, y_97, k97, rfl, N97q, Kc97, g97, hz97, Ec97, Fa97, Fb97, Fd97, Vc97⟩ := hQ97
      have N97 := Fr.app N90 N97q
      have f98 := f89.keep Kc90 (ninS ne_b76_b86 nin0)
      have ne_b76_u97 : b76 ≠ u97 := Nat.ne_of_lt (Nat.lt_of_lt_of_le f98.lt hz97)
      have ne_b83_u97 : b83 ≠ u97 := Nat.ne_of_lt (Nat.lt_of_lt_of_le f93.lt hz97)
      have ne_t85_u97 : t85 ≠ u97 := Nat.ne_of_lt (Nat.lt_of_lt_of_le f96.lt hz97)
      have f99 := A86.keep Kc90
      have ne_b86_u97 : b86 ≠ u97 := Nat.ne_of_lt (Nat.lt_of_lt_of_le f99.lt hz97)
      have ne_t90_u97 : t90 ≠ u97 := Nat.ne_of_lt (Nat.lt_of_lt_of_le Vc90.lt hz97)
      have hwu97 : h0.size ≤ u97 := Nat.le_trans K90.1 hz97
      have K97 : Keep h0 h97 [] := K90.trans Kc97 all0
      have Z97 : n0 ≤ h97.size := Nat.le_trans Z90 Kc97.1
      have O97 := O90.keep Kc97 all0
      have hk97 : T97.heap.size ≤ h97.size := Nat.le_of_eq (by rw [e97])
      refine own_tr (T' := T97) (g' := (mkF m 118 #[.val (.int pa), .val (.int pb), .val (.int pc_), .val (.int pn), .val (.int c0), .val (.int c1), .val (.int c2), .val (.int ((1 : Int32) + ((pn &&& (2147483647 : Int32)) % (3 : Int32)))), .val (.ref b76), .val (.ref b83), .val (.ref b86), .unset] [(.ref u97)])) st97 ?_
      refine own_st (T' := T97) (g' := (mkF m 122 #[.val (.int pa), .val (.int pb), .val (.int pc_), .val (.int pn), .val (.int c0), .val (.int c1), .val (.int c2), .val (.int ((1 : Int32) + ((pn &&& (2147483647 : Int32)) % (3 : Int32)))), .val (.ref b76), .val (.ref b83), .val (.ref b86), .val (.ref u97)] [(.ref u97)])) (fun t k => ?_) ?_
      · show Steps p.tables e below (T97.setTop (mkF m 118 #[.val (.int pa), .val (.int pb), .val (.int pc_), .val (.int pn), .val (.int c0), .val (.int c1), .val (.int c2), .val (.int ((1 : Int32) + ((pn &&& (2147483647 : Int32)) % (3 : Int32)))), .val (.ref b76), .val (.ref b83), .val (.ref b86), .unset] [(.ref u97)])) t
        refine XS.astore X97.here hx rfl (hb hby at_118) rfl rfl (l' := #[.val (.int pa), .val (.int pb), .val (.int pc_), .val (.int pn), .val (.int c0), .val (.int c1), .val (.int c2), .val (.int ((1 : Int32) + ((pn &&& (2147483647 : Int32)) % (3 : Int32)))), .val (.ref b76), .val (.ref b83), .val (.ref b86), .val (.ref u97)]) rfl ?_
        refine XS.aload X97.here hx rfl (hb hby at_120) rfl rfl ?_
        exact k
      obtain ⟨cq100, kq100, q100a, q100b, q100c⟩ := isOf hZ97 e97 Ec97
      obtain ⟨_, _, ⟨T100, L100, c100, n100⟩, -, X100, ⟨Lc100, hQ100, l100, y100, z100⟩, st100⟩ := X97.virtualBack hx (y := (⟨"com/example/operation_tracker/operationtracker/model/TaskId", "toString", "()Ljava/lang/String;"⟩ : MethodName)) (z := (⟨"com/example/operation_tracker/operationtracker/model/TaskId", "toString", "()Ljava/lang/String;"⟩ : MethodName)) ho97 (mvT hZ97 (hw _ (List.mem_of_getElem? (i := 109) rfl))) (mvT hZ97 (hw _ (List.mem_of_getElem? (i := 110) rfl))) (notFace_of_selects (args := #[]) (mvT hZ97 (hw _ (List.mem_of_getElem? (i := 112) rfl)))) (mvT hZ97 (hw _ (List.mem_of_getElem? (i := 112) rfl))) (mvT hZ97 (hw _ (List.mem_of_getElem? (i := 111) rfl))) (by decide) (backOf (W := 0) (own_rm23 l Z a0 hw [] u97 (.ref b83) h97 n0 Z97 rfl Fd97) hZ97 (hw _ (List.mem_of_getElem? (i := 113) rfl)) (hw _ (List.mem_of_getElem? (i := 37) rfl)) (by decide) (by decide)) q100a q100c (g := (mkF m 122 #[.val (.int pa), .val (.int pb), .val (.int pc_), .val (.int pn), .val (.int c0), .val (.int c1), .val (.int c2), .val (.int ((1 : Int32) + ((pn &&& (2147483647 : Int32)) % (3 : Int32)))), .val (.ref b76), .val (.ref b83), .val (.ref b86), .val (.ref u97)] [(.ref u97)])) rfl (by rw [hml]; rfl) (Steps.refl _) (argsL := []) (rest := []) (lenOf own_pd18 rfl) rfl (by show 2 * 0 + _ ≤ _; exact Nat.le_of_eq rfl) (hb hby at_122) (fun _ _ => ⟨rfl, e97, (by decide : 9 + 0 ≤ _), (by decide : 44 + 0 ≤ _)⟩)
      dsimp only [Pt.U, Pt.locs, Pt.cells, Pt.slots] at X100 l100 y100 z100 st100 hQ100
      subst l100 y100 z100
      obtain ⟨rfl, N100q, e100⟩ := hQ100
      have N100 := Fr.app N97 N100q
      refine own_tr (T' := T100) (g' := (mkF m 125 #[.val (.int pa), .val (.int pb), .val (.int pc_), .val (.int pn), .val (.int c0), .val (.int c1), .val (.int c2), .val (.int ((1 : Int32) + ((pn &&& (2147483647 : Int32)) % (3 : Int32)))), .val (.ref b76), .val (.ref b83), .val (.ref b86), .val (.ref u97)] [(.ref b83)])) st100 ?_
      refine own_st (T' := T100) (g' := (mkF m 127 #[.val (.int pa), .val (.int pb), .val (.int pc_), .val (.int pn), .val (.int c0), .val (.int c1), .val (.int c2), .val (.int ((1 : Int32) + ((pn &&& (2147483647 : Int32)) % (3 : Int32)))), .val (.ref b76), .val (.ref b83), .val (.ref b86), .val (.ref u97)] [(.ref b86), (.ref b83)])) (fun t k => ?_) ?_
      · show Steps p.tables e below (T100.setTop (mkF m 125 #[.val (.int pa), .val (.int pb), .val (.int pc_), .val (.int pn), .val (.int c0), .val (.int c1), .val (.int c2), .val (.int ((1 : Int32) + ((pn &&& (2147483647 : Int32)) % (3 : Int32)))), .val (.ref b76), .val (.ref b83), .val (.ref b86), .val (.ref u97)] [(.ref b83)])) t
        refine XS.aload X100.here hx rfl (hb hby at_125) rfl rfl ?_
        exact k
      have f101 := f93.keep Kc97
      have f102 := f94.keep Kc97 nin0
      have f103 := f95.keep Kc97 nin0
      have f104 := f96.keep Kc97 nin0
      have f105 := f99.keep Kc97
      have f106 := Fv90.keep Kc97 nin0
      have f107 := Fo90.keep Kc97 nin0
      have f108 := Vc90.keep Kc97 nin0
      obtain ⟨cq109, kq109, q109a, q109b, q109c⟩ := isOf hZ97 e100 f101
      obtain ⟨_, _, ⟨T109, L109, c109, n109⟩, -, X109, ⟨Lc109, hQ109, l109, y109, z109⟩, st109⟩ := X100.virtualBack hx (y := (⟨"java/lang/String", "equals", "(Ljava/lang/Object;)Z"⟩ : MethodName)) (z := (⟨"java/lang/String", "equals", "(Ljava/lang/Object;)Z"⟩ : MethodName)) ho97 (mvT hZ97 (hw _ (List.mem_of_getElem? (i := 114) rfl))) (mvT hZ97 (hw _ (List.mem_of_getElem? (i := 115) rfl))) (notFace_of_selects (args := #[]) (mvT hZ97 (hw _ (List.mem_of_getElem? (i := 117) rfl)))) (mvT hZ97 (hw _ (List.mem_of_getElem? (i := 117) rfl))) (mvT hZ97 (hw _ (List.mem_of_getElem? (i := 116) rfl))) (by decide) (backOf (W := 0) (own_rm24_3 l Z a0 hw [] b83 t85 k85 (c0.toInt8.toInt32) (c1.toInt8.toInt32) (c2.toInt8.toInt32) b86 t90 k90 cs h97 n0 Z97 O97 f101 f102 f103 f104 f105 f106 f107 f108 ne_b83_b86 hcs S_cs) hZ97 (hw _ (List.mem_of_getElem? (i := 118) rfl)) (hw _ (List.mem_of_getElem? (i := 8) rfl)) (by decide) (by decide)) q109a q109c (g := (mkF m 127 #[.val (.int pa), .val (.int pb), .val (.int pc_), .val (.int pn), .val (.int c0), .val (.int c1), .val (.int c2), .val (.int ((1 : Int32) + ((pn &&& (2147483647 : Int32)) % (3 : Int32)))), .val (.ref b76), .val (.ref b83), .val (.ref b86), .val (.ref u97)] [(.ref b86), (.ref b83)])) rfl (by rw [hml]; rfl) (Steps.refl _) (argsL := [(.ref b86)]) (rest := []) (lenOf own_pd19 rfl) rfl (by show 2 * 0 + _ ≤ _; exact Nat.le_of_eq rfl) (hb hby at_127) (fun _ _ => ⟨rfl, e100, (by decide : 9 + 0 ≤ _), (by decide : 44 + 0 ≤ _)⟩)
      dsimp only [Pt.U, Pt.locs, Pt.cells, Pt.slots] at X109 l109 y109 z109 st109 hQ109
      subst l109 y109 z109
      obtain ⟨rfl, N109q, e109⟩ := hQ109
      have N109 := Fr.app N100 N109q
      refine own_tr (T' := T109) (g' := (mkF m 130 #[.val (.int pa), .val (.int pb), .val (.int pc_), .val (.int pn), .val (.int c0), .val (.int c1), .val (.int c2), .val (.int ((1 : Int32) + ((pn &&& (2147483647 : Int32)) % (3 : Int32)))), .val (.ref b76), .val (.ref b83), .val (.ref b86), .val (.ref u97)] [(.int (1 : Int32))])) st109 ?_
      refine own_st (T' := T109) (g' := (mkF m 135 #[.val (.int pa), .val (.int pb), .val (.int pc_), .val (.int pn), .val (.int c0), .val (.int c1), .val (.int c2), .val (.int ((1 : Int32) + ((pn &&& (2147483647 : Int32)) % (3 : Int32)))), .val (.ref b76), .val (.ref b83), .val (.ref b86), .val (.ref u97)] [(.ref u97)])) (fun t k => ?_) ?_
      · show Steps p.tables e below (T109.setTop (mkF m 130 #[.val (.int pa), .val (.int pb), .val (.int pc_), .val (.int pn), .val (.int c0), .val (.int c1), .val (.int c2), .val (.int ((1 : Int32) + ((pn &&& (2147483647 : Int32)) % (3 : Int32)))), .val (.ref b76), .val (.ref b83), .val (.ref b86), .val (.ref u97)] [(.int (1 : Int32))])) t
        refine XS.ifNo X109.here hx rfl (hb hby at_130) rfl ((if0 _ _).trans (feq (by decide : ¬ ((1 : Int32) = (0 : Int32)))).1) ?_
        refine XS.aload X109.here hx rfl (hb hby at_133) rfl rfl ?_
        exact k
      obtain ⟨cq110, kq110, q110a, q110b, q110c⟩ := isOf hZ97 e109 Ec97
      obtain ⟨_, _, ⟨T110, L110, c110, n110⟩, -, X110, ⟨Lc110, hQ110, l110, y110, z110⟩, st110⟩ := X109.virtualBack hx (y := (⟨"com/example/operation_tracker/operationtracker/model/TaskId", "toString", "()Ljava/lang/String;"⟩ : MethodName)) (z := (⟨"com/example/operation_tracker/operationtracker/model/TaskId", "toString", "()Ljava/lang/String;"⟩ : MethodName)) ho97 (mvT hZ97 (hw _ (List.mem_of_getElem? (i := 109) rfl))) (mvT hZ97 (hw _ (List.mem_of_getElem? (i := 110) rfl))) (notFace_of_selects (args := #[]) (mvT hZ97 (hw _ (List.mem_of_getElem? (i := 112) rfl)))) (mvT hZ97 (hw _ (List.mem_of_getElem? (i := 112) rfl))) (mvT hZ97 (hw _ (List.mem_of_getElem? (i := 111) rfl))) (by decide) (backOf (W := 0) (own_rm23 l Z a0 hw [] u97 (.ref b83) h97 n0 Z97 rfl Fd97) hZ97 (hw _ (List.mem_of_getElem? (i := 113) rfl)) (hw _ (List.mem_of_getElem? (i := 37) rfl)) (by decide) (by decide)) q110a q110c (g := (mkF m 135 #[.val (.int pa), .val (.int pb), .val (.int pc_), .val (.int pn), .val (.int c0), .val (.int c1), .val (.int c2), .val (.int ((1 : Int32) + ((pn &&& (2147483647 : Int32)) % (3 : Int32)))), .val (.ref b76), .val (.ref b83), .val (.ref b86), .val (.ref u97)] [(.ref u97)])) rfl (by rw [hml]; rfl) (Steps.refl _) (argsL := []) (rest := []) (lenOf own_pd18 rfl) rfl (by show 2 * 0 + _ ≤ _; exact Nat.le_of_eq rfl) (hb hby at_135) (fun _ _ => ⟨rfl, e109, (by decide : 9 + 0 ≤ _), (by decide : 44 + 0 ≤ _)⟩)
      dsimp only [Pt.U, Pt.locs, Pt.cells, Pt.slots] at X110 l110 y110 z110 st110 hQ110
      subst l110 y110 z110
      obtain ⟨rfl, N110q, e110⟩ := hQ110
      have N110 := Fr.app N109 N110q
      refine own_tr (T' := T110) (g' := (mkF m 138 #[.val (.int pa), .val (.int pb), .val (.int pc_), .val (.int pn), .val (.int c0), .val (.int c1), .val (.int c2), .val (.int ((1 : Int32) + ((pn &&& (2147483647 : Int32)) % (3 : Int32)))), .val (.ref b76), .val (.ref b83), .val (.ref b86), .val (.ref u97)] [(.ref b83)])) st110 ?_
      obtain ⟨cq111, kq111, q111a, q111b, q111c⟩ := isOf hZ97 e110 f101
      obtain ⟨_, _, ⟨T111, L111, c111, n111⟩, -, X111, ⟨Lc111, hQ111, l111, y111, z111⟩, st111⟩ := X110.virtualBack hx (y := (⟨"java/lang/String", "length", "()I"⟩ : MethodName)) (z := (⟨"java/lang/String", "length", "()I"⟩ : MethodName)) ho97 (mvT hZ97 (hw _ (List.mem_of_getElem? (i := 123) rfl))) (mvT hZ97 (hw _ (List.mem_of_getElem? (i := 70) rfl))) (notFace_of_selects (args := #[]) (mvT hZ97 (hw _ (List.mem_of_getElem? (i := 72) rfl)))) (mvT hZ97 (hw _ (List.mem_of_getElem? (i := 72) rfl))) (mvT hZ97 (hw _ (List.mem_of_getElem? (i := 71) rfl))) (by decide) (backOf (W := 0) (own_rm15_0_3 l Z a0 hw [] b83 t85 k85 (c0.toInt8.toInt32) (c1.toInt8.toInt32) (c2.toInt8.toInt32)  cs h97 n0 Z97 O97 f101 f102 f103 f104  hcs S_cs) hZ97 (hw _ (List.mem_of_getElem? (i := 73) rfl)) (hw _ (List.mem_of_getElem? (i := 8) rfl)) (by decide) (by decide)) q111a q111c (g := (mkF m 138 #[.val (.int pa), .val (.int pb), .val (.int pc_), .val (.int pn), .val (.int c0), .val (.int c1), .val (.int c2), .val (.int ((1 : Int32) + ((pn &&& (2147483647 : Int32)) % (3 : Int32)))), .val (.ref b76), .val (.ref b83), .val (.ref b86), .val (.ref u97)] [(.ref b83)])) rfl (by rw [hml]; rfl) (Steps.refl _) (argsL := []) (rest := []) (lenOf own_pd9 rfl) rfl (by show 2 * 0 + _ ≤ _; exact Nat.le_of_eq rfl) (hb hby at_138) (fun _ _ => ⟨rfl, e110, (by decide : 9 + 0 ≤ _), (by decide : 44 + 0 ≤ _)⟩)
      dsimp only [Pt.U, Pt.locs, Pt.cells, Pt.slots] at X111 l111 y111 z111 st111 hQ111
      subst l111 y111 z111
      obtain ⟨rfl, N111q, e111⟩ := hQ111
      have N111 := Fr.app N110 N111q
      refine own_tr (T' := T111) (g' := (mkF m 141 #[.val (.int pa), .val (.int pb), .val (.int pc_), .val (.int pn), .val (.int c0), .val (.int c1), .val (.int c2), .val (.int ((1 : Int32) + ((pn &&& (2147483647 : Int32)) % (3 : Int32)))), .val (.ref b76), .val (.ref b83), .val (.ref b86), .val (.ref u97)] [(.int (3 : Int32))])) st111 ?_
      refine own_st (T' := T111) (g' := (mkF m 148 #[.val (.int pa), .val (.int pb), .val (.int pc_), .val (.int pn), .val (.int c0), .val (.int c1), .val (.int c2), .val (.int ((1 : Int32) + ((pn &&& (2147483647 : Int32)) % (3 : Int32)))), .val (.ref b76), .val (.ref b83), .val (.ref b86), .val (.ref u97)] [(.ref u97)])) (fun t k => ?_) ?_
      · show Steps p.tables e below (T111.setTop (mkF m 141 #[.val (.int pa), .val (.int pb), .val (.int pc_), .val (.int pn), .val (.int c0), .val (.int c1), .val (.int c2), .val (.int ((1 : Int32) + ((pn &&& (2147483647 : Int32)) % (3 : Int32)))), .val (.ref b76), .val (.ref b83), .val (.ref b86), .val (.ref u97)] [(.int (3 : Int32))])) t
        refine XS.iload X111.here hx rfl (hb hby at_141) rfl ?_
        refine XS.icmpNo X111.here hx rfl (hb hby at_143) rfl (teq hE).2 ?_
        refine XS.aload X111.here hx rfl (hb hby at_146) rfl rfl ?_
        exact k
      obtain ⟨cq112, kq112, q112a, q112b, q112c⟩ := isOf hZ97 e111 Ec97
      obtain ⟨_, _, ⟨T112, L112, c112, n112⟩, -, X112, ⟨Lc112, hQ112, l112, y112, z112⟩, st112⟩ := X111.virtualBack hx (y := (⟨"com/example/operation_tracker/operationtracker/model/TaskId", "jobId", "()Ljava/lang/String;"⟩ : MethodName)) (z := (⟨"com/example/operation_tracker/operationtracker/model/TaskId", "jobId", "()Ljava/lang/String;"⟩ : MethodName)) ho97 (mvT hZ97 (hw _ (List.mem_of_getElem? (i := 124) rfl))) (mvT hZ97 (hw _ (List.mem_of_getElem? (i := 125) rfl))) (notFace_of_selects (args := #[]) (mvT hZ97 (hw _ (List.mem_of_getElem? (i := 127) rfl)))) (mvT hZ97 (hw _ (List.mem_of_getElem? (i := 127) rfl))) (mvT hZ97 (hw _ (List.mem_of_getElem? (i := 126) rfl))) (by decide) (backOf (W := 0) (own_rm26 l Z a0 hw [] u97 (.ref b83) h97 n0 Z97 rfl Fa97) hZ97 (hw _ (List.mem_of_getElem? (i := 128) rfl)) (hw _ (List.mem_of_getElem? (i := 37) rfl)) (by decide) (by decide)) q112a q112c (g := (mkF m 148 #[.val (.int pa), .val (.int pb), .val (.int pc_), .val (.int pn), .val (.int c0), .val (.int c1), .val (.int c2), .val (.int ((1 : Int32) + ((pn &&& (2147483647 : Int32)) % (3 : Int32)))), .val (.ref b76), .val (.ref b83), .val (.ref b86), .val (.ref u97)] [(.ref u97)])) rfl (by rw [hml]; rfl) (Steps.refl _) (argsL := []) (rest := []) (lenOf own_pd18 rfl) rfl (by show 2 * 0 + _ ≤ _; exact Nat.le_of_eq rfl) (hb hby at_148) (fun _ _ => ⟨rfl, e111, (by decide : 9 + 0 ≤ _), (by decide : 44 + 0 ≤ _)⟩)
      dsimp only [Pt.U, Pt.locs, Pt.cells, Pt.slots] at X112 l112 y112 z112 st112 hQ112
      subst l112 y112 z112
      obtain ⟨rfl, N112q, e112⟩ := hQ112
      have N112 := Fr.app N111 N112q
      refine own_tr (T' := T112) (g' := (mkF m 151 #[.val (.int pa), .val (.int pb), .val (.int pc_), .val (.int pn), .val (.int c0), .val (.int c1), .val (.int c2), .val (.int ((1 : Int32) + ((pn &&& (2147483647 : Int32)) % (3 : Int32)))), .val (.ref b76), .val (.ref b83), .val (.ref b86), .val (.ref u97)] [(.ref b83)])) st112 ?_
      refine own_st (T' := T112) (g' := (mkF m 153 #[.val (.int pa), .val (.int pb), .val (.int pc_), .val (.int pn), .val (.int c0), .val (.int c1), .val (.int c2), .val (.int ((1 : Int32) + ((pn &&& (2147483647 : Int32)) % (3 : Int32)))), .val (.ref b76), .val (.ref b83), .val (.ref b86), .val (.ref u97)] [(.ref b86), (.ref b83)])) (fun t k => ?_) ?_
      · show Steps p.tables e below (T112.setTop (mkF m 151 #[.val (.int pa), .val (.int pb), .val (.int pc_), .val (.int pn), .val (.int c0), .val (.int c1), .val (.int c2), .val (.int ((1 : Int32) + ((pn &&& (2147483647 : Int32)) % (3 : Int32)))), .val (.ref b76), .val (.ref b83), .val (.ref b86), .val (.ref u97)] [(.ref b83)])) t
        refine XS.aload X112.here hx rfl (hb hby at_151) rfl rfl ?_
        exact k
      obtain ⟨cq113, kq113, q113a, q113b, q113c⟩ := isOf hZ97 e112 f101
      obtain ⟨_, _, ⟨T113, L113, c113, n113⟩, -, X113, ⟨Lc113, hQ113, l113, y113, z113⟩, st113⟩ := X112.virtualBack hx (y := (⟨"java/lang/String", "equals", "(Ljava/lang/Object;)Z"⟩ : MethodName)) (z := (⟨"java/lang/String", "equals", "(Ljava/lang/Object;)Z"⟩ : MethodName)) ho97 (mvT hZ97 (hw _ (List.mem_of_getElem? (i := 114) rfl))) (mvT hZ97 (hw _ (List.mem_of_getElem? (i := 115) rfl))) (notFace_of_selects (args := #[]) (mvT hZ97 (hw _ (List.mem_of_getElem? (i := 117) rfl)))) (mvT hZ97 (hw _ (List.mem_of_getElem? (i := 117) rfl))) (mvT hZ97 (hw _ (List.mem_of_getElem? (i := 116) rfl))) (by decide) (backOf (W := 0) (own_rm24_3 l Z a0 hw [] b83 t85 k85 (c0.toInt8.toInt32) (c1.toInt8.toInt32) (c2.toInt8.toInt32) b86 t90 k90 cs h97 n0 Z97 O97 f101 f102 f103 f104 f105 f106 f107 f108 ne_b83_b86 hcs S_cs) hZ97 (hw _ (List.mem_of_getElem? (i := 118) rfl)) (hw _ (List.mem_of_getElem? (i := 8) rfl)) (by decide) (by decide)) q113a q113c (g := (mkF m 153 #[.val (.int pa), .val (.int pb), .val (.int pc_), .val (.int pn), .val (.int c0), .val (.int c1), .val (.int c2), .val (.int ((1 : Int32) + ((pn &&& (2147483647 : Int32)) % (3 : Int32)))), .val (.ref b76), .val (.ref b83), .val (.ref b86), .val (.ref u97)] [(.ref b86), (.ref b83)])) rfl (by rw [hml]; rfl) (Steps.refl _) (argsL := [(.ref b86)]) (rest := []) (lenOf own_pd19 rfl) rfl (by show 2 * 0 + _ ≤ _; exact Nat.le_of_eq rfl) (hb hby at_153) (fun _ _ => ⟨rfl, e112, (by decide : 9 + 0 ≤ _), (by decide : 44 + 0 ≤ _)⟩)
      dsimp only [Pt.U, Pt.locs, Pt.cells, Pt.slots] at X113 l113 y113 z113 st113 hQ113
      subst l113 y113 z113
      obtain ⟨rfl, N113q, e113⟩ := hQ113
      have N113 := Fr.app N112 N113q
      refine own_tr (T' := T113) (g' := (mkF m 156 #[.val (.int pa), .val (.int pb), .val (.int pc_), .val (.int pn), .val (.int c0), .val (.int c1), .val (.int c2), .val (.int ((1 : Int32) + ((pn &&& (2147483647 : Int32)) % (3 : Int32)))), .val (.ref b76), .val (.ref b83), .val (.ref b86), .val (.ref u97)] [(.int (1 : Int32))])) st113 ?_
      refine own_st (T' := T113) (g' := (mkF m 161 #[.val (.int pa), .val (.int pb), .val (.int pc_), .val (.int pn), .val (.int c0), .val (.int c1), .val (.int c2), .val (.int ((1 : Int32) + ((pn &&& (2147483647 : Int32)) % (3 : Int32)))), .val (.ref b76), .val (.ref b83), .val (.ref b86), .val (.ref u97)] [(.ref u97)])) (fun t k => ?_) ?_
      · show Steps p.tables e below (T113.setTop (mkF m 156 #[.val (.int pa), .val (.int pb), .val (.int pc_), .val (.int pn), .val (.int c0), .val (.int c1), .val (.int c2), .val (.int ((1 : Int32) + ((pn &&& (2147483647 : Int32)) % (3 : Int32)))), .val (.ref b76), .val (.ref b83), .val (.ref b86), .val (.ref u97)] [(.int (1 : Int32))])) t
        refine XS.ifNo X113.here hx rfl (hb hby at_156) rfl ((if0 _ _).trans (feq (by decide : ¬ ((1 : Int32) = (0 : Int32)))).1) ?_
        refine XS.aload X113.here hx rfl (hb hby at_159) rfl rfl ?_
        exact k
      obtain ⟨cq114, kq114, q114a, q114b, q114c⟩ := isOf hZ97 e113 Ec97
      obtain ⟨_, _, ⟨T114, L114, c114, n114⟩, -, X114, ⟨Lc114, hQ114, l114, y114, z114⟩, st114⟩ := X113.virtualBack hx (y := (⟨"com/example/operation_tracker/operationtracker/model/TaskId", "depth", "()I"⟩ : MethodName)) (z := (⟨"com/example/operation_tracker/operationtracker/model/TaskId", "depth", "()I"⟩ : MethodName)) ho97 (mvT hZ97 (hw _ (List.mem_of_getElem? (i := 129) rfl))) (mvT hZ97 (hw _ (List.mem_of_getElem? (i := 130) rfl))) (notFace_of_selects (args := #[]) (mvT hZ97 (hw _ (List.mem_of_getElem? (i := 132) rfl)))) (mvT hZ97 (hw _ (List.mem_of_getElem? (i := 132) rfl))) (mvT hZ97 (hw _ (List.mem_of_getElem? (i := 131) rfl))) (by decide) (backOf (W := 0) (own_rm27 l Z a0 hw [] u97 y_97 k97 h97 n0 Z97 Fb97 Vc97) hZ97 (hw _ (List.mem_of_getElem? (i := 133) rfl)) (hw _ (List.mem_of_getElem? (i := 37) rfl)) (by decide) (by decide)) q114a q114c (g := (mkF m 161 #[.val (.int pa), .val (.int pb), .val (.int pc_), .val (.int pn), .val (.int c0), .val (.int c1), .val (.int c2), .val (.int ((1 : Int32) + ((pn &&& (2147483647 : Int32)) % (3 : Int32)))), .val (.ref b76), .val (.ref b83), .val (.ref b86), .val (.ref u97)] [(.ref u97)])) rfl (by rw [hml]; rfl) (Steps.refl _) (argsL := []) (rest := []) (lenOf own_pd9 rfl) rfl (by show 2 * 0 + _ ≤ _; exact Nat.le_of_eq rfl) (hb hby at_161) (fun _ _ => ⟨rfl, e113, (by decide : 9 + 0 ≤ _), (by decide : 44 + 0 ≤ _)⟩)
      dsimp only [Pt.U, Pt.locs, Pt.cells, Pt.slots] at X114 l114 y114 z114 st114 hQ114
      subst l114 y114 z114
      obtain ⟨rfl, N114q, e114⟩ := hQ114
      have N114 := Fr.app N113 N114q
      refine own_tr (T' := T114) (g' := (mkF m 164 #[.val (.int pa), .val (.int pb), .val (.int pc_), .val (.int pn), .val (.int c0), .val (.int c1), .val (.int c2), .val (.int ((1 : Int32) + ((pn &&& (2147483647 : Int32)) % (3 : Int32)))), .val (.ref b76), .val (.ref b83), .val (.ref b86), .val (.ref u97)] [(.int (0 : Int32))])) st114 ?_
      refine own_st (T' := T114) (g' := (mkF m 172 #[.val (.int pa), .val (.int pb), .val (.int pc_), .val (.int pn), .val (.int c0), .val (.int c1), .val (.int c2), .val (.int ((1 : Int32) + ((pn &&& (2147483647 : Int32)) % (3 : Int32)))), .val (.ref b76), .val (.ref b83), .val (.ref b86), .val (.ref u97)] [(.int (1 : Int32))])) (fun t k => ?_) ?_
      · show Steps p.tables e below (T114.setTop (mkF m 164 #[.val (.int pa), .val (.int pb), .val (.int pc_), .val (.int pn), .val (.int c0), .val (.int c1), .val (.int c2), .val (.int ((1 : Int32) + ((pn &&& (2147483647 : Int32)) % (3 : Int32)))), .val (.ref b76), .val (.ref b83), .val (.ref b86), .val (.ref u97)] [(.int (0 : Int32))])) t
        refine XS.ifNo X114.here hx rfl (hb hby at_164) rfl ((if0 _ _).trans (teq (rfl : (0 : Int32) = (0 : Int32))).2) ?_
        refine XS.iconst X114.here hx rfl (hb hby at_167) ?_
        refine XS.goto X114.here hx rfl (pc0 := 168) (pc' := 172) rfl (hb hby at_168) (by decide) (by decide) ?_
        exact k
      exact own_retNW X114 hx Bd (t := .boolean) (by simp) rfl (hb hby at_172) e114 (⟨rfl, N114⟩) hS97 hk97 (by decide) (by decide)
set_option maxRecDepth 65536 in
set_option maxHeartbeats 40000000 in
theorem own_comes_1 {Post : Tables → Env → Array Value → State → Outcome → State → Prop} (hpost : ∀ tb e args s v u, (limb_1_1.after args s (.returned v) u = true ∧ limb_1_2.after args s (.returned v) u = true ∧ True) → ReturnedEndW s (.returned v) u (Jvm.fieldLocs frame_1_writes args s ++ Jvm.arrayLocs frame_1_arrays args s ++ Jvm.staticLocs frame_1_statics s) 24 1152 → Post tb e args s (.returned v) u) :
    ArmFor flags0 classFile x code maxLocals ret World_1 tables_1 room_1 Calls_1 rest_1 Pre_1 Post := by
  intro l hfl _ _ p e ha hc hk s m args below hf hA hF happ hP
  obtain ⟨hcalls, hrest, hpre⟩ := hP
  obtain ⟨-, -, -, hnamed, -, -, -, hat⟩ := (Spec.applies_iff hf).mp happ
  obtain ⟨hg, hn⟩ := and_e (Cond.before_iff.mp (show (Jvm.Cond.and given_1 narrow_1).before args s = true from hpre))
  obtain ⟨hg0, hgr⟩ := and_e hg
  obtain ⟨ha0, hgr⟩ := and_e hgr
  obtain ⟨ha1, hgr⟩ := and_e hgr
  obtain ⟨ha2, hgr⟩ := and_e hgr
  have ha3 := hgr
  obtain ⟨w0, w1, w2, w3, rfl⟩ : ∃ w0 w1 w2 w3 : Value, args = #[w0, w1, w2, w3] := by
    have hs : args.size = 4 := by simpa [Cond.value, given_1] using hg0
    obtain ⟨L⟩ := args
    match L, hs with
    | [w0, w1, w2, w3], _ => exact ⟨w0, w1, w2, w3, rfl⟩
  have hw := fun d (hd : d ∈ tables_1) => atoms_spec (ws := Jvm.Cond.code x code maxLocals ret :: tables_1) hat d (List.mem_cons_of_mem _ hd)
  have hfit : Fit s := fun {y c} hc i hi => by
    obtain ⟨ha, rfl⟩ := Array.getElem?_eq_some_iff.mp hc
    have q := List.all_eq_true.mp ((Array.all_eq_true_iff_forall_mem.mp hF) _ (Array.getElem_mem ha)) i (List.mem_range.mpr hi)
    simpa [Array.getElem?_eq_getElem hi] using q
  obtain ⟨hsets, hown0⟩ := atoms_of _ (rest_1_c_eq ▸ (show rest_1_c.before _ s = true from hrest))
  obtain ⟨i0, ei0⟩ := is_v ha0
  obtain rfl : w0 = (.int i0) := Option.some.inj ei0
  obtain ⟨i1, ei1⟩ := is_v ha1
  obtain rfl : w1 = (.int i1) := Option.some.inj ei1
  obtain ⟨i2, ei2⟩ := is_v ha2
  obtain rfl : w2 = (.int i2) := Option.some.inj ei2
  obtain ⟨i3, ei3⟩ := is_v ha3
  obtain rfl : w3 = (.int i3) := Option.some.inj ei3
  obtain ⟨cs, ev_cs⟩ := is_v (Cond.before_iff.mp (hsets _ (List.mem_of_getElem? (i := 1) rfl)))
  have S_cs := Sta.start ev_cs (Or.inl (hsets _ (List.mem_of_getElem? (i := 0) rfl)))
  have hcs : ¬ cs = (0 : Int32) := gotF (Cond.eq_ints ev_cs (Term.int_eval 0)) (by have q := not_v (Cond.before_iff.mp (hsets _ (List.mem_of_getElem? (i := 2) rfl))); exact q)
  obtain ⟨n, o, h1, h2, h3, _, L, rfl, ⟨rfl, N⟩, hq⟩ := own_rm0 l s _ hw tables_1 i0 i1 i2 i3 cs s.heap s.heap.size (Nat.le_refl _) (Old.start s) hcs S_cs p e ha hc hk s m _ below hf ((Spec.applies_iff_loose hf).mp happ).1 ⟨rfl, State.Warmed39.refl s, rfl⟩ trivial
  refine ⟨n, _, h1, h2, h3, hpost _ _ _ _ _ _ ⟨Cond.after_iff.mpr rfl, Cond.after_iff.mpr (eq_i res_at (Term.int_eval (1)) rfl), trivial⟩ ⟨hq.1, hq.2.1, hq.2.2.1, (hq.2.2.2.sift fun y hy => Or.inr (N y hy)).mono (by decide) (by decide)⟩⟩
theorem main_1_1 : Claimed_1_1 := own_comes_1 fun _ _ _ _ _ _ h hF => ⟨h.1, hF⟩
theorem main_1_2 : Claimed_1_2 := own_comes_1 fun _ _ _ _ _ _ h hF => ⟨h.2.1, hF⟩
end Jvm.Pilot.@@N@@
namespace Jvm.Pilot.@@N@@
open Jvm Jvm.ClassFile Sem Op Lib Jvm.Free Jvm.Stand Jvm.Pilot.@@N@@.Jvm.D
/-! MADE BY PROGRAM (witnessworld.py) out of the Statement's table words and the real class files: 22 classes; the members and pool entries that the words name. The judged class is class 1, her method 2. -/
namespace start1
open Jvm.ClassFile
def u (s : String) : CpInfo := .utf8 (stringToUtf16 s)
/-- a pool by its gaps: so many unusable entries, then the entry; so many at the end -/
def gap : Nat → List CpInfo → List CpInfo
  | 0, r => r
  | n + 1, r => .unusable :: gap n r
def poolList (es : List (Nat × CpInfo)) (last : Nat) : List CpInfo := es.foldr (fun e r => gap e.1 (e.2 :: r)) (gap last [])
def pool (es : List (Nat × CpInfo)) (last : Nat) : Array CpInfo := ⟨poolList es last⟩
def fileOf (pool : Array CpInfo) (this : Nat) (attrs : Array Attribute := #[]) (ms : Array MethodInfo := #[]) (fl : Nat := 33) (sup : Nat := 0) (ifs : Array Nat := #[]) (fds : Array FieldInfo := #[]) : ClassFile where
  minorVersion := 0
  majorVersion := 65
  constantPool := pool
  accessFlags := fl
  thisClass := this
  superClass := sup
  interfaces := ifs
  fields := fds
  methods := ms
  attributes := attrs
def plain (name : String) (sup : Option ClassId) : Class where
  name := name
  kind := .ordinary
  loader := none
  accessFlags := 33
  super := sup
  interfaces := #[]
  cf := none
  fields := #[]
  methods := #[]
  instanceTypes := #[]
  staticTypes := #[]
  resolved := #[]
  callSites := []
  init := .initialized
  statics := none
  mirror := none

def pool0 : Array CpInfo := pool [(5, u "<init>"), (0, u "()V"), (1, .class_ 10), (1, u "java/lang/Object")] 113

def k0c0 : Code := { maxStack := 0, maxLocals := 1, code := object_method_1_code, exceptionTable := #[], attributes := #[] }
def k0m0 : Method := { name := "<init>", desc := "()V", sig := { parameters := [], returnType := none }, accessFlags := 1, code := some k0c0 }
/-- java/lang/Object -/
def k0 : Class := { plain "java/lang/Object" none with
  accessFlags := 33
  interfaces := #[]
  cf := some (fileOf pool0 8 #[] #[{ accessFlags := 1, nameIndex := 5, descriptorIndex := 6, attributes := #[] }] 33 0 #[] #[])
  fields := #[]
  methods := #[k0m0]
  instanceTypes := #[]
  staticTypes := #[]
  resolved := Array.replicate 124 none
  statics := none }

def pool1 : Array CpInfo := pool [(2, .class_ 4), (1, u "java/lang/Object"), (0, u "<init>"), (0, u "()V"), (0, .methodref 8 9), (0, .class_ 10), (0, .nameAndType 11 12), (0, u "com/example/operation_tracker/operationtracker/model/TaskIdFirstPinLaw"), (0, u "draw"), (0, u "(I)C"), (0, .integer 2147483647), (0, .class_ 15), (0, u "java/lang/String"), (0, .methodref 14 17), (0, .nameAndType 5 18), (0, u "([C)V"), (0, .methodref 20 21), (0, .class_ 22), (0, .nameAndType 23 24), (0, u "com/example/operation_tracker/operationtracker/model/TaskId"), (0, u "first"), (0, u "(Ljava/lang/String;)Lcom/example/operation_tracker/operationtracker/model/TaskId;"), (0, .methodref 20 26), (0, .nameAndType 27 28), (0, u "toString"), (0, u "()Ljava/lang/String;"), (0, .methodref 14 30), (0, .nameAndType 31 32), (0, u "equals"), (0, u "(Ljava/lang/Object;)Z"), (0, .methodref 14 34), (0, .nameAndType 35 36), (0, u "length"), (0, u "()I"), (0, .methodref 20 38), (0, .nameAndType 39 28), (0, u "jobId"), (0, .methodref 20 41), (0, .nameAndType 42 36), (0, u "depth"), (3, u "law"), (0, u "(IIII)Z")] 4

def k1m0 : Method := { name := "<init>", desc := "()V", sig := { parameters := [], returnType := none }, accessFlags := 1, code := none }
def k1c1 : Code := { maxStack := 2, maxLocals := 2, code := method_2_code, exceptionTable := #[], attributes := #[] }
def k1m1 : Method := { name := "draw", desc := "(I)C", sig := { parameters := [.int], returnType := some .char }, accessFlags := 10, code := some k1c1 }
def k1c2 : Code := { maxStack := 4, maxLocals := 12, code := code, exceptionTable := #[], attributes := #[] }
def k1m2 : Method := { name := "law", desc := "(IIII)Z", sig := { parameters := [.int, .int, .int, .int], returnType := some .boolean }, accessFlags := 9, code := some k1c2 }
/-- com/example/operation_tracker/operationtracker/model/TaskIdFirstPinLaw -/
def k1 : Class := { plain "com/example/operation_tracker/operationtracker/model/TaskIdFirstPinLaw" (some 0) with
  accessFlags := 49
  interfaces := #[]
  cf := some (fileOf pool1 8 #[] #[{ accessFlags := 1, nameIndex := 5, descriptorIndex := 6, attributes := #[] }, { accessFlags := 10, nameIndex := 11, descriptorIndex := 12, attributes := #[] }, { accessFlags := 9, nameIndex := 46, descriptorIndex := 47, attributes := #[] }] 49 2 #[] #[])
  fields := #[]
  methods := #[k1m0, k1m1, k1m2]
  instanceTypes := #[]
  staticTypes := #[]
  resolved := Array.replicate 52 none
  statics := none }

def pool2 : Array CpInfo := pool [(1, .class_ 2), (0, u "java/io/Serializable"), (0, .class_ 4), (0, u "java/lang/Object")] 2

/-- java/io/Serializable -/
def k2 : Class := { plain "java/io/Serializable" (some 0) with
  accessFlags := 1537
  interfaces := #[]
  cf := some (fileOf pool2 1 #[] #[] 1537 3 #[] #[])
  fields := #[]
  methods := #[]
  instanceTypes := #[]
  staticTypes := #[]
  resolved := Array.replicate 7 none
  statics := none }

def pool3 : Array CpInfo := pool [(1, .class_ 2), (0, u "java/lang/Comparable"), (0, .class_ 4), (0, u "java/lang/Object")] 7

/-- java/lang/Comparable -/
def k3 : Class := { plain "java/lang/Comparable" (some 0) with
  accessFlags := 1537
  interfaces := #[]
  cf := some (fileOf pool3 1 #[] #[] 1537 3 #[] #[])
  fields := #[]
  methods := #[]
  instanceTypes := #[]
  staticTypes := #[]
  resolved := Array.replicate 12 none
  statics := none }

def pool4 : Array CpInfo := pool [(2, .class_ 4), (1, u "java/lang/CharSequence"), (42, .class_ 48), (0, u "java/lang/CharSequence$1CodePointIterator"), (10, .class_ 60), (0, u "java/lang/CharSequence$1CharIterator"), (5, .class_ 67), (0, u "java/lang/Object")] 63

/-- java/lang/CharSequence -/
def k4 : Class := { plain "java/lang/CharSequence" (some 0) with
  accessFlags := 1537
  interfaces := #[]
  cf := some (fileOf pool4 2 #[.nestMembers #[47, 59]] #[] 1537 66 #[] #[])
  fields := #[]
  methods := #[]
  instanceTypes := #[]
  staticTypes := #[]
  resolved := Array.replicate 131 none
  statics := none }

def pool5 : Array CpInfo := pool [(1, .class_ 2), (0, u "java/lang/constant/Constable"), (0, .class_ 4), (0, u "java/lang/Object")] 6

/-- java/lang/constant/Constable -/
def k5 : Class := { plain "java/lang/constant/Constable" (some 0) with
  accessFlags := 1537
  interfaces := #[]
  cf := some (fileOf pool5 1 #[] #[] 1537 3 #[] #[])
  fields := #[]
  methods := #[]
  instanceTypes := #[]
  staticTypes := #[]
  resolved := Array.replicate 11 none
  statics := none }

def pool6 : Array CpInfo := pool [(1, .class_ 2), (0, u "java/lang/constant/ConstantDesc"), (0, .class_ 4), (0, u "java/lang/Object")] 32

/-- java/lang/constant/ConstantDesc -/
def k6 : Class := { plain "java/lang/constant/ConstantDesc" (some 0) with
  accessFlags := 1537
  interfaces := #[]
  cf := some (fileOf pool6 1 #[] #[] 1537 3 #[] #[])
  fields := #[]
  methods := #[]
  instanceTypes := #[]
  staticTypes := #[]
  resolved := Array.replicate 37 none
  statics := none }

def pool7 : Array CpInfo := pool [(1, .methodref 2 3), (0, .class_ 4), (0, .nameAndType 5 6), (0, u "java/lang/Object"), (0, u "<init>"), (0, u "()V"), (2, .fieldref 10 11), (0, .class_ 12), (0, .nameAndType 13 14), (0, u "java/lang/String"), (0, u "value"), (0, u "[B"), (0, .fieldref 10 16), (0, .nameAndType 17 18), (0, u "coder"), (0, u "B"), (2, u "hash"), (0, u "I"), (2, u "hashIsZero"), (0, u "Z"), (0, .methodref 10 28), (0, .nameAndType 5 29), (0, u "([CIILjava/lang/Void;)V"), (8, .fieldref 10 39), (0, .nameAndType 40 26), (0, u "COMPACT_STRINGS"), (1, .class_ 44), (1, u "java/lang/StringUTF16"), (0, u "compress"), (1, .methodref 42 48), (0, .nameAndType 49 50), (0, u "coderFromArrayLen"), (0, u "([BI)B"), (56, .class_ 109), (1, u "java/lang/StringLatin1"), (32, u "()Z"), (34, .methodref 42 178), (0, .nameAndType 45 179), (0, u "([CII)[B"), (154, u "()I"), (0, .methodref 10 336), (0, .nameAndType 17 337), (0, u "()B"), (154, .methodref 10 493), (0, .nameAndType 494 142), (0, u "isLatin1"), (10, .methodref 10 506), (0, .nameAndType 507 334), (0, u "length"), (33, .methodref 107 542), (0, .nameAndType 543 544), (0, u "equals"), (0, u "([B[B)Z"), (28, u "(Ljava/lang/Object;)Z"), (1, .class_ 576), (0, u "java/lang/CharSequence"), (22, u "CASE_INSENSITIVE_ORDER"), (0, u "Ljava/util/Comparator;"), (32, .methodref 10 634), (0, .nameAndType 635 636), (0, u "indexOf"), (0, u "(II)I"), (0, .methodref 107 638), (0, .nameAndType 635 639), (0, u "([BIII)I"), (52, u "isEmpty"), (72, u "(I)I"), (244, u "([C)V"), (90, u "serialPersistentFields"), (0, u "[Ljava/io/ObjectStreamField;"), (0, .class_ 1104), (0, u "java/lang/String$CaseInsensitiveComparator"), (1, .class_ 1107), (0, u "java/io/Serializable"), (0, .class_ 1109), (0, u "java/lang/Comparable"), (0, .class_ 1111), (0, u "java/lang/constant/Constable"), (0, .class_ 1113), (0, u "java/lang/constant/ConstantDesc"), (2, u "serialVersionUID"), (0, u "J"), (3, u "REPL"), (0, u "C"), (2, u "LATIN1"), (1, u "UTF16")] 323

def k7m0 : Method := { name := "<init>", desc := "()V", sig := { parameters := [], returnType := none }, accessFlags := 1, code := none }
def k7c1 : Code := { maxStack := 5, maxLocals := 2, code := jdk_42_method_3_code, exceptionTable := #[], attributes := #[] }
def k7m1 : Method := { name := "<init>", desc := "([C)V", sig := { parameters := [(.array .char)], returnType := none }, accessFlags := 1, code := some k7c1 }
def k7c2 : Code := { maxStack := 2, maxLocals := 1, code := jdk_42_method_54_code, exceptionTable := #[], attributes := #[] }
def k7m2 : Method := { name := "length", desc := "()I", sig := { parameters := [], returnType := some .int }, accessFlags := 1, code := some k7c2 }
def k7c3 : Code := { maxStack := 1, maxLocals := 1, code := jdk_42_method_55_code, exceptionTable := #[], attributes := #[] }
def k7m3 : Method := { name := "isEmpty", desc := "()Z", sig := { parameters := [], returnType := some .boolean }, accessFlags := 1, code := some k7c3 }
def k7c4 : Code := { maxStack := 2, maxLocals := 3, code := jdk_42_method_66_code, exceptionTable := #[], attributes := #[] }
def k7m4 : Method := { name := "equals", desc := "(Ljava/lang/Object;)Z", sig := { parameters := [(.object "java/lang/Object")], returnType := some .boolean }, accessFlags := 1, code := some k7c4 }
def k7c5 : Code := { maxStack := 3, maxLocals := 2, code := jdk_42_method_79_code, exceptionTable := #[], attributes := #[] }
def k7m5 : Method := { name := "indexOf", desc := "(I)I", sig := { parameters := [.int], returnType := some .int }, accessFlags := 1, code := some k7c5 }
def k7c6 : Code := { maxStack := 4, maxLocals := 3, code := jdk_42_method_80_code, exceptionTable := #[], attributes := #[] }
def k7m6 : Method := { name := "indexOf", desc := "(II)I", sig := { parameters := [.int, .int], returnType := some .int }, accessFlags := 1, code := some k7c6 }
def k7c7 : Code := { maxStack := 4, maxLocals := 6, code := jdk_42_method_149_code, exceptionTable := #[], attributes := #[] }
def k7m7 : Method := { name := "<init>", desc := "([CIILjava/lang/Void;)V", sig := { parameters := [(.array .char), .int, .int, (.object "java/lang/Void")], returnType := none }, accessFlags := 2, code := some k7c7 }
def k7c8 : Code := { maxStack := 1, maxLocals := 1, code := jdk_42_method_152_code, exceptionTable := #[], attributes := #[] }
def k7m8 : Method := { name := "coder", desc := "()B", sig := { parameters := [], returnType := some .byte }, accessFlags := 0, code := some k7c8 }
def k7c9 : Code := { maxStack := 1, maxLocals := 1, code := jdk_42_method_154_code, exceptionTable := #[], attributes := #[] }
def k7m9 : Method := { name := "isLatin1", desc := "()Z", sig := { parameters := [], returnType := some .boolean }, accessFlags := 0, code := some k7c9 }
/-- java/lang/String -/
def k7 : Class := { plain "java/lang/String" (some 0) with
  accessFlags := 49
  interfaces := #[2, 3, 4, 5, 6]
  cf := some (fileOf pool7 10 #[.nestMembers #[1103]] #[{ accessFlags := 1, nameIndex := 5, descriptorIndex := 6, attributes := #[] }, { accessFlags := 1, nameIndex := 5, descriptorIndex := 1010, attributes := #[] }, { accessFlags := 1, nameIndex := 507, descriptorIndex := 334, attributes := #[] }, { accessFlags := 1, nameIndex := 692, descriptorIndex := 142, attributes := #[] }, { accessFlags := 1, nameIndex := 543, descriptorIndex := 573, attributes := #[] }, { accessFlags := 1, nameIndex := 635, descriptorIndex := 765, attributes := #[] }, { accessFlags := 1, nameIndex := 635, descriptorIndex := 636, attributes := #[] }, { accessFlags := 2, nameIndex := 5, descriptorIndex := 29, attributes := #[] }, { accessFlags := 0, nameIndex := 17, descriptorIndex := 337, attributes := #[] }, { accessFlags := 0, nameIndex := 494, descriptorIndex := 142, attributes := #[] }] 49 2 #[1106, 1108, 575, 1110, 1112] #[{ accessFlags := 18, nameIndex := 13, descriptorIndex := 14, attributes := #[] }, { accessFlags := 18, nameIndex := 17, descriptorIndex := 18, attributes := #[] }, { accessFlags := 2, nameIndex := 21, descriptorIndex := 22, attributes := #[] }, { accessFlags := 2, nameIndex := 25, descriptorIndex := 26, attributes := #[] }, { accessFlags := 26, nameIndex := 1116, descriptorIndex := 1117, attributes := #[] }, { accessFlags := 24, nameIndex := 40, descriptorIndex := 26, attributes := #[] }, { accessFlags := 26, nameIndex := 1101, descriptorIndex := 1102, attributes := #[] }, { accessFlags := 26, nameIndex := 1121, descriptorIndex := 1122, attributes := #[] }, { accessFlags := 25, nameIndex := 599, descriptorIndex := 600, attributes := #[] }, { accessFlags := 24, nameIndex := 1125, descriptorIndex := 18, attributes := #[] }, { accessFlags := 24, nameIndex := 1127, descriptorIndex := 18, attributes := #[] }])
  fields := #[{ name := "value", type := (.array .byte), accessFlags := 18, slot := 0, constantValue := 0 }, { name := "coder", type := .byte, accessFlags := 18, slot := 1, constantValue := 0 }, { name := "hash", type := .int, accessFlags := 2, slot := 2, constantValue := 0 }, { name := "hashIsZero", type := .boolean, accessFlags := 2, slot := 3, constantValue := 0 }, { name := "serialVersionUID", type := .long, accessFlags := 26, slot := 0, constantValue := 0 }, { name := "COMPACT_STRINGS", type := .boolean, accessFlags := 24, slot := 1, constantValue := 0 }, { name := "serialPersistentFields", type := (.array (.object "java/io/ObjectStreamField")), accessFlags := 26, slot := 2, constantValue := 0 }, { name := "REPL", type := .char, accessFlags := 26, slot := 3, constantValue := 0 }, { name := "CASE_INSENSITIVE_ORDER", type := (.object "java/util/Comparator"), accessFlags := 25, slot := 4, constantValue := 0 }, { name := "LATIN1", type := .byte, accessFlags := 24, slot := 5, constantValue := 0 }, { name := "UTF16", type := .byte, accessFlags := 24, slot := 6, constantValue := 0 }]
  methods := #[k7m0, k7m1, k7m2, k7m3, k7m4, k7m5, k7m6, k7m7, k7m8, k7m9]
  instanceTypes := #[(.array .byte), .byte, .int, .boolean]
  staticTypes := #[.long, .boolean, (.array (.object "java/io/ObjectStreamField")), .char, (.object "java/util/Comparator"), .byte, .byte]
  resolved := Array.replicate 1451 none
  statics := some 0 }

def pool8 : Array CpInfo := pool [(6, .class_ 8), (1, u "java/lang/Object"), (0, u "<init>"), (0, u "()V"), (1, .class_ 14), (1, u "java/lang/StringUTF16"), (31, u "$assertionsDisabled"), (0, u "Z"), (13, u "HI_BYTE_SHIFT"), (0, u "I"), (2, u "LO_BYTE_SHIFT"), (49, .methodref 12 116), (0, .nameAndType 117 118), (0, u "compress"), (0, u "([CI[BII)I"), (3, u "([CII)[B"), (138, u "coderFromArrayLen"), (0, u "([BI)B"), (106, .class_ 371), (1, u "java/lang/StringUTF16$LinesSpliterator"), (58, u "MAX_LENGTH"), (196, .class_ 628), (0, u "java/lang/StringUTF16$CodePointsSpliterator"), (0, .class_ 630), (0, u "java/lang/StringUTF16$CharsSpliterator")] 4

def k8m0 : Method := { name := "<init>", desc := "()V", sig := { parameters := [], returnType := none }, accessFlags := 0, code := none }
def k8c1 : Code := { maxStack := 2, maxLocals := 2, code := jdk_52_method_15_code, exceptionTable := #[], attributes := #[] }
def k8m1 : Method := { name := "coderFromArrayLen", desc := "([BI)B", sig := { parameters := [(.array .byte), .int], returnType := some .byte }, accessFlags := 8, code := some k8c1 }
def k8c2 : Code := { maxStack := 5, maxLocals := 6, code := jdk_52_method_16_code, exceptionTable := #[], attributes := #[] }
def k8m2 : Method := { name := "compress", desc := "([CII)[B", sig := { parameters := [(.array .char), .int, .int], returnType := some (.array .byte) }, accessFlags := 9, code := some k8c2 }
def k8c3 : Code := { maxStack := 3, maxLocals := 7, code := jdk_52_method_21_code, exceptionTable := #[], attributes := #[] }
def k8m3 : Method := { name := "compress", desc := "([CI[BII)I", sig := { parameters := [(.array .char), .int, (.array .byte), .int, .int], returnType := some .int }, accessFlags := 9, code := some k8c3 }
/-- java/lang/StringUTF16 -/
def k8 : Class := { plain "java/lang/StringUTF16" (some 0) with
  accessFlags := 48
  interfaces := #[]
  cf := some (fileOf pool8 12 #[.nestMembers #[627, 629, 369]] #[{ accessFlags := 0, nameIndex := 9, descriptorIndex := 10, attributes := #[] }, { accessFlags := 8, nameIndex := 261, descriptorIndex := 262, attributes := #[] }, { accessFlags := 9, nameIndex := 117, descriptorIndex := 122, attributes := #[] }, { accessFlags := 9, nameIndex := 117, descriptorIndex := 118, attributes := #[] }] 48 6 #[] #[{ accessFlags := 26, nameIndex := 61, descriptorIndex := 62, attributes := #[] }, { accessFlags := 26, nameIndex := 65, descriptorIndex := 62, attributes := #[] }, { accessFlags := 24, nameIndex := 430, descriptorIndex := 62, attributes := #[] }, { accessFlags := 4120, nameIndex := 46, descriptorIndex := 47, attributes := #[] }])
  fields := #[{ name := "HI_BYTE_SHIFT", type := .int, accessFlags := 26, slot := 0, constantValue := 0 }, { name := "LO_BYTE_SHIFT", type := .int, accessFlags := 26, slot := 1, constantValue := 0 }, { name := "MAX_LENGTH", type := .int, accessFlags := 24, slot := 2, constantValue := 0 }, { name := "$assertionsDisabled", type := .boolean, accessFlags := 4120, slot := 3, constantValue := 0 }]
  methods := #[k8m0, k8m1, k8m2, k8m3]
  instanceTypes := #[]
  staticTypes := #[.int, .int, .int, .boolean]
  resolved := Array.replicate 635 none
  statics := none }

def pool9 : Array CpInfo := pool [(1, .methodref 2 3), (0, .class_ 4), (0, .nameAndType 5 6), (0, u "java/lang/Object"), (0, u "<init>"), (0, u "()V"), (0, .fieldref 8 9), (0, .class_ 10), (0, .nameAndType 11 12), (0, u "com/example/operation_tracker/operationtracker/model/TaskId"), (0, u "jobId"), (0, u "Ljava/lang/String;"), (0, .fieldref 8 14), (0, .nameAndType 15 16), (0, u "subtaskNumbers"), (0, u "[I"), (0, .fieldref 8 18), (0, .nameAndType 19 12), (0, u "text"), (0, .methodref 8 21), (0, .nameAndType 22 23), (0, u "requireUsableJobId"), (0, u "(Ljava/lang/String;)V"), (0, .methodref 8 25), (0, .nameAndType 5 26), (0, u "(Ljava/lang/String;[ILjava/lang/String;)V"), (1, .methodref 29 30), (0, .class_ 31), (0, .nameAndType 32 33), (0, u "java/util/Objects"), (0, u "requireNonNull"), (0, u "(Ljava/lang/Object;Ljava/lang/String;)Ljava/lang/Object;"), (1, .class_ 37), (1, u "java/lang/String"), (1, u "()I"), (28, .string 11), (0, .methodref 35 70), (0, .nameAndType 71 72), (0, u "isEmpty"), (0, u "()Z"), (0, .methodref 35 74), (0, .nameAndType 75 76), (0, u "indexOf"), (0, u "(I)I"), (56, u "MAX_NUMBER_DIGITS"), (0, u "I"), (4, u "first"), (0, u "(Ljava/lang/String;)Lcom/example/operation_tracker/operationtracker/model/TaskId;"), (12, u "depth"), (0, u "()Ljava/lang/String;"), (0, u "toString")] 19

def k9c0 : Code := { maxStack := 2, maxLocals := 4, code := prog_12_method_1_code, exceptionTable := #[], attributes := #[] }
def k9m0 : Method := { name := "<init>", desc := "(Ljava/lang/String;[ILjava/lang/String;)V", sig := { parameters := [(.object "java/lang/String"), (.array .int), (.object "java/lang/String")], returnType := none }, accessFlags := 2, code := some k9c0 }
def k9c1 : Code := { maxStack := 5, maxLocals := 1, code := prog_12_method_2_code, exceptionTable := #[], attributes := #[] }
def k9m1 : Method := { name := "first", desc := "(Ljava/lang/String;)Lcom/example/operation_tracker/operationtracker/model/TaskId;", sig := { parameters := [(.object "java/lang/String")], returnType := some (.object "com/example/operation_tracker/operationtracker/model/TaskId") }, accessFlags := 9, code := some k9c1 }
def k9c2 : Code := { maxStack := 3, maxLocals := 1, code := prog_12_method_4_code, exceptionTable := #[], attributes := #[] }
def k9m2 : Method := { name := "requireUsableJobId", desc := "(Ljava/lang/String;)V", sig := { parameters := [(.object "java/lang/String")], returnType := none }, accessFlags := 10, code := some k9c2 }
def k9c3 : Code := { maxStack := 1, maxLocals := 1, code := prog_12_method_9_code, exceptionTable := #[], attributes := #[] }
def k9m3 : Method := { name := "depth", desc := "()I", sig := { parameters := [], returnType := some .int }, accessFlags := 1, code := some k9c3 }
def k9c4 : Code := { maxStack := 1, maxLocals := 1, code := prog_12_method_10_code, exceptionTable := #[], attributes := #[] }
def k9m4 : Method := { name := "jobId", desc := "()Ljava/lang/String;", sig := { parameters := [], returnType := some (.object "java/lang/String") }, accessFlags := 1, code := some k9c4 }
def k9c5 : Code := { maxStack := 1, maxLocals := 1, code := prog_12_method_11_code, exceptionTable := #[], attributes := #[] }
def k9m5 : Method := { name := "toString", desc := "()Ljava/lang/String;", sig := { parameters := [], returnType := some (.object "java/lang/String") }, accessFlags := 1, code := some k9c5 }
/-- com/example/operation_tracker/operationtracker/model/TaskId -/
def k9 : Class := { plain "com/example/operation_tracker/operationtracker/model/TaskId" (some 0) with
  accessFlags := 49
  interfaces := #[]
  cf := some (fileOf pool9 8 #[] #[{ accessFlags := 2, nameIndex := 5, descriptorIndex := 26, attributes := #[] }, { accessFlags := 9, nameIndex := 139, descriptorIndex := 140, attributes := #[] }, { accessFlags := 10, nameIndex := 22, descriptorIndex := 23, attributes := #[] }, { accessFlags := 1, nameIndex := 153, descriptorIndex := 39, attributes := #[] }, { accessFlags := 1, nameIndex := 11, descriptorIndex := 154, attributes := #[] }, { accessFlags := 1, nameIndex := 155, descriptorIndex := 154, attributes := #[] }] 49 2 #[] #[{ accessFlags := 26, nameIndex := 133, descriptorIndex := 134, attributes := #[] }, { accessFlags := 18, nameIndex := 11, descriptorIndex := 12, attributes := #[] }, { accessFlags := 18, nameIndex := 15, descriptorIndex := 16, attributes := #[] }, { accessFlags := 18, nameIndex := 19, descriptorIndex := 12, attributes := #[] }])
  fields := #[{ name := "MAX_NUMBER_DIGITS", type := .int, accessFlags := 26, slot := 0, constantValue := 0 }, { name := "jobId", type := (.object "java/lang/String"), accessFlags := 18, slot := 0, constantValue := 0 }, { name := "subtaskNumbers", type := (.array .int), accessFlags := 18, slot := 1, constantValue := 0 }, { name := "text", type := (.object "java/lang/String"), accessFlags := 18, slot := 2, constantValue := 0 }]
  methods := #[k9m0, k9m1, k9m2, k9m3, k9m4, k9m5]
  instanceTypes := #[(.object "java/lang/String"), (.array .int), (.object "java/lang/String")]
  staticTypes := #[.int]
  resolved := Array.replicate 175 none
  statics := none }

def pool10 : Array CpInfo := pool [(2, .class_ 4), (1, u "java/lang/Object"), (0, u "<init>"), (0, u "()V"), (35, .class_ 44), (1, u "java/util/Objects"), (0, u "requireNonNull"), (48, u "(Ljava/lang/Object;Ljava/lang/String;)Ljava/lang/Object;")] 89

def k10m0 : Method := { name := "<init>", desc := "()V", sig := { parameters := [], returnType := none }, accessFlags := 2, code := none }
def k10c1 : Code := { maxStack := 3, maxLocals := 2, code := jdk_31_method_11_code, exceptionTable := #[], attributes := #[] }
def k10m1 : Method := { name := "requireNonNull", desc := "(Ljava/lang/Object;Ljava/lang/String;)Ljava/lang/Object;", sig := { parameters := [(.object "java/lang/Object"), (.object "java/lang/String")], returnType := some (.object "java/lang/Object") }, accessFlags := 9, code := some k10c1 }
/-- java/util/Objects -/
def k10 : Class := { plain "java/util/Objects" (some 0) with
  accessFlags := 49
  interfaces := #[]
  cf := some (fileOf pool10 42 #[] #[{ accessFlags := 2, nameIndex := 5, descriptorIndex := 6, attributes := #[] }, { accessFlags := 9, nameIndex := 45, descriptorIndex := 94, attributes := #[] }] 49 2 #[] #[])
  fields := #[]
  methods := #[k10m0, k10m1]
  instanceTypes := #[]
  staticTypes := #[]
  resolved := Array.replicate 184 none
  statics := none }

def pool11 : Array CpInfo := pool [(4, .class_ 6), (1, u "java/lang/Object"), (0, u "<init>"), (0, u "()V"), (5, .class_ 16), (1, u "java/lang/StringLatin1"), (21, .methodref 39 40), (0, .class_ 41), (0, .nameAndType 42 43), (0, u "java/lang/Math"), (0, u "min"), (0, u "(II)I"), (44, .methodref 14 89), (0, .nameAndType 90 91), (0, u "canEncode"), (0, u "(I)Z"), (0, .methodref 39 93), (0, .nameAndType 94 43), (0, u "max"), (0, .methodref 14 96), (0, .nameAndType 97 98), (0, u "indexOfChar"), (0, u "([BIII)I"), (2, u "indexOf"), (19, u "$assertionsDisabled"), (0, u "Z"), (98, .class_ 223), (1, u "java/lang/StringLatin1$LinesSpliterator"), (57, u "equals"), (0, u "([B[B)Z"), (107, .class_ 391), (0, u "java/lang/StringLatin1$CharsSpliterator")] 3

def k11m0 : Method := { name := "<init>", desc := "()V", sig := { parameters := [], returnType := none }, accessFlags := 0, code := none }
def k11c1 : Code := { maxStack := 2, maxLocals := 1, code := jdk_43_method_4_code, exceptionTable := #[], attributes := #[] }
def k11m1 : Method := { name := "canEncode", desc := "(I)Z", sig := { parameters := [.int], returnType := some .boolean }, accessFlags := 9, code := some k11c1 }
def k11c2 : Code := { maxStack := 3, maxLocals := 3, code := jdk_43_method_13_code, exceptionTable := #[], attributes := #[] }
def k11m2 : Method := { name := "equals", desc := "([B[B)Z", sig := { parameters := [(.array .byte), (.array .byte)], returnType := some .boolean }, accessFlags := 9, code := some k11c2 }
def k11c3 : Code := { maxStack := 4, maxLocals := 4, code := jdk_43_method_22_code, exceptionTable := #[], attributes := #[] }
def k11m3 : Method := { name := "indexOf", desc := "([BIII)I", sig := { parameters := [(.array .byte), .int, .int, .int], returnType := some .int }, accessFlags := 9, code := some k11c3 }
def k11c4 : Code := { maxStack := 2, maxLocals := 6, code := jdk_43_method_23_code, exceptionTable := #[], attributes := #[] }
def k11m4 : Method := { name := "indexOfChar", desc := "([BIII)I", sig := { parameters := [(.array .byte), .int, .int, .int], returnType := some .int }, accessFlags := 10, code := some k11c4 }
/-- java/lang/StringLatin1 -/
def k11 : Class := { plain "java/lang/StringLatin1" (some 0) with
  accessFlags := 48
  interfaces := #[]
  cf := some (fileOf pool11 14 #[.nestMembers #[390, 221]] #[{ accessFlags := 0, nameIndex := 7, descriptorIndex := 8, attributes := #[] }, { accessFlags := 9, nameIndex := 90, descriptorIndex := 91, attributes := #[] }, { accessFlags := 9, nameIndex := 281, descriptorIndex := 282, attributes := #[] }, { accessFlags := 9, nameIndex := 101, descriptorIndex := 98, attributes := #[] }, { accessFlags := 10, nameIndex := 97, descriptorIndex := 98, attributes := #[] }] 48 4 #[] #[{ accessFlags := 4120, nameIndex := 121, descriptorIndex := 122, attributes := #[] }])
  fields := #[{ name := "$assertionsDisabled", type := .boolean, accessFlags := 4120, slot := 0, constantValue := 0 }]
  methods := #[k11m0, k11m1, k11m2, k11m3, k11m4]
  instanceTypes := #[]
  staticTypes := #[.boolean]
  resolved := Array.replicate 395 none
  statics := none }

def pool12 : Array CpInfo := pool [(1, .class_ 2), (0, u "java/lang/Math"), (1, .class_ 6), (1, u "java/lang/Object"), (0, u "<init>"), (0, u "()V"), (89, .class_ 100), (1, u "java/lang/Math$RandomNumberGeneratorHolder"), (71, u "negativeZeroFloatBits"), (0, u "J"), (2, u "negativeZeroDoubleBits"), (21, u "max"), (2, u "min"), (43, u "$assertionsDisabled"), (0, u "Z"), (88, u "(II)I"), (2, u "twoToTheDoubleScaleDown"), (0, u "D"), (4, u "twoToTheDoubleScaleUp"), (9, u "E"), (3, u "PI"), (2, u "TAU"), (2, u "DEGREES_TO_RADIANS"), (0, u "RADIANS_TO_DEGREES")] 94

def k12m0 : Method := { name := "<init>", desc := "()V", sig := { parameters := [], returnType := none }, accessFlags := 2, code := none }
def k12c1 : Code := { maxStack := 2, maxLocals := 2, code := jdk_29_method_65_code, exceptionTable := #[], attributes := #[] }
def k12m1 : Method := { name := "max", desc := "(II)I", sig := { parameters := [.int, .int], returnType := some .int }, accessFlags := 9, code := some k12c1 }
def k12c2 : Code := { maxStack := 2, maxLocals := 2, code := jdk_29_method_69_code, exceptionTable := #[], attributes := #[] }
def k12m2 : Method := { name := "min", desc := "(II)I", sig := { parameters := [.int, .int], returnType := some .int }, accessFlags := 9, code := some k12c2 }
/-- java/lang/Math -/
def k12 : Class := { plain "java/lang/Math" (some 0) with
  accessFlags := 49
  interfaces := #[]
  cf := some (fileOf pool12 1 #[.nestMembers #[98]] #[{ accessFlags := 2, nameIndex := 7, descriptorIndex := 8, attributes := #[] }, { accessFlags := 9, nameIndex := 198, descriptorIndex := 335, attributes := #[] }, { accessFlags := 9, nameIndex := 201, descriptorIndex := 335, attributes := #[] }] 49 4 #[] #[{ accessFlags := 25, nameIndex := 354, descriptorIndex := 339, attributes := #[] }, { accessFlags := 25, nameIndex := 358, descriptorIndex := 339, attributes := #[] }, { accessFlags := 25, nameIndex := 361, descriptorIndex := 339, attributes := #[] }, { accessFlags := 26, nameIndex := 364, descriptorIndex := 339, attributes := #[] }, { accessFlags := 26, nameIndex := 365, descriptorIndex := 339, attributes := #[] }, { accessFlags := 26, nameIndex := 172, descriptorIndex := 173, attributes := #[] }, { accessFlags := 26, nameIndex := 176, descriptorIndex := 173, attributes := #[] }, { accessFlags := 8, nameIndex := 344, descriptorIndex := 339, attributes := #[] }, { accessFlags := 8, nameIndex := 338, descriptorIndex := 339, attributes := #[] }, { accessFlags := 4120, nameIndex := 245, descriptorIndex := 246, attributes := #[] }])
  fields := #[{ name := "E", type := .double, accessFlags := 25, slot := 0, constantValue := 0 }, { name := "PI", type := .double, accessFlags := 25, slot := 1, constantValue := 0 }, { name := "TAU", type := .double, accessFlags := 25, slot := 2, constantValue := 0 }, { name := "DEGREES_TO_RADIANS", type := .double, accessFlags := 26, slot := 3, constantValue := 0 }, { name := "RADIANS_TO_DEGREES", type := .double, accessFlags := 26, slot := 4, constantValue := 0 }, { name := "negativeZeroFloatBits", type := .long, accessFlags := 26, slot := 5, constantValue := 0 }, { name := "negativeZeroDoubleBits", type := .long, accessFlags := 26, slot := 6, constantValue := 0 }, { name := "twoToTheDoubleScaleUp", type := .double, accessFlags := 8, slot := 7, constantValue := 0 }, { name := "twoToTheDoubleScaleDown", type := .double, accessFlags := 8, slot := 8, constantValue := 0 }, { name := "$assertionsDisabled", type := .boolean, accessFlags := 4120, slot := 9, constantValue := 0 }]
  methods := #[k12m0, k12m1, k12m2]
  instanceTypes := #[]
  staticTypes := #[.double, .double, .double, .double, .double, .long, .long, .double, .double, .boolean]
  resolved := Array.replicate 460 none
  statics := none }

def pool13 : Array CpInfo := pool [(2, .class_ 4), (1, u "java/lang/Object"), (0, u "<init>"), (0, u "()V"), (17, .class_ 26), (1, u "jdk/internal/util/Preconditions"), (28, .class_ 56), (0, u "jdk/internal/util/Preconditions$4"), (57, .class_ 115), (0, u "jdk/internal/util/Preconditions$1"), (7, u "SIOOBE_FORMATTER"), (0, u "Ljava/util/function/BiFunction;"), (0, .class_ 126), (0, u "jdk/internal/util/Preconditions$2"), (3, u "AIOOBE_FORMATTER"), (0, .class_ 132), (0, u "jdk/internal/util/Preconditions$3"), (3, u "IOOBE_FORMATTER")] 57

def k13m0 : Method := { name := "<init>", desc := "()V", sig := { parameters := [], returnType := none }, accessFlags := 1, code := none }
/-- jdk/internal/util/Preconditions -/
def k13 : Class := { plain "jdk/internal/util/Preconditions" (some 0) with
  accessFlags := 33
  interfaces := #[]
  cf := some (fileOf pool13 24 #[.nestMembers #[55, 131, 125, 114]] #[{ accessFlags := 1, nameIndex := 5, descriptorIndex := 6, attributes := #[] }] 33 2 #[] #[{ accessFlags := 25, nameIndex := 123, descriptorIndex := 124, attributes := #[] }, { accessFlags := 25, nameIndex := 130, descriptorIndex := 124, attributes := #[] }, { accessFlags := 25, nameIndex := 136, descriptorIndex := 124, attributes := #[] }])
  fields := #[{ name := "SIOOBE_FORMATTER", type := (.object "java/util/function/BiFunction"), accessFlags := 25, slot := 0, constantValue := 0 }, { name := "AIOOBE_FORMATTER", type := (.object "java/util/function/BiFunction"), accessFlags := 25, slot := 1, constantValue := 0 }, { name := "IOOBE_FORMATTER", type := (.object "java/util/function/BiFunction"), accessFlags := 25, slot := 2, constantValue := 0 }]
  methods := #[k13m0]
  instanceTypes := #[]
  staticTypes := #[(.object "java/util/function/BiFunction"), (.object "java/util/function/BiFunction"), (.object "java/util/function/BiFunction")]
  resolved := Array.replicate 194 none
  statics := some 1 }

def pool14 : Array CpInfo := pool [(9, u "<init>"), (6, .class_ 18), (1, u "java/lang/Object"), (0, u "()V"), (1, .class_ 23), (1, u "jdk/internal/util/ArraysSupport"), (0, u "LOG2_ARRAY_LONG_INDEX_SCALE"), (0, u "I"), (2, u "U"), (0, u "Ljdk/internal/misc/Unsafe;"), (8, u "BIG_ENDIAN"), (0, u "Z"), (8, u "LOG2_BYTE_BIT_SIZE"), (4, u "LOG2_ARRAY_INT_INDEX_SCALE"), (54, u "JLA"), (0, u "Ljdk/internal/access/JavaLangAccess;"), (11, u "LOG2_ARRAY_BOOLEAN_INDEX_SCALE"), (9, u "LOG2_ARRAY_BYTE_INDEX_SCALE"), (5, u "LOG2_ARRAY_CHAR_INDEX_SCALE"), (5, u "LOG2_ARRAY_SHORT_INDEX_SCALE"), (18, u "LOG2_ARRAY_FLOAT_INDEX_SCALE"), (24, u "LOG2_ARRAY_DOUBLE_INDEX_SCALE"), (89, u "T_BOOLEAN"), (2, u "T_CHAR"), (1, u "T_FLOAT"), (1, u "T_DOUBLE"), (1, u "T_BYTE"), (1, u "T_SHORT"), (1, u "T_INT"), (1, u "T_LONG"), (1, u "SOFT_MAX_ARRAY_LENGTH")] 83

def k14m0 : Method := { name := "<init>", desc := "()V", sig := { parameters := [], returnType := none }, accessFlags := 2, code := none }
/-- jdk/internal/util/ArraysSupport -/
def k14 : Class := { plain "jdk/internal/util/ArraysSupport" (some 0) with
  accessFlags := 33
  interfaces := #[]
  cf := some (fileOf pool14 21 #[] #[{ accessFlags := 2, nameIndex := 9, descriptorIndex := 19, attributes := #[] }] 33 16 #[] #[{ accessFlags := 24, nameIndex := 28, descriptorIndex := 29, attributes := #[] }, { accessFlags := 26, nameIndex := 38, descriptorIndex := 39, attributes := #[] }, { accessFlags := 25, nameIndex := 121, descriptorIndex := 25, attributes := #[] }, { accessFlags := 25, nameIndex := 131, descriptorIndex := 25, attributes := #[] }, { accessFlags := 25, nameIndex := 137, descriptorIndex := 25, attributes := #[] }, { accessFlags := 25, nameIndex := 143, descriptorIndex := 25, attributes := #[] }, { accessFlags := 25, nameIndex := 53, descriptorIndex := 25, attributes := #[] }, { accessFlags := 25, nameIndex := 24, descriptorIndex := 25, attributes := #[] }, { accessFlags := 25, nameIndex := 162, descriptorIndex := 25, attributes := #[] }, { accessFlags := 25, nameIndex := 187, descriptorIndex := 25, attributes := #[] }, { accessFlags := 26, nameIndex := 48, descriptorIndex := 25, attributes := #[] }, { accessFlags := 25, nameIndex := 277, descriptorIndex := 25, attributes := #[] }, { accessFlags := 25, nameIndex := 280, descriptorIndex := 25, attributes := #[] }, { accessFlags := 25, nameIndex := 282, descriptorIndex := 25, attributes := #[] }, { accessFlags := 25, nameIndex := 284, descriptorIndex := 25, attributes := #[] }, { accessFlags := 25, nameIndex := 286, descriptorIndex := 25, attributes := #[] }, { accessFlags := 25, nameIndex := 288, descriptorIndex := 25, attributes := #[] }, { accessFlags := 25, nameIndex := 290, descriptorIndex := 25, attributes := #[] }, { accessFlags := 25, nameIndex := 292, descriptorIndex := 25, attributes := #[] }, { accessFlags := 26, nameIndex := 108, descriptorIndex := 109, attributes := #[] }, { accessFlags := 25, nameIndex := 294, descriptorIndex := 25, attributes := #[] }])
  fields := #[{ name := "U", type := (.object "jdk/internal/misc/Unsafe"), accessFlags := 24, slot := 0, constantValue := 0 }, { name := "BIG_ENDIAN", type := .boolean, accessFlags := 26, slot := 1, constantValue := 0 }, { name := "LOG2_ARRAY_BOOLEAN_INDEX_SCALE", type := .int, accessFlags := 25, slot := 2, constantValue := 0 }, { name := "LOG2_ARRAY_BYTE_INDEX_SCALE", type := .int, accessFlags := 25, slot := 3, constantValue := 0 }, { name := "LOG2_ARRAY_CHAR_INDEX_SCALE", type := .int, accessFlags := 25, slot := 4, constantValue := 0 }, { name := "LOG2_ARRAY_SHORT_INDEX_SCALE", type := .int, accessFlags := 25, slot := 5, constantValue := 0 }, { name := "LOG2_ARRAY_INT_INDEX_SCALE", type := .int, accessFlags := 25, slot := 6, constantValue := 0 }, { name := "LOG2_ARRAY_LONG_INDEX_SCALE", type := .int, accessFlags := 25, slot := 7, constantValue := 0 }, { name := "LOG2_ARRAY_FLOAT_INDEX_SCALE", type := .int, accessFlags := 25, slot := 8, constantValue := 0 }, { name := "LOG2_ARRAY_DOUBLE_INDEX_SCALE", type := .int, accessFlags := 25, slot := 9, constantValue := 0 }, { name := "LOG2_BYTE_BIT_SIZE", type := .int, accessFlags := 26, slot := 10, constantValue := 0 }, { name := "T_BOOLEAN", type := .int, accessFlags := 25, slot := 11, constantValue := 0 }, { name := "T_CHAR", type := .int, accessFlags := 25, slot := 12, constantValue := 0 }, { name := "T_FLOAT", type := .int, accessFlags := 25, slot := 13, constantValue := 0 }, { name := "T_DOUBLE", type := .int, accessFlags := 25, slot := 14, constantValue := 0 }, { name := "T_BYTE", type := .int, accessFlags := 25, slot := 15, constantValue := 0 }, { name := "T_SHORT", type := .int, accessFlags := 25, slot := 16, constantValue := 0 }, { name := "T_INT", type := .int, accessFlags := 25, slot := 17, constantValue := 0 }, { name := "T_LONG", type := .int, accessFlags := 25, slot := 18, constantValue := 0 }, { name := "JLA", type := (.object "jdk/internal/access/JavaLangAccess"), accessFlags := 26, slot := 19, constantValue := 0 }, { name := "SOFT_MAX_ARRAY_LENGTH", type := .int, accessFlags := 25, slot := 20, constantValue := 0 }]
  methods := #[k14m0]
  instanceTypes := #[]
  staticTypes := #[(.object "jdk/internal/misc/Unsafe"), .boolean, .int, .int, .int, .int, .int, .int, .int, .int, .int, .int, .int, .int, .int, .int, .int, .int, .int, (.object "jdk/internal/access/JavaLangAccess"), .int]
  resolved := Array.replicate 378 none
  statics := none }

def pool15 : Array CpInfo := pool [(1, u "java/lang/Cloneable"), (0, .class_ 1), (0, u "java/lang/Object"), (0, .class_ 3)] 3

/-- java/lang/Cloneable -/
def k15 : Class := { plain "java/lang/Cloneable" (some 0) with
  accessFlags := 1537
  interfaces := #[]
  cf := some (fileOf pool15 2 #[] #[] 1537 4 #[] #[])
  fields := #[]
  methods := #[]
  instanceTypes := #[]
  staticTypes := #[]
  resolved := Array.replicate 8 none
  statics := none }

/-- the primitive byte -/
def k16 : Class := { plain "byte" none with kind := .primitive 'B', accessFlags := 0x411 }
/-- [B -/
def k17 : Class := { plain "[B" (some 0) with kind := .array 16 .byte, interfaces := #[15, 2], accessFlags := 1041 }

/-- the primitive char -/
def k18 : Class := { plain "char" none with kind := .primitive 'C', accessFlags := 0x411 }
/-- [C -/
def k19 : Class := { plain "[C" (some 0) with kind := .array 18 .char, interfaces := #[15, 2], accessFlags := 1041 }

/-- the primitive int -/
def k20 : Class := { plain "int" none with kind := .primitive 'I', accessFlags := 0x411 }
/-- [I -/
def k21 : Class := { plain "[I" (some 0) with kind := .array 20 .int, interfaces := #[15, 2], accessFlags := 1041 }

def heap : Heap := #[{ cls := 7, slots := #[.long 0, .int 1, .null, .int 0, .null, .int 0, .int 0], vm := .statics 7 },
  { cls := 13, slots := #[.null, .null, .null], vm := .statics 13 }]
def classes : Array Class := #[k0, k1, k2, k3, k4, k5, k6, k7, k8, k9, k10, k11, k12, k13, k14, k15, k16, k17, k18, k19, k20, k21]
def interned : List (Array UInt16 × Addr) := []
def slotsUsed : Nat := 10
def theMethod : MethodId := ⟨1, 2⟩
def args0 : Array Value := #[.int 1, .int 2, .int 3, .int 4]
def aboutOver (below : List Frame) : State where
  vm := { classes := classes, interned := interned.toArray }
  heap := heap
  slotsUsed := slotsUsed
  threads := #[{ frames := .invoking theMethod args0 :: below }]
def below0 : List Frame := [.native { method := ⟨0, 0⟩, args := #[] }]
def about1 : State := aboutOver below0
def p0 : Program := .bare "" "" ""
def e0 : Env := launch0.env 0 0 0
theorem w_frames : about1.frames = Frame.invoking theMethod args0 :: below0 := rfl
set_option maxRecDepth 65536 in
theorem w_args : argsFit about1.vm theMethod args0 = true := by decide +kernel
set_option maxRecDepth 65536 in
theorem w_heap : heapFits about1 = true := by decide +kernel
set_option maxRecDepth 65536 in
theorem w_runnable : about1.curStatus? = some .runnable := by decide +kernel
set_option maxRecDepth 65536 in
theorem w_alone : about1.alone = true := by decide +kernel
set_option maxRecDepth 65536 in
theorem w_named : about1.methodNamed? x = some theMethod := by decide +kernel
set_option maxRecDepth 65536 in
theorem w_hears : about1.hears theMethod below0 = true := by decide +kernel
set_option maxRecDepth 65536 in
theorem w_ripe : about1.ripe theMethod args0 below0 = true := by decide +kernel
theorem w_running : about1.status = .running := rfl
set_option maxRecDepth 65536 in
theorem w_room : about1.hasRoom e0.platform room_1 = true :=
  launch0.hasRoom_least _ room_1 (by decide +kernel) (by decide +kernel) (by decide +kernel) (by decide +kernel) (by decide +kernel) (by decide +kernel)
theorem allAtoms_all (ts : List Jvm.Cond) (a : Array Jvm.Value) (st : Jvm.State) : (allAtoms ts).before a st = ts.all (fun c => c.before a st) := by
  induction ts with
  | nil => rfl
  | cons c t ih =>
    show (Jvm.Cond.and c (allAtoms t)).before a st = _
    rw [Jvm.Cond.before_and, ih, List.all_cons]
def words1 : List Jvm.Cond := Jvm.Cond.code x code maxLocals ret :: tables_1
/-- a 'code' word, met by the world's own term for the bytes: nothing is compared byte by byte -/
theorem code_word {y : MethodName} {bytes : ByteArray} {mx : Nat} {rt : Option FieldType} {a : Array Value} {s : State} {m : MethodId} {meth : Method} {c : Code} (h1 : s.methodNamed? y = some m) (h2 : s.vm.method? m = some meth) (h3 : meth.code = some c) (h4 : c.code = bytes)
    (h5 : (c.maxLocals == mx && c.exceptionTable.isEmpty && decide (c.maxStack ≤ mostOperands) && decide (meth.sig.returnType = rt) && !meth.locks && decide (parseMethodDescriptor y.desc = some meth.sig)) = true) : (Jvm.Cond.code y bytes mx rt).before a s = true := by
  simp only [Bool.and_eq_true, beq_iff_eq, Bool.not_eq_true', decide_eq_true_eq] at h5
  obtain ⟨⟨⟨⟨⟨g1, g2⟩, g3⟩, g4⟩, g5⟩, g6⟩ := h5
  simp [Cond.before, Cond.holds, Cond.value, h1, h2, h3, h4, g1, g2, g3, g4, g5, g6]
def isCode : Jvm.Cond → Bool
  | .code _ _ _ _ => true
  | _ => false
theorem all_split {L : List Jvm.Cond} {P : Jvm.Cond → Bool} (h1 : L.all (fun c => isCode c || P c) = true) (h2 : ∀ c ∈ L.filter isCode, P c = true) : L.all P = true := by
  refine List.all_eq_true.mpr fun c hc => ?_
  have h := List.all_eq_true.mp h1 c hc
  rcases Bool.eq_false_or_eq_true (isCode c) with hi | hi
  · exact h2 c (List.mem_filter.mpr ⟨hc, hi⟩)
  · simpa [hi] using h
set_option maxRecDepth 65536 in
theorem w_c0 : (Jvm.Cond.code x code maxLocals ret).before args0 about1 = true := code_word (m := ⟨1, 2⟩) (meth := k1m2) (c := k1c2) (by decide +kernel) rfl rfl rfl (by decide +kernel)
set_option maxRecDepth 65536 in
theorem w_c1 : (Jvm.Cond.code ({ cls := "com/example/operation_tracker/operationtracker/model/TaskIdFirstPinLaw", name := "draw", desc := "(I)C" } : Jvm.MethodName) method_2_code (2 : Nat) (Option.some Jvm.ClassFile.FieldType.char)).before args0 about1 = true := code_word (m := ⟨1, 1⟩) (meth := k1m1) (c := k1c1) (by decide +kernel) rfl rfl rfl (by decide +kernel)
set_option maxRecDepth 65536 in
theorem w_c2 : (Jvm.Cond.code ({ cls := "java/lang/String", name := "<init>", desc := "([C)V" } : Jvm.MethodName) jdk_42_method_3_code (2 : Nat) (Option.none : Option Jvm.ClassFile.FieldType)).before args0 about1 = true := code_word (m := ⟨7, 1⟩) (meth := k7m1) (c := k7c1) (by decide +kernel) rfl rfl rfl (by decide +kernel)
set_option maxRecDepth 65536 in
theorem w_c3 : (Jvm.Cond.code ({ cls := "java/lang/String", name := "<init>", desc := "([CIILjava/lang/Void;)V" } : Jvm.MethodName) jdk_42_method_149_code (6 : Nat) (Option.none : Option Jvm.ClassFile.FieldType)).before args0 about1 = true := code_word (m := ⟨7, 7⟩) (meth := k7m7) (c := k7c7) (by decide +kernel) rfl rfl rfl (by decide +kernel)
set_option maxRecDepth 65536 in
theorem w_c4 : (Jvm.Cond.code ({ cls := "java/lang/Object", name := "<init>", desc := "()V" } : Jvm.MethodName) object_method_1_code (1 : Nat) (Option.none : Option Jvm.ClassFile.FieldType)).before args0 about1 = true := code_word (m := ⟨0, 0⟩) (meth := k0m0) (c := k0c0) (by decide +kernel) rfl rfl rfl (by decide +kernel)
set_option maxRecDepth 65536 in
theorem w_c5 : (Jvm.Cond.code ({ cls := "java/lang/StringUTF16", name := "compress", desc := "([CII)[B" } : Jvm.MethodName) jdk_52_method_16_code (6 : Nat) (Option.some (Jvm.ClassFile.FieldType.array Jvm.ClassFile.FieldType.byte))).before args0 about1 = true := code_word (m := ⟨8, 2⟩) (meth := k8m2) (c := k8c2) (by decide +kernel) rfl rfl rfl (by decide +kernel)
set_option maxRecDepth 65536 in
theorem w_c6 : (Jvm.Cond.code ({ cls := "java/lang/StringUTF16", name := "compress", desc := "([CI[BII)I" } : Jvm.MethodName) jdk_52_method_21_code (7 : Nat) (Option.some Jvm.ClassFile.FieldType.int)).before args0 about1 = true := code_word (m := ⟨8, 3⟩) (meth := k8m3) (c := k8c3) (by decide +kernel) rfl rfl rfl (by decide +kernel)
set_option maxRecDepth 65536 in
theorem w_c7 : (Jvm.Cond.code ({ cls := "java/lang/StringUTF16", name := "coderFromArrayLen", desc := "([BI)B" } : Jvm.MethodName) jdk_52_method_15_code (2 : Nat) (Option.some Jvm.ClassFile.FieldType.byte)).before args0 about1 = true := code_word (m := ⟨8, 1⟩) (meth := k8m1) (c := k8c1) (by decide +kernel) rfl rfl rfl (by decide +kernel)
set_option maxRecDepth 65536 in
theorem w_c8 : (Jvm.Cond.code ({ cls := "com/example/operation_tracker/operationtracker/model/TaskId", name := "first", desc := "(Ljava/lang/String;)Lcom/example/operation_tracker/operationtracker/model/TaskId;" } : Jvm.MethodName) prog_12_method_2_code (1 : Nat) (Option.some (Jvm.ClassFile.FieldType.object "com/example/operation_tracker/operationtracker/model/TaskId"))).before args0 about1 = true := code_word (m := ⟨9, 1⟩) (meth := k9m1) (c := k9c1) (by decide +kernel) rfl rfl rfl (by decide +kernel)
set_option maxRecDepth 65536 in
theorem w_c9 : (Jvm.Cond.code ({ cls := "com/example/operation_tracker/operationtracker/model/TaskId", name := "requireUsableJobId", desc := "(Ljava/lang/String;)V" } : Jvm.MethodName) prog_12_method_4_code (1 : Nat) (Option.none : Option Jvm.ClassFile.FieldType)).before args0 about1 = true := code_word (m := ⟨9, 2⟩) (meth := k9m2) (c := k9c2) (by decide +kernel) rfl rfl rfl (by decide +kernel)
set_option maxRecDepth 65536 in
theorem w_c10 : (Jvm.Cond.code ({ cls := "java/util/Objects", name := "requireNonNull", desc := "(Ljava/lang/Object;Ljava/lang/String;)Ljava/lang/Object;" } : Jvm.MethodName) jdk_31_method_11_code (2 : Nat) (Option.some (Jvm.ClassFile.FieldType.object "java/lang/Object"))).before args0 about1 = true := code_word (m := ⟨10, 1⟩) (meth := k10m1) (c := k10c1) (by decide +kernel) rfl rfl rfl (by decide +kernel)
set_option maxRecDepth 65536 in
theorem w_c11 : (Jvm.Cond.code ({ cls := "java/lang/String", name := "isEmpty", desc := "()Z" } : Jvm.MethodName) jdk_42_method_55_code (1 : Nat) (Option.some Jvm.ClassFile.FieldType.boolean)).before args0 about1 = true := code_word (m := ⟨7, 3⟩) (meth := k7m3) (c := k7c3) (by decide +kernel) rfl rfl rfl (by decide +kernel)
set_option maxRecDepth 65536 in
theorem w_c12 : (Jvm.Cond.code ({ cls := "java/lang/String", name := "indexOf", desc := "(I)I" } : Jvm.MethodName) jdk_42_method_79_code (2 : Nat) (Option.some Jvm.ClassFile.FieldType.int)).before args0 about1 = true := code_word (m := ⟨7, 5⟩) (meth := k7m5) (c := k7c5) (by decide +kernel) rfl rfl rfl (by decide +kernel)
set_option maxRecDepth 65536 in
theorem w_c13 : (Jvm.Cond.code ({ cls := "java/lang/String", name := "indexOf", desc := "(II)I" } : Jvm.MethodName) jdk_42_method_80_code (3 : Nat) (Option.some Jvm.ClassFile.FieldType.int)).before args0 about1 = true := code_word (m := ⟨7, 6⟩) (meth := k7m6) (c := k7c6) (by decide +kernel) rfl rfl rfl (by decide +kernel)
set_option maxRecDepth 65536 in
theorem w_c14 : (Jvm.Cond.code ({ cls := "java/lang/String", name := "isLatin1", desc := "()Z" } : Jvm.MethodName) jdk_42_method_154_code (1 : Nat) (Option.some Jvm.ClassFile.FieldType.boolean)).before args0 about1 = true := code_word (m := ⟨7, 9⟩) (meth := k7m9) (c := k7c9) (by decide +kernel) rfl rfl rfl (by decide +kernel)
set_option maxRecDepth 65536 in
theorem w_c15 : (Jvm.Cond.code ({ cls := "java/lang/String", name := "length", desc := "()I" } : Jvm.MethodName) jdk_42_method_54_code (1 : Nat) (Option.some Jvm.ClassFile.FieldType.int)).before args0 about1 = true := code_word (m := ⟨7, 2⟩) (meth := k7m2) (c := k7c2) (by decide +kernel) rfl rfl rfl (by decide +kernel)
set_option maxRecDepth 65536 in
theorem w_c16 : (Jvm.Cond.code ({ cls := "java/lang/String", name := "coder", desc := "()B" } : Jvm.MethodName) jdk_42_method_152_code (1 : Nat) (Option.some Jvm.ClassFile.FieldType.byte)).before args0 about1 = true := code_word (m := ⟨7, 8⟩) (meth := k7m8) (c := k7c8) (by decide +kernel) rfl rfl rfl (by decide +kernel)
set_option maxRecDepth 65536 in
theorem w_c17 : (Jvm.Cond.code ({ cls := "java/lang/StringLatin1", name := "indexOf", desc := "([BIII)I" } : Jvm.MethodName) jdk_43_method_22_code (4 : Nat) (Option.some Jvm.ClassFile.FieldType.int)).before args0 about1 = true := code_word (m := ⟨11, 3⟩) (meth := k11m3) (c := k11c3) (by decide +kernel) rfl rfl rfl (by decide +kernel)
set_option maxRecDepth 65536 in
theorem w_c18 : (Jvm.Cond.code ({ cls := "java/lang/StringLatin1", name := "canEncode", desc := "(I)Z" } : Jvm.MethodName) jdk_43_method_4_code (1 : Nat) (Option.some Jvm.ClassFile.FieldType.boolean)).before args0 about1 = true := code_word (m := ⟨11, 1⟩) (meth := k11m1) (c := k11c1) (by decide +kernel) rfl rfl rfl (by decide +kernel)
set_option maxRecDepth 65536 in
theorem w_c19 : (Jvm.Cond.code ({ cls := "java/lang/Math", name := "max", desc := "(II)I" } : Jvm.MethodName) jdk_29_method_65_code (2 : Nat) (Option.some Jvm.ClassFile.FieldType.int)).before args0 about1 = true := code_word (m := ⟨12, 1⟩) (meth := k12m1) (c := k12c1) (by decide +kernel) rfl rfl rfl (by decide +kernel)
set_option maxRecDepth 65536 in
theorem w_c20 : (Jvm.Cond.code ({ cls := "java/lang/Math", name := "min", desc := "(II)I" } : Jvm.MethodName) jdk_29_method_69_code (2 : Nat) (Option.some Jvm.ClassFile.FieldType.int)).before args0 about1 = true := code_word (m := ⟨12, 2⟩) (meth := k12m2) (c := k12c2) (by decide +kernel) rfl rfl rfl (by decide +kernel)
set_option maxRecDepth 65536 in
theorem w_c21 : (Jvm.Cond.code ({ cls := "java/lang/StringLatin1", name := "indexOfChar", desc := "([BIII)I" } : Jvm.MethodName) jdk_43_method_23_code (6 : Nat) (Option.some Jvm.ClassFile.FieldType.int)).before args0 about1 = true := code_word (m := ⟨11, 4⟩) (meth := k11m4) (c := k11c4) (by decide +kernel) rfl rfl rfl (by decide +kernel)
set_option maxRecDepth 65536 in
theorem w_c22 : (Jvm.Cond.code ({ cls := "com/example/operation_tracker/operationtracker/model/TaskId", name := "<init>", desc := "(Ljava/lang/String;[ILjava/lang/String;)V" } : Jvm.MethodName) prog_12_method_1_code (4 : Nat) (Option.none : Option Jvm.ClassFile.FieldType)).before args0 about1 = true := code_word (m := ⟨9, 0⟩) (meth := k9m0) (c := k9c0) (by decide +kernel) rfl rfl rfl (by decide +kernel)
set_option maxRecDepth 65536 in
theorem w_c23 : (Jvm.Cond.code ({ cls := "com/example/operation_tracker/operationtracker/model/TaskId", name := "toString", desc := "()Ljava/lang/String;" } : Jvm.MethodName) prog_12_method_11_code (1 : Nat) (Option.some (Jvm.ClassFile.FieldType.object "java/lang/String"))).before args0 about1 = true := code_word (m := ⟨9, 5⟩) (meth := k9m5) (c := k9c5) (by decide +kernel) rfl rfl rfl (by decide +kernel)
set_option maxRecDepth 65536 in
theorem w_c24 : (Jvm.Cond.code ({ cls := "java/lang/String", name := "equals", desc := "(Ljava/lang/Object;)Z" } : Jvm.MethodName) jdk_42_method_66_code (3 : Nat) (Option.some Jvm.ClassFile.FieldType.boolean)).before args0 about1 = true := code_word (m := ⟨7, 4⟩) (meth := k7m4) (c := k7c4) (by decide +kernel) rfl rfl rfl (by decide +kernel)
set_option maxRecDepth 65536 in
theorem w_c25 : (Jvm.Cond.code ({ cls := "java/lang/StringLatin1", name := "equals", desc := "([B[B)Z" } : Jvm.MethodName) jdk_43_method_13_code (3 : Nat) (Option.some Jvm.ClassFile.FieldType.boolean)).before args0 about1 = true := code_word (m := ⟨11, 2⟩) (meth := k11m2) (c := k11c2) (by decide +kernel) rfl rfl rfl (by decide +kernel)
set_option maxRecDepth 65536 in
theorem w_c26 : (Jvm.Cond.code ({ cls := "com/example/operation_tracker/operationtracker/model/TaskId", name := "jobId", desc := "()Ljava/lang/String;" } : Jvm.MethodName) prog_12_method_10_code (1 : Nat) (Option.some (Jvm.ClassFile.FieldType.object "java/lang/String"))).before args0 about1 = true := code_word (m := ⟨9, 4⟩) (meth := k9m4) (c := k9c4) (by decide +kernel) rfl rfl rfl (by decide +kernel)
set_option maxRecDepth 65536 in
theorem w_c27 : (Jvm.Cond.code ({ cls := "com/example/operation_tracker/operationtracker/model/TaskId", name := "depth", desc := "()I" } : Jvm.MethodName) prog_12_method_9_code (1 : Nat) (Option.some Jvm.ClassFile.FieldType.int)).before args0 about1 = true := code_word (m := ⟨9, 3⟩) (meth := k9m3) (c := k9c3) (by decide +kernel) rfl rfl rfl (by decide +kernel)
def codes1 : List Jvm.Cond := [Jvm.Cond.code x code maxLocals ret, Jvm.Cond.code ({ cls := "com/example/operation_tracker/operationtracker/model/TaskIdFirstPinLaw", name := "draw", desc := "(I)C" } : Jvm.MethodName) method_2_code (2 : Nat) (Option.some Jvm.ClassFile.FieldType.char), Jvm.Cond.code ({ cls := "java/lang/String", name := "<init>", desc := "([C)V" } : Jvm.MethodName) jdk_42_method_3_code (2 : Nat) (Option.none : Option Jvm.ClassFile.FieldType), Jvm.Cond.code ({ cls := "java/lang/String", name := "<init>", desc := "([CIILjava/lang/Void;)V" } : Jvm.MethodName) jdk_42_method_149_code (6 : Nat) (Option.none : Option Jvm.ClassFile.FieldType), Jvm.Cond.code ({ cls := "java/lang/Object", name := "<init>", desc := "()V" } : Jvm.MethodName) object_method_1_code (1 : Nat) (Option.none : Option Jvm.ClassFile.FieldType), Jvm.Cond.code ({ cls := "java/lang/StringUTF16", name := "compress", desc := "([CII)[B" } : Jvm.MethodName) jdk_52_method_16_code (6 : Nat) (Option.some (Jvm.ClassFile.FieldType.array Jvm.ClassFile.FieldType.byte)), Jvm.Cond.code ({ cls := "java/lang/StringUTF16", name := "compress", desc := "([CI[BII)I" } : Jvm.MethodName) jdk_52_method_21_code (7 : Nat) (Option.some Jvm.ClassFile.FieldType.int), Jvm.Cond.code ({ cls := "java/lang/StringUTF16", name := "coderFromArrayLen", desc := "([BI)B" } : Jvm.MethodName) jdk_52_method_15_code (2 : Nat) (Option.some Jvm.ClassFile.FieldType.byte), Jvm.Cond.code ({ cls := "com/example/operation_tracker/operationtracker/model/TaskId", name := "first", desc := "(Ljava/lang/String;)Lcom/example/operation_tracker/operationtracker/model/TaskId;" } : Jvm.MethodName) prog_12_method_2_code (1 : Nat) (Option.some (Jvm.ClassFile.FieldType.object "com/example/operation_tracker/operationtracker/model/TaskId")), Jvm.Cond.code ({ cls := "com/example/operation_tracker/operationtracker/model/TaskId", name := "requireUsableJobId", desc := "(Ljava/lang/String;)V" } : Jvm.MethodName) prog_12_method_4_code (1 : Nat) (Option.none : Option Jvm.ClassFile.FieldType), Jvm.Cond.code ({ cls := "java/util/Objects", name := "requireNonNull", desc := "(Ljava/lang/Object;Ljava/lang/String;)Ljava/lang/Object;" } : Jvm.MethodName) jdk_31_method_11_code (2 : Nat) (Option.some (Jvm.ClassFile.FieldType.object "java/lang/Object")), Jvm.Cond.code ({ cls := "java/lang/String", name := "isEmpty", desc := "()Z" } : Jvm.MethodName) jdk_42_method_55_code (1 : Nat) (Option.some Jvm.ClassFile.FieldType.boolean), Jvm.Cond.code ({ cls := "java/lang/String", name := "indexOf", desc := "(I)I" } : Jvm.MethodName) jdk_42_method_79_code (2 : Nat) (Option.some Jvm.ClassFile.FieldType.int), Jvm.Cond.code ({ cls := "java/lang/String", name := "indexOf", desc := "(II)I" } : Jvm.MethodName) jdk_42_method_80_code (3 : Nat) (Option.some Jvm.ClassFile.FieldType.int), Jvm.Cond.code ({ cls := "java/lang/String", name := "isLatin1", desc := "()Z" } : Jvm.MethodName) jdk_42_method_154_code (1 : Nat) (Option.some Jvm.ClassFile.FieldType.boolean), Jvm.Cond.code ({ cls := "java/lang/String", name := "length", desc := "()I" } : Jvm.MethodName) jdk_42_method_54_code (1 : Nat) (Option.some Jvm.ClassFile.FieldType.int), Jvm.Cond.code ({ cls := "java/lang/String", name := "coder", desc := "()B" } : Jvm.MethodName) jdk_42_method_152_code (1 : Nat) (Option.some Jvm.ClassFile.FieldType.byte), Jvm.Cond.code ({ cls := "java/lang/StringLatin1", name := "indexOf", desc := "([BIII)I" } : Jvm.MethodName) jdk_43_method_22_code (4 : Nat) (Option.some Jvm.ClassFile.FieldType.int), Jvm.Cond.code ({ cls := "java/lang/StringLatin1", name := "canEncode", desc := "(I)Z" } : Jvm.MethodName) jdk_43_method_4_code (1 : Nat) (Option.some Jvm.ClassFile.FieldType.boolean), Jvm.Cond.code ({ cls := "java/lang/Math", name := "max", desc := "(II)I" } : Jvm.MethodName) jdk_29_method_65_code (2 : Nat) (Option.some Jvm.ClassFile.FieldType.int), Jvm.Cond.code ({ cls := "java/lang/Math", name := "min", desc := "(II)I" } : Jvm.MethodName) jdk_29_method_69_code (2 : Nat) (Option.some Jvm.ClassFile.FieldType.int), Jvm.Cond.code ({ cls := "java/lang/StringLatin1", name := "indexOfChar", desc := "([BIII)I" } : Jvm.MethodName) jdk_43_method_23_code (6 : Nat) (Option.some Jvm.ClassFile.FieldType.int), Jvm.Cond.code ({ cls := "com/example/operation_tracker/operationtracker/model/TaskId", name := "<init>", desc := "(Ljava/lang/String;[ILjava/lang/String;)V" } : Jvm.MethodName) prog_12_method_1_code (4 : Nat) (Option.none : Option Jvm.ClassFile.FieldType), Jvm.Cond.code ({ cls := "com/example/operation_tracker/operationtracker/model/TaskId", name := "toString", desc := "()Ljava/lang/String;" } : Jvm.MethodName) prog_12_method_11_code (1 : Nat) (Option.some (Jvm.ClassFile.FieldType.object "java/lang/String")), Jvm.Cond.code ({ cls := "java/lang/String", name := "equals", desc := "(Ljava/lang/Object;)Z" } : Jvm.MethodName) jdk_42_method_66_code (3 : Nat) (Option.some Jvm.ClassFile.FieldType.boolean), Jvm.Cond.code ({ cls := "java/lang/StringLatin1", name := "equals", desc := "([B[B)Z" } : Jvm.MethodName) jdk_43_method_13_code (3 : Nat) (Option.some Jvm.ClassFile.FieldType.boolean), Jvm.Cond.code ({ cls := "com/example/operation_tracker/operationtracker/model/TaskId", name := "jobId", desc := "()Ljava/lang/String;" } : Jvm.MethodName) prog_12_method_10_code (1 : Nat) (Option.some (Jvm.ClassFile.FieldType.object "java/lang/String")), Jvm.Cond.code ({ cls := "com/example/operation_tracker/operationtracker/model/TaskId", name := "depth", desc := "()I" } : Jvm.MethodName) prog_12_method_9_code (1 : Nat) (Option.some Jvm.ClassFile.FieldType.int)]
set_option maxRecDepth 65536 in
theorem codes_eq : words1.filter isCode = codes1 := rfl
theorem w_codes : ∀ c ∈ words1.filter isCode, c.before args0 about1 = true := by
  rw [codes_eq]
  intro c hc
  simp only [codes1, List.mem_cons, List.not_mem_nil, or_false] at hc
  rcases hc with rfl | rfl | rfl | rfl | rfl | rfl | rfl | rfl | rfl | rfl | rfl | rfl | rfl | rfl | rfl | rfl | rfl | rfl | rfl | rfl | rfl | rfl | rfl | rfl | rfl | rfl | rfl | rfl
  · exact w_c0
  · exact w_c1
  · exact w_c2
  · exact w_c3
  · exact w_c4
  · exact w_c5
  · exact w_c6
  · exact w_c7
  · exact w_c8
  · exact w_c9
  · exact w_c10
  · exact w_c11
  · exact w_c12
  · exact w_c13
  · exact w_c14
  · exact w_c15
  · exact w_c16
  · exact w_c17
  · exact w_c18
  · exact w_c19
  · exact w_c20
  · exact w_c21
  · exact w_c22
  · exact w_c23
  · exact w_c24
  · exact w_c25
  · exact w_c26
  · exact w_c27
set_option maxRecDepth 65536 in
theorem w_t1 : (words1.take 24).all (fun c => isCode c || c.before args0 about1) = true := by decide +kernel
set_option maxRecDepth 65536 in
theorem w_t2 : ((words1.drop 24).take 24).all (fun c => isCode c || c.before args0 about1) = true := by decide +kernel
set_option maxRecDepth 65536 in
theorem w_t3 : (((words1.drop 24).drop 24).take 24).all (fun c => isCode c || c.before args0 about1) = true := by decide +kernel
set_option maxRecDepth 65536 in
theorem w_t4 : ((((words1.drop 24).drop 24).drop 24).take 24).all (fun c => isCode c || c.before args0 about1) = true := by decide +kernel
set_option maxRecDepth 65536 in
theorem w_t5 : (((((words1.drop 24).drop 24).drop 24).drop 24).take 24).all (fun c => isCode c || c.before args0 about1) = true := by decide +kernel
set_option maxRecDepth 65536 in
theorem w_t6 : (((((words1.drop 24).drop 24).drop 24).drop 24).drop 24).all (fun c => isCode c || c.before args0 about1) = true := by decide +kernel
theorem w_tables : (allAtoms (Jvm.Cond.code x code maxLocals ret :: tables_1)).before args0 about1 = true := by
  rw [allAtoms_all]
  show words1.all (fun c => c.before args0 about1) = true
  refine all_split ?_ w_codes
  rw [← List.take_append_drop 24 words1, List.all_append, w_t1, ← List.take_append_drop 24 (words1.drop 24), List.all_append, w_t2, ← List.take_append_drop 24 ((words1.drop 24).drop 24), List.all_append, w_t3, ← List.take_append_drop 24 (((words1.drop 24).drop 24).drop 24), List.all_append, w_t4, ← List.take_append_drop 24 ((((words1.drop 24).drop 24).drop 24).drop 24), List.all_append, w_t5, w_t6]
  rfl
set_option maxRecDepth 65536 in
theorem w_rest : rest_1_c.before args0 about1 = true := by decide +kernel
set_option maxRecDepth 65536 in
theorem w_case : (Jvm.Cond.and given_1 narrow_1).before args0 about1 = true := by decide +kernel
theorem w_applies : (headSpec (Jvm.Cond.code x code maxLocals ret :: tables_1) room_1).applies x e0.platform about1 = true :=
  (Spec.applies_iff w_frames).mpr ⟨w_running, w_runnable, w_alone, w_named, w_hears, w_ripe, w_room, w_tables⟩
theorem atStart : AtStart classFile x code maxLocals ret World_1 tables_1 room_1 Calls_1 rest_1 Pre_1 launch0 p0 e0 about1 theMethod args0 below0 :=
  ⟨lists_1, trivial, launch0.admits_env _ _ _, launch0.least_env, fairChoices_fair.cas, fairChoices_fair.clock, w_frames, w_args, w_heap, w_applies, trivial, w_rest, w_case⟩
end start1
theorem witness_1 : WitnessClaimed_1 := ⟨start1.p0, start1.e0, start1.about1, start1.theMethod, start1.args0, start1.below0, start1.atStart⟩
end Jvm.Pilot.@@N@@
