import JvmDerived
import JvmDerived.Pilot.@@N@@Statement
import JvmDerived.Pilot.@@N@@Code
set_option linter.unusedVariables false
set_option linter.unusedSimpArgs false
namespace Jvm.Pilot.@@N@@
open Jvm Jvm.ClassFile Sem Op Lib Jvm.Free Jvm.Stand Jvm.LawKit Jvm.RoadKit Bundle Jvm.Pilot.@@N@@.Jvm.D
theorem own_cast {tb : Tables} {e : Env} {below : List Frame} {T : State} {g g' : JFrame} {t : State} (q : g = g') (k : Steps tb e below (T.setTop g') t) : Steps tb e below (T.setTop g) t := q ▸ k
section Own
variable {p : Program} {l : Launch} {e : Env} {R : Room} {s : State} {m : MethodId} {args : Array Value} {below : List Frame} {meth : Method} {c : Code} {T T' : State} {locs : List Loc} {cells slots : Nat} {g g' : JFrame} {K : Outcome → State → Prop} {h : Heap}
/-- the run from T with g on top comes to an end at which K holds -/
def own_Go (p : Program) (e : Env) (below : List Frame) (K : Outcome → State → Prop) (T : State) (g : JFrame) : Prop := ∃ t o, Steps p.tables e below (T.setTop g) t ∧ t.status = .running ∧ Ended t below o ∧ K o t
def own_K (s : State) (Q : Option Value → Heap → List Loc → Prop) (kc ks : Nat) : Outcome → State → Prop := fun o t => ∃ v L, o = .returned v ∧ Q v t.heap L ∧ FrameEnd s o t L kc ks
theorem own_st (k : ∀ t, Steps p.tables e below (T'.setTop g') t → Steps p.tables e below (T.setTop g) t) (h : own_Go p e below K T' g') : own_Go p e below K T g := by
  obtain ⟨t, o, h1, h2⟩ := h; exact ⟨t, o, k t h1, h2⟩
theorem own_tr (k : Steps p.tables e below (T.setTop g) (T'.setTop g')) (h : own_Go p e below K T' g') : own_Go p e below K T g := by
  obtain ⟨t, o, h1, h2⟩ := h; exact ⟨t, o, k.trans h1, h2⟩
theorem own_in (q : g = g') (h : own_Go p e below K T g') : ∃ t o, Steps p.tables e below (T.setTop g) t ∧ t.status = .running ∧ Ended t below o ∧ K o t := by
  obtain ⟨t, o, h1, h2⟩ := h; exact ⟨t, o, own_cast q h1, h2⟩
variable {Q : Option Value → Heap → List Loc → Prop} {kc ks pc : Nat} {Ls : Array Slot} {rest : List Value} {x : MethodName} {S : Spec} {code : ByteArray} {maxLocals : Nat} {s₁ : State}
theorem own_end (X : Stand p l e R s m args below meth c T locs cells slots) {v : Option Value} (hv : meth.sig.returnType = none → v = none) (hlk : meth.locks = false) (eT : T.heap = h) (hQ : Q v h locs) (hc : cells ≤ kc) (hs : slots ≤ ks)
    (k : ∀ fs, (∀ (f : JFrame) (acts : List Action), f.method = m → f.locked = none → f.entered = [] → (doReturn e (T.setTop f) acts v).1 = T.setFrames fs) → Steps p.tables e below (T.setTop g) (T.setFrames fs)) : own_Go p e below (own_K s Q kc ks) T g := by
  obtain ⟨fs, hr, hrun, hended, hW, hsame⟩ := X.leave (v := v) hv hlk
  refine ⟨_, _, k fs hr, hrun, hended, v, locs, rfl, ?_, ⟨_, rfl⟩, hW, hsame.mono hc hs⟩
  show Q v T.heap locs
  rw [eT]; exact hQ
theorem own_retI (X : Stand p l e R s m args below meth c T locs cells slots) (hx : p.tables.exec = Jvm.exec) (Bd : BodyLoose p l x S code maxLocals (some .int) e s m args below meth c s₁) {z : Int32} (hd : decode c.code pc = .ok (.ireturn, 1)) (eT : T.heap = h) (hQ : Q (some (.int z)) h locs) (hc : cells ≤ kc) (hs : slots ≤ ks) :
    own_Go p e below (own_K s Q kc ks) T (mkF m pc Ls (.int z :: rest)) :=
  own_end X (fun h => by rw [Bd.returns] at h; cases h) Bd.notSynchronized eT hQ hc hs fun fs hr => retOut X hx Bd.returns rfl (Or.inl ⟨rfl, Or.inl rfl, z, rfl⟩) hd hr
theorem own_retJ (X : Stand p l e R s m args below meth c T locs cells slots) (hx : p.tables.exec = Jvm.exec) (Bd : BodyLoose p l x S code maxLocals (some .long) e s m args below meth c s₁) {z : Int64} (hd : decode c.code pc = .ok (.lreturn, 1)) (eT : T.heap = h) (hQ : Q (some (.long z)) h locs) (hc : cells ≤ kc) (hs : slots ≤ ks) :
    own_Go p e below (own_K s Q kc ks) T (mkF m pc Ls (.long z :: rest)) :=
  own_end X (fun h => by rw [Bd.returns] at h; cases h) Bd.notSynchronized eT hQ hc hs fun fs hr => retOut X hx Bd.returns rfl (Or.inr (Or.inl ⟨rfl, rfl, z, rfl⟩)) hd hr
theorem own_retN (X : Stand p l e R s m args below meth c T locs cells slots) (hx : p.tables.exec = Jvm.exec) {t : FieldType} (Bd : BodyLoose p l x S code maxLocals (some t) e s m args below meth c s₁) (ht : t = .boolean ∨ t = .byte ∨ t = .char ∨ t = .short) {z : Int32} (hn : narrow t (.int z) = .int z) (hd : decode c.code pc = .ok (.ireturn, 1)) (eT : T.heap = h) (hQ : Q (some (.int z)) h locs) (hc : cells ≤ kc) (hs : slots ≤ ks) :
    own_Go p e below (own_K s Q kc ks) T (mkF m pc Ls (.int z :: rest)) :=
  own_end X (fun h => by rw [Bd.returns] at h; cases h) Bd.notSynchronized eT hQ hc hs fun fs hr => retOut X hx Bd.returns hn (Or.inl ⟨rfl, Or.inr ht, z, rfl⟩) hd hr
theorem own_retA (X : Stand p l e R s m args below meth c T locs cells slots) (hx : p.tables.exec = Jvm.exec) {t : FieldType} (Bd : BodyLoose p l x S code maxLocals (some t) e s m args below meth c s₁) (ht : t.isReference = true) {w : Value} (hw : w.isRef = true) (hd : decode c.code pc = .ok (.areturn, 1)) (eT : T.heap = h) (hQ : Q (some w) h locs) (hc : cells ≤ kc) (hs : slots ≤ ks) :
    own_Go p e below (own_K s Q kc ks) T (mkF m pc Ls (w :: rest)) :=
  own_end X (fun h => by rw [Bd.returns] at h; cases h) Bd.notSynchronized eT hQ hc hs fun fs hr => retOut X hx Bd.returns (by cases t <;> first | (cases ht; done) | rfl) (Or.inr (Or.inr (Or.inr (Or.inr ⟨rfl, ht, hw⟩)))) hd hr
theorem own_retV (X : Stand p l e R s m args below meth c T locs cells slots) (hx : p.tables.exec = Jvm.exec) (Bd : BodyLoose p l x S code maxLocals none e s m args below meth c s₁) (hd : decode c.code pc = .ok (.return_, 1)) (eT : T.heap = h) (hQ : Q none h locs) (hc : cells ≤ kc) (hs : slots ≤ ks) :
    own_Go p e below (own_K s Q kc ks) T (mkF m pc Ls []) :=
  own_end X (fun _ => rfl) Bd.notSynchronized eT hQ hc hs fun fs hr => X.returnOut hx Bd.returns hd hr
end Own
theorem own_Sta_keep {Z : State} {h h' : Heap} {C n d : String} {v : Value} {ws : List Addr} (F : Sta Z h C n d v) (K : Keep h h' ws) (q : ∀ x ∈ ws, ∀ cell : Cell, h[x]? = some cell → cell.vm.isStatics = false) : Sta Z h' C n d v := by
  obtain ⟨cf, i, k, f, st, cell, h1, h2, h3, h4, h5, h6, h7⟩ := F
  exact ⟨cf, i, k, f, st, cell, h1, h2, h3, h4, K.2.1 _ _ h5 (fun hm => by rw [q _ hm _ h5] at h6; cases h6), h6, h7⟩
theorem own_Ins_keep {Z : State} {h h' : Heap} {a : Addr} {C : String} {b : Bool} {ws : List Addr} (F : Ins Z h a C b) (K : Keep h h' ws) : Ins Z h' a C b := by
  obtain ⟨cell, cT, h1, h2, h3⟩ := F
  obtain ⟨c', e1, e2, e3, -⟩ := K.2.2 _ _ h1
  exact ⟨c', cT, e1, h2, by rw [e2, e3]; exact h3⟩
theorem own_enum {Z : State} {args : Array Value} {C D n d : String} (h : (Cond.exactly (Term.static C n d) D).value args Z none Z [] = some true) (hi : (Cond.initializedFor C n d).before args Z = true ∨ ((Cond.initialized C).before args Z = true ∧ (Cond.laysStatic C n d).before args Z = true)) :
    ∃ a, (Term.static C n d).eval args Z none [] Z = some (.ref a) ∧ Sta Z Z.heap C n d (.ref a) ∧ Exa Z Z.heap a D := by
  obtain ⟨a, e⟩ := exa_v h
  exact ⟨a, e, Sta.start e hi, Exa.start e h⟩
theorem own_ord {Z : State} {args : Array Value} {t : Term} {a : Addr} {O n d : String} {k : Int32} (e : t.eval args Z none [] Z = some (.ref a)) (h : (Cond.eq (Term.field t O n d) (Term.int k)).value args Z none Z [] = some true) : Fld Z Z.heap a O n d (.int k) := by
  refine Fld.start ?_
  have q := fld_at (C := O) (n := n) (dd := d) (first := Z) (o := none) (idx := []) (args := args) e
  obtain ⟨x, y, h1, h2, -⟩ := cmp_v (Or.inl h)
  rw [q] at h1
  have h2' : some (Value.int k) = some y := h2
  cases h2'
  cases x <;> simp [Cond.value, Term.eval, e, h1] at h
  rw [h1, h]
section OwnW
variable {p : Program} {l : Launch} {e : Env} {R : Room} {s : State} {m : MethodId} {args : Array Value} {below : List Frame} {meth : Method} {c : Code} {T T' : State} {locs : List Loc} {cells slots : Nat} {g g' : JFrame} {h : Heap} {vm : Vm} {n : Nat}
def own_KW (s : State) (Q : Option Value → Heap → List Loc → Prop) (kc ks : Nat) : Outcome → State → Prop := fun o t => ∃ v L, o = .returned v ∧ Q v t.heap L ∧ ReturnedEndW s o t L kc ks
variable {Q : Option Value → Heap → List Loc → Prop} {kc ks pc : Nat} {Ls : Array Slot} {rest : List Value} {x : MethodName} {S : Spec} {code : ByteArray} {maxLocals : Nat} {s₁ : State}
theorem own_endW (X : Stand p l e R (s.setVm vm) m args below meth c T locs cells slots) {v : Option Value} (hv : meth.sig.returnType = none → v = none) (hlk : meth.locks = false) (eT : T.heap = h) (hQ : Q v h locs) (hS : s.Since vm n) (hn : n ≤ h.size) (hc : cells ≤ kc) (hs : slots ≤ ks)
    (k : ∀ fs, (∀ (f : JFrame) (acts : List Action), f.method = m → f.locked = none → f.entered = [] → (doReturn e (T.setTop f) acts v).1 = T.setFrames fs) → Steps p.tables e below (T.setTop g) (T.setFrames fs)) : own_Go p e below (own_KW s Q kc ks) T g := by
  obtain ⟨fs, hr, hrun, hended, h1, h2, h3, h4⟩ := X.leaveW hS (by rw [eT]; exact hn) (v := v) hv hlk
  refine ⟨_, _, k fs hr, hrun, hended, v, locs, rfl, ?_, h1, h2, h3, h4.mono hc hs⟩
  show Q v T.heap locs
  rw [eT]; exact hQ
theorem own_retIW (X : Stand p l e R (s.setVm vm) m args below meth c T locs cells slots) (hx : p.tables.exec = Jvm.exec) (Bd : BodyLoose p l x S code maxLocals (some .int) e s m args below meth c s₁) {z : Int32} (hd : decode c.code pc = .ok (.ireturn, 1)) (eT : T.heap = h) (hQ : Q (some (.int z)) h locs) (hS : s.Since vm n) (hn : n ≤ h.size) (hc : cells ≤ kc) (hs : slots ≤ ks) :
    own_Go p e below (own_KW s Q kc ks) T (mkF m pc Ls (.int z :: rest)) :=
  own_endW X (fun h => by rw [Bd.returns] at h; cases h) Bd.notSynchronized eT hQ hS hn hc hs fun fs hr => retOut X hx Bd.returns rfl (Or.inl ⟨rfl, Or.inl rfl, z, rfl⟩) hd hr
theorem own_retJW (X : Stand p l e R (s.setVm vm) m args below meth c T locs cells slots) (hx : p.tables.exec = Jvm.exec) (Bd : BodyLoose p l x S code maxLocals (some .long) e s m args below meth c s₁) {z : Int64} (hd : decode c.code pc = .ok (.lreturn, 1)) (eT : T.heap = h) (hQ : Q (some (.long z)) h locs) (hS : s.Since vm n) (hn : n ≤ h.size) (hc : cells ≤ kc) (hs : slots ≤ ks) :
    own_Go p e below (own_KW s Q kc ks) T (mkF m pc Ls (.long z :: rest)) :=
  own_endW X (fun h => by rw [Bd.returns] at h; cases h) Bd.notSynchronized eT hQ hS hn hc hs fun fs hr => retOut X hx Bd.returns rfl (Or.inr (Or.inl ⟨rfl, rfl, z, rfl⟩)) hd hr
theorem own_retNW (X : Stand p l e R (s.setVm vm) m args below meth c T locs cells slots) (hx : p.tables.exec = Jvm.exec) {t : FieldType} (Bd : BodyLoose p l x S code maxLocals (some t) e s m args below meth c s₁) (ht : t = .boolean ∨ t = .byte ∨ t = .char ∨ t = .short) {z : Int32} (hn' : narrow t (.int z) = .int z) (hd : decode c.code pc = .ok (.ireturn, 1)) (eT : T.heap = h) (hQ : Q (some (.int z)) h locs) (hS : s.Since vm n) (hn : n ≤ h.size) (hc : cells ≤ kc) (hs : slots ≤ ks) :
    own_Go p e below (own_KW s Q kc ks) T (mkF m pc Ls (.int z :: rest)) :=
  own_endW X (fun h => by rw [Bd.returns] at h; cases h) Bd.notSynchronized eT hQ hS hn hc hs fun fs hr => retOut X hx Bd.returns hn' (Or.inl ⟨rfl, Or.inr ht, z, rfl⟩) hd hr
theorem own_retAW (X : Stand p l e R (s.setVm vm) m args below meth c T locs cells slots) (hx : p.tables.exec = Jvm.exec) {t : FieldType} (Bd : BodyLoose p l x S code maxLocals (some t) e s m args below meth c s₁) (ht : t.isReference = true) {w : Value} (hw : w.isRef = true) (hd : decode c.code pc = .ok (.areturn, 1)) (eT : T.heap = h) (hQ : Q (some w) h locs) (hS : s.Since vm n) (hn : n ≤ h.size) (hc : cells ≤ kc) (hs : slots ≤ ks) :
    own_Go p e below (own_KW s Q kc ks) T (mkF m pc Ls (w :: rest)) :=
  own_endW X (fun h => by rw [Bd.returns] at h; cases h) Bd.notSynchronized eT hQ hS hn hc hs fun fs hr => retOut X hx Bd.returns (by cases t <;> first | (cases ht; done) | rfl) (Or.inr (Or.inr (Or.inr (Or.inr ⟨rfl, ht, hw⟩)))) hd hr
theorem own_retVW (X : Stand p l e R (s.setVm vm) m args below meth c T locs cells slots) (hx : p.tables.exec = Jvm.exec) (Bd : BodyLoose p l x S code maxLocals none e s m args below meth c s₁) (hd : decode c.code pc = .ok (.return_, 1)) (eT : T.heap = h) (hQ : Q none h locs) (hS : s.Since vm n) (hn : n ≤ h.size) (hc : cells ≤ kc) (hs : slots ≤ ks) :
    own_Go p e below (own_KW s Q kc ks) T (mkF m pc Ls []) :=
  own_endW X (fun _ => rfl) Bd.notSynchronized eT hQ hS hn hc hs fun fs hr => X.returnOut hx Bd.returns hd hr
end OwnW
theorem own_sa : ∀ d ∈ Bundle.stringAtoms, d ∈ tables_1 := by decide +kernel
theorem own_bb (x : Int32) : x.toInt8.toInt32.toInt8.toInt32 = x.toInt8.toInt32 := by simp
theorem own_cc (x : Int32) : x.toUInt32.toUInt16.toUInt32.toInt32.toUInt32.toUInt16.toUInt32.toInt32 = x.toUInt32.toUInt16.toUInt32.toInt32 := by simp only [UInt32.toUInt32_toInt32, UInt16.toUInt16_toUInt32]
theorem own_nar_ref {t : FieldType} {v : Value} (h : v.isRef = true) (ht : t.isReference = true) : narrow t v = v := by cases t <;> first | (cases ht; done) | rfl
theorem own_fits_ref {t : FieldType} {v : Value} (h : v.isRef = true) (ht : t.isReference = true) : fits t v = true := by rcases ref_cases h with rfl | ⟨a, rfl⟩ <;> cases t <;> first | (cases ht; done) | rfl
theorem own_nar_b {z : Int32} (h : z = 0 ∨ z = 1) : narrow .boolean (.int z) = .int z := by rcases h with rfl | rfl <;> rfl
theorem own_fits_b {z : Int32} (h : z = 0 ∨ z = 1) : fits .boolean (.int z) = true := by rcases h with rfl | rfl <;> rfl
theorem own_w0 {x : Nat} : 2 * 0 + x ≤ x := Nat.le_of_eq (Nat.zero_add x)
abbrev cb1 : ByteArray := method_3_code
abbrev cb2 : ByteArray := method_4_code
abbrev cb3 : ByteArray := method_5_code
abbrev cb4 : ByteArray := prog_33_method_1_code
abbrev cb6 : ByteArray := prog_33_method_2_code
abbrev cb7 : ByteArray := jdk_42_method_10_code
abbrev cb8 : ByteArray := jdk_31_method_10_code
abbrev cb9 : ByteArray := jdk_42_method_157_code
abbrev cb10 : ByteArray := jdk_41_method_13_code
abbrev cb11 : ByteArray := jdk_42_method_11_code
abbrev cb12 : ByteArray := jdk_123_method_3_code
abbrev cb13 : ByteArray := jdk_65_method_132_code
abbrev cb14 : ByteArray := jdk_65_method_133_code
abbrev cb15 : ByteArray := jdk_65_method_131_code
abbrev cb16 : ByteArray := jdk_29_method_69_code
abbrev cb17 : ByteArray := jdk_52_method_2_code
abbrev cb18 : ByteArray := jdk_52_method_3_code
abbrev cb19 : ByteArray := jdk_43_method_50_code
abbrev cb20 : ByteArray := jdk_52_method_86_code
abbrev cb21 : ByteArray := jdk_52_method_94_code
abbrev cb22 : ByteArray := jdk_52_method_6_code
abbrev cb23 : ByteArray := jdk_52_method_4_code
abbrev cb24 : ByteArray := jdk_42_method_38_code
abbrev cb25 : ByteArray := jdk_42_method_30_code
abbrev cb26 : ByteArray := jdk_42_method_36_code
abbrev cb27 : ByteArray := jdk_89_method_16_code
abbrev cb28 : ByteArray := jdk_65_method_121_code
abbrev cb29 : ByteArray := jdk_42_method_54_code
abbrev cb30 : ByteArray := jdk_42_method_152_code
abbrev cb31 : ByteArray := jdk_42_method_56_code
abbrev cb32 : ByteArray := jdk_42_method_154_code
abbrev cb33 : ByteArray := jdk_52_method_83_code
abbrev cb34 : ByteArray := jdk_52_method_91_code
abbrev cb35 : ByteArray := jdk_42_method_155_code
abbrev cb36 : ByteArray := jdk_41_method_11_code
abbrev cb37 : ByteArray := jdk_52_method_5_code
abbrev cb38 : ByteArray := jdk_42_method_37_code
abbrev cb39 : ByteArray := jdk_42_method_32_code
abbrev cb40 : ByteArray := jdk_89_method_13_code
abbrev cb41 : ByteArray := jdk_89_method_28_code
abbrev cb42 : ByteArray := jdk_89_method_29_code
abbrev cb43 : ByteArray := jdk_42_method_35_code
abbrev cb44 : ByteArray := jdk_43_method_2_code
abbrev cb45 : ByteArray := jdk_42_method_29_code
theorem d36_0 : decode cb36 0 = .ok (.iload_n 0, 1) := by decide +kernel
theorem d36_1 : decode cb36 1 = .ok (.ifCond .lt 8, 3) := by decide +kernel
theorem d36_4 : decode cb36 4 = .ok (.iload_n 0, 1) := by decide +kernel
theorem d36_5 : decode cb36 5 = .ok (.iload_n 1, 1) := by decide +kernel
theorem d36_6 : decode cb36 6 = .ok (.if_icmp .lt 10, 3) := by decide +kernel
theorem d36_16 : decode cb36 16 = .ok (.iload_n 0, 1) := by decide +kernel
theorem d36_17 : decode cb36 17 = .ok (.ireturn, 1) := by decide +kernel
theorem own_pn0 : plainName "jdk/internal/util/Preconditions" = true := by first | (simp [plainName, overriddenIn]; done) | decide +kernel
theorem d35_0 : decode cb35 0 = .ok (.iload_n 0, 1) := by decide +kernel
theorem d35_1 : decode cb35 1 = .ok (.iload_n 1, 1) := by decide +kernel
theorem d35_2 : decode cb35 2 = .ok (.getstatic 1053, 3) := by decide +kernel
theorem d35_5 : decode cb35 5 = .ok (.invokestatic 1059, 3) := by decide +kernel
theorem own_pd0 : parseMethodDescriptor "(IILjava/util/function/BiFunction;)I" = some ⟨[.int, .int, (.object "java/util/function/BiFunction")], some .int⟩ := by decide +kernel
theorem d35_8 : decode cb35 8 = .ok (.pop, 1) := by decide +kernel
theorem d35_9 : decode cb35 9 = .ok (.return_, 1) := by decide +kernel
theorem own_pn1 : plainName "java/lang/String" = true := by first | (simp [plainName, overriddenIn]; done) | decide +kernel
theorem d8_0 : decode cb8 0 = .ok (.aload_n 0, 1) := by decide +kernel
theorem d8_1 : decode cb8 1 = .ok (.ifnonnull 11, 3) := by decide +kernel
theorem d8_12 : decode cb8 12 = .ok (.aload_n 0, 1) := by decide +kernel
theorem d8_13 : decode cb8 13 = .ok (.areturn, 1) := by decide +kernel
theorem own_pn2 : plainName "java/util/Objects" = true := by first | (simp [plainName, overriddenIn]; done) | decide +kernel
theorem d10_0 : decode cb10 0 = .ok (.iload_n 2, 1) := by decide +kernel
theorem d10_1 : decode cb10 1 = .ok (.iload_n 0, 1) := by decide +kernel
theorem d10_2 : decode cb10 2 = .ok (.ior, 1) := by decide +kernel
theorem d10_3 : decode cb10 3 = .ok (.iload_n 1, 1) := by decide +kernel
theorem d10_4 : decode cb10 4 = .ok (.ior, 1) := by decide +kernel
theorem d10_5 : decode cb10 5 = .ok (.ifCond .lt 10, 3) := by decide +kernel
theorem d10_8 : decode cb10 8 = .ok (.iload_n 1, 1) := by decide +kernel
theorem d10_9 : decode cb10 9 = .ok (.iload_n 2, 1) := by decide +kernel
theorem d10_10 : decode cb10 10 = .ok (.iload_n 0, 1) := by decide +kernel
theorem d10_11 : decode cb10 11 = .ok (.isub, 1) := by decide +kernel
theorem d10_12 : decode cb10 12 = .ok (.if_icmp .le 11, 3) := by decide +kernel
theorem d10_23 : decode cb10 23 = .ok (.iload_n 0, 1) := by decide +kernel
theorem d10_24 : decode cb10 24 = .ok (.ireturn, 1) := by decide +kernel
theorem d9_0 : decode cb9 0 = .ok (.iload_n 0, 1) := by decide +kernel
theorem d9_1 : decode cb9 1 = .ok (.iload_n 1, 1) := by decide +kernel
theorem d9_2 : decode cb9 2 = .ok (.iload_n 2, 1) := by decide +kernel
theorem d9_3 : decode cb9 3 = .ok (.getstatic 1053, 3) := by decide +kernel
theorem d9_6 : decode cb9 6 = .ok (.invokestatic 1065, 3) := by decide +kernel
theorem own_pd1 : parseMethodDescriptor "(IIILjava/util/function/BiFunction;)I" = some ⟨[.int, .int, .int, (.object "java/util/function/BiFunction")], some .int⟩ := by decide +kernel
theorem d9_9 : decode cb9 9 = .ok (.ireturn, 1) := by decide +kernel
theorem d16_0 : decode cb16 0 = .ok (.iload_n 0, 1) := by decide +kernel
theorem d16_1 : decode cb16 1 = .ok (.iload_n 1, 1) := by decide +kernel
theorem d16_2 : decode cb16 2 = .ok (.if_icmp .gt 7, 3) := by decide +kernel
theorem d16_9 : decode cb16 9 = .ok (.iload_n 1, 1) := by decide +kernel
theorem d16_10 : decode cb16 10 = .ok (.ireturn, 1) := by decide +kernel
theorem d12_0 : decode cb12 0 = .ok (.iload_n 1, 1) := by decide +kernel
theorem d12_1 : decode cb12 1 = .ok (.iload_n 2, 1) := by decide +kernel
theorem d12_2 : decode cb12 2 = .ok (.iadd, 1) := by decide +kernel
theorem d12_3 : decode cb12 3 = .ok (.istore_n 3, 1) := by decide +kernel
theorem d12_4 : decode cb12 4 = .ok (.iload_n 1, 1) := by decide +kernel
theorem d12_5 : decode cb12 5 = .ok (.istore 4, 2) := by decide +kernel
theorem d12_7 : decode cb12 7 = .ok (.iload 4, 2) := by decide +kernel
theorem d12_9 : decode cb12 9 = .ok (.iload_n 3, 1) := by decide +kernel
theorem d12_10 : decode cb12 10 = .ok (.if_icmp .ge 21, 3) := by decide +kernel
theorem d12_13 : decode cb12 13 = .ok (.aload_n 0, 1) := by decide +kernel
theorem d12_14 : decode cb12 14 = .ok (.iload 4, 2) := by decide +kernel
theorem d12_16 : decode cb12 16 = .ok (.baload, 1) := by decide +kernel
theorem d12_17 : decode cb12 17 = .ok (.ifCond .ge 8, 3) := by decide +kernel
theorem d12_20 : decode cb12 20 = .ok (.iload 4, 2) := by decide +kernel
theorem d12_22 : decode cb12 22 = .ok (.iload_n 1, 1) := by decide +kernel
theorem d12_23 : decode cb12 23 = .ok (.isub, 1) := by decide +kernel
theorem d12_24 : decode cb12 24 = .ok (.ireturn, 1) := by decide +kernel
theorem own_pn3 : plainName "java/lang/StringCoding" = true := by first | (simp [plainName, overriddenIn]; done) | decide +kernel
theorem d12_25 : decode cb12 25 = .ok (.iinc 4 1, 3) := by decide +kernel
theorem d12_28 : decode cb12 28 = .ok (.goto (-21), 3) := by decide +kernel
theorem d12_31 : decode cb12 31 = .ok (.iload_n 2, 1) := by decide +kernel
theorem d12_32 : decode cb12 32 = .ok (.ireturn, 1) := by decide +kernel
theorem d15_0 : decode cb15 0 = .ok (.iload_n 1, 1) := by decide +kernel
theorem d15_1 : decode cb15 1 = .ok (.iload_n 0, 1) := by decide +kernel
theorem d15_2 : decode cb15 2 = .ok (.if_icmp .ge 35, 3) := by decide +kernel
theorem d15_37 : decode cb15 37 = .ok (.return_, 1) := by decide +kernel
theorem own_pn4 : plainName "java/util/Arrays" = true := by first | (simp [plainName, overriddenIn]; done) | decide +kernel
theorem d14_0 : decode cb14 0 = .ok (.iload_n 1, 1) := by decide +kernel
theorem d14_1 : decode cb14 1 = .ok (.iload_n 2, 1) := by decide +kernel
theorem d14_2 : decode cb14 2 = .ok (.invokestatic 343, 3) := by decide +kernel
theorem own_pd2 : parseMethodDescriptor "(II)V" = some ⟨[.int, .int], none⟩ := by decide +kernel
theorem d14_5 : decode cb14 5 = .ok (.iload_n 2, 1) := by decide +kernel
theorem d14_6 : decode cb14 6 = .ok (.iload_n 1, 1) := by decide +kernel
theorem d14_7 : decode cb14 7 = .ok (.isub, 1) := by decide +kernel
theorem d14_8 : decode cb14 8 = .ok (.istore_n 3, 1) := by decide +kernel
theorem d14_9 : decode cb14 9 = .ok (.iload_n 3, 1) := by decide +kernel
theorem d14_10 : decode cb14 10 = .ok (.newarray .byte, 2) := by decide +kernel
theorem d14_12 : decode cb14 12 = .ok (.astore 4, 2) := by decide +kernel
theorem d14_14 : decode cb14 14 = .ok (.aload_n 0, 1) := by decide +kernel
theorem d14_15 : decode cb14 15 = .ok (.iload_n 1, 1) := by decide +kernel
theorem d14_16 : decode cb14 16 = .ok (.aload 4, 2) := by decide +kernel
theorem d14_18 : decode cb14 18 = .ok (.iconst 0, 1) := by decide +kernel
theorem d14_19 : decode cb14 19 = .ok (.aload_n 0, 1) := by decide +kernel
theorem d14_20 : decode cb14 20 = .ok (.arraylength, 1) := by decide +kernel
theorem d14_21 : decode cb14 21 = .ok (.iload_n 1, 1) := by decide +kernel
theorem d14_22 : decode cb14 22 = .ok (.isub, 1) := by decide +kernel
theorem d14_23 : decode cb14 23 = .ok (.iload_n 3, 1) := by decide +kernel
theorem d14_24 : decode cb14 24 = .ok (.invokestatic 304, 3) := by decide +kernel
theorem own_pd3 : parseMethodDescriptor "(II)I" = some ⟨[.int, .int], some .int⟩ := by decide +kernel
theorem d14_27 : decode cb14 27 = .ok (.invokestatic 150, 3) := by decide +kernel
theorem d14_30 : decode cb14 30 = .ok (.aload 4, 2) := by decide +kernel
theorem d14_32 : decode cb14 32 = .ok (.areturn, 1) := by decide +kernel
theorem d13_0 : decode cb13 0 = .ok (.iload_n 1, 1) := by decide +kernel
theorem d13_1 : decode cb13 1 = .ok (.ifCond .ne 9, 3) := by decide +kernel
theorem d13_4 : decode cb13 4 = .ok (.iload_n 2, 1) := by decide +kernel
theorem d13_5 : decode cb13 5 = .ok (.aload_n 0, 1) := by decide +kernel
theorem d13_6 : decode cb13 6 = .ok (.arraylength, 1) := by decide +kernel
theorem d13_7 : decode cb13 7 = .ok (.if_icmp .eq 10, 3) := by decide +kernel
theorem d13_10 : decode cb13 10 = .ok (.aload_n 0, 1) := by decide +kernel
theorem d13_11 : decode cb13 11 = .ok (.iload_n 1, 1) := by decide +kernel
theorem d13_12 : decode cb13 12 = .ok (.iload_n 2, 1) := by decide +kernel
theorem d13_13 : decode cb13 13 = .ok (.invokestatic 339, 3) := by decide +kernel
theorem own_pd4 : parseMethodDescriptor "([BII)[B" = some ⟨[(.array .byte), .int, .int], some (.array .byte)⟩ := by decide +kernel
theorem d13_16 : decode cb13 16 = .ok (.areturn, 1) := by decide +kernel
theorem d28_0 : decode cb28 0 = .ok (.iload_n 1, 1) := by decide +kernel
theorem d28_1 : decode cb28 1 = .ok (.aload_n 0, 1) := by decide +kernel
theorem d28_2 : decode cb28 2 = .ok (.arraylength, 1) := by decide +kernel
theorem d28_3 : decode cb28 3 = .ok (.if_icmp .ne 11, 3) := by decide +kernel
theorem d28_14 : decode cb28 14 = .ok (.iload_n 1, 1) := by decide +kernel
theorem d28_15 : decode cb28 15 = .ok (.newarray .byte, 2) := by decide +kernel
theorem d28_17 : decode cb28 17 = .ok (.astore_n 2, 1) := by decide +kernel
theorem d28_18 : decode cb28 18 = .ok (.aload_n 0, 1) := by decide +kernel
theorem d28_19 : decode cb28 19 = .ok (.iconst 0, 1) := by decide +kernel
theorem d28_20 : decode cb28 20 = .ok (.aload_n 2, 1) := by decide +kernel
theorem d28_21 : decode cb28 21 = .ok (.iconst 0, 1) := by decide +kernel
theorem d28_22 : decode cb28 22 = .ok (.aload_n 0, 1) := by decide +kernel
theorem d28_23 : decode cb28 23 = .ok (.arraylength, 1) := by decide +kernel
theorem d28_24 : decode cb28 24 = .ok (.iload_n 1, 1) := by decide +kernel
theorem d28_25 : decode cb28 25 = .ok (.invokestatic 304, 3) := by decide +kernel
theorem d28_28 : decode cb28 28 = .ok (.invokestatic 150, 3) := by decide +kernel
theorem d28_31 : decode cb28 31 = .ok (.aload_n 2, 1) := by decide +kernel
theorem d28_32 : decode cb28 32 = .ok (.areturn, 1) := by decide +kernel
theorem d22_0 : decode cb22 0 = .ok (.aload_n 0, 1) := by decide +kernel
theorem d22_1 : decode cb22 1 = .ok (.arraylength, 1) := by decide +kernel
theorem d22_2 : decode cb22 2 = .ok (.iconst 1, 1) := by decide +kernel
theorem d22_3 : decode cb22 3 = .ok (.ishr, 1) := by decide +kernel
theorem d22_4 : decode cb22 4 = .ok (.ireturn, 1) := by decide +kernel
theorem own_pn5 : plainName "java/lang/StringUTF16" = true := by first | (simp [plainName, overriddenIn]; done) | decide +kernel
theorem d18_0 : decode cb18 0 = .ok (.iload_n 0, 1) := by decide +kernel
theorem d18_1 : decode cb18 1 = .ok (.ifCond .ge 11, 3) := by decide +kernel
theorem d18_12 : decode cb18 12 = .ok (.iload_n 0, 1) := by decide +kernel
theorem d18_13 : decode cb18 13 = .ok (.ldc 20, 2) := by decide +kernel
theorem d18_15 : decode cb18 15 = .ok (.if_icmp .lt 40, 3) := by decide +kernel
theorem d18_55 : decode cb18 55 = .ok (.iload_n 0, 1) := by decide +kernel
theorem d18_56 : decode cb18 56 = .ok (.iconst 1, 1) := by decide +kernel
theorem d18_57 : decode cb18 57 = .ok (.ishl, 1) := by decide +kernel
theorem d18_58 : decode cb18 58 = .ok (.ireturn, 1) := by decide +kernel
theorem d17_0 : decode cb17 0 = .ok (.iload_n 0, 1) := by decide +kernel
theorem d17_1 : decode cb17 1 = .ok (.invokestatic 11, 3) := by decide +kernel
theorem own_pd5 : parseMethodDescriptor "(I)I" = some ⟨[.int], some .int⟩ := by decide +kernel
theorem d17_4 : decode cb17 4 = .ok (.newarray .byte, 2) := by decide +kernel
theorem d17_6 : decode cb17 6 = .ok (.areturn, 1) := by decide +kernel
theorem d23_0 : decode cb23 0 = .ok (.getstatic 44, 3) := by decide +kernel
theorem d23_3 : decode cb23 3 = .ok (.ifCond .ne 25, 3) := by decide +kernel
theorem d23_28 : decode cb23 28 = .ok (.iload_n 1, 1) := by decide +kernel
theorem d23_29 : decode cb23 29 = .ok (.iconst 1, 1) := by decide +kernel
theorem d23_30 : decode cb23 30 = .ok (.ishl, 1) := by decide +kernel
theorem d23_31 : decode cb23 31 = .ok (.istore_n 1, 1) := by decide +kernel
theorem d23_32 : decode cb23 32 = .ok (.aload_n 0, 1) := by decide +kernel
theorem d23_33 : decode cb23 33 = .ok (.iload_n 1, 1) := by decide +kernel
theorem d23_34 : decode cb23 34 = .ok (.iinc 1 1, 3) := by decide +kernel
theorem d23_37 : decode cb23 37 = .ok (.iload_n 2, 1) := by decide +kernel
theorem d23_38 : decode cb23 38 = .ok (.getstatic 59, 3) := by decide +kernel
theorem d23_41 : decode cb23 41 = .ok (.ishr, 1) := by decide +kernel
theorem d23_42 : decode cb23 42 = .ok (.i2b, 1) := by decide +kernel
theorem d23_43 : decode cb23 43 = .ok (.bastore, 1) := by decide +kernel
theorem d23_44 : decode cb23 44 = .ok (.aload_n 0, 1) := by decide +kernel
theorem d23_45 : decode cb23 45 = .ok (.iload_n 1, 1) := by decide +kernel
theorem d23_46 : decode cb23 46 = .ok (.iload_n 2, 1) := by decide +kernel
theorem d23_47 : decode cb23 47 = .ok (.getstatic 63, 3) := by decide +kernel
theorem d23_50 : decode cb23 50 = .ok (.ishr, 1) := by decide +kernel
theorem d23_51 : decode cb23 51 = .ok (.i2b, 1) := by decide +kernel
theorem d23_52 : decode cb23 52 = .ok (.bastore, 1) := by decide +kernel
theorem d23_53 : decode cb23 53 = .ok (.return_, 1) := by decide +kernel
theorem d21_0 : decode cb21 0 = .ok (.iload_n 0, 1) := by decide +kernel
theorem d21_1 : decode cb21 1 = .ok (.iload_n 1, 1) := by decide +kernel
theorem d21_2 : decode cb21 2 = .ok (.aload_n 2, 1) := by decide +kernel
theorem d21_3 : decode cb21 3 = .ok (.invokestatic 48, 3) := by decide +kernel
theorem own_pd6 : parseMethodDescriptor "([B)I" = some ⟨[(.array .byte)], some .int⟩ := by decide +kernel
theorem d21_6 : decode cb21 6 = .ok (.invokestatic 419, 3) := by decide +kernel
theorem own_pd7 : parseMethodDescriptor "(III)I" = some ⟨[.int, .int, .int], some .int⟩ := by decide +kernel
theorem d21_9 : decode cb21 9 = .ok (.pop, 1) := by decide +kernel
theorem d21_10 : decode cb21 10 = .ok (.return_, 1) := by decide +kernel
theorem d20_0 : decode cb20 0 = .ok (.iload_n 3, 1) := by decide +kernel
theorem d20_1 : decode cb20 1 = .ok (.iload 4, 2) := by decide +kernel
theorem d20_3 : decode cb20 3 = .ok (.aload_n 2, 1) := by decide +kernel
theorem d20_4 : decode cb20 4 = .ok (.invokestatic 173, 3) := by decide +kernel
theorem own_pd8 : parseMethodDescriptor "(II[B)V" = some ⟨[.int, .int, (.array .byte)], none⟩ := by decide +kernel
theorem d20_7 : decode cb20 7 = .ok (.iconst 0, 1) := by decide +kernel
theorem d20_8 : decode cb20 8 = .ok (.istore 5, 2) := by decide +kernel
theorem d20_10 : decode cb20 10 = .ok (.iload 5, 2) := by decide +kernel
theorem d20_12 : decode cb20 12 = .ok (.iload 4, 2) := by decide +kernel
theorem d20_14 : decode cb20 14 = .ok (.if_icmp .ge 27, 3) := by decide +kernel
theorem d20_41 : decode cb20 41 = .ok (.return_, 1) := by decide +kernel
theorem d20_17 : decode cb20 17 = .ok (.aload_n 2, 1) := by decide +kernel
theorem d20_18 : decode cb20 18 = .ok (.iload_n 3, 1) := by decide +kernel
theorem d20_19 : decode cb20 19 = .ok (.iinc 3 1, 3) := by decide +kernel
theorem d20_22 : decode cb20 22 = .ok (.aload_n 0, 1) := by decide +kernel
theorem d20_23 : decode cb20 23 = .ok (.iload_n 1, 1) := by decide +kernel
theorem d20_24 : decode cb20 24 = .ok (.iinc 1 1, 3) := by decide +kernel
theorem d20_27 : decode cb20 27 = .ok (.baload, 1) := by decide +kernel
theorem d20_28 : decode cb20 28 = .ok (.sipush 255, 3) := by decide +kernel
theorem d20_31 : decode cb20 31 = .ok (.iand, 1) := by decide +kernel
theorem d20_32 : decode cb20 32 = .ok (.invokestatic 111, 3) := by decide +kernel
theorem own_pd9 : parseMethodDescriptor "([BII)V" = some ⟨[(.array .byte), .int, .int], none⟩ := by decide +kernel
theorem d20_35 : decode cb20 35 = .ok (.iinc 5 1, 3) := by decide +kernel
theorem d20_38 : decode cb20 38 = .ok (.goto (-28), 3) := by decide +kernel
theorem d19_0 : decode cb19 0 = .ok (.aload_n 0, 1) := by decide +kernel
theorem d19_1 : decode cb19 1 = .ok (.iload_n 1, 1) := by decide +kernel
theorem d19_2 : decode cb19 2 = .ok (.aload_n 2, 1) := by decide +kernel
theorem d19_3 : decode cb19 3 = .ok (.iload_n 3, 1) := by decide +kernel
theorem d19_4 : decode cb19 4 = .ok (.iload 4, 2) := by decide +kernel
theorem d19_6 : decode cb19 6 = .ok (.invokestatic 240, 3) := by decide +kernel
theorem own_pd10 : parseMethodDescriptor "([BI[BII)V" = some ⟨[(.array .byte), .int, (.array .byte), .int, .int], none⟩ := by decide +kernel
theorem d19_9 : decode cb19 9 = .ok (.return_, 1) := by decide +kernel
theorem own_pn6 : plainName "java/lang/StringLatin1" = true := by first | (simp [plainName, overriddenIn]; done) | decide +kernel
theorem d43_0 : decode cb43 0 = .ok (.iload_n 0, 1) := by decide +kernel
theorem d43_1 : decode cb43 1 = .ok (.bipush 6, 2) := by decide +kernel
theorem d43_3 : decode cb43 3 = .ok (.ishl, 1) := by decide +kernel
theorem d43_4 : decode cb43 4 = .ok (.iload_n 1, 1) := by decide +kernel
theorem d43_5 : decode cb43 5 = .ok (.ixor, 1) := by decide +kernel
theorem d43_6 : decode cb43 6 = .ok (.sipush 3968, 3) := by decide +kernel
theorem d43_9 : decode cb43 9 = .ok (.ixor, 1) := by decide +kernel
theorem d43_10 : decode cb43 10 = .ok (.i2c, 1) := by decide +kernel
theorem d43_11 : decode cb43 11 = .ok (.ireturn, 1) := by decide +kernel
theorem d26_0 : decode cb26 0 = .ok (.iload_n 0, 1) := by decide +kernel
theorem d26_1 : decode cb26 1 = .ok (.bipush 12, 2) := by decide +kernel
theorem d26_3 : decode cb26 3 = .ok (.ishl, 1) := by decide +kernel
theorem d26_4 : decode cb26 4 = .ok (.iload_n 1, 1) := by decide +kernel
theorem d26_5 : decode cb26 5 = .ok (.bipush 6, 2) := by decide +kernel
theorem d26_7 : decode cb26 7 = .ok (.ishl, 1) := by decide +kernel
theorem d26_8 : decode cb26 8 = .ok (.ixor, 1) := by decide +kernel
theorem d26_9 : decode cb26 9 = .ok (.iload_n 2, 1) := by decide +kernel
theorem d26_10 : decode cb26 10 = .ok (.ldc_w 383, 3) := by decide +kernel
theorem d26_13 : decode cb26 13 = .ok (.ixor, 1) := by decide +kernel
theorem d26_14 : decode cb26 14 = .ok (.ixor, 1) := by decide +kernel
theorem d26_15 : decode cb26 15 = .ok (.i2c, 1) := by decide +kernel
theorem d26_16 : decode cb26 16 = .ok (.ireturn, 1) := by decide +kernel
theorem d38_0 : decode cb38 0 = .ok (.iload_n 0, 1) := by decide +kernel
theorem d38_1 : decode cb38 1 = .ok (.bipush 18, 2) := by decide +kernel
theorem d38_3 : decode cb38 3 = .ok (.ishl, 1) := by decide +kernel
theorem d38_4 : decode cb38 4 = .ok (.iload_n 1, 1) := by decide +kernel
theorem d38_5 : decode cb38 5 = .ok (.bipush 12, 2) := by decide +kernel
theorem d38_7 : decode cb38 7 = .ok (.ishl, 1) := by decide +kernel
theorem d38_8 : decode cb38 8 = .ok (.ixor, 1) := by decide +kernel
theorem d38_9 : decode cb38 9 = .ok (.iload_n 2, 1) := by decide +kernel
theorem d38_10 : decode cb38 10 = .ok (.bipush 6, 2) := by decide +kernel
theorem d38_12 : decode cb38 12 = .ok (.ishl, 1) := by decide +kernel
theorem d38_13 : decode cb38 13 = .ok (.ixor, 1) := by decide +kernel
theorem d38_14 : decode cb38 14 = .ok (.iload_n 3, 1) := by decide +kernel
theorem d38_15 : decode cb38 15 = .ok (.ldc_w 384, 3) := by decide +kernel
theorem d38_18 : decode cb38 18 = .ok (.ixor, 1) := by decide +kernel
theorem d38_19 : decode cb38 19 = .ok (.ixor, 1) := by decide +kernel
theorem d38_20 : decode cb38 20 = .ok (.ireturn, 1) := by decide +kernel
theorem d45_0 : decode cb45 0 = .ok (.iload_n 0, 1) := by decide +kernel
theorem d45_1 : decode cb45 1 = .ok (.sipush 192, 3) := by decide +kernel
theorem d45_4 : decode cb45 4 = .ok (.iand, 1) := by decide +kernel
theorem d45_5 : decode cb45 5 = .ok (.sipush 128, 3) := by decide +kernel
theorem d45_8 : decode cb45 8 = .ok (.if_icmp .eq 7, 3) := by decide +kernel
theorem d45_15 : decode cb45 15 = .ok (.iconst 0, 1) := by decide +kernel
theorem d45_16 : decode cb45 16 = .ok (.ireturn, 1) := by decide +kernel
theorem d25_0 : decode cb25 0 = .ok (.iload_n 0, 1) := by decide +kernel
theorem d25_1 : decode cb25 1 = .ok (.bipush (-32), 2) := by decide +kernel
theorem d25_3 : decode cb25 3 = .ok (.if_icmp .ne 14, 3) := by decide +kernel
theorem d25_6 : decode cb25 6 = .ok (.iload_n 1, 1) := by decide +kernel
theorem d25_7 : decode cb25 7 = .ok (.sipush 224, 3) := by decide +kernel
theorem d25_10 : decode cb25 10 = .ok (.iand, 1) := by decide +kernel
theorem d25_11 : decode cb25 11 = .ok (.sipush 128, 3) := by decide +kernel
theorem d25_14 : decode cb25 14 = .ok (.if_icmp .eq 25, 3) := by decide +kernel
theorem d25_17 : decode cb25 17 = .ok (.iload_n 1, 1) := by decide +kernel
theorem d25_18 : decode cb25 18 = .ok (.sipush 192, 3) := by decide +kernel
theorem d25_21 : decode cb25 21 = .ok (.iand, 1) := by decide +kernel
theorem d25_22 : decode cb25 22 = .ok (.sipush 128, 3) := by decide +kernel
theorem d25_25 : decode cb25 25 = .ok (.if_icmp .ne 14, 3) := by decide +kernel
theorem d25_28 : decode cb25 28 = .ok (.iload_n 2, 1) := by decide +kernel
theorem d25_29 : decode cb25 29 = .ok (.sipush 192, 3) := by decide +kernel
theorem d25_32 : decode cb25 32 = .ok (.iand, 1) := by decide +kernel
theorem d25_33 : decode cb25 33 = .ok (.sipush 128, 3) := by decide +kernel
theorem d25_36 : decode cb25 36 = .ok (.if_icmp .eq 7, 3) := by decide +kernel
theorem d25_43 : decode cb25 43 = .ok (.iconst 0, 1) := by decide +kernel
theorem d25_44 : decode cb25 44 = .ok (.ireturn, 1) := by decide +kernel
theorem d39_0 : decode cb39 0 = .ok (.iload_n 0, 1) := by decide +kernel
theorem d39_1 : decode cb39 1 = .ok (.sipush 192, 3) := by decide +kernel
theorem d39_4 : decode cb39 4 = .ok (.iand, 1) := by decide +kernel
theorem d39_5 : decode cb39 5 = .ok (.sipush 128, 3) := by decide +kernel
theorem d39_8 : decode cb39 8 = .ok (.if_icmp .ne 25, 3) := by decide +kernel
theorem d39_11 : decode cb39 11 = .ok (.iload_n 1, 1) := by decide +kernel
theorem d39_12 : decode cb39 12 = .ok (.sipush 192, 3) := by decide +kernel
theorem d39_15 : decode cb39 15 = .ok (.iand, 1) := by decide +kernel
theorem d39_16 : decode cb39 16 = .ok (.sipush 128, 3) := by decide +kernel
theorem d39_19 : decode cb39 19 = .ok (.if_icmp .ne 14, 3) := by decide +kernel
theorem d39_22 : decode cb39 22 = .ok (.iload_n 2, 1) := by decide +kernel
theorem d39_23 : decode cb39 23 = .ok (.sipush 192, 3) := by decide +kernel
theorem d39_26 : decode cb39 26 = .ok (.iand, 1) := by decide +kernel
theorem d39_27 : decode cb39 27 = .ok (.sipush 128, 3) := by decide +kernel
theorem d39_30 : decode cb39 30 = .ok (.if_icmp .eq 7, 3) := by decide +kernel
theorem d39_37 : decode cb39 37 = .ok (.iconst 0, 1) := by decide +kernel
theorem d39_38 : decode cb39 38 = .ok (.ireturn, 1) := by decide +kernel
theorem d27_0 : decode cb27 0 = .ok (.iload_n 0, 1) := by decide +kernel
theorem d27_1 : decode cb27 1 = .ok (.ldc 75, 2) := by decide +kernel
theorem d27_3 : decode cb27 3 = .ok (.if_icmp .lt 13, 3) := by decide +kernel
theorem d27_16 : decode cb27 16 = .ok (.iconst 0, 1) := by decide +kernel
theorem d27_17 : decode cb27 17 = .ok (.ireturn, 1) := by decide +kernel
theorem d27_6 : decode cb27 6 = .ok (.iload_n 0, 1) := by decide +kernel
theorem d27_7 : decode cb27 7 = .ok (.ldc 77, 2) := by decide +kernel
theorem d27_9 : decode cb27 9 = .ok (.if_icmp .ge 7, 3) := by decide +kernel
theorem own_pn7 : plainName "java/lang/Character" = true := by first | (simp [plainName, overriddenIn]; done) | decide +kernel
theorem d40_0 : decode cb40 0 = .ok (.iload_n 0, 1) := by decide +kernel
theorem d40_1 : decode cb40 1 = .ok (.ldc 73, 2) := by decide +kernel
theorem d40_3 : decode cb40 3 = .ok (.if_icmp .lt 13, 3) := by decide +kernel
theorem d40_6 : decode cb40 6 = .ok (.iload_n 0, 1) := by decide +kernel
theorem d40_7 : decode cb40 7 = .ok (.ldc 74, 2) := by decide +kernel
theorem d40_9 : decode cb40 9 = .ok (.if_icmp .ge 7, 3) := by decide +kernel
theorem d40_12 : decode cb40 12 = .ok (.iconst 1, 1) := by decide +kernel
theorem d40_13 : decode cb40 13 = .ok (.goto 4, 3) := by decide +kernel
theorem d40_17 : decode cb40 17 = .ok (.ireturn, 1) := by decide +kernel
theorem d41_0 : decode cb41 0 = .ok (.iload_n 0, 1) := by decide +kernel
theorem d41_1 : decode cb41 1 = .ok (.bipush 10, 2) := by decide +kernel
theorem d41_3 : decode cb41 3 = .ok (.iushr, 1) := by decide +kernel
theorem d41_4 : decode cb41 4 = .ok (.ldc 110, 2) := by decide +kernel
theorem d41_6 : decode cb41 6 = .ok (.iadd, 1) := by decide +kernel
theorem d41_7 : decode cb41 7 = .ok (.i2c, 1) := by decide +kernel
theorem d41_8 : decode cb41 8 = .ok (.ireturn, 1) := by decide +kernel
theorem d42_0 : decode cb42 0 = .ok (.iload_n 0, 1) := by decide +kernel
theorem d42_1 : decode cb42 1 = .ok (.sipush 1023, 3) := by decide +kernel
theorem d42_4 : decode cb42 4 = .ok (.iand, 1) := by decide +kernel
theorem d42_5 : decode cb42 5 = .ok (.ldc 76, 2) := by decide +kernel
theorem d42_7 : decode cb42 7 = .ok (.iadd, 1) := by decide +kernel
theorem d42_8 : decode cb42 8 = .ok (.i2c, 1) := by decide +kernel
theorem d42_9 : decode cb42 9 = .ok (.ireturn, 1) := by decide +kernel
theorem d24_0 : decode cb24 0 = .ok (.iload_n 1, 1) := by decide +kernel
theorem d24_1 : decode cb24 1 = .ok (.iload_n 2, 1) := by decide +kernel
theorem d24_2 : decode cb24 2 = .ok (.if_icmp .ge 619, 3) := by decide +kernel
theorem d24_5 : decode cb24 5 = .ok (.aload_n 0, 1) := by decide +kernel
theorem d24_6 : decode cb24 6 = .ok (.iload_n 1, 1) := by decide +kernel
theorem d24_7 : decode cb24 7 = .ok (.iinc 1 1, 3) := by decide +kernel
theorem d24_10 : decode cb24 10 = .ok (.baload, 1) := by decide +kernel
theorem d24_11 : decode cb24 11 = .ok (.istore 6, 2) := by decide +kernel
theorem d24_13 : decode cb24 13 = .ok (.iload 6, 2) := by decide +kernel
theorem d24_15 : decode cb24 15 = .ok (.ifCond .lt 18, 3) := by decide +kernel
theorem d24_18 : decode cb24 18 = .ok (.aload_n 3, 1) := by decide +kernel
theorem d24_19 : decode cb24 19 = .ok (.iload 4, 2) := by decide +kernel
theorem d24_21 : decode cb24 21 = .ok (.iinc 4 1, 3) := by decide +kernel
theorem d24_24 : decode cb24 24 = .ok (.iload 6, 2) := by decide +kernel
theorem d24_26 : decode cb24 26 = .ok (.i2c, 1) := by decide +kernel
theorem d24_27 : decode cb24 27 = .ok (.invokestatic 64, 3) := by decide +kernel
theorem d24_30 : decode cb24 30 = .ok (.goto 588, 3) := by decide +kernel
theorem d24_618 : decode cb24 618 = .ok (.goto (-618), 3) := by decide +kernel
theorem d24_621 : decode cb24 621 = .ok (.iload 4, 2) := by decide +kernel
theorem d24_623 : decode cb24 623 = .ok (.ireturn, 1) := by decide +kernel
theorem d24_33 : decode cb24 33 = .ok (.iload 6, 2) := by decide +kernel
theorem d24_35 : decode cb24 35 = .ok (.iconst 5, 1) := by decide +kernel
theorem d24_36 : decode cb24 36 = .ok (.ishr, 1) := by decide +kernel
theorem d24_37 : decode cb24 37 = .ok (.bipush (-2), 2) := by decide +kernel
theorem d24_39 : decode cb24 39 = .ok (.if_icmp .ne 104, 3) := by decide +kernel
theorem d24_42 : decode cb24 42 = .ok (.iload 6, 2) := by decide +kernel
theorem d24_44 : decode cb24 44 = .ok (.bipush 30, 2) := by decide +kernel
theorem d24_46 : decode cb24 46 = .ok (.iand, 1) := by decide +kernel
theorem d24_47 : decode cb24 47 = .ok (.ifCond .eq 96, 3) := by decide +kernel
theorem d24_50 : decode cb24 50 = .ok (.iload_n 1, 1) := by decide +kernel
theorem d24_51 : decode cb24 51 = .ok (.iload_n 2, 1) := by decide +kernel
theorem d24_52 : decode cb24 52 = .ok (.if_icmp .ge 67, 3) := by decide +kernel
theorem d24_55 : decode cb24 55 = .ok (.aload_n 0, 1) := by decide +kernel
theorem d24_56 : decode cb24 56 = .ok (.iload_n 1, 1) := by decide +kernel
theorem d24_57 : decode cb24 57 = .ok (.iinc 1 1, 3) := by decide +kernel
theorem d24_60 : decode cb24 60 = .ok (.baload, 1) := by decide +kernel
theorem d24_61 : decode cb24 61 = .ok (.istore 7, 2) := by decide +kernel
theorem d24_63 : decode cb24 63 = .ok (.iload 7, 2) := by decide +kernel
theorem d24_65 : decode cb24 65 = .ok (.invokestatic 385, 3) := by decide +kernel
theorem own_pd11 : parseMethodDescriptor "(I)Z" = some ⟨[.int], some .boolean⟩ := by decide +kernel
theorem d24_68 : decode cb24 68 = .ok (.ifCond .eq 32, 3) := by decide +kernel
theorem d24_100 : decode cb24 100 = .ok (.aload_n 3, 1) := by decide +kernel
theorem d24_101 : decode cb24 101 = .ok (.iload 4, 2) := by decide +kernel
theorem d24_103 : decode cb24 103 = .ok (.iinc 4 1, 3) := by decide +kernel
theorem d24_106 : decode cb24 106 = .ok (.iload 6, 2) := by decide +kernel
theorem d24_108 : decode cb24 108 = .ok (.iload 7, 2) := by decide +kernel
theorem d24_110 : decode cb24 110 = .ok (.invokestatic 98, 3) := by decide +kernel
theorem own_pd12 : parseMethodDescriptor "(II)C" = some ⟨[.int, .int], some .char⟩ := by decide +kernel
theorem d24_113 : decode cb24 113 = .ok (.invokestatic 64, 3) := by decide +kernel
theorem d24_116 : decode cb24 116 = .ok (.goto (-116), 3) := by decide +kernel
theorem d24_143 : decode cb24 143 = .ok (.iload 6, 2) := by decide +kernel
theorem d24_145 : decode cb24 145 = .ok (.iconst 4, 1) := by decide +kernel
theorem d24_146 : decode cb24 146 = .ok (.ishr, 1) := by decide +kernel
theorem d24_147 : decode cb24 147 = .ok (.bipush (-2), 2) := by decide +kernel
theorem d24_149 : decode cb24 149 = .ok (.if_icmp .ne 200, 3) := by decide +kernel
theorem d24_152 : decode cb24 152 = .ok (.iload_n 1, 1) := by decide +kernel
theorem d24_153 : decode cb24 153 = .ok (.iconst 1, 1) := by decide +kernel
theorem d24_154 : decode cb24 154 = .ok (.iadd, 1) := by decide +kernel
theorem d24_155 : decode cb24 155 = .ok (.iload_n 2, 1) := by decide +kernel
theorem d24_156 : decode cb24 156 = .ok (.if_icmp .ge 127, 3) := by decide +kernel
theorem d24_159 : decode cb24 159 = .ok (.aload_n 0, 1) := by decide +kernel
theorem d24_160 : decode cb24 160 = .ok (.iload_n 1, 1) := by decide +kernel
theorem d24_161 : decode cb24 161 = .ok (.iinc 1 1, 3) := by decide +kernel
theorem d24_164 : decode cb24 164 = .ok (.baload, 1) := by decide +kernel
theorem d24_165 : decode cb24 165 = .ok (.istore 7, 2) := by decide +kernel
theorem d24_167 : decode cb24 167 = .ok (.aload_n 0, 1) := by decide +kernel
theorem d24_168 : decode cb24 168 = .ok (.iload_n 1, 1) := by decide +kernel
theorem d24_169 : decode cb24 169 = .ok (.iinc 1 1, 3) := by decide +kernel
theorem d24_172 : decode cb24 172 = .ok (.baload, 1) := by decide +kernel
theorem d24_173 : decode cb24 173 = .ok (.istore 8, 2) := by decide +kernel
theorem d24_175 : decode cb24 175 = .ok (.iload 6, 2) := by decide +kernel
theorem d24_177 : decode cb24 177 = .ok (.iload 7, 2) := by decide +kernel
theorem d24_179 : decode cb24 179 = .ok (.iload 8, 2) := by decide +kernel
theorem d24_181 : decode cb24 181 = .ok (.invokestatic 392, 3) := by decide +kernel
theorem own_pd13 : parseMethodDescriptor "(III)Z" = some ⟨[.int, .int, .int], some .boolean⟩ := by decide +kernel
theorem d24_184 : decode cb24 184 = .ok (.ifCond .eq 40, 3) := by decide +kernel
theorem d24_224 : decode cb24 224 = .ok (.iload 6, 2) := by decide +kernel
theorem d24_226 : decode cb24 226 = .ok (.iload 7, 2) := by decide +kernel
theorem d24_228 : decode cb24 228 = .ok (.iload 8, 2) := by decide +kernel
theorem d24_230 : decode cb24 230 = .ok (.invokestatic 400, 3) := by decide +kernel
theorem own_pd14 : parseMethodDescriptor "(III)C" = some ⟨[.int, .int, .int], some .char⟩ := by decide +kernel
theorem d24_233 : decode cb24 233 = .ok (.istore 9, 2) := by decide +kernel
theorem d24_235 : decode cb24 235 = .ok (.iload 9, 2) := by decide +kernel
theorem d24_237 : decode cb24 237 = .ok (.invokestatic 404, 3) := by decide +kernel
theorem own_pd15 : parseMethodDescriptor "(C)Z" = some ⟨[.char], some .boolean⟩ := by decide +kernel
theorem d24_240 : decode cb24 240 = .ok (.ifCond .eq 29, 3) := by decide +kernel
theorem d24_269 : decode cb24 269 = .ok (.aload_n 3, 1) := by decide +kernel
theorem d24_270 : decode cb24 270 = .ok (.iload 4, 2) := by decide +kernel
theorem d24_272 : decode cb24 272 = .ok (.iinc 4 1, 3) := by decide +kernel
theorem d24_275 : decode cb24 275 = .ok (.iload 9, 2) := by decide +kernel
theorem d24_277 : decode cb24 277 = .ok (.invokestatic 64, 3) := by decide +kernel
theorem d24_280 : decode cb24 280 = .ok (.goto (-280), 3) := by decide +kernel
theorem d24_349 : decode cb24 349 = .ok (.iload 6, 2) := by decide +kernel
theorem d24_351 : decode cb24 351 = .ok (.iconst 3, 1) := by decide +kernel
theorem d24_352 : decode cb24 352 = .ok (.ishr, 1) := by decide +kernel
theorem d24_353 : decode cb24 353 = .ok (.bipush (-2), 2) := by decide +kernel
theorem d24_355 : decode cb24 355 = .ok (.if_icmp .ne 240, 3) := by decide +kernel
theorem d24_358 : decode cb24 358 = .ok (.iload_n 1, 1) := by decide +kernel
theorem d24_359 : decode cb24 359 = .ok (.iconst 2, 1) := by decide +kernel
theorem d24_360 : decode cb24 360 = .ok (.iadd, 1) := by decide +kernel
theorem d24_361 : decode cb24 361 = .ok (.iload_n 2, 1) := by decide +kernel
theorem d24_362 : decode cb24 362 = .ok (.if_icmp .ge 128, 3) := by decide +kernel
theorem d24_365 : decode cb24 365 = .ok (.aload_n 0, 1) := by decide +kernel
theorem d24_366 : decode cb24 366 = .ok (.iload_n 1, 1) := by decide +kernel
theorem d24_367 : decode cb24 367 = .ok (.iinc 1 1, 3) := by decide +kernel
theorem d24_370 : decode cb24 370 = .ok (.baload, 1) := by decide +kernel
theorem d24_371 : decode cb24 371 = .ok (.istore 7, 2) := by decide +kernel
theorem d24_373 : decode cb24 373 = .ok (.aload_n 0, 1) := by decide +kernel
theorem d24_374 : decode cb24 374 = .ok (.iload_n 1, 1) := by decide +kernel
theorem d24_375 : decode cb24 375 = .ok (.iinc 1 1, 3) := by decide +kernel
theorem d24_378 : decode cb24 378 = .ok (.baload, 1) := by decide +kernel
theorem d24_379 : decode cb24 379 = .ok (.istore 8, 2) := by decide +kernel
theorem d24_381 : decode cb24 381 = .ok (.aload_n 0, 1) := by decide +kernel
theorem d24_382 : decode cb24 382 = .ok (.iload_n 1, 1) := by decide +kernel
theorem d24_383 : decode cb24 383 = .ok (.iinc 1 1, 3) := by decide +kernel
theorem d24_386 : decode cb24 386 = .ok (.baload, 1) := by decide +kernel
theorem d24_387 : decode cb24 387 = .ok (.istore 9, 2) := by decide +kernel
theorem d24_389 : decode cb24 389 = .ok (.iload 6, 2) := by decide +kernel
theorem d24_391 : decode cb24 391 = .ok (.iload 7, 2) := by decide +kernel
theorem d24_393 : decode cb24 393 = .ok (.iload 8, 2) := by decide +kernel
theorem d24_395 : decode cb24 395 = .ok (.iload 9, 2) := by decide +kernel
theorem d24_397 : decode cb24 397 = .ok (.invokestatic 411, 3) := by decide +kernel
theorem own_pd16 : parseMethodDescriptor "(IIII)I" = some ⟨[.int, .int, .int, .int], some .int⟩ := by decide +kernel
theorem d24_400 : decode cb24 400 = .ok (.istore 10, 2) := by decide +kernel
theorem d24_402 : decode cb24 402 = .ok (.iload 7, 2) := by decide +kernel
theorem d24_404 : decode cb24 404 = .ok (.iload 8, 2) := by decide +kernel
theorem d24_406 : decode cb24 406 = .ok (.iload 9, 2) := by decide +kernel
theorem d24_408 : decode cb24 408 = .ok (.invokestatic 415, 3) := by decide +kernel
theorem d24_411 : decode cb24 411 = .ok (.ifCond .ne 11, 3) := by decide +kernel
theorem d24_414 : decode cb24 414 = .ok (.iload 10, 2) := by decide +kernel
theorem d24_416 : decode cb24 416 = .ok (.invokestatic 418, 3) := by decide +kernel
theorem d24_419 : decode cb24 419 = .ok (.ifCond .ne 40, 3) := by decide +kernel
theorem d24_459 : decode cb24 459 = .ok (.aload_n 3, 1) := by decide +kernel
theorem d24_460 : decode cb24 460 = .ok (.iload 4, 2) := by decide +kernel
theorem d24_462 : decode cb24 462 = .ok (.iinc 4 1, 3) := by decide +kernel
theorem d24_465 : decode cb24 465 = .ok (.iload 10, 2) := by decide +kernel
theorem d24_467 : decode cb24 467 = .ok (.invokestatic 424, 3) := by decide +kernel
theorem own_pd17 : parseMethodDescriptor "(I)C" = some ⟨[.int], some .char⟩ := by decide +kernel
theorem d24_470 : decode cb24 470 = .ok (.invokestatic 64, 3) := by decide +kernel
theorem d24_473 : decode cb24 473 = .ok (.aload_n 3, 1) := by decide +kernel
theorem d24_474 : decode cb24 474 = .ok (.iload 4, 2) := by decide +kernel
theorem d24_476 : decode cb24 476 = .ok (.iinc 4 1, 3) := by decide +kernel
theorem d24_479 : decode cb24 479 = .ok (.iload 10, 2) := by decide +kernel
theorem d24_481 : decode cb24 481 = .ok (.invokestatic 428, 3) := by decide +kernel
theorem d24_484 : decode cb24 484 = .ok (.invokestatic 64, 3) := by decide +kernel
theorem d24_487 : decode cb24 487 = .ok (.goto (-487), 3) := by decide +kernel
theorem d11_0 : decode cb11 0 = .ok (.aload_n 0, 1) := by decide +kernel
theorem d11_1 : decode cb11 1 = .ok (.invokespecial 1, 3) := by decide +kernel
theorem d11_4 : decode cb11 4 = .ok (.iload 4, 2) := by decide +kernel
theorem d11_6 : decode cb11 6 = .ok (.ifCond .ne 24, 3) := by decide +kernel
theorem d11_30 : decode cb11 30 = .ok (.aload_n 1, 1) := by decide +kernel
theorem d11_31 : decode cb11 31 = .ok (.getstatic 86, 3) := by decide +kernel
theorem d11_34 : decode cb11 34 = .ok (.if_acmp .ne 312, 3) := by decide +kernel
theorem d11_37 : decode cb11 37 = .ok (.getstatic 38, 3) := by decide +kernel
theorem d11_40 : decode cb11 40 = .ok (.ifCond .eq 252, 3) := by decide +kernel
theorem d11_43 : decode cb11 43 = .ok (.aload_n 2, 1) := by decide +kernel
theorem d11_44 : decode cb11 44 = .ok (.iload_n 3, 1) := by decide +kernel
theorem d11_45 : decode cb11 45 = .ok (.iload 4, 2) := by decide +kernel
theorem d11_47 : decode cb11 47 = .ok (.invokestatic 92, 3) := by decide +kernel
theorem own_pd18 : parseMethodDescriptor "([BII)I" = some ⟨[(.array .byte), .int, .int], some .int⟩ := by decide +kernel
theorem d11_50 : decode cb11 50 = .ok (.istore 5, 2) := by decide +kernel
theorem d11_52 : decode cb11 52 = .ok (.iload 5, 2) := by decide +kernel
theorem d11_54 : decode cb11 54 = .ok (.iload 4, 2) := by decide +kernel
theorem d11_56 : decode cb11 56 = .ok (.if_icmp .ne 22, 3) := by decide +kernel
theorem d11_59 : decode cb11 59 = .ok (.aload_n 0, 1) := by decide +kernel
theorem d11_60 : decode cb11 60 = .ok (.aload_n 2, 1) := by decide +kernel
theorem d11_61 : decode cb11 61 = .ok (.iload_n 3, 1) := by decide +kernel
theorem d11_62 : decode cb11 62 = .ok (.iload_n 3, 1) := by decide +kernel
theorem d11_63 : decode cb11 63 = .ok (.iload 4, 2) := by decide +kernel
theorem d11_65 : decode cb11 65 = .ok (.iadd, 1) := by decide +kernel
theorem d11_66 : decode cb11 66 = .ok (.invokestatic 54, 3) := by decide +kernel
theorem d11_69 : decode cb11 69 = .ok (.putfield 9, 3) := by decide +kernel
theorem d11_72 : decode cb11 72 = .ok (.aload_n 0, 1) := by decide +kernel
theorem d11_73 : decode cb11 73 = .ok (.iconst 0, 1) := by decide +kernel
theorem d11_74 : decode cb11 74 = .ok (.putfield 15, 3) := by decide +kernel
theorem d11_77 : decode cb11 77 = .ok (.return_, 1) := by decide +kernel
theorem d11_78 : decode cb11 78 = .ok (.aload_n 2, 1) := by decide +kernel
theorem d11_79 : decode cb11 79 = .ok (.iload_n 3, 1) := by decide +kernel
theorem d11_80 : decode cb11 80 = .ok (.iload_n 3, 1) := by decide +kernel
theorem d11_81 : decode cb11 81 = .ok (.iload 4, 2) := by decide +kernel
theorem d11_83 : decode cb11 83 = .ok (.iadd, 1) := by decide +kernel
theorem d11_84 : decode cb11 84 = .ok (.invokestatic 54, 3) := by decide +kernel
theorem d11_87 : decode cb11 87 = .ok (.astore 6, 2) := by decide +kernel
theorem d11_89 : decode cb11 89 = .ok (.iload 5, 2) := by decide +kernel
theorem d11_91 : decode cb11 91 = .ok (.istore 7, 2) := by decide +kernel
theorem d11_93 : decode cb11 93 = .ok (.iload 7, 2) := by decide +kernel
theorem d11_95 : decode cb11 95 = .ok (.iload 4, 2) := by decide +kernel
theorem d11_97 : decode cb11 97 = .ok (.if_icmp .ge 93, 3) := by decide +kernel
theorem d11_100 : decode cb11 100 = .ok (.aload 6, 2) := by decide +kernel
theorem d11_102 : decode cb11 102 = .ok (.iload 7, 2) := by decide +kernel
theorem d11_104 : decode cb11 104 = .ok (.iinc 7 1, 3) := by decide +kernel
theorem d11_107 : decode cb11 107 = .ok (.baload, 1) := by decide +kernel
theorem d11_108 : decode cb11 108 = .ok (.istore 8, 2) := by decide +kernel
theorem d11_110 : decode cb11 110 = .ok (.iload 8, 2) := by decide +kernel
theorem d11_112 : decode cb11 112 = .ok (.ifCond .lt 17, 3) := by decide +kernel
theorem d11_129 : decode cb11 129 = .ok (.iload 8, 2) := by decide +kernel
theorem d11_131 : decode cb11 131 = .ok (.sipush 254, 3) := by decide +kernel
theorem d11_134 : decode cb11 134 = .ok (.iand, 1) := by decide +kernel
theorem d11_135 : decode cb11 135 = .ok (.sipush 194, 3) := by decide +kernel
theorem d11_138 : decode cb11 138 = .ok (.if_icmp .ne 46, 3) := by decide +kernel
theorem d11_141 : decode cb11 141 = .ok (.iload 7, 2) := by decide +kernel
theorem d11_143 : decode cb11 143 = .ok (.iload 4, 2) := by decide +kernel
theorem d11_145 : decode cb11 145 = .ok (.if_icmp .ge 39, 3) := by decide +kernel
theorem d11_148 : decode cb11 148 = .ok (.aload 6, 2) := by decide +kernel
theorem d11_150 : decode cb11 150 = .ok (.iload 7, 2) := by decide +kernel
theorem d11_152 : decode cb11 152 = .ok (.baload, 1) := by decide +kernel
theorem d11_153 : decode cb11 153 = .ok (.istore 9, 2) := by decide +kernel
theorem d11_155 : decode cb11 155 = .ok (.iload 9, 2) := by decide +kernel
theorem d11_157 : decode cb11 157 = .ok (.bipush (-64), 2) := by decide +kernel
theorem d11_159 : decode cb11 159 = .ok (.if_icmp .ge 25, 3) := by decide +kernel
theorem d11_162 : decode cb11 162 = .ok (.aload 6, 2) := by decide +kernel
theorem d11_164 : decode cb11 164 = .ok (.iload 5, 2) := by decide +kernel
theorem d11_166 : decode cb11 166 = .ok (.iinc 5 1, 3) := by decide +kernel
theorem d11_169 : decode cb11 169 = .ok (.iload 8, 2) := by decide +kernel
theorem d11_171 : decode cb11 171 = .ok (.iload 9, 2) := by decide +kernel
theorem d11_173 : decode cb11 173 = .ok (.invokestatic 98, 3) := by decide +kernel
theorem d11_176 : decode cb11 176 = .ok (.i2b, 1) := by decide +kernel
theorem d11_177 : decode cb11 177 = .ok (.bastore, 1) := by decide +kernel
theorem d11_178 : decode cb11 178 = .ok (.iinc 7 1, 3) := by decide +kernel
theorem d11_181 : decode cb11 181 = .ok (.goto (-88), 3) := by decide +kernel
theorem d11_190 : decode cb11 190 = .ok (.iload 7, 2) := by decide +kernel
theorem d11_192 : decode cb11 192 = .ok (.iload 4, 2) := by decide +kernel
theorem d11_194 : decode cb11 194 = .ok (.if_icmp .ne 32, 3) := by decide +kernel
theorem d11_197 : decode cb11 197 = .ok (.iload 5, 2) := by decide +kernel
theorem d11_199 : decode cb11 199 = .ok (.aload 6, 2) := by decide +kernel
theorem d11_201 : decode cb11 201 = .ok (.arraylength, 1) := by decide +kernel
theorem d11_202 : decode cb11 202 = .ok (.if_icmp .eq 12, 3) := by decide +kernel
theorem d11_205 : decode cb11 205 = .ok (.aload 6, 2) := by decide +kernel
theorem d11_207 : decode cb11 207 = .ok (.iload 5, 2) := by decide +kernel
theorem d11_209 : decode cb11 209 = .ok (.invokestatic 102, 3) := by decide +kernel
theorem own_pd19 : parseMethodDescriptor "([BI)[B" = some ⟨[(.array .byte), .int], some (.array .byte)⟩ := by decide +kernel
theorem d11_212 : decode cb11 212 = .ok (.astore 6, 2) := by decide +kernel
theorem d11_214 : decode cb11 214 = .ok (.aload_n 0, 1) := by decide +kernel
theorem d11_215 : decode cb11 215 = .ok (.aload 6, 2) := by decide +kernel
theorem d11_217 : decode cb11 217 = .ok (.putfield 9, 3) := by decide +kernel
theorem d11_220 : decode cb11 220 = .ok (.aload_n 0, 1) := by decide +kernel
theorem d11_221 : decode cb11 221 = .ok (.iconst 0, 1) := by decide +kernel
theorem d11_222 : decode cb11 222 = .ok (.putfield 15, 3) := by decide +kernel
theorem d11_225 : decode cb11 225 = .ok (.return_, 1) := by decide +kernel
theorem d11_115 : decode cb11 115 = .ok (.aload 6, 2) := by decide +kernel
theorem d11_117 : decode cb11 117 = .ok (.iload 5, 2) := by decide +kernel
theorem d11_119 : decode cb11 119 = .ok (.iinc 5 1, 3) := by decide +kernel
theorem d11_122 : decode cb11 122 = .ok (.iload 8, 2) := by decide +kernel
theorem d11_124 : decode cb11 124 = .ok (.i2b, 1) := by decide +kernel
theorem d11_125 : decode cb11 125 = .ok (.bastore, 1) := by decide +kernel
theorem d11_126 : decode cb11 126 = .ok (.goto (-33), 3) := by decide +kernel
theorem d11_184 : decode cb11 184 = .ok (.iinc 7 (-1), 3) := by decide +kernel
theorem d11_187 : decode cb11 187 = .ok (.goto 3, 3) := by decide +kernel
theorem d11_226 : decode cb11 226 = .ok (.iload 4, 2) := by decide +kernel
theorem d11_228 : decode cb11 228 = .ok (.invokestatic 60, 3) := by decide +kernel
theorem own_pd20 : parseMethodDescriptor "(I)[B" = some ⟨[.int], some (.array .byte)⟩ := by decide +kernel
theorem d11_231 : decode cb11 231 = .ok (.astore 8, 2) := by decide +kernel
theorem d11_233 : decode cb11 233 = .ok (.aload 6, 2) := by decide +kernel
theorem d11_235 : decode cb11 235 = .ok (.iconst 0, 1) := by decide +kernel
theorem d11_236 : decode cb11 236 = .ok (.aload 8, 2) := by decide +kernel
theorem d11_238 : decode cb11 238 = .ok (.iconst 0, 1) := by decide +kernel
theorem d11_239 : decode cb11 239 = .ok (.iload 5, 2) := by decide +kernel
theorem d11_241 : decode cb11 241 = .ok (.invokestatic 106, 3) := by decide +kernel
theorem d11_244 : decode cb11 244 = .ok (.aload 6, 2) := by decide +kernel
theorem d11_246 : decode cb11 246 = .ok (.iload 7, 2) := by decide +kernel
theorem d11_248 : decode cb11 248 = .ok (.iload 4, 2) := by decide +kernel
theorem d11_250 : decode cb11 250 = .ok (.aload 8, 2) := by decide +kernel
theorem d11_252 : decode cb11 252 = .ok (.iload 5, 2) := by decide +kernel
theorem d11_254 : decode cb11 254 = .ok (.iconst 1, 1) := by decide +kernel
theorem d11_255 : decode cb11 255 = .ok (.invokestatic 112, 3) := by decide +kernel
theorem own_pd21 : parseMethodDescriptor "([BII[BIZ)I" = some ⟨[(.array .byte), .int, .int, (.array .byte), .int, .boolean], some .int⟩ := by decide +kernel
theorem d11_258 : decode cb11 258 = .ok (.istore 5, 2) := by decide +kernel
theorem d11_260 : decode cb11 260 = .ok (.iload 5, 2) := by decide +kernel
theorem d11_262 : decode cb11 262 = .ok (.iload 4, 2) := by decide +kernel
theorem d11_264 : decode cb11 264 = .ok (.if_icmp .eq 14, 3) := by decide +kernel
theorem d11_267 : decode cb11 267 = .ok (.aload 8, 2) := by decide +kernel
theorem d11_269 : decode cb11 269 = .ok (.iload 5, 2) := by decide +kernel
theorem d11_271 : decode cb11 271 = .ok (.iconst 1, 1) := by decide +kernel
theorem d11_272 : decode cb11 272 = .ok (.ishl, 1) := by decide +kernel
theorem d11_273 : decode cb11 273 = .ok (.invokestatic 102, 3) := by decide +kernel
theorem d11_276 : decode cb11 276 = .ok (.astore 8, 2) := by decide +kernel
theorem d11_278 : decode cb11 278 = .ok (.aload_n 0, 1) := by decide +kernel
theorem d11_279 : decode cb11 279 = .ok (.aload 8, 2) := by decide +kernel
theorem d11_281 : decode cb11 281 = .ok (.putfield 9, 3) := by decide +kernel
theorem d11_284 : decode cb11 284 = .ok (.aload_n 0, 1) := by decide +kernel
theorem d11_285 : decode cb11 285 = .ok (.iconst 1, 1) := by decide +kernel
theorem d11_286 : decode cb11 286 = .ok (.putfield 15, 3) := by decide +kernel
theorem d11_289 : decode cb11 289 = .ok (.goto 590, 3) := by decide +kernel
theorem d11_879 : decode cb11 879 = .ok (.return_, 1) := by decide +kernel
theorem d7_0 : decode cb7 0 = .ok (.aload_n 0, 1) := by decide +kernel
theorem d7_1 : decode cb7 1 = .ok (.aload 4, 2) := by decide +kernel
theorem d7_3 : decode cb7 3 = .ok (.invokestatic 78, 3) := by decide +kernel
theorem own_pd22 : parseMethodDescriptor "(Ljava/lang/Object;)Ljava/lang/Object;" = some ⟨[(.object "java/lang/Object")], some (.object "java/lang/Object")⟩ := by decide +kernel
theorem d7_6 : decode cb7 6 = .ok (.checkcast 84, 3) := by decide +kernel
theorem d7_9 : decode cb7 9 = .ok (.aload_n 1, 1) := by decide +kernel
theorem d7_10 : decode cb7 10 = .ok (.iload_n 2, 1) := by decide +kernel
theorem d7_11 : decode cb7 11 = .ok (.iload_n 3, 1) := by decide +kernel
theorem d7_12 : decode cb7 12 = .ok (.aload_n 1, 1) := by decide +kernel
theorem d7_13 : decode cb7 13 = .ok (.arraylength, 1) := by decide +kernel
theorem d7_14 : decode cb7 14 = .ok (.invokestatic 34, 3) := by decide +kernel
theorem d7_17 : decode cb7 17 = .ok (.iload_n 3, 1) := by decide +kernel
theorem d7_18 : decode cb7 18 = .ok (.invokespecial 75, 3) := by decide +kernel
theorem own_pd23 : parseMethodDescriptor "(Ljava/nio/charset/Charset;[BII)V" = some ⟨[(.object "java/nio/charset/Charset"), (.array .byte), .int, .int], none⟩ := by decide +kernel
theorem d7_21 : decode cb7 21 = .ok (.return_, 1) := by decide +kernel
theorem d6_0 : decode cb6 0 = .ok (.new 7, 3) := by decide +kernel
theorem d6_3 : decode cb6 3 = .ok (.dup, 1) := by decide +kernel
theorem d6_4 : decode cb6 4 = .ok (.aload_n 0, 1) := by decide +kernel
theorem d6_5 : decode cb6 5 = .ok (.getfield 9, 3) := by decide +kernel
theorem d6_8 : decode cb6 8 = .ok (.aload_n 0, 1) := by decide +kernel
theorem d6_9 : decode cb6 9 = .ok (.getfield 15, 3) := by decide +kernel
theorem d6_12 : decode cb6 12 = .ok (.aload_n 0, 1) := by decide +kernel
theorem d6_13 : decode cb6 13 = .ok (.getfield 19, 3) := by decide +kernel
theorem d6_16 : decode cb6 16 = .ok (.aload_n 0, 1) := by decide +kernel
theorem d6_17 : decode cb6 17 = .ok (.getfield 15, 3) := by decide +kernel
theorem d6_20 : decode cb6 20 = .ok (.isub, 1) := by decide +kernel
theorem d6_21 : decode cb6 21 = .ok (.getstatic 22, 3) := by decide +kernel
theorem d6_24 : decode cb6 24 = .ok (.invokespecial 28, 3) := by decide +kernel
theorem own_pd24 : parseMethodDescriptor "([BIILjava/nio/charset/Charset;)V" = some ⟨[(.array .byte), .int, .int, (.object "java/nio/charset/Charset")], none⟩ := by decide +kernel
theorem d6_27 : decode cb6 27 = .ok (.areturn, 1) := by decide +kernel
theorem own_pn8 : plainName "com/example/dyadloom/dyadloom/core/TripletReader$Triplet" = true := by first | (simp [plainName, overriddenIn]; done) | decide +kernel
theorem d32_0 : decode cb32 0 = .ok (.getstatic 38, 3) := by decide +kernel
theorem d32_3 : decode cb32 3 = .ok (.ifCond .eq 14, 3) := by decide +kernel
theorem d32_6 : decode cb32 6 = .ok (.aload_n 0, 1) := by decide +kernel
theorem d32_7 : decode cb32 7 = .ok (.getfield 15, 3) := by decide +kernel
theorem d32_10 : decode cb32 10 = .ok (.ifCond .ne 7, 3) := by decide +kernel
theorem d32_13 : decode cb32 13 = .ok (.iconst 1, 1) := by decide +kernel
theorem d32_14 : decode cb32 14 = .ok (.goto 4, 3) := by decide +kernel
theorem d32_18 : decode cb32 18 = .ok (.ireturn, 1) := by decide +kernel
theorem d32_17 : decode cb32 17 = .ok (.iconst 0, 1) := by decide +kernel
theorem d30_0 : decode cb30 0 = .ok (.getstatic 38, 3) := by decide +kernel
theorem d30_3 : decode cb30 3 = .ok (.ifCond .eq 10, 3) := by decide +kernel
theorem d30_6 : decode cb30 6 = .ok (.aload_n 0, 1) := by decide +kernel
theorem d30_7 : decode cb30 7 = .ok (.getfield 15, 3) := by decide +kernel
theorem d30_10 : decode cb30 10 = .ok (.goto 4, 3) := by decide +kernel
theorem d30_14 : decode cb30 14 = .ok (.ireturn, 1) := by decide +kernel
theorem d29_0 : decode cb29 0 = .ok (.aload_n 0, 1) := by decide +kernel
theorem d29_1 : decode cb29 1 = .ok (.getfield 9, 3) := by decide +kernel
theorem d29_4 : decode cb29 4 = .ok (.arraylength, 1) := by decide +kernel
theorem d29_5 : decode cb29 5 = .ok (.aload_n 0, 1) := by decide +kernel
theorem d29_6 : decode cb29 6 = .ok (.invokevirtual 335, 3) := by decide +kernel
theorem own_pd25 : parseMethodDescriptor "()B" = some ⟨[], some .byte⟩ := by decide +kernel
theorem d29_9 : decode cb29 9 = .ok (.ishr, 1) := by decide +kernel
theorem d29_10 : decode cb29 10 = .ok (.ireturn, 1) := by decide +kernel
theorem d44_0 : decode cb44 0 = .ok (.iload_n 1, 1) := by decide +kernel
theorem d44_1 : decode cb44 1 = .ok (.aload_n 0, 1) := by decide +kernel
theorem d44_2 : decode cb44 2 = .ok (.arraylength, 1) := by decide +kernel
theorem d44_3 : decode cb44 3 = .ok (.invokestatic 9, 3) := by decide +kernel
theorem d44_6 : decode cb44 6 = .ok (.aload_n 0, 1) := by decide +kernel
theorem d44_7 : decode cb44 7 = .ok (.iload_n 1, 1) := by decide +kernel
theorem d44_8 : decode cb44 8 = .ok (.baload, 1) := by decide +kernel
theorem d44_9 : decode cb44 9 = .ok (.sipush 255, 3) := by decide +kernel
theorem d44_12 : decode cb44 12 = .ok (.iand, 1) := by decide +kernel
theorem d44_13 : decode cb44 13 = .ok (.i2c, 1) := by decide +kernel
theorem d44_14 : decode cb44 14 = .ok (.ireturn, 1) := by decide +kernel
theorem d34_0 : decode cb34 0 = .ok (.iload_n 0, 1) := by decide +kernel
theorem d34_1 : decode cb34 1 = .ok (.aload_n 1, 1) := by decide +kernel
theorem d34_2 : decode cb34 2 = .ok (.invokestatic 48, 3) := by decide +kernel
theorem d34_5 : decode cb34 5 = .ok (.invokestatic 414, 3) := by decide +kernel
theorem d34_8 : decode cb34 8 = .ok (.return_, 1) := by decide +kernel
theorem d37_0 : decode cb37 0 = .ok (.getstatic 44, 3) := by decide +kernel
theorem d37_3 : decode cb37 3 = .ok (.ifCond .ne 25, 3) := by decide +kernel
theorem d37_28 : decode cb37 28 = .ok (.iload_n 1, 1) := by decide +kernel
theorem d37_29 : decode cb37 29 = .ok (.iconst 1, 1) := by decide +kernel
theorem d37_30 : decode cb37 30 = .ok (.ishl, 1) := by decide +kernel
theorem d37_31 : decode cb37 31 = .ok (.istore_n 1, 1) := by decide +kernel
theorem d37_32 : decode cb37 32 = .ok (.aload_n 0, 1) := by decide +kernel
theorem d37_33 : decode cb37 33 = .ok (.iload_n 1, 1) := by decide +kernel
theorem d37_34 : decode cb37 34 = .ok (.iinc 1 1, 3) := by decide +kernel
theorem d37_37 : decode cb37 37 = .ok (.baload, 1) := by decide +kernel
theorem d37_38 : decode cb37 38 = .ok (.sipush 255, 3) := by decide +kernel
theorem d37_41 : decode cb37 41 = .ok (.iand, 1) := by decide +kernel
theorem d37_42 : decode cb37 42 = .ok (.getstatic 59, 3) := by decide +kernel
theorem d37_45 : decode cb37 45 = .ok (.ishl, 1) := by decide +kernel
theorem d37_46 : decode cb37 46 = .ok (.aload_n 0, 1) := by decide +kernel
theorem d37_47 : decode cb37 47 = .ok (.iload_n 1, 1) := by decide +kernel
theorem d37_48 : decode cb37 48 = .ok (.baload, 1) := by decide +kernel
theorem d37_49 : decode cb37 49 = .ok (.sipush 255, 3) := by decide +kernel
theorem d37_52 : decode cb37 52 = .ok (.iand, 1) := by decide +kernel
theorem d37_53 : decode cb37 53 = .ok (.getstatic 63, 3) := by decide +kernel
theorem d37_56 : decode cb37 56 = .ok (.ishl, 1) := by decide +kernel
theorem d37_57 : decode cb37 57 = .ok (.ior, 1) := by decide +kernel
theorem d37_58 : decode cb37 58 = .ok (.i2c, 1) := by decide +kernel
theorem d37_59 : decode cb37 59 = .ok (.ireturn, 1) := by decide +kernel
theorem d33_0 : decode cb33 0 = .ok (.iload_n 1, 1) := by decide +kernel
theorem d33_1 : decode cb33 1 = .ok (.aload_n 0, 1) := by decide +kernel
theorem d33_2 : decode cb33 2 = .ok (.invokestatic 67, 3) := by decide +kernel
theorem own_pd26 : parseMethodDescriptor "(I[B)V" = some ⟨[.int, (.array .byte)], none⟩ := by decide +kernel
theorem d33_5 : decode cb33 5 = .ok (.aload_n 0, 1) := by decide +kernel
theorem d33_6 : decode cb33 6 = .ok (.iload_n 1, 1) := by decide +kernel
theorem d33_7 : decode cb33 7 = .ok (.invokestatic 71, 3) := by decide +kernel
theorem own_pd27 : parseMethodDescriptor "([BI)C" = some ⟨[(.array .byte), .int], some .char⟩ := by decide +kernel
theorem d33_10 : decode cb33 10 = .ok (.ireturn, 1) := by decide +kernel
theorem d31_0 : decode cb31 0 = .ok (.aload_n 0, 1) := by decide +kernel
theorem d31_1 : decode cb31 1 = .ok (.invokevirtual 492, 3) := by decide +kernel
theorem own_pd28 : parseMethodDescriptor "()Z" = some ⟨[], some .boolean⟩ := by decide +kernel
theorem d31_4 : decode cb31 4 = .ok (.ifCond .eq 12, 3) := by decide +kernel
theorem d31_7 : decode cb31 7 = .ok (.aload_n 0, 1) := by decide +kernel
theorem d31_8 : decode cb31 8 = .ok (.getfield 9, 3) := by decide +kernel
theorem d31_11 : decode cb31 11 = .ok (.iload_n 1, 1) := by decide +kernel
theorem d31_12 : decode cb31 12 = .ok (.invokestatic 495, 3) := by decide +kernel
theorem d31_15 : decode cb31 15 = .ok (.ireturn, 1) := by decide +kernel
theorem d31_16 : decode cb31 16 = .ok (.aload_n 0, 1) := by decide +kernel
theorem d31_17 : decode cb31 17 = .ok (.getfield 9, 3) := by decide +kernel
theorem d31_20 : decode cb31 20 = .ok (.iload_n 1, 1) := by decide +kernel
theorem d31_21 : decode cb31 21 = .ok (.invokestatic 498, 3) := by decide +kernel
theorem d31_24 : decode cb31 24 = .ok (.ireturn, 1) := by decide +kernel
theorem d1_0 : decode cb1 0 = .ok (.iload_n 0, 1) := by decide +kernel
theorem d1_1 : decode cb1 1 = .ok (.iconst 3, 1) := by decide +kernel
theorem d1_2 : decode cb1 2 = .ok (.iushr, 1) := by decide +kernel
theorem d1_3 : decode cb1 3 = .ok (.istore_n 1, 1) := by decide +kernel
theorem d1_4 : decode cb1 4 = .ok (.iload_n 0, 1) := by decide +kernel
theorem d1_5 : decode cb1 5 = .ok (.bipush 7, 2) := by decide +kernel
theorem d1_7 : decode cb1 7 = .ok (.iand, 1) := by decide +kernel
theorem d1_8 : decode cb1 8 = .ok (.iconst 5, 1) := by decide +kernel
theorem d1_9 : decode cb1 9 = .ok (.irem, 1) := by decide +kernel
theorem d1_10 : decode cb1 10 = .ok (.istore_n 2, 1) := by decide +kernel
theorem d1_11 : decode cb1 11 = .ok (.iload_n 2, 1) := by decide +kernel
theorem d1_12 : decode cb1 12 = .ok (.ifCond .ne 8, 3) := by decide +kernel
theorem d1_15 : decode cb1 15 = .ok (.iload_n 1, 1) := by decide +kernel
theorem d1_16 : decode cb1 16 = .ok (.bipush 127, 2) := by decide +kernel
theorem d1_18 : decode cb1 18 = .ok (.iand, 1) := by decide +kernel
theorem d1_19 : decode cb1 19 = .ok (.ireturn, 1) := by decide +kernel
theorem d1_20 : decode cb1 20 = .ok (.iload_n 2, 1) := by decide +kernel
theorem d1_21 : decode cb1 21 = .ok (.iconst 1, 1) := by decide +kernel
theorem d1_22 : decode cb1 22 = .ok (.if_icmp .ne 13, 3) := by decide +kernel
theorem d1_25 : decode cb1 25 = .ok (.sipush 128, 3) := by decide +kernel
theorem d1_28 : decode cb1 28 = .ok (.iload_n 1, 1) := by decide +kernel
theorem d1_29 : decode cb1 29 = .ok (.sipush 1920, 3) := by decide +kernel
theorem d1_32 : decode cb1 32 = .ok (.irem, 1) := by decide +kernel
theorem d1_33 : decode cb1 33 = .ok (.iadd, 1) := by decide +kernel
theorem d1_34 : decode cb1 34 = .ok (.ireturn, 1) := by decide +kernel
theorem d1_35 : decode cb1 35 = .ok (.iload_n 2, 1) := by decide +kernel
theorem d1_36 : decode cb1 36 = .ok (.iconst 2, 1) := by decide +kernel
theorem d1_37 : decode cb1 37 = .ok (.if_icmp .ne 12, 3) := by decide +kernel
theorem d1_40 : decode cb1 40 = .ok (.sipush 2048, 3) := by decide +kernel
theorem d1_43 : decode cb1 43 = .ok (.iload_n 1, 1) := by decide +kernel
theorem d1_44 : decode cb1 44 = .ok (.ldc 59, 2) := by decide +kernel
theorem d1_46 : decode cb1 46 = .ok (.irem, 1) := by decide +kernel
theorem d1_47 : decode cb1 47 = .ok (.iadd, 1) := by decide +kernel
theorem d1_48 : decode cb1 48 = .ok (.ireturn, 1) := by decide +kernel
theorem d1_49 : decode cb1 49 = .ok (.iload_n 2, 1) := by decide +kernel
theorem d1_50 : decode cb1 50 = .ok (.iconst 3, 1) := by decide +kernel
theorem d1_51 : decode cb1 51 = .ok (.if_icmp .ne 12, 3) := by decide +kernel
theorem d1_54 : decode cb1 54 = .ok (.ldc 60, 2) := by decide +kernel
theorem d1_56 : decode cb1 56 = .ok (.iload_n 1, 1) := by decide +kernel
theorem d1_57 : decode cb1 57 = .ok (.sipush 8192, 3) := by decide +kernel
theorem d1_60 : decode cb1 60 = .ok (.irem, 1) := by decide +kernel
theorem d1_61 : decode cb1 61 = .ok (.iadd, 1) := by decide +kernel
theorem d1_62 : decode cb1 62 = .ok (.ireturn, 1) := by decide +kernel
theorem d1_63 : decode cb1 63 = .ok (.ldc 61, 2) := by decide +kernel
theorem d1_65 : decode cb1 65 = .ok (.iload_n 1, 1) := by decide +kernel
theorem d1_66 : decode cb1 66 = .ok (.ldc 62, 2) := by decide +kernel
theorem d1_68 : decode cb1 68 = .ok (.irem, 1) := by decide +kernel
theorem d1_69 : decode cb1 69 = .ok (.iadd, 1) := by decide +kernel
theorem d1_70 : decode cb1 70 = .ok (.ireturn, 1) := by decide +kernel
theorem own_pn9 : plainName "com/example/dyadloom/dyadloom/core/TripletRowIdPinLaw" = true := by first | (simp [plainName, overriddenIn]; done) | decide +kernel
theorem d2_0 : decode cb2 0 = .ok (.iload_n 2, 1) := by decide +kernel
theorem d2_1 : decode cb2 1 = .ok (.sipush 128, 3) := by decide +kernel
theorem d2_4 : decode cb2 4 = .ok (.if_icmp .ge 10, 3) := by decide +kernel
theorem d2_7 : decode cb2 7 = .ok (.aload_n 0, 1) := by decide +kernel
theorem d2_8 : decode cb2 8 = .ok (.iload_n 1, 1) := by decide +kernel
theorem d2_9 : decode cb2 9 = .ok (.iload_n 2, 1) := by decide +kernel
theorem d2_10 : decode cb2 10 = .ok (.i2b, 1) := by decide +kernel
theorem d2_11 : decode cb2 11 = .ok (.bastore, 1) := by decide +kernel
theorem d2_12 : decode cb2 12 = .ok (.iconst 1, 1) := by decide +kernel
theorem d2_13 : decode cb2 13 = .ok (.ireturn, 1) := by decide +kernel
theorem d2_14 : decode cb2 14 = .ok (.iload_n 2, 1) := by decide +kernel
theorem d2_15 : decode cb2 15 = .ok (.sipush 2048, 3) := by decide +kernel
theorem d2_18 : decode cb2 18 = .ok (.if_icmp .ge 31, 3) := by decide +kernel
theorem d2_21 : decode cb2 21 = .ok (.aload_n 0, 1) := by decide +kernel
theorem d2_22 : decode cb2 22 = .ok (.iload_n 1, 1) := by decide +kernel
theorem d2_23 : decode cb2 23 = .ok (.sipush 192, 3) := by decide +kernel
theorem d2_26 : decode cb2 26 = .ok (.iload_n 2, 1) := by decide +kernel
theorem d2_27 : decode cb2 27 = .ok (.bipush 6, 2) := by decide +kernel
theorem d2_29 : decode cb2 29 = .ok (.ishr, 1) := by decide +kernel
theorem d2_30 : decode cb2 30 = .ok (.ior, 1) := by decide +kernel
theorem d2_31 : decode cb2 31 = .ok (.i2b, 1) := by decide +kernel
theorem d2_32 : decode cb2 32 = .ok (.bastore, 1) := by decide +kernel
theorem d2_33 : decode cb2 33 = .ok (.aload_n 0, 1) := by decide +kernel
theorem d2_34 : decode cb2 34 = .ok (.iload_n 1, 1) := by decide +kernel
theorem d2_35 : decode cb2 35 = .ok (.iconst 1, 1) := by decide +kernel
theorem d2_36 : decode cb2 36 = .ok (.iadd, 1) := by decide +kernel
theorem d2_37 : decode cb2 37 = .ok (.sipush 128, 3) := by decide +kernel
theorem d2_40 : decode cb2 40 = .ok (.iload_n 2, 1) := by decide +kernel
theorem d2_41 : decode cb2 41 = .ok (.bipush 63, 2) := by decide +kernel
theorem d2_43 : decode cb2 43 = .ok (.iand, 1) := by decide +kernel
theorem d2_44 : decode cb2 44 = .ok (.ior, 1) := by decide +kernel
theorem d2_45 : decode cb2 45 = .ok (.i2b, 1) := by decide +kernel
theorem d2_46 : decode cb2 46 = .ok (.bastore, 1) := by decide +kernel
theorem d2_47 : decode cb2 47 = .ok (.iconst 2, 1) := by decide +kernel
theorem d2_48 : decode cb2 48 = .ok (.ireturn, 1) := by decide +kernel
theorem d2_49 : decode cb2 49 = .ok (.iload_n 2, 1) := by decide +kernel
theorem d2_50 : decode cb2 50 = .ok (.ldc 61, 2) := by decide +kernel
theorem d2_52 : decode cb2 52 = .ok (.if_icmp .ge 48, 3) := by decide +kernel
theorem d2_55 : decode cb2 55 = .ok (.aload_n 0, 1) := by decide +kernel
theorem d2_56 : decode cb2 56 = .ok (.iload_n 1, 1) := by decide +kernel
theorem d2_57 : decode cb2 57 = .ok (.sipush 224, 3) := by decide +kernel
theorem d2_60 : decode cb2 60 = .ok (.iload_n 2, 1) := by decide +kernel
theorem d2_61 : decode cb2 61 = .ok (.bipush 12, 2) := by decide +kernel
theorem d2_63 : decode cb2 63 = .ok (.ishr, 1) := by decide +kernel
theorem d2_64 : decode cb2 64 = .ok (.ior, 1) := by decide +kernel
theorem d2_65 : decode cb2 65 = .ok (.i2b, 1) := by decide +kernel
theorem d2_66 : decode cb2 66 = .ok (.bastore, 1) := by decide +kernel
theorem d2_67 : decode cb2 67 = .ok (.aload_n 0, 1) := by decide +kernel
theorem d2_68 : decode cb2 68 = .ok (.iload_n 1, 1) := by decide +kernel
theorem d2_69 : decode cb2 69 = .ok (.iconst 1, 1) := by decide +kernel
theorem d2_70 : decode cb2 70 = .ok (.iadd, 1) := by decide +kernel
theorem d2_71 : decode cb2 71 = .ok (.sipush 128, 3) := by decide +kernel
theorem d2_74 : decode cb2 74 = .ok (.iload_n 2, 1) := by decide +kernel
theorem d2_75 : decode cb2 75 = .ok (.bipush 6, 2) := by decide +kernel
theorem d2_77 : decode cb2 77 = .ok (.ishr, 1) := by decide +kernel
theorem d2_78 : decode cb2 78 = .ok (.bipush 63, 2) := by decide +kernel
theorem d2_80 : decode cb2 80 = .ok (.iand, 1) := by decide +kernel
theorem d2_81 : decode cb2 81 = .ok (.ior, 1) := by decide +kernel
theorem d2_82 : decode cb2 82 = .ok (.i2b, 1) := by decide +kernel
theorem d2_83 : decode cb2 83 = .ok (.bastore, 1) := by decide +kernel
theorem d2_84 : decode cb2 84 = .ok (.aload_n 0, 1) := by decide +kernel
theorem d2_85 : decode cb2 85 = .ok (.iload_n 1, 1) := by decide +kernel
theorem d2_86 : decode cb2 86 = .ok (.iconst 2, 1) := by decide +kernel
theorem d2_87 : decode cb2 87 = .ok (.iadd, 1) := by decide +kernel
theorem d2_88 : decode cb2 88 = .ok (.sipush 128, 3) := by decide +kernel
theorem d2_91 : decode cb2 91 = .ok (.iload_n 2, 1) := by decide +kernel
theorem d2_92 : decode cb2 92 = .ok (.bipush 63, 2) := by decide +kernel
theorem d2_94 : decode cb2 94 = .ok (.iand, 1) := by decide +kernel
theorem d2_95 : decode cb2 95 = .ok (.ior, 1) := by decide +kernel
theorem d2_96 : decode cb2 96 = .ok (.i2b, 1) := by decide +kernel
theorem d2_97 : decode cb2 97 = .ok (.bastore, 1) := by decide +kernel
theorem d2_98 : decode cb2 98 = .ok (.iconst 3, 1) := by decide +kernel
theorem d2_99 : decode cb2 99 = .ok (.ireturn, 1) := by decide +kernel
theorem d2_100 : decode cb2 100 = .ok (.aload_n 0, 1) := by decide +kernel
theorem d2_101 : decode cb2 101 = .ok (.iload_n 1, 1) := by decide +kernel
theorem d2_102 : decode cb2 102 = .ok (.sipush 240, 3) := by decide +kernel
theorem d2_105 : decode cb2 105 = .ok (.iload_n 2, 1) := by decide +kernel
theorem d2_106 : decode cb2 106 = .ok (.bipush 18, 2) := by decide +kernel
theorem d2_108 : decode cb2 108 = .ok (.ishr, 1) := by decide +kernel
theorem d2_109 : decode cb2 109 = .ok (.ior, 1) := by decide +kernel
theorem d2_110 : decode cb2 110 = .ok (.i2b, 1) := by decide +kernel
theorem d2_111 : decode cb2 111 = .ok (.bastore, 1) := by decide +kernel
theorem d2_112 : decode cb2 112 = .ok (.aload_n 0, 1) := by decide +kernel
theorem d2_113 : decode cb2 113 = .ok (.iload_n 1, 1) := by decide +kernel
theorem d2_114 : decode cb2 114 = .ok (.iconst 1, 1) := by decide +kernel
theorem d2_115 : decode cb2 115 = .ok (.iadd, 1) := by decide +kernel
theorem d2_116 : decode cb2 116 = .ok (.sipush 128, 3) := by decide +kernel
theorem d2_119 : decode cb2 119 = .ok (.iload_n 2, 1) := by decide +kernel
theorem d2_120 : decode cb2 120 = .ok (.bipush 12, 2) := by decide +kernel
theorem d2_122 : decode cb2 122 = .ok (.ishr, 1) := by decide +kernel
theorem d2_123 : decode cb2 123 = .ok (.bipush 63, 2) := by decide +kernel
theorem d2_125 : decode cb2 125 = .ok (.iand, 1) := by decide +kernel
theorem d2_126 : decode cb2 126 = .ok (.ior, 1) := by decide +kernel
theorem d2_127 : decode cb2 127 = .ok (.i2b, 1) := by decide +kernel
theorem d2_128 : decode cb2 128 = .ok (.bastore, 1) := by decide +kernel
theorem d2_129 : decode cb2 129 = .ok (.aload_n 0, 1) := by decide +kernel
theorem d2_130 : decode cb2 130 = .ok (.iload_n 1, 1) := by decide +kernel
theorem d2_131 : decode cb2 131 = .ok (.iconst 2, 1) := by decide +kernel
theorem d2_132 : decode cb2 132 = .ok (.iadd, 1) := by decide +kernel
theorem d2_133 : decode cb2 133 = .ok (.sipush 128, 3) := by decide +kernel
theorem d2_136 : decode cb2 136 = .ok (.iload_n 2, 1) := by decide +kernel
theorem d2_137 : decode cb2 137 = .ok (.bipush 6, 2) := by decide +kernel
theorem d2_139 : decode cb2 139 = .ok (.ishr, 1) := by decide +kernel
theorem d2_140 : decode cb2 140 = .ok (.bipush 63, 2) := by decide +kernel
theorem d2_142 : decode cb2 142 = .ok (.iand, 1) := by decide +kernel
theorem d2_143 : decode cb2 143 = .ok (.ior, 1) := by decide +kernel
theorem d2_144 : decode cb2 144 = .ok (.i2b, 1) := by decide +kernel
theorem d2_145 : decode cb2 145 = .ok (.bastore, 1) := by decide +kernel
theorem d2_146 : decode cb2 146 = .ok (.aload_n 0, 1) := by decide +kernel
theorem d2_147 : decode cb2 147 = .ok (.iload_n 1, 1) := by decide +kernel
theorem d2_148 : decode cb2 148 = .ok (.iconst 3, 1) := by decide +kernel
theorem d2_149 : decode cb2 149 = .ok (.iadd, 1) := by decide +kernel
theorem d2_150 : decode cb2 150 = .ok (.sipush 128, 3) := by decide +kernel
theorem d2_153 : decode cb2 153 = .ok (.iload_n 2, 1) := by decide +kernel
theorem d2_154 : decode cb2 154 = .ok (.bipush 63, 2) := by decide +kernel
theorem d2_156 : decode cb2 156 = .ok (.iand, 1) := by decide +kernel
theorem d2_157 : decode cb2 157 = .ok (.ior, 1) := by decide +kernel
theorem d2_158 : decode cb2 158 = .ok (.i2b, 1) := by decide +kernel
theorem d2_159 : decode cb2 159 = .ok (.bastore, 1) := by decide +kernel
theorem d2_160 : decode cb2 160 = .ok (.iconst 4, 1) := by decide +kernel
theorem d2_161 : decode cb2 161 = .ok (.ireturn, 1) := by decide +kernel
theorem d3_0 : decode cb3 0 = .ok (.iload_n 2, 1) := by decide +kernel
theorem d3_1 : decode cb3 1 = .ok (.ldc 61, 2) := by decide +kernel
theorem d3_3 : decode cb3 3 = .ok (.if_icmp .ge 10, 3) := by decide +kernel
theorem d3_6 : decode cb3 6 = .ok (.aload_n 0, 1) := by decide +kernel
theorem d3_7 : decode cb3 7 = .ok (.iload_n 1, 1) := by decide +kernel
theorem d3_8 : decode cb3 8 = .ok (.iload_n 2, 1) := by decide +kernel
theorem d3_9 : decode cb3 9 = .ok (.i2c, 1) := by decide +kernel
theorem d3_10 : decode cb3 10 = .ok (.castore, 1) := by decide +kernel
theorem d3_11 : decode cb3 11 = .ok (.iconst 1, 1) := by decide +kernel
theorem d3_12 : decode cb3 12 = .ok (.ireturn, 1) := by decide +kernel
theorem d3_13 : decode cb3 13 = .ok (.iload_n 2, 1) := by decide +kernel
theorem d3_14 : decode cb3 14 = .ok (.ldc 61, 2) := by decide +kernel
theorem d3_16 : decode cb3 16 = .ok (.isub, 1) := by decide +kernel
theorem d3_17 : decode cb3 17 = .ok (.istore_n 3, 1) := by decide +kernel
theorem d3_18 : decode cb3 18 = .ok (.aload_n 0, 1) := by decide +kernel
theorem d3_19 : decode cb3 19 = .ok (.iload_n 1, 1) := by decide +kernel
theorem d3_20 : decode cb3 20 = .ok (.ldc 63, 2) := by decide +kernel
theorem d3_22 : decode cb3 22 = .ok (.iload_n 3, 1) := by decide +kernel
theorem d3_23 : decode cb3 23 = .ok (.bipush 10, 2) := by decide +kernel
theorem d3_25 : decode cb3 25 = .ok (.ishr, 1) := by decide +kernel
theorem d3_26 : decode cb3 26 = .ok (.iadd, 1) := by decide +kernel
theorem d3_27 : decode cb3 27 = .ok (.i2c, 1) := by decide +kernel
theorem d3_28 : decode cb3 28 = .ok (.castore, 1) := by decide +kernel
theorem d3_29 : decode cb3 29 = .ok (.aload_n 0, 1) := by decide +kernel
theorem d3_30 : decode cb3 30 = .ok (.iload_n 1, 1) := by decide +kernel
theorem d3_31 : decode cb3 31 = .ok (.iconst 1, 1) := by decide +kernel
theorem d3_32 : decode cb3 32 = .ok (.iadd, 1) := by decide +kernel
theorem d3_33 : decode cb3 33 = .ok (.ldc 64, 2) := by decide +kernel
theorem d3_35 : decode cb3 35 = .ok (.iload_n 3, 1) := by decide +kernel
theorem d3_36 : decode cb3 36 = .ok (.sipush 1023, 3) := by decide +kernel
theorem d3_39 : decode cb3 39 = .ok (.iand, 1) := by decide +kernel
theorem d3_40 : decode cb3 40 = .ok (.iadd, 1) := by decide +kernel
theorem d3_41 : decode cb3 41 = .ok (.i2c, 1) := by decide +kernel
theorem d3_42 : decode cb3 42 = .ok (.castore, 1) := by decide +kernel
theorem d3_43 : decode cb3 43 = .ok (.iconst 2, 1) := by decide +kernel
theorem d3_44 : decode cb3 44 = .ok (.ireturn, 1) := by decide +kernel
theorem d11_9 : decode cb11 9 = .ok (.aload_n 0, 1) := by decide +kernel
theorem d11_10 : decode cb11 10 = .ok (.ldc 7, 2) := by decide +kernel
theorem d11_12 : decode cb11 12 = .ok (.getfield 9, 3) := by decide +kernel
theorem d11_15 : decode cb11 15 = .ok (.putfield 9, 3) := by decide +kernel
theorem d11_18 : decode cb11 18 = .ok (.aload_n 0, 1) := by decide +kernel
theorem d11_19 : decode cb11 19 = .ok (.ldc 7, 2) := by decide +kernel
theorem d11_21 : decode cb11 21 = .ok (.getfield 15, 3) := by decide +kernel
theorem d11_24 : decode cb11 24 = .ok (.putfield 15, 3) := by decide +kernel
theorem d11_27 : decode cb11 27 = .ok (.goto 852, 3) := by decide +kernel
theorem d4_0 : decode cb4 0 = .ok (.aload_n 0, 1) := by decide +kernel
theorem d4_1 : decode cb4 1 = .ok (.invokespecial 1, 3) := by decide +kernel
theorem d4_4 : decode cb4 4 = .ok (.return_, 1) := by decide +kernel
theorem own_pd29 : parseMethodDescriptor "()V" = some ⟨[], none⟩ := by decide +kernel
theorem own_pd30 : parseMethodDescriptor "()Ljava/lang/String;" = some ⟨[], some (.object "java/lang/String")⟩ := by decide +kernel
theorem own_pd31 : parseMethodDescriptor "()I" = some ⟨[], some .int⟩ := by decide +kernel
theorem own_pd32 : parseMethodDescriptor "([CII)I" = some ⟨[(.array .char), .int, .int], some .int⟩ := by decide +kernel
theorem own_sint {Z : State} {args : Array Value} {C n d : String} {k : Int32} (h : (Cond.eq (Term.static C n d) (Term.int k)).value args Z none Z [] = some true) (hi : (Cond.initializedFor C n d).before args Z = true ∨ ((Cond.initialized C).before args Z = true ∧ (Cond.laysStatic C n d).before args Z = true)) : Sta Z Z.heap C n d (.int k) := by
  refine Sta.start ?_ hi
  obtain ⟨x, y, h1, h2, -⟩ := cmp_v (Or.inl h)
  have h2' : some (Value.int k) = some y := h2
  cases h2'
  simp only [Cond.value, h1, h2] at h
  cases x <;> simp at h
  rw [h1, h]
theorem own_ccn (x : Int32) : nar .char (x.toUInt32.toUInt16.toUInt32.toInt32) = x.toUInt32.toUInt16.toUInt32.toInt32 := own_cc x
theorem own_cplF {Z : State} {h : Heap} {a : Addr} {k : ClassId} {ty : FieldType} {z : Int32} {d : Value} (n : Nat) (us : List Value) (F : Arv Z h a k ty z (((List.replicate n (0 : Int32)).map Value.int).take 0 ++ us ++ ((List.replicate n (0 : Int32)).map Value.int).drop (0 + n)) d) : Arv Z h a k ty z us d := by
  have e : ((List.replicate n (0 : Int32)).map Value.int).take 0 ++ us ++ ((List.replicate n (0 : Int32)).map Value.int).drop (0 + n) = us := by simp
  rw [e] at F; exact F
theorem own_lget (L : List Int32) (k : Nat) : (L.map Value.int).getD k (.int (0 : Int32)) = .int (L.getD k 0) := by
  simp only [List.getD_eq_getElem?_getD, List.getElem?_map]
  cases L[k]? <;> rfl
theorem own_lset {L : List Int32} {k : Nat} {v : Int32} : (L.map Value.int).set k (.int v) = (L.set k v).map Value.int := List.map_set.symm
theorem own_lpad {Z : State} {h : Heap} {a : Addr} {k : ClassId} {ty : FieldType} {z : Int32} (n : Nat) (F : Arv Z h a k ty z [] (.int 0)) : Arv Z h a k ty z ((List.replicate n (0 : Int32)).map Value.int) (.int 0) := F.pad fun i => by
  rw [own_lget, List.getD_eq_getElem?_getD, List.getElem?_replicate]
  split <;> rfl
def own_slt (u8_ u9_ u10_ : Slot) : Prop := (u8_ = .unset ∧ u9_ = .unset ∧ u10_ = .unset) ∨ (∃ a b : Int32, u8_ = .val (.int a) ∧ u9_ = .val (.int b) ∧ u10_ = .unset) ∨ (∃ a b c : Int32, u8_ = .val (.int a) ∧ u9_ = .val (.int b) ∧ u10_ = .val (.int c))
theorem own_fin {n : Nat} (hn : n ≤ 65536) {x : Int32} (h0 : 0 ≤ x.toInt) (h1 : x.toInt < n) : ∃ k : Fin n, x = Int32.ofNat k.val := by
  refine ⟨⟨x.toInt.toNat, by omega⟩, Int32.toInt_inj.mp ?_⟩
  rw [Int32.toInt_ofNat_of_lt (by show x.toInt.toNat < 2147483648; omega)]
  show x.toInt = ((x.toInt.toNat : Nat) : Int)
  omega
theorem own_ofN {x : Int32} {n : Nat} (h : x.toInt = (n : Int)) : x = Int32.ofNat n := by
  have r := x.toInt_lt
  apply Int32.toInt_inj.mp
  rw [Int32.toInt_ofNat_of_lt (by show n < 2147483648; omega), h]
theorem own_clamp {x : Int32} {n : Nat} (h : x.toInt = (n : Int)) : x.toNatClampNeg = n := by
  show x.toInt.toNat = n; rw [h]; rfl
def own_gc (x y : Int32) : Int32 := ((((x &&& (255 : Int32)) <<< ((0 : Int32) &&& 31)) ||| ((y &&& (255 : Int32)) <<< ((8 : Int32) &&& 31))).toUInt32.toUInt16.toUInt32.toInt32)
def own_lc (x : Int32) : Int32 := ((x &&& (255 : Int32)).toUInt32.toUInt16.toUInt32.toInt32)
def own_d2 (x y : Int32) : Int32 := ((((x <<< ((6 : Int32) &&& 31)) ^^^ y) ^^^ (3968 : Int32)).toUInt32.toUInt16.toUInt32.toInt32)
def own_d3 (x y z : Int32) : Int32 := ((((x <<< ((12 : Int32) &&& 31)) ^^^ (y <<< ((6 : Int32) &&& 31))) ^^^ (z ^^^ (-123008 : Int32))).toUInt32.toUInt16.toUInt32.toInt32)
def own_d4 (x y z w : Int32) : Int32 := ((((x <<< ((18 : Int32) &&& 31)) ^^^ (y <<< ((12 : Int32) &&& 31))) ^^^ (z <<< ((6 : Int32) &&& 31))) ^^^ (w ^^^ (3678080 : Int32)))
def own_hs (c : Int32) : Int32 := ((((c.toUInt32 >>> ((10 : Int32) &&& 31).toUInt32).toInt32) + (55232 : Int32)).toUInt32.toUInt16.toUInt32.toInt32)
def own_ls (c : Int32) : Int32 := (((c &&& (1023 : Int32)) + (56320 : Int32)).toUInt32.toUInt16.toUInt32.toInt32)
abbrev own_lat (x : Int32) : Prop := (x &&& (254 : Int32)) = (194 : Int32)
def own_asc (x : Int32) : Prop := ∃ k : Fin 128, x = Int32.ofNat k.val
def own_lead (x : Int32) : Prop := ∃ k : Fin 30, x = Int32.ofNat k.val - 62
def own_cont (x : Int32) : Prop := ∃ k : Fin 64, x = Int32.ofNat k.val - 128
def own_K2 (x y : Int32) : Prop := own_lead x ∧ own_cont y
theorem own_lead_neg {x : Int32} (h : own_lead x) : x < (0 : Int32) := by obtain ⟨k, rfl⟩ := h; revert k; decide +kernel
theorem own_lead_5 {x : Int32} (h : own_lead x) : (x >>> ((5 : Int32) &&& 31)) = (-2 : Int32) := by obtain ⟨k, rfl⟩ := h; revert k; decide +kernel
theorem own_lead_30 {x : Int32} (h : own_lead x) : ¬ (x &&& (30 : Int32)) = (0 : Int32) := by obtain ⟨k, rfl⟩ := h; revert k; decide +kernel
theorem own_cont_c {x : Int32} (h : own_cont x) : (x &&& (192 : Int32)) = (128 : Int32) := by obtain ⟨k, rfl⟩ := h; revert k; decide +kernel
theorem own_cont_64 {x : Int32} (h : own_cont x) : x < (-64 : Int32) := by obtain ⟨k, rfl⟩ := h; revert k; decide +kernel
theorem own_lat_255 {x y : Int32} (h : own_K2 x y) (q : own_lat x) : own_d2 x y < (256 : Int32) := by
  obtain ⟨⟨k, rfl⟩, ⟨j, rfl⟩⟩ := h; revert k j; decide +kernel
def own_K3 (x y z : Int32) : Prop := x < (0 : Int32) ∧ (¬ own_lat x) ∧ (¬ (x >>> ((5 : Int32) &&& 31)) = (-2 : Int32)) ∧ (x >>> ((4 : Int32) &&& 31)) = (-2 : Int32) ∧ (x = (-32 : Int32) → ¬ (y &&& (224 : Int32)) = (128 : Int32)) ∧ (y &&& (192 : Int32)) = (128 : Int32) ∧ (z &&& (192 : Int32)) = (128 : Int32) ∧ (¬ own_d3 x y z < (55296 : Int32) → ¬ own_d3 x y z < (57344 : Int32))
def own_K4 (x y z w : Int32) : Prop := x < (0 : Int32) ∧ (¬ own_lat x) ∧ (¬ (x >>> ((5 : Int32) &&& 31)) = (-2 : Int32)) ∧ (¬ (x >>> ((4 : Int32) &&& 31)) = (-2 : Int32)) ∧ (x >>> ((3 : Int32) &&& 31)) = (-2 : Int32) ∧ (y &&& (192 : Int32)) = (128 : Int32) ∧ (z &&& (192 : Int32)) = (128 : Int32) ∧ (w &&& (192 : Int32)) = (128 : Int32) ∧ (¬ own_d4 x y z w < (65536 : Int32)) ∧ own_d4 x y z w < (1114112 : Int32)
theorem own_asc_id {x : Int32} (h : own_asc x) : x.toInt8.toInt32 = x := by obtain ⟨k, rfl⟩ := h; revert k; decide +kernel
theorem own_asc_n {x : Int32} (h : own_asc x) : ¬ x < (0 : Int32) := by obtain ⟨k, rfl⟩ := h; revert k; decide +kernel
theorem own_asc_c {x : Int32} (h : own_asc x) : (x.toUInt32.toUInt16.toUInt32.toInt32) = x := by obtain ⟨k, rfl⟩ := h; revert k; decide +kernel
theorem own_xa (h e : Nat) (he : e < 4096) : Int32.ofNat (h * 4096) ^^^ Int32.ofNat e = Int32.ofNat (h * 4096 + e) := by
  apply Int32.toBitVec_inj.mp
  show BitVec.ofNat 32 (h * 4096) ^^^ BitVec.ofNat 32 e = BitVec.ofNat 32 (h * 4096 + e)
  apply BitVec.eq_of_getLsbD_eq
  intro i hi
  have e2 : h * 4096 = 2 ^ 12 * h := Nat.mul_comm h 4096
  have e1 : h * 4096 + e = 2 ^ 12 * h + e := congrArg (· + e) e2
  rw [BitVec.getLsbD_xor, BitVec.getLsbD_ofNat, BitVec.getLsbD_ofNat, BitVec.getLsbD_ofNat, e1, Nat.testBit_two_pow_mul_add _ (show e < 2 ^ 12 from he), e2, Nat.testBit_two_pow_mul]
  by_cases q : i < 12
  · have w : ¬ 12 ≤ i := Nat.not_le.mpr q
    simp [q, hi, w]
  · have : e.testBit i = false := Nat.testBit_lt_two_pow (Nat.lt_of_lt_of_le he (Nat.pow_le_pow_right (show 0 < 2 by decide) (Nat.le_of_not_lt q) : 2 ^ 12 ≤ 2 ^ i))
    simp [q, hi, this, Nat.le_of_not_lt q]
theorem own_l3 : ∀ b d : Fin 64, (((Int32.ofNat b.val - 128) <<< ((6 : Int32) &&& 31)) ^^^ ((Int32.ofNat d.val - 128) ^^^ (-123008 : Int32))) = (-131072 : Int32) ^^^ Int32.ofNat (b.val * 64 + d.val) := by decide +kernel
theorem own_h3 : ∀ a : Fin 16, ((Int32.ofNat a.val - 32) <<< ((12 : Int32) &&& 31)) = (-131072 : Int32) ^^^ Int32.ofNat (a.val * 4096) := by decide +kernel
theorem own_xx (k p q : Int32) : (k ^^^ p) ^^^ (k ^^^ q) = p ^^^ q := by
  rw [Int32.xor_comm k p, Int32.xor_assoc, ← Int32.xor_assoc k k q, Int32.xor_self, Int32.zero_xor]
theorem own_e3 (a : Fin 16) (b d : Fin 64) : own_d3 (Int32.ofNat a.val - 32) (Int32.ofNat b.val - 128) (Int32.ofNat d.val - 128) = (Int32.ofNat (a.val * 4096 + (b.val * 64 + d.val))).toUInt32.toUInt16.toUInt32.toInt32 := by
  rw [own_d3, Int32.xor_assoc, own_l3, own_h3, own_xx, own_xa _ _ (by omega)]
theorem own_l4 : ∀ d e : Fin 64, (((Int32.ofNat d.val - 128) <<< ((6 : Int32) &&& 31)) ^^^ ((Int32.ofNat e.val - 128) ^^^ (3678080 : Int32))) = (3670016 : Int32) ^^^ Int32.ofNat (d.val * 64 + e.val) := by decide +kernel
theorem own_h4 : ∀ (a : Fin 8) (b : Fin 64), (((Int32.ofNat a.val - 16) <<< ((18 : Int32) &&& 31)) ^^^ ((Int32.ofNat b.val - 128) <<< ((12 : Int32) &&& 31))) = (3670016 : Int32) ^^^ Int32.ofNat ((a.val * 64 + b.val) * 4096) := by decide +kernel
theorem own_e4 (a : Fin 8) (b d e : Fin 64) : own_d4 (Int32.ofNat a.val - 16) (Int32.ofNat b.val - 128) (Int32.ofNat d.val - 128) (Int32.ofNat e.val - 128) = Int32.ofNat ((a.val * 64 + b.val) * 4096 + (d.val * 64 + e.val)) := by
  rw [own_d4, Int32.xor_assoc, own_l4, own_h4, own_xx, own_xa _ _ (by omega)]
/-- what 'put' writes and 'chars' writes -/
def own_enc (c : Int32) : List Int32 :=
  if c < 128 then [(c.toInt8.toInt32)]
  else if c < 2048 then [(((192 : Int32) ||| (c >>> ((6 : Int32) &&& 31))).toInt8.toInt32), (((128 : Int32) ||| (c &&& (63 : Int32))).toInt8.toInt32)]
  else if c < 65536 then [(((224 : Int32) ||| (c >>> ((12 : Int32) &&& 31))).toInt8.toInt32), (((128 : Int32) ||| ((c >>> ((6 : Int32) &&& 31)) &&& (63 : Int32))).toInt8.toInt32), (((128 : Int32) ||| (c &&& (63 : Int32))).toInt8.toInt32)]
  else [(((240 : Int32) ||| (c >>> ((18 : Int32) &&& 31))).toInt8.toInt32), (((128 : Int32) ||| ((c >>> ((12 : Int32) &&& 31)) &&& (63 : Int32))).toInt8.toInt32), (((128 : Int32) ||| ((c >>> ((6 : Int32) &&& 31)) &&& (63 : Int32))).toInt8.toInt32), (((128 : Int32) ||| (c &&& (63 : Int32))).toInt8.toInt32)]
def own_chs (c : Int32) : List Int32 :=
  if c < 65536 then [(c.toUInt32.toUInt16.toUInt32.toInt32)]
  else [(((55296 : Int32) + ((c - (65536 : Int32)) >>> ((10 : Int32) &&& 31))).toUInt32.toUInt16.toUInt32.toInt32), (((56320 : Int32) + ((c - (65536 : Int32)) &&& (1023 : Int32))).toUInt32.toUInt16.toUInt32.toInt32)]
/-- a code point, no surrogate -/
def own_cp (c : Int32) : Prop := 0 ≤ c.toInt ∧ c.toInt < 1114112 ∧ (c.toInt < 55296 ∨ 57344 ≤ c.toInt)
def own_one (b h : List Int32) : Prop := (∃ x, own_asc x ∧ b = [x] ∧ h = [x]) ∨ (∃ x y, own_K2 x y ∧ own_lat x ∧ b = [x, y] ∧ h = [own_d2 x y]) ∨ (∃ x y, own_K2 x y ∧ (¬ own_lat x) ∧ b = [x, y] ∧ h = [own_d2 x y]) ∨ (∃ x y z, own_K3 x y z ∧ b = [x, y, z] ∧ h = [own_d3 x y z]) ∨ (∃ x y z w, own_K4 x y z w ∧ b = [x, y, z, w] ∧ h = [own_hs (own_d4 x y z w), own_ls (own_d4 x y z w)])
theorem own_2 : ∀ (a : Fin 30) (b : Fin 64), own_d2 (Int32.ofNat a.val - 62) (Int32.ofNat b.val - 128) = ((Int32.ofNat (a.val * 64 + 128 + b.val)).toUInt32.toUInt16.toUInt32.toInt32) := by decide +kernel
theorem own_b2 : ∀ a : Fin 32, ((192 : Int32) ||| Int32.ofNat a.val).toInt8.toInt32 = Int32.ofNat a.val - 64 := by decide +kernel
theorem own_b3 : ∀ a : Fin 16, ((224 : Int32) ||| Int32.ofNat a.val).toInt8.toInt32 = Int32.ofNat a.val - 32 := by decide +kernel
theorem own_b4 : ∀ a : Fin 8, ((240 : Int32) ||| Int32.ofNat a.val).toInt8.toInt32 = Int32.ofNat a.val - 16 := by decide +kernel
theorem own_bc : ∀ a : Fin 64, ((128 : Int32) ||| Int32.ofNat a.val).toInt8.toInt32 = Int32.ofNat a.val - 128 := by decide +kernel
theorem own_k3 : ∀ (a : Fin 16) (b : Fin 64), (a.val = 0 → 32 ≤ b.val) → ((Int32.ofNat a.val - 32) < (0 : Int32) ∧ (¬ own_lat (Int32.ofNat a.val - 32)) ∧ (¬ ((Int32.ofNat a.val - 32) >>> ((5 : Int32) &&& 31)) = (-2 : Int32)) ∧ ((Int32.ofNat a.val - 32) >>> ((4 : Int32) &&& 31)) = (-2 : Int32) ∧ ((Int32.ofNat a.val - 32) = (-32 : Int32) → ¬ ((Int32.ofNat b.val - 128) &&& (224 : Int32)) = (128 : Int32))) := by decide +kernel
theorem own_kc : ∀ b : Fin 64, ((Int32.ofNat b.val - 128) &&& (192 : Int32)) = (128 : Int32) := by decide +kernel
theorem own_k4 : ∀ a : Fin 8, ((Int32.ofNat a.val - 16) < (0 : Int32) ∧ (¬ own_lat (Int32.ofNat a.val - 16)) ∧ (¬ ((Int32.ofNat a.val - 16) >>> ((5 : Int32) &&& 31)) = (-2 : Int32)) ∧ (¬ ((Int32.ofNat a.val - 16) >>> ((4 : Int32) &&& 31)) = (-2 : Int32)) ∧ ((Int32.ofNat a.val - 16) >>> ((3 : Int32) &&& 31)) = (-2 : Int32)) := by decide +kernel
theorem own_shr {c : Int32} {n : Nat} (h : c.toInt = (n : Int)) (q : Int32) (k : Nat) (hk : q.toBitVec.toNat % 32 = k) : (c >>> (q &&& 31)) = Int32.ofNat (n / 2 ^ k) := own_ofN (by rw [c_ishr c q k hk, h, ← Int.natCast_ediv])
theorem own_msk {c : Int32} {n : Nat} (h : c.toInt = (n : Int)) (m : Int32) (k : Nat) (hk : k ≤ 31) (hm : m.toBitVec.toNat = 2 ^ k - 1) : (c &&& m) = Int32.ofNat (n % 2 ^ k) := own_ofN (by rw [c_mask c m k hk hm, h, ← Int.natCast_emod])
theorem own_ofi {n : Nat} (h : n < 2147483648) : (Int32.ofNat n).toInt = (n : Int) := Int32.toInt_ofNat_of_lt h
theorem own_i2c {c : Int32} {n : Nat} (h : c.toInt = (n : Int)) (q : n < 65536) : (c.toUInt32.toUInt16.toUInt32.toInt32) = c := by
  have a := c_i2c c
  apply Int32.toInt_inj.mp; omega
theorem own_is_one {c : Int32} (h : own_cp c) : own_one (own_enc c) (own_chs c) := by
  obtain ⟨h0, h1, h2⟩ := h
  obtain ⟨n, hn⟩ : ∃ n : Nat, c.toInt = (n : Int) := ⟨c.toInt.toNat, by omega⟩
  have hc := own_ofN hn
  unfold own_enc own_chs
  have e1 : c < 128 ↔ n < 128 := by rw [Int32.lt_iff_toInt_lt, hn]; show (n : Int) < 128 ↔ _; omega
  have e2 : c < 2048 ↔ n < 2048 := by rw [Int32.lt_iff_toInt_lt, hn]; show (n : Int) < 2048 ↔ _; omega
  have e3 : c < 65536 ↔ n < 65536 := by rw [Int32.lt_iff_toInt_lt, hn]; show (n : Int) < 65536 ↔ _; omega
  by_cases q1 : n < 128
  · rw [if_pos (e1.mpr q1), if_pos (e3.mpr (by omega))]
    have ha : own_asc c := ⟨⟨n, q1⟩, hc⟩
    exact Or.inl ⟨c, ha, by rw [own_asc_id ha], by rw [own_asc_c ha]⟩
  rw [if_neg (fun w => q1 (e1.mp w))]
  by_cases q2 : n < 2048
  · rw [if_pos (e2.mpr q2), if_pos (e3.mpr (by omega)), own_shr hn 6 6 (by decide), own_msk hn 63 6 (by decide) (by decide)]
    have f1 := own_b2 ⟨n / 2 ^ 6, by omega⟩
    have f2 := own_bc ⟨n % 2 ^ 6, by omega⟩
    have f3 := own_2 ⟨n / 2 ^ 6 - 2, by omega⟩ ⟨n % 2 ^ 6, by omega⟩
    have f4 : Int32.ofNat (n / 2 ^ 6) - 64 = Int32.ofNat (n / 2 ^ 6 - 2) - 62 := by
      have : ∀ k : Fin 32, 2 ≤ k.val → Int32.ofNat k.val - 64 = Int32.ofNat (k.val - 2) - 62 := by decide +kernel
      exact this ⟨n / 2 ^ 6, by omega⟩ (show 2 ≤ n / 2 ^ 6 by omega)
    dsimp only at f1 f2 f3
    rw [f1, f2, f4]
    have f5 : own_d2 (Int32.ofNat (n / 2 ^ 6 - 2) - 62) (Int32.ofNat (n % 2 ^ 6) - 128) = (c.toUInt32.toUInt16.toUInt32.toInt32) := by
      rw [f3, hc]; congr 6; omega
    by_cases l : own_lat (Int32.ofNat (n / 2 ^ 6 - 2) - 62)
    · exact Or.inr (Or.inl ⟨_, _, ⟨⟨⟨n / 2 ^ 6 - 2, by omega⟩, rfl⟩, ⟨⟨n % 2 ^ 6, by omega⟩, rfl⟩⟩, l, rfl, by rw [f5]⟩)
    · exact Or.inr (Or.inr (Or.inl ⟨_, _, ⟨⟨⟨n / 2 ^ 6 - 2, by omega⟩, rfl⟩, ⟨⟨n % 2 ^ 6, by omega⟩, rfl⟩⟩, l, rfl, by rw [f5]⟩))
  rw [if_neg (fun w => q2 (e2.mp w))]
  by_cases q3 : n < 65536
  · rw [if_pos (e3.mpr q3), if_pos (e3.mpr q3), own_shr hn 12 12 (by decide), own_msk hn 63 6 (by decide) (by decide), own_shr hn 6 6 (by decide), own_msk (own_ofi (show n / 2 ^ 6 < 2147483648 by omega)) 63 6 (by decide) (by decide)]
    have f1 := own_b3 ⟨n / 2 ^ 12, by omega⟩
    have f2 := own_bc ⟨n / 2 ^ 6 % 2 ^ 6, by omega⟩
    have f3 := own_bc ⟨n % 2 ^ 6, by omega⟩
    have f4 := own_e3 ⟨n / 2 ^ 12, by omega⟩ ⟨n / 2 ^ 6 % 2 ^ 6, by omega⟩ ⟨n % 2 ^ 6, by omega⟩
    have f5 := own_k3 ⟨n / 2 ^ 12, by omega⟩ ⟨n / 2 ^ 6 % 2 ^ 6, by omega⟩ (fun w => by show 32 ≤ n / 2 ^ 6 % 2 ^ 6; have w' : n / 2 ^ 12 = 0 := w; omega)
    have f6 := own_kc ⟨n / 2 ^ 6 % 2 ^ 6, by omega⟩
    have f7 := own_kc ⟨n % 2 ^ 6, by omega⟩
    dsimp only at f1 f2 f3 f4 f5 f6 f7
    rw [f1, f2, f3]
    have f8 : own_d3 (Int32.ofNat (n / 2 ^ 12) - 32) (Int32.ofNat (n / 2 ^ 6 % 2 ^ 6) - 128) (Int32.ofNat (n % 2 ^ 6) - 128) = (c.toUInt32.toUInt16.toUInt32.toInt32) := by
      rw [f4, hc]; congr 6; omega
    refine Or.inr (Or.inr (Or.inr (Or.inl ⟨_, _, _, ⟨f5.1, f5.2.1, f5.2.2.1, f5.2.2.2.1, f5.2.2.2.2, f6, f7, ?_⟩, rfl, by rw [f8]⟩)))
    rw [f8, own_i2c hn q3, Int32.lt_iff_toInt_lt, Int32.lt_iff_toInt_lt]
    have a1 : (55296 : Int32).toInt = 55296 := rfl
    have a2 : (57344 : Int32).toInt = 57344 := rfl
    omega
  · rw [if_neg (fun w => q3 (e3.mp w)), if_neg (fun w => q3 (e3.mp w)), own_shr hn 18 18 (by decide), own_msk hn 63 6 (by decide) (by decide), own_shr hn 6 6 (by decide), own_msk (own_ofi (show n / 2 ^ 6 < 2147483648 by omega)) 63 6 (by decide) (by decide), own_shr hn 12 12 (by decide), own_msk (own_ofi (show n / 2 ^ 12 < 2147483648 by omega)) 63 6 (by decide) (by decide)]
    have f1 := own_b4 ⟨n / 2 ^ 18, by omega⟩
    have f2 := own_bc ⟨n / 2 ^ 12 % 2 ^ 6, by omega⟩
    have f3 := own_bc ⟨n / 2 ^ 6 % 2 ^ 6, by omega⟩
    have f4 := own_bc ⟨n % 2 ^ 6, by omega⟩
    have f5 := own_e4 ⟨n / 2 ^ 18, by omega⟩ ⟨n / 2 ^ 12 % 2 ^ 6, by omega⟩ ⟨n / 2 ^ 6 % 2 ^ 6, by omega⟩ ⟨n % 2 ^ 6, by omega⟩
    have f6 := own_k4 ⟨n / 2 ^ 18, by omega⟩
    have f7 := own_kc ⟨n / 2 ^ 12 % 2 ^ 6, by omega⟩
    have f8 := own_kc ⟨n / 2 ^ 6 % 2 ^ 6, by omega⟩
    have f9 := own_kc ⟨n % 2 ^ 6, by omega⟩
    dsimp only at f1 f2 f3 f4 f5 f6 f7 f8 f9
    rw [f1, f2, f3, f4]
    have g : own_d4 (Int32.ofNat (n / 2 ^ 18) - 16) (Int32.ofNat (n / 2 ^ 12 % 2 ^ 6) - 128) (Int32.ofNat (n / 2 ^ 6 % 2 ^ 6) - 128) (Int32.ofNat (n % 2 ^ 6) - 128) = c := by
      rw [f5, hc]; congr 1; omega
    have gs := c_isub c 65536
    have g6 : (65536 : Int32).toInt = 65536 := rfl
    have gr := rng32 (c - (65536 : Int32))
    have gn : (c - (65536 : Int32)).toInt = ((n - 65536 : Nat) : Int) := by omega
    have m1 := own_shr gn 10 10 (by decide)
    have m2 := own_msk gn 1023 10 (by decide) (by decide)
    have u1 := c_iushr c 10 10 (by decide) (by decide)
    have u2 := own_msk hn 1023 10 (by decide) (by decide)
    refine Or.inr (Or.inr (Or.inr (Or.inr ⟨_, _, _, _, ⟨f6.1, f6.2.1, f6.2.2.1, f6.2.2.2.1, f6.2.2.2.2, f7, f8, f9, ?_, ?_⟩, rfl, ?_⟩)))
    · rw [g, Int32.lt_iff_toInt_lt]; omega
    · rw [g, Int32.lt_iff_toInt_lt]; show c.toInt < 1114112; omega
    · rw [g, m1, m2, own_hs, own_ls, u2]
      have w1 : (c.toUInt32 >>> ((10 : Int32) &&& 31).toUInt32).toInt32 = Int32.ofNat (n / 1024) := own_ofN (by rw [u1, hn]; omega)
      rw [w1]
      have w2 : (55296 : Int32) + Int32.ofNat ((n - 65536) / 2 ^ 10) = Int32.ofNat (n / 1024) + (55232 : Int32) := by
        have k1 : (n - 65536) / 2 ^ 10 = n / 1024 - 64 := by omega
        have k2 : 64 ≤ n / 1024 ∧ n / 1024 < 2000 := by omega
        rw [k1]
        generalize n / 1024 = t at k2 ⊢
        have : ∀ t : Fin 2000, 64 ≤ t.val → (55296 : Int32) + Int32.ofNat (t.val - 64) = Int32.ofNat t.val + (55232 : Int32) := by decide +kernel
        exact this ⟨t, k2.2⟩ k2.1
      have w3 : (n - 65536) % 2 ^ 10 = n % 2 ^ 10 := by omega
      rw [w2, w3, Int32.add_comm (56320 : Int32)]
def own_LO (c : Int32) : Int32 := ((c >>> ((0 : Int32) &&& 31)).toInt8.toInt32)
def own_HI (c : Int32) : Int32 := ((c >>> ((8 : Int32) &&& 31)).toInt8.toInt32)
theorem own_gcw {c : Int32} (h0 : 0 ≤ c.toInt) (h1 : c.toInt < 65536) : own_gc (own_LO c) (own_HI c) = c := by
  obtain ⟨n, hn⟩ : ∃ n : Nat, c.toInt = (n : Int) := ⟨c.toInt.toNat, by omega⟩
  have s0 := c_ishr c 0 0 (by decide)
  have s8 := c_ishr c 8 8 (by decide)
  have b0 := c_i2b (c >>> ((0 : Int32) &&& 31))
  have b8 := c_i2b (c >>> ((8 : Int32) &&& 31))
  have m0 := c_mask (own_LO c) 255 8 (by decide) (by decide)
  have m8 := c_mask (own_HI c) 255 8 (by decide) (by decide)
  have e0 : (own_LO c &&& (255 : Int32)).toInt = ((n % 256 : Nat) : Int) := by
    rw [m0]; unfold own_LO; rw [hn] at s0; generalize (c >>> ((0 : Int32) &&& 31)) = x at *; generalize x.toInt8.toInt32.toInt = y at *; omega
  have e8 : (own_HI c &&& (255 : Int32)).toInt = ((n / 256 : Nat) : Int) := by
    rw [m8]; unfold own_HI; rw [hn] at s8; generalize (c >>> ((8 : Int32) &&& 31)) = x at *; generalize x.toInt8.toInt32.toInt = y at *; omega
  rw [own_gc, own_ofN e0, own_ofN e8]
  have p0 := c_ishl (Int32.ofNat (n % 256)) 0 0 (by decide)
  have p8 := c_ishl (Int32.ofNat (n / 256)) 8 8 (by decide)
  have i0 := own_ofi (show n % 256 < 2147483648 by omega)
  have i8 := own_ofi (show n / 256 < 2147483648 by omega)
  generalize (Int32.ofNat (n % 256) <<< ((0 : Int32) &&& 31)) = x at *
  generalize (Int32.ofNat (n / 256) <<< ((8 : Int32) &&& 31)) = y at *
  have r0 := rng32 x
  have r8 := rng32 y
  rw [i0] at p0
  rw [i8] at p8
  have x0 : x.toInt = ((n % 256 : Nat) : Int) := by omega
  have y0 : y.toInt = ((n / 256 * 256 : Nat) : Int) := by omega
  have o := c_or' x y 8 (by decide) 256 rfl (by omega) (by omega) (by omega)
  have r := rng32 (x ||| y)
  have c1 := c_i2c (x ||| y)
  apply Int32.toInt_inj.mp
  omega
theorem own_lcw {c : Int32} (h0 : 0 ≤ c.toInt) (h1 : c.toInt < 256) : own_lc (c.toInt8.toInt32) = c := by
  obtain ⟨k, rfl⟩ := own_fin (n := 256) (by decide) h0 h1
  have : ∀ k : Fin 256, own_lc ((Int32.ofNat k.val).toInt8.toInt32) = Int32.ofNat k.val := by decide +kernel
  exact this k
def own_C (c : Int32) : Prop := 0 ≤ c.toInt ∧ c.toInt < 65536
theorem own_C_i (x : Int32) : own_C (x.toUInt32.toUInt16.toUInt32.toInt32) := (c_i2c x).2
theorem own_C_a {x : Int32} (h : own_asc x) : own_C x ∧ x < (256 : Int32) := by
  rw [← own_asc_c h]; refine ⟨own_C_i x, ?_⟩
  rw [own_asc_c h]; obtain ⟨k, rfl⟩ := h; revert k; decide +kernel
theorem own_one_C {b h : List Int32} (q : own_one b h) : ∀ c ∈ h, own_C c := by
  rcases q with ⟨x, a, rfl, rfl⟩ | ⟨x, y, -, -, rfl, rfl⟩ | ⟨x, y, -, -, rfl, rfl⟩ | ⟨x, y, z, -, rfl, rfl⟩ | ⟨x, y, z, w, -, rfl, rfl⟩ <;> intro c hc <;> simp only [List.mem_cons, List.not_mem_nil, or_false] at hc
  · rw [hc]; exact (own_C_a a).1
  · rw [hc]; exact own_C_i _
  · rw [hc]; exact own_C_i _
  · rw [hc]; exact own_C_i _
  · rcases hc with rfl | rfl <;> exact own_C_i _
theorem own_one_l {b h : List Int32} (q : own_one b h) : 1 ≤ b.length ∧ b.length ≤ 4 ∧ 1 ≤ h.length ∧ h.length ≤ 2 := by
  rcases q with ⟨x, a, rfl, rfl⟩ | ⟨x, y, -, -, rfl, rfl⟩ | ⟨x, y, -, -, rfl, rfl⟩ | ⟨x, y, z, -, rfl, rfl⟩ | ⟨x, y, z, w, -, rfl, rfl⟩ <;> simp
def own_rel (b h : List Int32) : Prop := own_one b h ∨ ∃ b1 h1 b2 h2, own_one b1 h1 ∧ own_one b2 h2 ∧ b = b1 ++ b2 ∧ h = h1 ++ h2
theorem own_rel_l {b h : List Int32} (q : own_rel b h) : 1 ≤ b.length ∧ b.length ≤ 8 ∧ 1 ≤ h.length ∧ h.length ≤ 4 := by
  rcases q with q | ⟨b1, h1, b2, h2, q1, q2, rfl, rfl⟩
  · have := own_one_l q; omega
  · have := own_one_l q1; have := own_one_l q2; rw [List.length_append, List.length_append]; omega
theorem own_rel_C {b h : List Int32} (q : own_rel b h) : ∀ c ∈ h, own_C c := by
  rcases q with q | ⟨b1, h1, b2, h2, q1, q2, rfl, rfl⟩
  · exact own_one_C q
  · intro c hc
    rcases List.mem_append.mp hc with w | w
    · exact own_one_C q1 c w
    · exact own_one_C q2 c w
def own_wide : List Int32 → List Int32
  | [] => []
  | c :: r => own_LO c :: own_HI c :: own_wide r
/-- the String of coder cd and bytes vs says the chars h -/
def own_str (cd : Int32) (vs h : List Int32) : Prop := (cd = 0 ∧ vs = h.map (fun c => c.toInt8.toInt32) ∧ ∀ c ∈ h, c < (256 : Int32)) ∨ (cd = 1 ∧ vs = own_wide h)
def own_wrl : List Int32 → Nat → List Int32 → List Int32
  | L, _, [] => L
  | L, p, b :: r => own_wrl (L.set p b) (p + 1) r
theorem own_wrl_len : ∀ (bs L : List Int32) (p : Nat), (own_wrl L p bs).length = L.length
  | [], _, _ => rfl
  | b :: r, L, p => by rw [own_wrl, own_wrl_len r, List.length_set]
theorem own_wrl_out : ∀ (bs L : List Int32) (p j : Nat), (j < p ∨ p + bs.length ≤ j) → (own_wrl L p bs).getD j 0 = L.getD j 0
  | [], _, _, _, _ => rfl
  | b :: r, L, p, j, h => by
    rw [List.length_cons] at h
    rw [own_wrl, own_wrl_out r (L.set p b) (p + 1) j (by omega), List.getD_eq_getElem?_getD, List.getElem?_set_ne (by omega), ← List.getD_eq_getElem?_getD]
theorem own_wrl_in : ∀ (bs L : List Int32) (p i : Nat), i < bs.length → p + bs.length ≤ L.length → (own_wrl L p bs).getD (p + i) 0 = bs.getD i 0
  | [], _, _, _, h, _ => absurd h (Nat.not_lt_zero _)
  | b :: r, L, p, 0, h, q => by
    rw [List.length_cons] at q
    rw [own_wrl, own_wrl_out r (L.set p b) (p + 1) (p + 0) (by omega)]
    simp [List.getD_eq_getElem?_getD, show p < L.length by omega]
  | b :: r, L, p, i + 1, h, q => by
    rw [List.length_cons] at h q
    rw [own_wrl, show p + (i + 1) = p + 1 + i by omega, own_wrl_in r (L.set p b) (p + 1) i (by omega) (by rw [List.length_set]; omega)]
    rfl
/-- the bytes sg stand in L at p -/
def own_seg (L : List Int32) (p : Nat) (sg : List Int32) : Prop := L.length = 16 ∧ p ≤ 3 ∧ sg.length ≤ 8 ∧ ∀ i, i < sg.length → L.getD (p + i) 0 = sg.getD i 0
theorem own_seg_1 {L : List Int32} {p : Nat} {b : List Int32} (hL : L.length = 16) (hp : p ≤ 3) (hb : b.length ≤ 4) : own_seg (own_wrl L p b) p b := ⟨by rw [own_wrl_len, hL], hp, by omega, fun i hi => own_wrl_in b L p i hi (by omega)⟩
theorem own_seg_2 {L : List Int32} {p : Nat} {b1 b2 : List Int32} (hL : L.length = 16) (hp : p ≤ 3) (h1 : b1.length ≤ 4) (h2 : b2.length ≤ 4) : own_seg (own_wrl (own_wrl L p b1) (p + b1.length) b2) p (b1 ++ b2) := by
  refine ⟨by rw [own_wrl_len, own_wrl_len, hL], hp, by rw [List.length_append]; omega, fun i hi => ?_⟩
  rw [List.length_append] at hi
  by_cases q : i < b1.length
  · rw [own_wrl_out _ _ _ _ (by omega), own_wrl_in b1 L p i q (by omega), List.getD_eq_getElem?_getD, List.getD_eq_getElem?_getD, List.getElem?_append_left q]
  · rw [show p + i = p + b1.length + (i - b1.length) by omega, own_wrl_in b2 _ _ _ (by omega) (by rw [own_wrl_len]; omega), List.getD_eq_getElem?_getD, List.getD_eq_getElem?_getD, List.getElem?_append_right (by omega)]
theorem own_seg_s {L : List Int32} {p : Nat} {sg : List Int32} (h : own_seg L p sg) {k : Nat} (hk : p + sg.length ≤ k) (v : Int32) : own_seg (L.set k v) p sg := by
  obtain ⟨h1, h2, h3, h4⟩ := h
  refine ⟨by rw [List.length_set, h1], h2, h3, fun i hi => ?_⟩
  rw [← h4 i hi, List.getD_eq_getElem?_getD, List.getElem?_set_ne (by omega), ← List.getD_eq_getElem?_getD]
def own_r (v : Int32) : Int32 := ((v.toUInt32 >>> ((3 : Int32) &&& 31).toUInt32).toInt32)
theorem own_r_b (v : Int32) : 0 ≤ (own_r v).toInt := by
  have h := c_iushr v 3 3 (by decide) (by decide)
  unfold own_r; omega
theorem own_cp0 (v : Int32) : own_cp (own_r v &&& (127 : Int32)) := by
  have h := c_and (own_r v) 127 (by decide)
  have t : (127 : Int32).toInt = 127 := rfl
  unfold own_cp; omega
theorem own_cpk (v k m : Int32) {K M : Nat} (hk : k.toInt = (K : Int)) (hm : m.toInt = (M : Int)) (h0 : 0 < M) (hr : K + M ≤ 1114112) (hs : K + M ≤ 55296 ∨ 57344 ≤ K) : own_cp (k + (own_r v % m)) := by
  have h := (c_iremV (own_r v) m).1 (own_r_b v) (by omega)
  have a := c_iadd k (own_r v % m)
  have r := rng32 (k + (own_r v % m))
  unfold own_cp; omega
theorem own_ge0 {x : Int32} {n : Nat} (h : x.toInt = (n : Int)) : ¬ x < (0 : Int32) := by
  rw [Int32.lt_iff_toInt_lt]; have b : (0 : Int32).toInt = 0 := rfl
  omega
theorem own_ltN {x y : Int32} {a b : Nat} (h1 : x.toInt = (a : Int)) (h2 : y.toInt = (b : Int)) : x < y ↔ a < b := by
  rw [Int32.lt_iff_toInt_lt, h1, h2]; omega
theorem own_inN {x y : Int32} {a b : Nat} (h1 : x.toInt = (a : Int)) (h2 : y.toInt = (b : Int)) (q : a < b) : ¬ x < (0 : Int32) ∧ x < y := ⟨own_ge0 h1, (own_ltN h1 h2).mpr q⟩
theorem own_add {x y : Int32} {a b : Nat} (h1 : x.toInt = (a : Int)) (h2 : y.toInt = (b : Int)) (hs : a + b < 2147483648) : (x + y).toInt = ((a + b : Nat) : Int) := by
  have c := c_iadd x y
  have r := rng32 (x + y)
  omega
theorem own_subN {x y : Int32} {a b : Nat} (h1 : x.toInt = (a : Int)) (h2 : y.toInt = (b : Int)) (hs : b ≤ a) : (x - y).toInt = ((a - b : Nat) : Int) := by
  have c := c_isub x y
  have r := rng32 (x - y)
  have r' := rng32 x
  omega
theorem own_neN {x y : Int32} {a b : Nat} (h1 : x.toInt = (a : Int)) (h2 : y.toInt = (b : Int)) (q : a ≠ b) : ¬ x = y := fun e => by rw [e] at h1; omega
theorem own_sl (x y : Int32) : x + y - x = y := by rw [Int32.add_comm]; exact Int32.add_sub_cancel y x
theorem own_i16 : (16 : Int32).toInt = ((16 : Nat) : Int) := rfl
theorem own_i1 : (1 : Int32).toInt = ((1 : Nat) : Int) := rfl
theorem own_rd {L : List Int32} {p : Nat} {sg : List Int32} (h : own_seg L p sg) {j : Int32} {k : Nat} (hj : j.toInt = ((p + k : Nat) : Int)) (hk : k < sg.length) : L.getD j.toNatClampNeg 0 = sg.getD k 0 := by rw [own_clamp hj, h.2.2.2 k hk]
theorem own_us {L : List Int32} {p : Nat} {sg : List Int32} (h : own_seg L p sg) {st ln : Int32} (hst : st.toInt = (p : Int)) (hln : ln.toInt = (sg.length : Int)) : sg.map Value.int = (List.range ln.toNatClampNeg).map fun i => (L.map Value.int).getD (st.toNatClampNeg + i) (.int (0 : Int32)) := by
  rw [own_clamp hst, own_clamp hln]
  apply List.ext_getElem
  · simp
  · intro i h1 h2
    simp only [List.length_map, List.length_range] at h1 h2
    rw [List.getElem_map, List.getElem_map, List.getElem_range, own_lget, h.2.2.2 i h1, List.getD_eq_getElem?_getD, List.getElem?_eq_getElem h1]; rfl
theorem own_cpl {n : Nat} {us : List Value} : ((List.replicate n (0 : Int32)).map Value.int).take 0 ++ us ++ ((List.replicate n (0 : Int32)).map Value.int).drop (0 + n) = us := by
  simp
theorem own_tk {bs : List Int32} {N n : Nat} (hb : bs.length = N) (hn : n ≤ N) : (bs.take n).map Value.int = (List.range n).map fun i => (bs.map Value.int).getD (0 + i) (.int (0 : Int32)) := by
  apply List.ext_getElem
  · simp; omega
  · intro i h1 h2
    simp only [List.length_map, List.length_range, List.length_take] at h1 h2
    simp [List.getD_eq_getElem?_getD, List.getElem?_eq_getElem (show i < bs.length by omega)]
theorem own_hq1 {a b c : Int32} (h1 : 0 ≤ a.toInt) (h2 : 0 ≤ b.toInt) (h3 : 0 ≤ c.toInt) : ¬ ((a ||| b) ||| c) < (0 : Int32) := by
  have q := (c_orS (a ||| b) c).1 ((c_orS a b).1 h1 h2) h3
  rw [Int32.lt_iff_toInt_lt]; have t : (0 : Int32).toInt = 0 := rfl
  omega
theorem own_asc_255 {x : Int32} (h : own_asc x) : (x &&& (255 : Int32)) = x := by obtain ⟨k, rfl⟩ := h; revert k; decide +kernel
theorem d2_255 {x y : Int32} (h : own_K2 x y) (q : own_lat x) : (((own_d2 x y).toInt8.toInt32) &&& (255 : Int32)) = own_d2 x y := by
  obtain ⟨⟨k, rfl⟩, ⟨j, rfl⟩⟩ := h; revert k j; decide +kernel
theorem own_a1 {P : Int32 → Prop} {a : Int32} (h : P a) : ∀ c ∈ [a], P c := fun c hc => by rw [List.mem_singleton.mp hc]; exact h
theorem own_a2 {P : Int32 → Prop} {a b : Int32} (h : P a) (g : P b) : ∀ c ∈ [a, b], P c := fun c hc => by
  simp only [List.mem_cons, List.not_mem_nil, or_false] at hc
  rcases hc with rfl | rfl <;> assumption
theorem own_buf1 {h : List Int32} (q : h.length ≤ 2) : (own_wrl [0, 0, 0, 0] 0 h).length = 4 ∧ ∀ i, i < h.length → (own_wrl [0, 0, 0, 0] 0 h).getD i 0 = h.getD i 0 := ⟨own_wrl_len _ _ _, fun i hi => by
  have := own_wrl_in h [0, 0, 0, 0] 0 i hi (by show 0 + h.length ≤ 4; omega)
  rwa [Nat.zero_add] at this⟩
theorem own_buf2 {h1 h2 : List Int32} (q1 : h1.length ≤ 2) (q2 : h2.length ≤ 2) : (own_wrl (own_wrl [0, 0, 0, 0] 0 h1) h1.length h2).length = 4 ∧ ∀ i, i < (h1 ++ h2).length → (own_wrl (own_wrl [0, 0, 0, 0] 0 h1) h1.length h2).getD i 0 = (h1 ++ h2).getD i 0 := by
  refine ⟨by rw [own_wrl_len, own_wrl_len]; rfl, fun i hi => ?_⟩
  rw [List.length_append] at hi
  by_cases q : i < h1.length
  · rw [own_wrl_out _ _ _ _ (Or.inl q), (own_buf1 q1).2 i q, List.getD_eq_getElem?_getD, List.getD_eq_getElem?_getD, List.getElem?_append_left q]
  · have e := own_wrl_in h2 (own_wrl [0, 0, 0, 0] 0 h1) h1.length (i - h1.length) (by omega) (by rw [own_wrl_len]; show _ ≤ 4; omega)
    rw [show h1.length + (i - h1.length) = i by omega] at e
    rw [e, List.getD_eq_getElem?_getD, List.getD_eq_getElem?_getD, List.getElem?_append_right (by omega)]
theorem own_hs_big {c : Int32} (h1 : ¬ c < (65536 : Int32)) (h2 : c < (1114112 : Int32)) : ¬ own_hs c < (256 : Int32) := by
  have u := c_iushr c 10 10 (by decide) (by decide)
  have a := c_iadd ((c.toUInt32 >>> ((10 : Int32) &&& 31).toUInt32).toInt32) 55232
  rw [Int32.lt_iff_toInt_lt] at h1 h2 ⊢
  have e1 : (65536 : Int32).toInt = 65536 := rfl
  have e2 : (1114112 : Int32).toInt = 1114112 := rfl
  have e3 : (256 : Int32).toInt = 256 := rfl
  have e4 : (55232 : Int32).toInt = 55232 := rfl
  have i := c_i2c (((c.toUInt32 >>> ((10 : Int32) &&& 31).toUInt32).toInt32) + (55232 : Int32))
  have r := rng32 (((c.toUInt32 >>> ((10 : Int32) &&& 31).toUInt32).toInt32) + (55232 : Int32))
  unfold own_hs
  generalize (((c.toUInt32 >>> ((10 : Int32) &&& 31).toUInt32).toInt32) + (55232 : Int32)) = y at *
  generalize ((c.toUInt32 >>> ((10 : Int32) &&& 31).toUInt32).toInt32) = x at *
  omega
theorem own_one_2 {b h : List Int32} (q : own_one b h) : h.length = 1 ∨ ∃ c ∈ h, ¬ c < (256 : Int32) := by
  rcases q with ⟨x, a, rfl, rfl⟩ | ⟨x, y, -, -, rfl, rfl⟩ | ⟨x, y, -, -, rfl, rfl⟩ | ⟨x, y, z, -, rfl, rfl⟩ | ⟨x, y, z, w, k, rfl, rfl⟩
  · exact Or.inl rfl
  · exact Or.inl rfl
  · exact Or.inl rfl
  · exact Or.inl rfl
  · exact Or.inr ⟨_, List.mem_cons_self, own_hs_big k.2.2.2.2.2.2.2.2.1 k.2.2.2.2.2.2.2.2.2⟩
theorem own_no3 {b h : List Int32} (q : own_rel b h) (hl : 3 ≤ h.length) : ¬ ∀ c ∈ h, c < (256 : Int32) := fun w => by
  rcases q with q | ⟨b1, h1, b2, h2, q1, q2, rfl, rfl⟩
  · have := own_one_l q; omega
  · rcases own_one_2 q1 with e | ⟨c, hc, n⟩
    · rcases own_one_2 q2 with e' | ⟨c, hc, n⟩
      · rw [List.length_append] at hl; omega
      · exact n (w c (List.mem_append.mpr (Or.inr hc)))
    · exact n (w c (List.mem_append.mpr (Or.inl hc)))
theorem own_one4 {b h : List Int32} (q : own_one b h) : (∃ x, own_asc x ∧ b = [x] ∧ h = [x]) ∨ (∃ x y, own_K2 x y ∧ b = [x, y] ∧ h = [own_d2 x y]) ∨ (∃ x y z, own_K3 x y z ∧ b = [x, y, z] ∧ h = [own_d3 x y z]) ∨ (∃ x y z w, own_K4 x y z w ∧ b = [x, y, z, w] ∧ h = [own_hs (own_d4 x y z w), own_ls (own_d4 x y z w)]) := by
  rcases q with q | ⟨x, y, k, -, e, f⟩ | ⟨x, y, k, -, e, f⟩ | q | q
  · exact Or.inl q
  · exact Or.inr (Or.inl ⟨x, y, k, e, f⟩)
  · exact Or.inr (Or.inl ⟨x, y, k, e, f⟩)
  · exact Or.inr (Or.inr (Or.inl q))
  · exact Or.inr (Or.inr (Or.inr q))
theorem own_shp {sg ch vs : List Int32} {cd : Int32} (hr : own_rel sg ch) (hs : own_str cd vs ch) :
    ((∃ c0, ch = [c0] ∧ cd = 0 ∧ vs = [c0.toInt8.toInt32] ∧ own_lc (c0.toInt8.toInt32) = c0) ∨ (∃ c0 c1, ch = [c0, c1] ∧ cd = 0 ∧ vs = [c0.toInt8.toInt32, c1.toInt8.toInt32] ∧ own_lc (c0.toInt8.toInt32) = c0 ∧ own_lc (c1.toInt8.toInt32) = c1)) ∨
    ((∃ c0, ch = [c0] ∧ cd = 1 ∧ vs = [own_LO c0, own_HI c0] ∧ own_gc (own_LO c0) (own_HI c0) = c0) ∨ (∃ c0 c1, ch = [c0, c1] ∧ cd = 1 ∧ vs = [own_LO c0, own_HI c0, own_LO c1, own_HI c1] ∧ own_gc (own_LO c0) (own_HI c0) = c0 ∧ own_gc (own_LO c1) (own_HI c1) = c1) ∨ (∃ c0 c1 c2, ch = [c0, c1, c2] ∧ cd = 1 ∧ vs = [own_LO c0, own_HI c0, own_LO c1, own_HI c1, own_LO c2, own_HI c2] ∧ own_gc (own_LO c0) (own_HI c0) = c0 ∧ own_gc (own_LO c1) (own_HI c1) = c1 ∧ own_gc (own_LO c2) (own_HI c2) = c2) ∨ (∃ c0 c1 c2 c3, ch = [c0, c1, c2, c3] ∧ cd = 1 ∧ vs = [own_LO c0, own_HI c0, own_LO c1, own_HI c1, own_LO c2, own_HI c2, own_LO c3, own_HI c3] ∧ own_gc (own_LO c0) (own_HI c0) = c0 ∧ own_gc (own_LO c1) (own_HI c1) = c1 ∧ own_gc (own_LO c2) (own_HI c2) = c2 ∧ own_gc (own_LO c3) (own_HI c3) = c3)) := by
  have hl := own_rel_l hr
  have hC := own_rel_C hr
  have key : ∀ c ∈ ch, own_gc (own_LO c) (own_HI c) = c := fun c hc => own_gcw (hC c hc).1 (hC c hc).2
  match ch, hl with
  | [], h => exact absurd h.2.2.1 (by decide)
  | _ :: _ :: _ :: _ :: _ :: _, h => exact absurd h.2.2.2 (by simp only [List.length_cons]; omega)
  | [c0], _ =>
    rcases hs with ⟨rfl, rfl, h⟩ | ⟨rfl, rfl⟩
    · have low : ∀ c ∈ [c0], own_lc (c.toInt8.toInt32) = c := fun c hc => own_lcw (hC c hc).1 (by have := h c hc; rw [Int32.lt_iff_toInt_lt] at this; exact this)
      exact Or.inl (Or.inl ⟨c0, rfl, rfl, rfl, low _ (by simp)⟩)
    · exact Or.inr (Or.inl ⟨c0, rfl, rfl, rfl, key _ (by simp)⟩)
  | [c0, c1], _ =>
    rcases hs with ⟨rfl, rfl, h⟩ | ⟨rfl, rfl⟩
    · have low : ∀ c ∈ [c0, c1], own_lc (c.toInt8.toInt32) = c := fun c hc => own_lcw (hC c hc).1 (by have := h c hc; rw [Int32.lt_iff_toInt_lt] at this; exact this)
      exact Or.inl (Or.inr ⟨c0, c1, rfl, rfl, rfl, low _ (by simp), low _ (by simp)⟩)
    · exact Or.inr (Or.inr (Or.inl ⟨c0, c1, rfl, rfl, rfl, key _ (by simp), key _ (by simp)⟩))
  | [c0, c1, c2], _ =>
    rcases hs with ⟨rfl, rfl, h⟩ | ⟨rfl, rfl⟩
    · exact absurd h (own_no3 hr (by simp))
    · exact Or.inr (Or.inr (Or.inr (Or.inl ⟨c0, c1, c2, rfl, rfl, rfl, key _ (by simp), key _ (by simp), key _ (by simp)⟩)))
  | [c0, c1, c2, c3], _ =>
    rcases hs with ⟨rfl, rfl, h⟩ | ⟨rfl, rfl⟩
    · exact absurd h (own_no3 hr (by simp))
    · exact Or.inr (Or.inr (Or.inr (Or.inr ⟨c0, c1, c2, c3, rfl, rfl, rfl, key _ (by simp), key _ (by simp), key _ (by simp), key _ (by simp)⟩)))
theorem own_bfr {Lc ch : List Int32} (h : Lc.length = 4 ∧ ∀ i, i < ch.length → Lc.getD i 0 = ch.getD i 0) {j : Int32} (i : Nat) (hj : j.toNatClampNeg = i) (hi : i < ch.length) : Lc.getD j.toNatClampNeg 0 = ch.getD i 0 := by rw [hj]; exact h.2 i hi
theorem own_shl {x : Int32} {n : Nat} (h : x.toInt = (n : Int)) (hn : n ≤ 8) : (x <<< ((1 : Int32) &&& 31)).toInt = ((2 * n : Nat) : Int) := by
  have a := c_ishl x 1 1 (by decide)
  have r := rng32 (x <<< ((1 : Int32) &&& 31))
  rw [h] at a
  omega
theorem own_shr1 {x : Int32} {n : Nat} (h : x.toInt = (n : Int)) : (x >>> ((1 : Int32) &&& 31)).toInt = ((n / 2 : Nat) : Int) := by
  rw [c_ishr x 1 1 (by decide), h]; omega
theorem own_nn {x : Int32} {n : Nat} (h : x.toInt = (n : Int)) : 0 ≤ x.toInt := by omega
theorem own_rdL {L : List Int32} {j : Int32} {k : Nat} {v : Int32} (hj : j.toInt = (k : Int)) (h : L.getD k 0 = v) : L.getD j.toNatClampNeg 0 = v := by rw [own_clamp hj, h]
/-- of a code point that takes the UTF-16 road -/
def own_one3 (b h : List Int32) : Prop := (∃ x y, own_K2 x y ∧ (¬ own_lat x) ∧ b = [x, y] ∧ h = [own_d2 x y]) ∨ (∃ x y z, own_K3 x y z ∧ b = [x, y, z] ∧ h = [own_d3 x y z]) ∨ (∃ x y z w, own_K4 x y z w ∧ b = [x, y, z, w] ∧ h = [own_hs (own_d4 x y z w), own_ls (own_d4 x y z w)])
def own_tail (b h : List Int32) : Prop := (b = [] ∧ h = []) ∨ own_one b h
def own_rlU (b h : List Int32) : Prop := ∃ b1 h1 b2 h2, own_one3 b1 h1 ∧ own_tail b2 h2 ∧ b = b1 ++ b2 ∧ h = h1 ++ h2
theorem own_appL {sl b1 b2 : List Int32} {n : Nat} (h : ∀ i, i < (b1 ++ b2).length → sl.getD (n + i) 0 = (b1 ++ b2).getD i 0) : ∀ i, i < b1.length → sl.getD (n + i) 0 = b1.getD i 0 := fun i hi => by
  rw [h i (by rw [List.length_append]; omega), List.getD_eq_getElem?_getD, List.getElem?_append_left hi, ← List.getD_eq_getElem?_getD]
theorem own_appR {sl b1 b2 : List Int32} {n : Nat} (h : ∀ i, i < (b1 ++ b2).length → sl.getD (n + i) 0 = (b1 ++ b2).getD i 0) : ∀ i, i < b2.length → sl.getD (n + b1.length + i) 0 = b2.getD i 0 := fun i hi => by
  rw [Nat.add_assoc, h (b1.length + i) (by rw [List.length_append]; omega), List.getD_eq_getElem?_getD, List.getElem?_append_right (by omega), show b1.length + i - b1.length = i by omega, ← List.getD_eq_getElem?_getD]
theorem own_wcat1 (L : List Int32) (d : Nat) (c : Int32) (r : List Int32) : own_wrl (own_wrl L (2 * d) [own_LO c, own_HI c]) (2 * (d + 1)) (own_wide r) = own_wrl L (2 * d) (own_wide ([c] ++ r)) := rfl
theorem own_wcat2 (L : List Int32) (d : Nat) (c e : Int32) (r : List Int32) : own_wrl (own_wrl (own_wrl L (2 * d) [own_LO c, own_HI c]) (2 * (d + 1)) [own_LO e, own_HI e]) (2 * (d + 2)) (own_wide r) = own_wrl L (2 * d) (own_wide ([c, e] ++ r)) := rfl
theorem own_wa {Z : State} {h : Heap} {a : Addr} {k : ClassId} {z x : Int32} {L : List Int32} {d : Nat} (q : own_asc x) (F : Arv Z h a k .byte z ((own_wrl L (2 * d) [own_LO (x.toUInt32.toUInt16.toUInt32.toInt32), own_HI (x.toUInt32.toUInt16.toUInt32.toInt32)]).map Value.int) (.int (0 : Int32))) : Arv Z h a k .byte z ((own_wrl L (2 * d) (own_wide [x])).map Value.int) (.int (0 : Int32)) := by rw [own_asc_c q] at F; exact F
theorem own_11 {sg ch : List Int32} (h : own_rel sg ch) : (∃ x, own_asc x ∧ sg = [x] ∧ ch = [x]) ∨ (∃ x y, own_asc x ∧ own_asc y ∧ sg = [x, y] ∧ ch = [x, y]) ∨ (∃ x y, own_K2 x y ∧ own_lat x ∧ sg = [x, y] ∧ ch = [own_d2 x y]) ∨ (∃ x y z, own_asc x ∧ own_K2 y z ∧ own_lat y ∧ sg = [x, y, z] ∧ ch = [x, own_d2 y z]) ∨ (∃ x y z, own_K2 x y ∧ own_lat x ∧ own_asc z ∧ sg = [x, y, z] ∧ ch = [own_d2 x y, z]) ∨ (∃ x y z w, own_K2 x y ∧ own_lat x ∧ own_K2 z w ∧ own_lat z ∧ sg = [x, y, z, w] ∧ ch = [own_d2 x y, own_d2 z w]) ∨ (∃ x r, x < (0 : Int32) ∧ (¬ own_lat x) ∧ own_rlU (x :: r) ch ∧ sg = x :: r) ∨ (∃ x y r c, own_asc x ∧ y < (0 : Int32) ∧ (¬ own_lat y) ∧ own_rlU (y :: r) c ∧ sg = x :: y :: r ∧ ch = x :: c) ∨ (∃ x y z r c, own_K2 x y ∧ own_lat x ∧ z < (0 : Int32) ∧ (¬ own_lat z) ∧ own_rlU (z :: r) c ∧ sg = x :: y :: z :: r ∧ ch = own_d2 x y :: c) := by
  have u3 : ∀ {b h b2 h2 : List Int32}, own_one3 b h → own_tail b2 h2 → ∃ x r, x < (0 : Int32) ∧ (¬ own_lat x) ∧ own_rlU (x :: r) (h ++ h2) ∧ b ++ b2 = x :: r := fun {b h b2 h2} q t => by
    have q' := q
    rcases q with ⟨x, y, k, l, rfl, rfl⟩ | ⟨x, y, z, k, rfl, rfl⟩ | ⟨x, y, z, w, k, rfl, rfl⟩
    · exact ⟨x, _, own_lead_neg k.1, l, ⟨_, _, _, _, q', t, rfl, rfl⟩, rfl⟩
    · exact ⟨x, _, k.1, k.2.1, ⟨_, _, _, _, q', t, rfl, rfl⟩, rfl⟩
    · exact ⟨x, _, k.1, k.2.1, ⟨_, _, _, _, q', t, rfl, rfl⟩, rfl⟩
  have cut : ∀ {b h : List Int32}, own_one b h → (∃ x, own_asc x ∧ b = [x] ∧ h = [x]) ∨ (∃ x y, own_K2 x y ∧ own_lat x ∧ b = [x, y] ∧ h = [own_d2 x y]) ∨ own_one3 b h := fun q => by
    rcases q with q | q | q | q | q
    · exact Or.inl q
    · exact Or.inr (Or.inl q)
    · exact Or.inr (Or.inr (Or.inl q))
    · exact Or.inr (Or.inr (Or.inr (Or.inl q)))
    · exact Or.inr (Or.inr (Or.inr (Or.inr q)))
  rcases h with q | ⟨b1, h1, b2, h2, q1, q2, rfl, rfl⟩
  · rcases cut q with ⟨x, k, rfl, rfl⟩ | ⟨x, y, k, l, rfl, rfl⟩ | q3
    · exact Or.inl ⟨x, k, rfl, rfl⟩
    · exact Or.inr (Or.inr (Or.inl ⟨x, y, k, l, rfl, rfl⟩))
    · obtain ⟨x, r, k1, k2, k3, e⟩ := u3 q3 (Or.inl ⟨rfl, rfl⟩)
      rw [List.append_nil] at e k3
      exact Or.inr (Or.inr (Or.inr (Or.inr (Or.inr (Or.inr (Or.inl ⟨x, r, k1, k2, k3, e⟩))))))
  · rcases cut q1 with ⟨x, k, rfl, rfl⟩ | ⟨x, y, k, l, rfl, rfl⟩ | q3
    · rcases cut q2 with ⟨y, k', rfl, rfl⟩ | ⟨y, z, k', l', rfl, rfl⟩ | q3
      · exact Or.inr (Or.inl ⟨x, y, k, k', rfl, rfl⟩)
      · exact Or.inr (Or.inr (Or.inr (Or.inl ⟨x, y, z, k, k', l', rfl, rfl⟩)))
      · obtain ⟨y, r, k1, k2, k3, e⟩ := u3 q3 (Or.inl ⟨rfl, rfl⟩)
        rw [List.append_nil] at e k3
        exact Or.inr (Or.inr (Or.inr (Or.inr (Or.inr (Or.inr (Or.inr (Or.inl ⟨x, y, r, _, k, k1, k2, k3, by rw [e]; rfl, rfl⟩)))))))
    · rcases cut q2 with ⟨z, k', rfl, rfl⟩ | ⟨z, w, k', l', rfl, rfl⟩ | q3
      · exact Or.inr (Or.inr (Or.inr (Or.inr (Or.inl ⟨x, y, z, k, l, k', rfl, rfl⟩))))
      · exact Or.inr (Or.inr (Or.inr (Or.inr (Or.inr (Or.inl ⟨x, y, z, w, k, l, k', l', rfl, rfl⟩)))))
      · obtain ⟨z, r, k1, k2, k3, e⟩ := u3 q3 (Or.inl ⟨rfl, rfl⟩)
        rw [List.append_nil] at e k3
        exact Or.inr (Or.inr (Or.inr (Or.inr (Or.inr (Or.inr (Or.inr (Or.inr ⟨x, y, z, r, _, k, l, k1, k2, k3, by rw [e]; rfl, rfl⟩)))))))
    · obtain ⟨x, r, k1, k2, k3, e⟩ := u3 q3 (Or.inr q2)
      exact Or.inr (Or.inr (Or.inr (Or.inr (Or.inr (Or.inr (Or.inl ⟨x, r, k1, k2, k3, e⟩))))))
theorem own_wide_len : ∀ h : List Int32, (own_wide h).length = 2 * h.length
  | [] => rfl
  | c :: r => by rw [own_wide, List.length_cons, List.length_cons, List.length_cons, own_wide_len r]; omega
theorem own_rlU_l {b h : List Int32} (q : own_rlU b h) : h.length < b.length ∧ h.length ≤ 4 ∧ b.length ≤ 8 := by
  obtain ⟨b1, h1, b2, h2, q1, q2, rfl, rfl⟩ := q
  have a : h1.length < b1.length ∧ h1.length ≤ 2 ∧ b1.length ≤ 4 := by
    rcases q1 with ⟨x, y, k, l, rfl, rfl⟩ | ⟨x, y, z, k, rfl, rfl⟩ | ⟨x, y, z, w, k, rfl, rfl⟩ <;> simp
  have c : h2.length ≤ b2.length ∧ h2.length ≤ 2 ∧ b2.length ≤ 4 := by
    rcases q2 with ⟨rfl, rfl⟩ | ⟨x, k, rfl, rfl⟩ | ⟨x, y, k, l, rfl, rfl⟩ | ⟨x, y, k, l, rfl, rfl⟩ | ⟨x, y, z, k, rfl, rfl⟩ | ⟨x, y, z, w, k, rfl, rfl⟩ <;> simp
  rw [List.length_append, List.length_append]; omega
theorem own_tkw (N : Nat) (W : List Int32) (h : W.length ≤ N) : (own_wrl (List.replicate N (0 : Int32)) 0 W).take W.length = W := by
  apply List.ext_getElem
  · rw [List.length_take, own_wrl_len, List.length_replicate]; omega
  · intro i h1 h2
    have q := own_wrl_in W (List.replicate N (0 : Int32)) 0 i h2 (by rw [List.length_replicate]; omega)
    rw [Nat.zero_add, List.getD_eq_getElem?_getD, List.getD_eq_getElem?_getD, List.getElem?_eq_getElem h2, List.getElem?_eq_getElem (by rw [own_wrl_len, List.length_replicate]; omega)] at q
    rw [List.getElem_take]; simpa using q
theorem own_fin1 {Z : State} {hp : Heap} {a : Addr} {k : ClassId} {N M : Nat} {mm : Int32} {ch : List Int32} (hm : mm.toInt = (M : Int)) (hM : M = 2 * ch.length) (hN : 2 * ch.length ≤ N) (F : Arv Z hp a k .byte mm (((own_wrl (List.replicate N (0 : Int32)) 0 (own_wide ch)).take M).map Value.int) (.int (0 : Int32))) : Arv Z hp a k .byte (Int32.ofNat (own_wide ch).length) ((own_wide ch).map Value.int) (.int (0 : Int32)) := by
  have e := own_wide_len ch
  rw [hM, ← e, own_tkw N _ (by omega)] at F
  rw [e, ← hM, ← own_ofN hm]; exact F
theorem own_rb1 (x : Int32) (r : List Int32) : ∀ i, i < r.length → (x :: r).getD (1 + i) 0 = r.getD i 0 := fun i _ => by rw [Nat.add_comm]; rfl
theorem own_rb2 (x y v : Int32) (r : List Int32) : ∀ i, i < r.length → ((x :: y :: r).set 0 v).getD (2 + i) 0 = r.getD i 0 := fun i _ => by rw [Nat.add_comm]; rfl
theorem own_rb0 (r : List Int32) : ∀ i, i < r.length → r.getD (0 + i) 0 = r.getD i 0 := fun i _ => by rw [Nat.zero_add]
theorem own_eln {en st : Int32} {p k : Nat} (h1 : en.toInt = ((p + k : Nat) : Int)) (h2 : st.toInt = (p : Int)) : (en - st).toInt = (k : Int) := by
  have c := c_isub en st
  have r := rng32 (en - st)
  have r' := rng32 en
  omega
theorem own_i4 : (4 : Int32).toInt = ((4 : Nat) : Int) := rfl
theorem own_k3' (z : Int32) : ((z &&& (3 : Int32)) % (3 : Int32)) = (0 : Int32) ∨ ((z &&& (3 : Int32)) % (3 : Int32)) = (1 : Int32) ∨ ((z &&& (3 : Int32)) % (3 : Int32)) = (2 : Int32) := by
  have h := c_mask z 3 2 (by decide) (by decide)
  obtain ⟨k, hk⟩ := own_fin (n := 4) (by decide) (x := z &&& (3 : Int32)) (by omega) (by omega)
  rw [hk]; clear hk; revert k; decide +kernel
theorem own_p3 (z : Int32) : ∃ p : Nat, (((z.toUInt32 >>> ((2 : Int32) &&& 31).toUInt32).toInt32) &&& (3 : Int32)).toInt = (p : Int) ∧ p ≤ 3 := by
  have h := c_mask ((z.toUInt32 >>> ((2 : Int32) &&& 31).toUInt32).toInt32) 3 2 (by decide) (by decide)
  exact ⟨(((z.toUInt32 >>> ((2 : Int32) &&& 31).toUInt32).toInt32) &&& (3 : Int32)).toInt.toNat, by omega, by omega⟩
theorem own_chl (c : Int32) : (own_chs c).length ≤ 2 ∧ (own_enc c).length ≤ 4 := by
  constructor
  · unfold own_chs; split <;> simp
  · unfold own_enc; (repeat' split) <;> simp
theorem own_wf {Z : State} {h : Heap} {a : Addr} {k : ClassId} {z c e : Int32} {L : List Int32} {d : Nat} (F : Arv Z h a k .byte z ((own_wrl (own_wrl L (2 * d) [own_LO c, own_HI c]) (2 * (d + 1)) [own_LO e, own_HI e]).map Value.int) (.int (0 : Int32))) : Arv Z h a k .byte z ((own_wrl L (2 * d) (own_wide [c, e])).map Value.int) (.int (0 : Int32)) := by
  have q : own_wrl (own_wrl L (2 * d) [own_LO c, own_HI c]) (2 * (d + 1)) [own_LO e, own_HI e] = own_wrl L (2 * d) (own_wide [c, e]) := own_wcat2 L d c e []
  rw [q] at F; exact F
def own_SQ (Z : State) (b : Addr) (ch : List Int32) (h0 : Heap) (n0 : Nat) : Option Value → Heap → List Loc → Prop := fun v h L => ∃ t k cd vs, v = none ∧ Fr n0 L ∧ Keep h0 h [b] ∧ Fld Z h b "java/lang/String" "value" "[B" (.ref t) ∧ Fld Z h b "java/lang/String" "coder" "B" (.int cd) ∧ Arv Z h t k .byte (Int32.ofNat vs.length) (vs.map Value.int) (.int (0 : Int32)) ∧ own_str cd vs ch
theorem own_same {Z : State} {args : Array Value} {t u : Term} {x y : Addr} (ht : t.eval args Z none [] Z = some (.ref x)) (hu : u.eval args Z none [] Z = some (.ref y)) (h : (Cond.eq t u).value args Z none Z [] = some true) : x = y := by
  simp only [Cond.value, ht, hu] at h
  simpa using h
theorem own_ht7 : (∀ c ∈ "".toList, c.toNat < 256) ∧ "".toList.map (fun c => Value.int (Jvm.Lit.byteI c.toNat.toUInt16)) = [] := ⟨by decide, rfl⟩
theorem own_backH {p : Program} {l : Launch} {e : Env} {R : Room} {s : State} {args : Array Value} {below : List Frame} {Z : State} {a0 : Array Value} {EL : List (String × Nat)} {h : Heap} {vm0 : Vm} {y : MethodName} {bytes : ByteArray} {maxL : Nat} {ret : Option FieldType} {rm : Room} {len W : Nat} {A0 : Array Value} {Q : Option Value → Heap → List Loc → Prop}
    (hM : MetFree l y (head1 [Cond.code y bytes maxL ret] rm) (fun a U => a = A0 ∧ Z.Warmed39 U.vm ∧ U.heap = h ∧ CHv Z EL U.vm h) (fun _ _ _ _ _ => True) (fun _ U o U' => ∃ v L, o = .returned v ∧ Q v U'.heap L ∧ ReturnedEndW U o U' L rm.cells rm.slots))
    (hZ : Z.Warmed39 vm0) (wc : (Cond.code y bytes maxL ret).before a0 Z = true) (wz : (Cond.initialized y.cls).before a0 Z = true) (hf : rm.frames + 1 ≤ R.frames) (hl : W + (maxL + 11) + rm.locals ≤ R.locals) (hEL : EW Z a0 EL) (H : CHv Z EL vm0 h) :
    BackS l R p e below (s.setVm vm0) args y len W (fun A a => a = A0 ∧ A.U.heap = h ∧ A.cells + rm.cells ≤ R.cells ∧ A.slots + rm.slots ≤ R.slots)
      (fun A _ v B => ∃ L, Q v B.U.heap L ∧ B.locs = A.locs ++ L ∧ B.cells = A.cells + rm.cells ∧ B.slots = A.slots + rm.slots) := by
  have warm : ∀ {U : State} , (s.setVm vm0).WarmedH U.vm → Z.Warmed39 U.vm := fun q => wtrans (s := s.setVm vm0) hZ q
  refine BackS.of_freeW (bytes := bytes) (maxL := maxL) (ret := ret) (E := fun _ _ o t L k n => k = rm.cells ∧ n = rm.slots ∧ ∃ v, o = .returned v ∧ Q v t.heap L) hM hf hl ?_ ?_ ?_ ?_ ?_
  · intro m meth c A a Y hp
    have hU := warm Y.warmed
    refine ⟨?_, mv hU wc, mv hU wz, hp.2.2.1, hp.2.2.2⟩
    show (Cond.and _ .tt).before a A.U = true
    rw [Cond.before_and, mv hU wc]; rfl
  · intro m meth c A a g mk Y hp
    exact ⟨hp.1, warm Y.warmed, hp.2.1, (CHv.at Y hZ hEL H).1⟩
  · intros; trivial
  · rintro _ _ _ _ ⟨v, L, h1, h2, h3⟩
    exact ⟨L, _, _, h3, rfl, rfl, v, h1, h2⟩
  · rintro m meth c A a g mk v t L k n Y hp _ _ ⟨rfl, rfl, v', e3, e4⟩
    cases e3
    exact ⟨L, e4, rfl, rfl, rfl⟩
section OwnHW
variable {p : Program} {l : Launch} {e : Env} {R : Room} {s : State} {m : MethodId} {args : Array Value} {below : List Frame} {meth : Method} {c : Code}
/-- behind a callee that may have interned: the caller stands again -/
theorem own_afterW {U : State} {Ls : List Loc} {c0 s0 : Nat} (X : Stand p l e R s m args below meth c U Ls c0 s0) {g : JFrame} (hg : g.method = m) {ig : Instr} {len : Nat} (hdg : decode c.code g.pc = .ok (ig, len)) {mk : MethodId} {a : Array Value} {t : State} {v : Option Value} {L : List Loc} {k n : Nat}
    (hend : Ended t (U.setTop g).frames (.returned v)) (hF : ReturnedEndW (U.calling g mk a) (.returned v) t L k n) :
    ∃ T', Stand p l e R (s.setVm T'.vm) m args below meth c T' (Ls ++ L) (c0 + k) (s0 + n) ∧ s.Since T'.vm T'.heap.size ∧ U.heap.size ≤ T'.heap.size ∧ T'.heap = t.heap ∧ t = T'.setTop { g with pc := g.pc + len, stack := v.toList ++ g.stack } := by
  subst hg
  obtain ⟨-, hW, hB, q1, q2, q3⟩ := hF
  have hWU : U.Warmed39 t.vm := hW
  obtain ⟨g₀, hg0⟩ := Option.isSome_iff_exists.mp X.here.top
  obtain ⟨r, hr⟩ := State.topJava?_eq_some.mp hg0
  rw [State.frames_setTop' g X.here.top] at hend
  obtain ⟨c₂, i₂, len₂, w1, w2, w3⟩ := hend
  have ec : t.code? g.method = U.code? g.method := by rw [State.code?_eq, State.code?_eq, hWU.alike.method?]
  cases Option.some.inj (w1.symm.trans (ec.trans X.here.code))
  cases hdg.symm.trans w2
  have same : U.sameButNew ({ U with heap := t.heap, slotsUsed := t.slotsUsed } : State) L k n := by
    obtain ⟨t0, ht0, -⟩ := State.frames_cons hr
    refine ⟨?_, q2, q3⟩
    show ({ U with heap := t.heap, slotsUsed := t.slotsUsed } : State) = { U.setFrames U.frames with heap := t.heap, slotsUsed := t.slotsUsed }
    rw [State.setFrames_self ht0]
  obtain ⟨X', hS⟩ := X.movedW (T₂ := ({ U with heap := t.heap, slotsUsed := t.slotsUsed } : State).setVm t.vm) ((X.here.setHeapUsed t.heap t.slotsUsed).setVm hWU.alike) X.tail rfl rfl hWU hB same
  refine ⟨_, X', hS, same.2.1, rfl, ?_⟩
  have et : t = ({ t with vm := (U.calling g mk a).vm } : State).setVm t.vm := rfl
  rw [q1] at et
  refine et.trans ?_
  have hr' : (({ U with heap := t.heap, slotsUsed := t.slotsUsed } : State).setVm t.vm).frames = .java g₀ :: r := hr
  rw [State.setTop_of_frames _ hr']
  show (({ (U.calling g mk a).setFrames t.frames with heap := t.heap, slotsUsed := t.slotsUsed } : State).setVm t.vm) = _
  rw [w3, State.calling_eq X.here.top, State.setFrames_setFrames, hr]
  rfl
variable {Z : State} {a0 : Array Value} {EL : List (String × Nat)} {h : Heap} {vm0 : Vm} {y : MethodName} {bytes : ByteArray} {maxL : Nat} {ret : Option FieldType} {rm : Room} {len W : Nat} {A0 : Array Value} {Q : Option Value → Heap → List Loc → Prop} {hs : List (Nat × Nat × Nat × Nat)}
theorem own_backHW (hM : MetFree l y (head1 [Cond.codeWith y bytes maxL ret hs] rm) (fun a U => a = A0 ∧ Z.Warmed39 U.vm ∧ U.heap = h ∧ CHv Z EL U.vm h) (fun _ _ _ _ _ => True) (fun _ U o U' => ∃ v L, o = .returned v ∧ Q v U'.heap L ∧ ReturnedEndW U o U' L rm.cells rm.slots))
    (hZ : Z.Warmed39 vm0) (wc : (Cond.codeWith y bytes maxL ret hs).before a0 Z = true) (wz : (Cond.initialized y.cls).before a0 Z = true) (hf : rm.frames + 1 ≤ R.frames) (hl : W + (maxL + 11) + rm.locals ≤ R.locals) (hEL : EW Z a0 EL) (H : CHv Z EL vm0 h) :
    BackS l R p e below (s.setVm vm0) args y len W (fun A a => a = A0 ∧ A.U.heap = h ∧ A.cells + rm.cells ≤ R.cells ∧ A.slots + rm.slots ≤ R.slots)
      (fun A _ v B => ∃ L, Q v B.U.heap L ∧ B.locs = A.locs ++ L ∧ B.cells = A.cells + rm.cells ∧ B.slots = A.slots + rm.slots) := by
  intro m meth c A g ig mk a X hg hsize hdg hW hn hp
  obtain ⟨U, Ls, c0, s0⟩ := A
  dsimp only [Pt.U, Pt.locs, Pt.cells, Pt.slots] at X hn hp ⊢
  obtain ⟨rfl, eU, hc, hsl⟩ := hp
  have hU : Z.Warmed39 U.vm := wtrans (s := s.setVm vm0) hZ X.warmed
  have wcU : (Cond.codeWith y bytes maxL ret hs).before a U = true := mv hU wc
  obtain ⟨mk', methY, cY, hn', hmY, hcY, -, hlY, -⟩ := Cond.codeWith_spec wcU
  cases hn.symm.trans hn'
  obtain ⟨kY, hkY, -⟩ := className_of_methodNamed hn
  have hA : At U g.method c below := by rw [hg]; exact X.here
  obtain ⟨mid, hmid⟩ := hA.above
  have hfr : (U.setTop g).frames = (.java g :: mid) ++ below := by rw [State.frames_setTop' g hA.top, hmid]; rfl
  have hpre : (head1 [Cond.codeWith y bytes maxL ret hs] rm).pre.before a U = true := by
    show (Cond.and _ .tt).before a U = true
    rw [Cond.before_and, wcU]; rfl
  obtain ⟨o, t, hst, -, hend, v, L, rfl, hQ, hF⟩ := Steps.callFree hM p X.admits X.cas X.clock (acts := []) hfr
    (Spec.appliesLoose_calling (g := g) hA hdg hn hkY (Cond.initialized_spec (findClass_of_methodNamed hn) hkY (mv hU wz (args := a))) (X.room_calling (g := g) (R' := rm) hsize hmY hcY hf (by rw [hlY]; omega) hc hsl) hpre)
    ⟨rfl, hU, eU, (CHv.at X hZ hEL H).1⟩ trivial
  obtain ⟨T', X', hS, hgr, hh, rfl⟩ := own_afterW X hg hdg hend hF
  exact ⟨v, ⟨T', Ls ++ L, c0 + rm.cells, s0 + rm.slots⟩, X', hS, hgr, ⟨L, by rw [hh]; exact hQ, rfl, rfl, rfl⟩, hst⟩
theorem own_specHS {T : State} {locs : List Loc} {cells slots : Nat} (X : Stand p l e R s m args below meth c T locs cells slots) (hexec : p.tables.exec = Jvm.exec) {own : String} {index : Nat} (hy1 : y.name = "<init>")
    (hown : s.vm.findClass own = some m.cls) (hlink : (Cond.methodLink own index y).before args s = true) (hinst : (Cond.instanceMethod y).before args s = true) (hcode : (Cond.codeWith y bytes maxL none hs).before args s = true)
    (hy : y.cls ≠ "java/lang/invoke/MethodHandle" ∧ y.cls ≠ "java/lang/invoke/VarHandle")
    {Pre : Pt → Array Value → Prop} {Post : Pt → Array Value → Option Value → Pt → Prop} (hK : BackS l R p e below s args y 3 W Pre Post)
    {g : JFrame} (hg : g.method = m) (hsize : g.locals.size = c.maxLocals) {s₀ : State} (hcome : Steps p.tables e below s₀ (T.setTop g)) {a : Addr} {argsL rest : List Value}
    (hlen : ∀ sig, parseMethodDescriptor y.desc = some sig → argsL.length = sig.parameters.length) (hstack : g.stack = argsL.reverse ++ .ref a :: rest) (hW : 2 * g.monitorRoom + (rest.map fun v => v.category).sum ≤ W)
    (hdg : decode c.code g.pc = .ok (.invokespecial index, 3)) (hpre : ∀ vm₁, s.WarmedH vm₁ → Pre ⟨T.setVm vm₁, locs, cells, slots⟩ (.ref a :: argsL).toArray) :
    ∃ (v : Option Value) (vm₁ : Vm) (B : Pt), s.WarmedH vm₁ ∧ Stand p l e R (s.setVm B.U.vm) m args below meth c B.U B.locs B.cells B.slots ∧ s.Since B.U.vm B.U.heap.size ∧ T.heap.size ≤ B.U.heap.size ∧ Post ⟨T.setVm vm₁, locs, cells, slots⟩ (.ref a :: argsL).toArray v B ∧
      Steps p.tables e below s₀ (B.U.setTop { g with pc := g.pc + 3, stack := v.toList ++ rest }) := by
  obtain ⟨mk, -, -, -, vm₁, hnamed, -, -, -, -, -, -, -, hW₁, step⟩ := Steps.initColdArgsH (e := e) X.here hexec X.warmed (by rw [X.admits.platform]) hown hy1 hy hlink hinst hcode (f := g) hg hlen hstack hdg
  have X₁ := X.noted hW₁
  obtain ⟨v, B, X', q1, q2, q3, q4⟩ := hK m meth c ⟨T.setVm vm₁, locs, cells, slots⟩ { g with stack := rest } (.invokespecial index) mk (.ref a :: argsL).toArray X₁ hg hsize hdg hW (X₁.named hnamed) (hpre vm₁ hW₁)
  refine ⟨v, vm₁, B, hW₁, X', q1, q2, q3, (hcome.trans (step _ fun acts => ?_)).trans q4⟩
  rw [doInvoke_state]; exact Steps.refl _
end OwnHW

def own_MF (l : Launch) (Z : State) (y : MethodName) (cw : Cond) (ws : List Cond) (R : Room) (A : Array Value) (h0 : Heap) (Q : Option Value → Heap → List Loc → Prop) : Prop := MetFree l y (head1 (cw :: ws) R) (fun a_ U_ => a_ = A ∧ Z.Warmed39 U_.vm ∧ U_.heap = h0) (fun _ _ _ _ _ => True) (fun _ U_ o_ U'_ => ∃ v_ L_, o_ = .returned v_ ∧ Q v_ U'_.heap L_ ∧ FrameEnd U_ o_ U'_ L_ R.cells R.slots)
def own_P (h0 : Heap) (n0 : Nat) (v : Value) : Option Value → Heap → List Loc → Prop := fun v' h L => v' = some v ∧ Fr n0 L ∧ h = h0
theorem om {ws : List Cond} {a0 args : Array Value} {Z s : State} {d : Cond} (hZ : Z.Warmed39 s.vm) (hw : ∀ d ∈ ws, d.before a0 Z = true) (i : Nat) (h : ws[i]? = some d) (hd : (d.onTables && d.keepsFace) = true := by first | rfl | simp [Cond.onTables, Cond.keepsFace, Cond.keeps, Cond.steady]) : d.before args s = true := mvT hZ (hw _ (List.mem_of_getElem? h)) hd
abbrev own_W (a0 : Array Value) (Z : State) : Prop := ∀ d ∈ tables_1, d.before a0 Z = true
theorem own_open {l : Launch} {Z : State} {y : MethodName} {cw : Cond} {ws : List Cond} {R : Room} {A : Array Value} {h0 : Heap} {Q : Option Value → Heap → List Loc → Prop} {bytes : ByteArray} {maxL : Nat} {ret : Option FieldType} {Ls : Array Slot} (hp : plainFor y = true)
    (his : ∀ args (s : State) m, (head1 (cw :: ws) R).pre.before args s = true → s.methodNamed? y = some m → ∃ meth c, s.vm.method? m = some meth ∧ meth.code = some c ∧ c.code = bytes ∧ c.maxLocals = maxL ∧ meth.sig.returnType = ret ∧ meth.locks = false)
    (k : ∀ p e s m below meth c s₁, BodyLoose p l y (head1 (cw :: ws) R) bytes maxL ret e s m A below meth c s₁ → Z.Warmed39 s.vm → p.tables.exec = Jvm.exec → c.code = bytes → c.maxLocals = maxL → s.vm.findClass y.cls = some m.cls → Stand p l e R s m A below meth c s₁ [] 0 0 → s₁.heap = h0 → own_Go p e below (own_K s Q R.cells R.slots) s₁ (mkF m 0 Ls []))
    (he : ∀ m, entryFrame m A maxL = mkF m 0 Ls [] := by intro m; first | (simp [entryFrame, mkF, argsToLocals, Value.category]; done) | rfl) : own_MF l Z y cw ws R A h0 Q := by
  refine MetFree.of_bodySF hp his ?_
  intro p e s m args below meth c s₁ Bd hml hP hK
  obtain ⟨rfl, hZ, hh⟩ := hP
  exact own_in (he m) (k p e s m below meth c s₁ Bd hZ Bd.exec Bd.bytes hml (findClass_of_methodNamed Bd.named) (Stand.of_body Bd) (by rw [← hh, Bd.state]; rfl))
abbrev vi (x : Int32) : Slot := .val (.int x)
abbrev vr (x : Addr) : Slot := .val (.ref x)
abbrev vl (x : Int64) : Slot := .val (.long x)
theorem own_w {ws : List Cond} {a0 : Array Value} {Z : State} (hw : ∀ d ∈ ws, d.before a0 Z = true) (i : Nat) {d : Cond} (h : ws[i]? = some d) : d.before a0 Z = true := hw _ (List.mem_of_getElem? h)
set_option maxRecDepth 65536
set_option maxHeartbeats 40000000
abbrev own_y0 : MethodName := (⟨"jdk/internal/util/Preconditions", "checkIndex", "(IILjava/util/function/BiFunction;)I"⟩ : MethodName)
abbrev own_y1 : MethodName := (⟨"java/lang/String", "checkIndex", "(II)V"⟩ : MethodName)
abbrev own_y2 : MethodName := (⟨"java/util/Objects", "requireNonNull", "(Ljava/lang/Object;)Ljava/lang/Object;"⟩ : MethodName)
abbrev own_y3 : MethodName := (⟨"jdk/internal/util/Preconditions", "checkFromIndexSize", "(IIILjava/util/function/BiFunction;)I"⟩ : MethodName)
abbrev own_y4 : MethodName := (⟨"java/lang/String", "checkBoundsOffCount", "(III)I"⟩ : MethodName)
abbrev own_y5 : MethodName := (⟨"java/lang/Math", "min", "(II)I"⟩ : MethodName)
abbrev own_y6 : MethodName := (⟨"java/lang/StringCoding", "countPositives", "([BII)I"⟩ : MethodName)
abbrev own_y7 : MethodName := (⟨"java/util/Arrays", "checkLength", "(II)V"⟩ : MethodName)
abbrev own_y8 : MethodName := (⟨"java/util/Arrays", "copyOfRangeByte", "([BII)[B"⟩ : MethodName)
abbrev own_y9 : MethodName := (⟨"java/util/Arrays", "copyOfRange", "([BII)[B"⟩ : MethodName)
abbrev own_y10 : MethodName := (⟨"java/util/Arrays", "copyOf", "([BI)[B"⟩ : MethodName)
abbrev own_y11 : MethodName := (⟨"java/lang/StringUTF16", "length", "([B)I"⟩ : MethodName)
abbrev own_y12 : MethodName := (⟨"java/lang/StringUTF16", "newBytesLength", "(I)I"⟩ : MethodName)
abbrev own_y13 : MethodName := (⟨"java/lang/StringUTF16", "newBytesFor", "(I)[B"⟩ : MethodName)
abbrev own_y14 : MethodName := (⟨"java/lang/StringUTF16", "putChar", "([BII)V"⟩ : MethodName)
abbrev own_y15 : MethodName := (⟨"java/lang/StringUTF16", "checkBoundsOffCount", "(II[B)V"⟩ : MethodName)
abbrev own_y16 : MethodName := (⟨"java/lang/StringUTF16", "inflate", "([BI[BII)V"⟩ : MethodName)
abbrev own_y17 : MethodName := (⟨"java/lang/StringLatin1", "inflate", "([BI[BII)V"⟩ : MethodName)
abbrev own_y18 : MethodName := (⟨"java/lang/String", "decode2", "(II)C"⟩ : MethodName)
abbrev own_y19 : MethodName := (⟨"java/lang/String", "decode3", "(III)C"⟩ : MethodName)
abbrev own_y20 : MethodName := (⟨"java/lang/String", "decode4", "(IIII)I"⟩ : MethodName)
abbrev own_y21 : MethodName := (⟨"java/lang/String", "isNotContinuation", "(I)Z"⟩ : MethodName)
abbrev own_y22 : MethodName := (⟨"java/lang/String", "isMalformed3", "(III)Z"⟩ : MethodName)
abbrev own_y23 : MethodName := (⟨"java/lang/String", "isMalformed4", "(III)Z"⟩ : MethodName)
abbrev own_y24 : MethodName := (⟨"java/lang/Character", "isSurrogate", "(C)Z"⟩ : MethodName)
abbrev own_y25 : MethodName := (⟨"java/lang/Character", "isSupplementaryCodePoint", "(I)Z"⟩ : MethodName)
abbrev own_y26 : MethodName := (⟨"java/lang/Character", "highSurrogate", "(I)C"⟩ : MethodName)
abbrev own_y27 : MethodName := (⟨"java/lang/Character", "lowSurrogate", "(I)C"⟩ : MethodName)
abbrev own_y28 : MethodName := (⟨"java/lang/String", "decodeUTF8_UTF16", "([BII[BIZ)I"⟩ : MethodName)
abbrev own_y29 : MethodName := (⟨"java/lang/String", "<init>", "(Ljava/nio/charset/Charset;[BII)V"⟩ : MethodName)
abbrev own_y30 : MethodName := (⟨"java/lang/String", "<init>", "([BIILjava/nio/charset/Charset;)V"⟩ : MethodName)
abbrev own_y31 : MethodName := (⟨"com/example/dyadloom/dyadloom/core/TripletReader$Triplet", "rowId", "()Ljava/lang/String;"⟩ : MethodName)
abbrev own_y32 : MethodName := (⟨"java/lang/String", "isLatin1", "()Z"⟩ : MethodName)
abbrev own_y33 : MethodName := (⟨"java/lang/String", "coder", "()B"⟩ : MethodName)
abbrev own_y34 : MethodName := (⟨"java/lang/String", "length", "()I"⟩ : MethodName)
abbrev own_y35 : MethodName := (⟨"java/lang/StringLatin1", "charAt", "([BI)C"⟩ : MethodName)
abbrev own_y36 : MethodName := (⟨"java/lang/StringUTF16", "checkIndex", "(I[B)V"⟩ : MethodName)
abbrev own_y37 : MethodName := (⟨"java/lang/StringUTF16", "getChar", "([BI)C"⟩ : MethodName)
abbrev own_y38 : MethodName := (⟨"java/lang/StringUTF16", "charAt", "([BI)C"⟩ : MethodName)
abbrev own_y39 : MethodName := (⟨"java/lang/String", "charAt", "(I)C"⟩ : MethodName)
abbrev own_y40 : MethodName := (⟨"com/example/dyadloom/dyadloom/core/TripletRowIdPinLaw", "cp", "(I)I"⟩ : MethodName)
abbrev own_y41 : MethodName := (⟨"com/example/dyadloom/dyadloom/core/TripletRowIdPinLaw", "put", "([BII)I"⟩ : MethodName)
abbrev own_y42 : MethodName := (⟨"com/example/dyadloom/dyadloom/core/TripletRowIdPinLaw", "chars", "([CII)I"⟩ : MethodName)
abbrev own_y43 : MethodName := (⟨"com/example/dyadloom/dyadloom/core/TripletReader$Triplet", "<init>", "()V"⟩ : MethodName)
def own_BB (Z : State) (cs : Int32) (fm : Value) (u8 : Addr) : Prop := (¬ cs = (0 : Int32)) ∧ (fm.isRef = true) ∧ (Sta Z Z.heap "java/lang/String" "COMPACT_STRINGS" "Z" (.int cs)) ∧ (Sta Z Z.heap "jdk/internal/util/Preconditions" "SIOOBE_FORMATTER" "Ljava/util/function/BiFunction;" fm) ∧ (Sta Z Z.heap "java/lang/StringUTF16" "$assertionsDisabled" "Z" (.int 1)) ∧ (Sta Z Z.heap "java/lang/StringUTF16" "HI_BYTE_SHIFT" "I" (.int 0)) ∧ (Sta Z Z.heap "java/lang/StringUTF16" "LO_BYTE_SHIFT" "I" (.int 8)) ∧ (Sta Z Z.heap "java/nio/charset/StandardCharsets" "UTF_8" "Ljava/nio/charset/Charset;" (.ref u8)) ∧ (Sta Z Z.heap "sun/nio/cs/UTF_8" "INSTANCE" "Lsun/nio/cs/UTF_8;" (.ref u8)) ∧ (Exa Z Z.heap u8 "sun/nio/cs/UTF_8")
def own_r36 : Room := { frames := 0, cells := 0, slots := 0, locals := 0 }
theorem own_rm36 (l : Launch) (Z : State) (a0 : Array Value) (hw : own_W a0 Z) (i n : Int32) (cs : Int32) (fm : Value) (u8 : Addr) (h0 : Heap) (n0 : Nat) (Z0 : n0 ≤ h0.size) (O0 : Old Z n0 h0) (hi0 : ¬ i < (0 : Int32)) (hin : i < n) (HB : own_BB Z cs fm u8) :
  own_MF l Z own_y0 (Jvm.Cond.code own_y0 jdk_41_method_11_code 3 (some .int)) [] own_r36 #[(.int i), (.int n), fm] h0 (own_P h0 n0 (.int i)) := by
 refine own_open (plainFor_of_name own_pn0) hisR (Ls := #[vi i, vi n, .val fm]) ?_ (fun m => by rcases ref_cases HB.2.1 with rfl | ⟨y2, rfl⟩ <;> first | (simp [entryFrame, mkF, argsToLocals, Value.category]; done) | rfl)
 intro p e s m below meth c s₁ Bd hZ hx hby hml hown X0 e0
 have N0 := Fr.nil n0
 have D := @hb _ _ hby
 refine own_st (T' := s₁) (g' := (mkF m 17 #[vi i, vi n, .val fm] [(.int i)])) (fun t k => ?_) ?_
 ·refine XS.iloadN X0.here hx rfl (D d36_0) rfl ?_
  refine XS.ifNo X0.here hx rfl (D d36_1) rfl ((if0 _ _).trans (flt hi0).1) ?_
  refine XS.iloadN X0.here hx rfl (D d36_4) rfl ?_
  refine XS.iloadN X0.here hx rfl (D d36_5) rfl ?_
  refine XS.icmpYes X0.here hx rfl (pc0 := 6) (pc' := 16) rfl (D d36_6) rfl (tlt hin).1 (by decide) (by decide) ?_
  refine XS.iloadN X0.here hx rfl (D d36_16) rfl ?_
  exact k
 exact own_retI X0 hx Bd (D d36_17) e0 (⟨rfl, N0, rfl⟩) (by decide) (by decide)
def own_r35 : Room := { frames := 1, cells := 0, slots := 0, locals := 14 }
def own_Q35 (Z : State) (i n : Int32) (cs : Int32) (fm : Value) (u8 : Addr) (h0 : Heap) (n0 : Nat) : Option Value → Heap → List Loc → Prop := fun v h L => v = none ∧ Fr n0 L ∧ h = h0
theorem own_rm35 (l : Launch) (Z : State) (a0 : Array Value) (hw : own_W a0 Z) (i n : Int32) (cs : Int32) (fm : Value) (u8 : Addr) (h0 : Heap) (n0 : Nat) (Z0 : n0 ≤ h0.size) (O0 : Old Z n0 h0) (hi0 : ¬ i < (0 : Int32)) (hin : i < n) (HB : own_BB Z cs fm u8) :
  own_MF l Z own_y1 (Jvm.Cond.code own_y1 jdk_42_method_155_code 2 none) [] own_r35 #[(.int i), (.int n)] h0 (own_Q35 Z i n cs fm u8 h0 n0) := by
 refine own_open (plainFor_of_name own_pn1) hisR (Ls := #[vi i, vi n]) ?_
 intro p e s m below meth c s₁ Bd hZ hx hby hml hown X0 e0
 obtain ⟨-, -, -, S_fm, -, -, -, -, -, -⟩ := id HB
 have N0 := Fr.nil n0
 have D := @hb _ _ hby
 refine own_st (T' := s₁) (g' := (mkF m 2 #[vi i, vi n] [(.int n), (.int i)])) (fun t k => ?_) ?_
 ·refine XS.iloadN X0.here hx rfl (D d35_0) rfl ?_
  refine XS.iloadN X0.here hx rfl (D d35_1) rfl ?_
  exact k
 have f1 := S_fm.ext O0.2
 obtain ⟨T2, X2, e2, st2⟩ := getS2 X0 hx hZ hown (host := "") (Or.inl (own_w hw 60 rfl)) Via.refl e0 f1 (g := (mkF m 2 #[vi i, vi n] [(.int n), (.int i)])) rfl (D d35_2)
 refine own_st (g' := (mkF m 5 #[vi i, vi n] [fm, (.int n), (.int i)])) st2 ?_
 obtain ⟨_, _, ⟨T3, L3, c3, n3⟩, -, X3, ⟨Lc3, hQ3, l3, y3, z3⟩, st3⟩ := Jvm.LawKit.callS X2 hx (y := own_y0) hown (om hZ hw 176 rfl) (om hZ hw 177 rfl) (om hZ hw 61 rfl) (om hZ hw 178 rfl) (by decide) (backOf (W := 0) (own_rm36 l Z a0 hw i n cs fm u8 h0 n0 Z0 O0 hi0 hin HB) hZ (own_w hw 178 rfl) (own_w hw 61 rfl) (by decide) (by decide)) (g := (mkF m 5 #[vi i, vi n] [fm, (.int n), (.int i)])) rfl (by rw [hml]; rfl) (argsL := [(.int i), (.int n), fm]) (rest := []) (lenOf own_pd0 rfl) rfl own_w0 (D d35_5) (fun _ _ => ⟨rfl, e2, (by decide : 0 + 0 ≤ _), (by decide : 0 + 0 ≤ _)⟩)
 dsimp only [Pt.U, Pt.locs, Pt.cells, Pt.slots] at X3 l3 y3 z3 st3 hQ3
 subst l3 y3 z3
 obtain ⟨rfl, N3q, e3⟩ := hQ3
 have N3 := Fr.app N0 N3q
 refine own_st (g' := (mkF m 8 #[vi i, vi n] [(.int i)])) st3 ?_
 refine own_st (T' := T3) (g' := (mkF m 9 #[vi i, vi n] [])) (fun t k => ?_) ?_
 ·refine XS.pop X3.here hx rfl (D d35_8) rfl rfl ?_
  exact k
 exact own_retV X3 hx Bd (D d35_9) e3 (⟨rfl, N3, rfl⟩) (by decide) (by decide)
def own_r8 : Room := { frames := 0, cells := 0, slots := 0, locals := 0 }
theorem own_rm8 (l : Launch) (Z : State) (a0 : Array Value) (hw : own_W a0 Z) (r : Addr) (cs : Int32) (fm : Value) (u8 : Addr) (h0 : Heap) (n0 : Nat) (Z0 : n0 ≤ h0.size) (O0 : Old Z n0 h0) (HB : own_BB Z cs fm u8) :
  own_MF l Z own_y2 (Jvm.Cond.code own_y2 jdk_31_method_10_code 1 (some (.object "java/lang/Object"))) [] own_r8 #[(.ref r)] h0 (own_P h0 n0 (.ref r)) := by
 refine own_open (plainFor_of_name own_pn2) hisR (Ls := #[vr r]) ?_
 intro p e s m below meth c s₁ Bd hZ hx hby hml hown X0 e0
 have N0 := Fr.nil n0
 have D := @hb _ _ hby
 refine own_st (T' := s₁) (g' := (mkF m 13 #[vr r] [(.ref r)])) (fun t k => ?_) ?_
 ·refine XS.aloadN X0.here hx rfl (D d8_0) rfl rfl ?_
  refine XS.ifnonnullYes X0.here hx rfl (pc0 := 1) (pc' := 12) rfl (D d8_1) rfl (by decide) (by decide) ?_
  refine XS.aloadN X0.here hx rfl (D d8_12) rfl rfl ?_
  exact k
 exact own_retA X0 hx Bd rfl rfl (D d8_13) e0 (⟨rfl, N0, rfl⟩) (by decide) (by decide)
def own_r10 : Room := { frames := 0, cells := 0, slots := 0, locals := 0 }
theorem own_rm10 (l : Launch) (Z : State) (a0 : Array Value) (hw : own_W a0 Z) (of_ sz_ lz : Int32) (cs : Int32) (fm : Value) (u8 : Addr) (h0 : Heap) (n0 : Nat) (Z0 : n0 ≤ h0.size) (O0 : Old Z n0 h0) (hq1 : ¬ ((lz ||| of_) ||| sz_) < (0 : Int32)) (hq2 : ¬ (lz - of_) < sz_) (HB : own_BB Z cs fm u8) :
  own_MF l Z own_y3 (Jvm.Cond.code own_y3 jdk_41_method_13_code 4 (some .int)) [] own_r10 #[(.int of_), (.int sz_), (.int lz), fm] h0 (own_P h0 n0 (.int of_)) := by
 refine own_open (plainFor_of_name own_pn0) hisR (Ls := #[vi of_, vi sz_, vi lz, .val fm]) ?_ (fun m => by rcases ref_cases HB.2.1 with rfl | ⟨y3, rfl⟩ <;> first | (simp [entryFrame, mkF, argsToLocals, Value.category]; done) | rfl)
 intro p e s m below meth c s₁ Bd hZ hx hby hml hown X0 e0
 have N0 := Fr.nil n0
 have D := @hb _ _ hby
 refine own_st (T' := s₁) (g' := (mkF m 24 #[vi of_, vi sz_, vi lz, .val fm] [(.int of_)])) (fun t k => ?_) ?_
 ·refine XS.iloadN X0.here hx rfl (D d10_0) rfl ?_
  refine XS.iloadN X0.here hx rfl (D d10_1) rfl ?_
  refine XS.ior X0.here hx rfl (D d10_2) rfl ?_
  refine XS.iloadN X0.here hx rfl (D d10_3) rfl ?_
  refine XS.ior X0.here hx rfl (D d10_4) rfl ?_
  refine XS.ifNo X0.here hx rfl (D d10_5) rfl ((if0 _ _).trans (flt hq1).1) ?_
  refine XS.iloadN X0.here hx rfl (D d10_8) rfl ?_
  refine XS.iloadN X0.here hx rfl (D d10_9) rfl ?_
  refine XS.iloadN X0.here hx rfl (D d10_10) rfl ?_
  refine XS.isub X0.here hx rfl (D d10_11) rfl ?_
  refine XS.icmpYes X0.here hx rfl (pc0 := 12) (pc' := 23) rfl (D d10_12) rfl (flt hq2).2.2.2 (by decide) (by decide) ?_
  refine XS.iloadN X0.here hx rfl (D d10_23) rfl ?_
  exact k
 exact own_retI X0 hx Bd (D d10_24) e0 (⟨rfl, N0, rfl⟩) (by decide) (by decide)
def own_r9 : Room := { frames := 1, cells := 0, slots := 0, locals := 15 }
theorem own_rm9 (l : Launch) (Z : State) (a0 : Array Value) (hw : own_W a0 Z) (of_ sz_ lz : Int32) (cs : Int32) (fm : Value) (u8 : Addr) (h0 : Heap) (n0 : Nat) (Z0 : n0 ≤ h0.size) (O0 : Old Z n0 h0) (hq1 : ¬ ((lz ||| of_) ||| sz_) < (0 : Int32)) (hq2 : ¬ (lz - of_) < sz_) (HB : own_BB Z cs fm u8) :
  own_MF l Z own_y4 (Jvm.Cond.code own_y4 jdk_42_method_157_code 3 (some .int)) [] own_r9 #[(.int of_), (.int sz_), (.int lz)] h0 (own_P h0 n0 (.int of_)) := by
 refine own_open (plainFor_of_name own_pn1) hisR (Ls := #[vi of_, vi sz_, vi lz]) ?_
 intro p e s m below meth c s₁ Bd hZ hx hby hml hown X0 e0
 obtain ⟨-, -, -, S_fm, -, -, -, -, -, -⟩ := id HB
 have N0 := Fr.nil n0
 have D := @hb _ _ hby
 refine own_st (T' := s₁) (g' := (mkF m 3 #[vi of_, vi sz_, vi lz] [(.int lz), (.int sz_), (.int of_)])) (fun t k => ?_) ?_
 ·refine XS.iloadN X0.here hx rfl (D d9_0) rfl ?_
  refine XS.iloadN X0.here hx rfl (D d9_1) rfl ?_
  refine XS.iloadN X0.here hx rfl (D d9_2) rfl ?_
  exact k
 have f1 := S_fm.ext O0.2
 obtain ⟨T2, X2, e2, st2⟩ := getS2 X0 hx hZ hown (host := "") (Or.inl (own_w hw 60 rfl)) Via.refl e0 f1 (g := (mkF m 3 #[vi of_, vi sz_, vi lz] [(.int lz), (.int sz_), (.int of_)])) rfl (D d9_3)
 refine own_st (g' := (mkF m 6 #[vi of_, vi sz_, vi lz] [fm, (.int lz), (.int sz_), (.int of_)])) st2 ?_
 obtain ⟨_, _, ⟨T3, L3, c3, n3⟩, -, X3, ⟨Lc3, hQ3, l3, y3, z3⟩, st3⟩ := Jvm.LawKit.callS X2 hx (y := own_y3) hown (om hZ hw 62 rfl) (om hZ hw 63 rfl) (om hZ hw 61 rfl) (om hZ hw 64 rfl) (by decide) (backOf (W := 0) (own_rm10 l Z a0 hw of_ sz_ lz cs fm u8 h0 n0 Z0 O0 hq1 hq2 HB) hZ (own_w hw 64 rfl) (own_w hw 61 rfl) (by decide) (by decide)) (g := (mkF m 6 #[vi of_, vi sz_, vi lz] [fm, (.int lz), (.int sz_), (.int of_)])) rfl (by rw [hml]; rfl) (argsL := [(.int of_), (.int sz_), (.int lz), fm]) (rest := []) (lenOf own_pd1 rfl) rfl own_w0 (D d9_6) (fun _ _ => ⟨rfl, e2, (by decide : 0 + 0 ≤ _), (by decide : 0 + 0 ≤ _)⟩)
 dsimp only [Pt.U, Pt.locs, Pt.cells, Pt.slots] at X3 l3 y3 z3 st3 hQ3
 subst l3 y3 z3
 obtain ⟨rfl, N3q, e3⟩ := hQ3
 have N3 := Fr.app N0 N3q
 refine own_st (g' := (mkF m 9 #[vi of_, vi sz_, vi lz] [(.int of_)])) st3 ?_
 exact own_retI X3 hx Bd (D d9_9) e3 (⟨rfl, N3, rfl⟩) (by decide) (by decide)
def own_r16 : Room := { frames := 0, cells := 0, slots := 0, locals := 0 }
theorem own_rm16 (l : Launch) (Z : State) (a0 : Array Value) (hw : own_W a0 Z) (ma mb : Int32) (cs : Int32) (fm : Value) (u8 : Addr) (h0 : Heap) (n0 : Nat) (Z0 : n0 ≤ h0.size) (O0 : Old Z n0 h0) (hq : mb < ma) (HB : own_BB Z cs fm u8) :
  own_MF l Z own_y5 (Jvm.Cond.code own_y5 jdk_29_method_69_code 2 (some .int)) [] own_r16 #[(.int ma), (.int mb)] h0 (own_P h0 n0 (.int mb)) := by
 refine own_open (Jvm.Free.JP.mathPlain rfl (by decide +kernel)) hisR (Ls := #[vi ma, vi mb]) ?_
 intro p e s m below meth c s₁ Bd hZ hx hby hml hown X0 e0
 have N0 := Fr.nil n0
 have D := @hb _ _ hby
 refine own_st (T' := s₁) (g' := (mkF m 10 #[vi ma, vi mb] [(.int mb)])) (fun t k => ?_) ?_
 ·refine XS.iloadN X0.here hx rfl (D d16_0) rfl ?_
  refine XS.iloadN X0.here hx rfl (D d16_1) rfl ?_
  refine XS.icmpYes X0.here hx rfl (pc0 := 2) (pc' := 9) rfl (D d16_2) rfl (tlt hq).2.2.1 (by decide) (by decide) ?_
  refine XS.iloadN X0.here hx rfl (D d16_9) rfl ?_
  exact k
 exact own_retI X0 hx Bd (D d16_10) e0 (⟨rfl, N0, rfl⟩) (by decide) (by decide)
def own_r12z : Room := { frames := 0, cells := 0, slots := 0, locals := 0 }
theorem own_rm12z (l : Launch) (Z : State) (a0 : Array Value) (hw : own_W a0 Z) (arr : Addr) (ka : ClassId) (bl sg : List Int32) (st : Int32) (pn : Nat) (ln : Int32) (cs : Int32) (fm : Value) (u8 : Addr) (h0 : Heap) (n0 : Nat) (Z0 : n0 ≤ h0.size) (O0 : Old Z n0 h0) (V_a : Arv Z h0 arr ka .byte (16 : Int32) (bl.map Value.int) (.int 0)) (hst : st.toInt = (pn : Int)) (hsg : own_seg bl pn sg) (hln : ln.toInt = (sg.length : Int)) (hs1 : 1 ≤ sg.length) (hx0 : sg.getD 0 0 < (0 : Int32)) (HB : own_BB Z cs fm u8) :
  own_MF l Z own_y6 (Jvm.Cond.code own_y6 jdk_123_method_3_code 5 (some .int)) [] own_r12z #[(.ref arr), (.int st), (.int ln)] h0 (own_P h0 n0 (.int 0)) := by
 refine own_open (plainFor_of_name own_pn3) hisR (Ls := #[vr arr, vi st, vi ln, .unset, .unset]) ?_
 intro p e s m below meth c s₁ Bd hZ hx hby hml hown X0 e0
 have N0 := Fr.nil n0
 have D := @hb _ _ hby
 have hp3 := hsg.2.1
 have hg8 := hsg.2.2.1
 refine own_st (T' := s₁) (g' := (mkF m 16 #[vr arr, vi st, vi ln, vi (st + ln), vi st] [(.int st), (.ref arr)])) (fun t k => ?_) ?_
 ·refine XS.iloadN X0.here hx rfl (D d12_0) rfl ?_
  refine XS.iloadN X0.here hx rfl (D d12_1) rfl ?_
  refine XS.iadd X0.here hx rfl (D d12_2) rfl ?_
  refine XS.istoreN X0.here hx rfl (D d12_3) rfl (l' := #[vr arr, vi st, vi ln, vi (st + ln), .unset]) rfl ?_
  refine XS.iloadN X0.here hx rfl (D d12_4) rfl ?_
  refine XS.istore X0.here hx rfl (D d12_5) rfl (l' := #[vr arr, vi st, vi ln, vi (st + ln), vi st]) rfl ?_
  refine XS.iload X0.here hx rfl (D d12_7) rfl ?_
  refine XS.iloadN X0.here hx rfl (D d12_9) rfl ?_
  refine XS.icmpNo X0.here hx rfl (D d12_10) rfl (tlt ((own_ltN hst (own_add hst hln (by omega))).mpr (by omega))).2.1 ?_
  refine XS.aloadN X0.here hx rfl (D d12_13) rfl rfl ?_
  refine XS.iload X0.here hx rfl (D d12_14) rfl ?_
  exact k
 obtain ⟨cl1, Ar1, q1, S1, M1, H1, G1⟩ := id V_a
 refine own_st (T' := s₁) (g' := (mkF m 24 #[vr arr, vi st, vi ln, vi (st + ln), vi st] [(.int (st - st))])) (fun t k => ?_) ?_
 ·refine X0.baloadBytes hx (j := st) (v := (.int (sg.getD 0 0))) (by rw [e0]; exact Ar1.1) (State.isArrayOf_alike hZ.alike Ar1.2.1) Ar1.2.2 (inb_of S1 (own_inN hst own_i16 (by omega))) (Has.at H1 (inb_of S1 (own_inN hst own_i16 (by omega))) ((own_lget bl (st).toNatClampNeg).trans (congrArg Value.int (own_rd hsg hst (by omega))))) (g := (mkF m 16 #[vr arr, vi st, vi ln, vi (st + ln), vi st] [(.int st), (.ref arr)])) rfl rfl (D d12_16) _ ?_
  refine XS.ifNo X0.here hx rfl (D d12_17) rfl ((if0 _ _).trans (tlt hx0).2.1) ?_
  refine XS.iload X0.here hx rfl (D d12_20) rfl ?_
  refine XS.iloadN X0.here hx rfl (D d12_22) rfl ?_
  refine XS.isub X0.here hx rfl (D d12_23) rfl ?_
  exact k
 rw [show (st - st) = (0 : Int32) from Int32.sub_self st]
 exact own_retI X0 hx Bd (D d12_24) e0 (⟨rfl, N0, rfl⟩) (by decide) (by decide)
def own_r12o : Room := { frames := 0, cells := 0, slots := 0, locals := 0 }
theorem own_rm12o (l : Launch) (Z : State) (a0 : Array Value) (hw : own_W a0 Z) (arr : Addr) (ka : ClassId) (bl sg : List Int32) (st : Int32) (pn : Nat) (ln : Int32) (cs : Int32) (fm : Value) (u8 : Addr) (h0 : Heap) (n0 : Nat) (Z0 : n0 ≤ h0.size) (O0 : Old Z n0 h0) (V_a : Arv Z h0 arr ka .byte (16 : Int32) (bl.map Value.int) (.int 0)) (hst : st.toInt = (pn : Int)) (hsg : own_seg bl pn sg) (hln : ln.toInt = (sg.length : Int)) (hs2 : 2 ≤ sg.length) (hx0 : ¬ sg.getD 0 0 < (0 : Int32)) (hx1 : sg.getD 1 0 < (0 : Int32)) (HB : own_BB Z cs fm u8) :
  own_MF l Z own_y6 (Jvm.Cond.code own_y6 jdk_123_method_3_code 5 (some .int)) [] own_r12o #[(.ref arr), (.int st), (.int ln)] h0 (own_P h0 n0 (.int 1)) := by
 refine own_open (plainFor_of_name own_pn3) hisR (Ls := #[vr arr, vi st, vi ln, .unset, .unset]) ?_
 intro p e s m below meth c s₁ Bd hZ hx hby hml hown X0 e0
 have N0 := Fr.nil n0
 have D := @hb _ _ hby
 have hp3 := hsg.2.1
 have hg8 := hsg.2.2.1
 refine own_st (T' := s₁) (g' := (mkF m 16 #[vr arr, vi st, vi ln, vi (st + ln), vi st] [(.int st), (.ref arr)])) (fun t k => ?_) ?_
 ·refine XS.iloadN X0.here hx rfl (D d12_0) rfl ?_
  refine XS.iloadN X0.here hx rfl (D d12_1) rfl ?_
  refine XS.iadd X0.here hx rfl (D d12_2) rfl ?_
  refine XS.istoreN X0.here hx rfl (D d12_3) rfl (l' := #[vr arr, vi st, vi ln, vi (st + ln), .unset]) rfl ?_
  refine XS.iloadN X0.here hx rfl (D d12_4) rfl ?_
  refine XS.istore X0.here hx rfl (D d12_5) rfl (l' := #[vr arr, vi st, vi ln, vi (st + ln), vi st]) rfl ?_
  refine XS.iload X0.here hx rfl (D d12_7) rfl ?_
  refine XS.iloadN X0.here hx rfl (D d12_9) rfl ?_
  refine XS.icmpNo X0.here hx rfl (D d12_10) rfl (tlt ((own_ltN hst (own_add hst hln (by omega))).mpr (by omega))).2.1 ?_
  refine XS.aloadN X0.here hx rfl (D d12_13) rfl rfl ?_
  refine XS.iload X0.here hx rfl (D d12_14) rfl ?_
  exact k
 obtain ⟨cl1, Ar1, q1, S1, M1, H1, G1⟩ := id V_a
 refine own_st (T' := s₁) (g' := (mkF m 16 #[vr arr, vi st, vi ln, vi (st + ln), vi (st + (1 : Int32))] [(.int (st + (1 : Int32))), (.ref arr)])) (fun t k => ?_) ?_
 ·refine X0.baloadBytes hx (j := st) (v := (.int (sg.getD 0 0))) (by rw [e0]; exact Ar1.1) (State.isArrayOf_alike hZ.alike Ar1.2.1) Ar1.2.2 (inb_of S1 (own_inN hst own_i16 (by omega))) (Has.at H1 (inb_of S1 (own_inN hst own_i16 (by omega))) ((own_lget bl (st).toNatClampNeg).trans (congrArg Value.int (own_rd hsg hst (by omega))))) (g := (mkF m 16 #[vr arr, vi st, vi ln, vi (st + ln), vi st] [(.int st), (.ref arr)])) rfl rfl (D d12_16) _ ?_
  refine XS.ifYes X0.here hx rfl (pc0 := 17) (pc' := 25) rfl (D d12_17) rfl ((if0 _ _).trans (flt hx0).2.1) (by decide) (by decide) ?_
  refine XS.iinc X0.here hx rfl (D d12_25) rfl (l' := #[vr arr, vi st, vi ln, vi (st + ln), vi (st + (1 : Int32))]) rfl ?_
  refine XS.goto X0.here hx rfl (pc0 := 28) (pc' := 7) rfl (D d12_28) (by decide) (by decide) ?_
  refine XS.iload X0.here hx rfl (D d12_7) rfl ?_
  refine XS.iloadN X0.here hx rfl (D d12_9) rfl ?_
  refine XS.icmpNo X0.here hx rfl (D d12_10) rfl (tlt ((own_ltN (own_add hst own_i1 (by omega)) (own_add hst hln (by omega))).mpr (by omega))).2.1 ?_
  refine XS.aloadN X0.here hx rfl (D d12_13) rfl rfl ?_
  refine XS.iload X0.here hx rfl (D d12_14) rfl ?_
  exact k
 obtain ⟨cl2, Ar2, q2, S2, M2, H2, G2⟩ := id V_a
 refine own_st (T' := s₁) (g' := (mkF m 24 #[vr arr, vi st, vi ln, vi (st + ln), vi (st + (1 : Int32))] [(.int ((st + (1 : Int32)) - st))])) (fun t k => ?_) ?_
 ·refine X0.baloadBytes hx (j := (st + (1 : Int32))) (v := (.int (sg.getD 1 0))) (by rw [e0]; exact Ar2.1) (State.isArrayOf_alike hZ.alike Ar2.2.1) Ar2.2.2 (inb_of S2 (own_inN (own_add hst own_i1 (by omega)) own_i16 (by omega))) (Has.at H2 (inb_of S2 (own_inN (own_add hst own_i1 (by omega)) own_i16 (by omega))) ((own_lget bl ((st + (1 : Int32))).toNatClampNeg).trans (congrArg Value.int (own_rd hsg (own_add hst own_i1 (by omega)) (by omega))))) (g := (mkF m 16 #[vr arr, vi st, vi ln, vi (st + ln), vi (st + (1 : Int32))] [(.int (st + (1 : Int32))), (.ref arr)])) rfl rfl (D d12_16) _ ?_
  refine XS.ifNo X0.here hx rfl (D d12_17) rfl ((if0 _ _).trans (tlt hx1).2.1) ?_
  refine XS.iload X0.here hx rfl (D d12_20) rfl ?_
  refine XS.iloadN X0.here hx rfl (D d12_22) rfl ?_
  refine XS.isub X0.here hx rfl (D d12_23) rfl ?_
  exact k
 rw [show ((st + (1 : Int32)) - st) = (1 : Int32) from own_sl st 1]
 exact own_retI X0 hx Bd (D d12_24) e0 (⟨rfl, N0, rfl⟩) (by decide) (by decide)
def own_r12a1 : Room := { frames := 0, cells := 0, slots := 0, locals := 0 }
theorem own_rm12a1 (l : Launch) (Z : State) (a0 : Array Value) (hw : own_W a0 Z) (arr : Addr) (ka : ClassId) (bl sg : List Int32) (st : Int32) (pn : Nat) (cs : Int32) (fm : Value) (u8 : Addr) (h0 : Heap) (n0 : Nat) (Z0 : n0 ≤ h0.size) (O0 : Old Z n0 h0) (V_a : Arv Z h0 arr ka .byte (16 : Int32) (bl.map Value.int) (.int 0)) (hst : st.toInt = (pn : Int)) (hsg : own_seg bl pn sg) (hsl : sg.length = 1) (hx0 : ¬ sg.getD 0 0 < (0 : Int32)) (HB : own_BB Z cs fm u8) :
  own_MF l Z own_y6 (Jvm.Cond.code own_y6 jdk_123_method_3_code 5 (some .int)) [] own_r12a1 #[(.ref arr), (.int st), (.int 1)] h0 (own_P h0 n0 (.int 1)) := by
 refine own_open (plainFor_of_name own_pn3) hisR (Ls := #[vr arr, vi st, vi 1, .unset, .unset]) ?_
 intro p e s m below meth c s₁ Bd hZ hx hby hml hown X0 e0
 have N0 := Fr.nil n0
 have D := @hb _ _ hby
 have hp3 := hsg.2.1
 have hg8 := hsg.2.2.1
 have hln : (1 : Int32).toInt = (sg.length : Int) := by rw [hsl]; rfl
 refine own_st (T' := s₁) (g' := (mkF m 16 #[vr arr, vi st, vi 1, vi (st + (1 : Int32)), vi st] [(.int st), (.ref arr)])) (fun t k => ?_) ?_
 ·refine XS.iloadN X0.here hx rfl (D d12_0) rfl ?_
  refine XS.iloadN X0.here hx rfl (D d12_1) rfl ?_
  refine XS.iadd X0.here hx rfl (D d12_2) rfl ?_
  refine XS.istoreN X0.here hx rfl (D d12_3) rfl (l' := #[vr arr, vi st, vi 1, vi (st + (1 : Int32)), .unset]) rfl ?_
  refine XS.iloadN X0.here hx rfl (D d12_4) rfl ?_
  refine XS.istore X0.here hx rfl (D d12_5) rfl (l' := #[vr arr, vi st, vi 1, vi (st + (1 : Int32)), vi st]) rfl ?_
  refine XS.iload X0.here hx rfl (D d12_7) rfl ?_
  refine XS.iloadN X0.here hx rfl (D d12_9) rfl ?_
  refine XS.icmpNo X0.here hx rfl (D d12_10) rfl (tlt ((own_ltN hst (own_add hst hln (by omega))).mpr (by omega))).2.1 ?_
  refine XS.aloadN X0.here hx rfl (D d12_13) rfl rfl ?_
  refine XS.iload X0.here hx rfl (D d12_14) rfl ?_
  exact k
 obtain ⟨cl1, Ar1, q1, S1, M1, H1, G1⟩ := id V_a
 refine own_st (T' := s₁) (g' := (mkF m 32 #[vr arr, vi st, vi 1, vi (st + (1 : Int32)), vi (st + (1 : Int32))] [(.int 1)])) (fun t k => ?_) ?_
 ·refine X0.baloadBytes hx (j := st) (v := (.int (sg.getD 0 0))) (by rw [e0]; exact Ar1.1) (State.isArrayOf_alike hZ.alike Ar1.2.1) Ar1.2.2 (inb_of S1 (own_inN hst own_i16 (by omega))) (Has.at H1 (inb_of S1 (own_inN hst own_i16 (by omega))) ((own_lget bl (st).toNatClampNeg).trans (congrArg Value.int (own_rd hsg hst (by omega))))) (g := (mkF m 16 #[vr arr, vi st, vi 1, vi (st + (1 : Int32)), vi st] [(.int st), (.ref arr)])) rfl rfl (D d12_16) _ ?_
  refine XS.ifYes X0.here hx rfl (pc0 := 17) (pc' := 25) rfl (D d12_17) rfl ((if0 _ _).trans (flt hx0).2.1) (by decide) (by decide) ?_
  refine XS.iinc X0.here hx rfl (D d12_25) rfl (l' := #[vr arr, vi st, vi 1, vi (st + (1 : Int32)), vi (st + (1 : Int32))]) rfl ?_
  refine XS.goto X0.here hx rfl (pc0 := 28) (pc' := 7) rfl (D d12_28) (by decide) (by decide) ?_
  refine XS.iload X0.here hx rfl (D d12_7) rfl ?_
  refine XS.iloadN X0.here hx rfl (D d12_9) rfl ?_
  refine XS.icmpYes X0.here hx rfl (pc0 := 10) (pc' := 31) rfl (D d12_10) rfl (flt Int32.lt_irrefl).2.1 (by decide) (by decide) ?_
  refine XS.iloadN X0.here hx rfl (D d12_31) rfl ?_
  exact k
 exact own_retI X0 hx Bd (D d12_32) e0 (⟨rfl, N0, rfl⟩) (by decide) (by decide)
def own_r12a2 : Room := { frames := 0, cells := 0, slots := 0, locals := 0 }
theorem own_rm12a2 (l : Launch) (Z : State) (a0 : Array Value) (hw : own_W a0 Z) (arr : Addr) (ka : ClassId) (bl sg : List Int32) (st : Int32) (pn : Nat) (cs : Int32) (fm : Value) (u8 : Addr) (h0 : Heap) (n0 : Nat) (Z0 : n0 ≤ h0.size) (O0 : Old Z n0 h0) (V_a : Arv Z h0 arr ka .byte (16 : Int32) (bl.map Value.int) (.int 0)) (hst : st.toInt = (pn : Int)) (hsg : own_seg bl pn sg) (hsl : sg.length = 2) (hx0 : ¬ sg.getD 0 0 < (0 : Int32)) (hx1 : ¬ sg.getD 1 0 < (0 : Int32)) (HB : own_BB Z cs fm u8) :
  own_MF l Z own_y6 (Jvm.Cond.code own_y6 jdk_123_method_3_code 5 (some .int)) [] own_r12a2 #[(.ref arr), (.int st), (.int 2)] h0 (own_P h0 n0 (.int 2)) := by
 refine own_open (plainFor_of_name own_pn3) hisR (Ls := #[vr arr, vi st, vi 2, .unset, .unset]) ?_
 intro p e s m below meth c s₁ Bd hZ hx hby hml hown X0 e0
 have N0 := Fr.nil n0
 have D := @hb _ _ hby
 have hp3 := hsg.2.1
 have hg8 := hsg.2.2.1
 have hln : (2 : Int32).toInt = (sg.length : Int) := by rw [hsl]; rfl
 refine own_st (T' := s₁) (g' := (mkF m 16 #[vr arr, vi st, vi 2, vi (st + (2 : Int32)), vi st] [(.int st), (.ref arr)])) (fun t k => ?_) ?_
 ·refine XS.iloadN X0.here hx rfl (D d12_0) rfl ?_
  refine XS.iloadN X0.here hx rfl (D d12_1) rfl ?_
  refine XS.iadd X0.here hx rfl (D d12_2) rfl ?_
  refine XS.istoreN X0.here hx rfl (D d12_3) rfl (l' := #[vr arr, vi st, vi 2, vi (st + (2 : Int32)), .unset]) rfl ?_
  refine XS.iloadN X0.here hx rfl (D d12_4) rfl ?_
  refine XS.istore X0.here hx rfl (D d12_5) rfl (l' := #[vr arr, vi st, vi 2, vi (st + (2 : Int32)), vi st]) rfl ?_
  refine XS.iload X0.here hx rfl (D d12_7) rfl ?_
  refine XS.iloadN X0.here hx rfl (D d12_9) rfl ?_
  refine XS.icmpNo X0.here hx rfl (D d12_10) rfl (tlt ((own_ltN hst (own_add hst hln (by omega))).mpr (by omega))).2.1 ?_
  refine XS.aloadN X0.here hx rfl (D d12_13) rfl rfl ?_
  refine XS.iload X0.here hx rfl (D d12_14) rfl ?_
  exact k
 obtain ⟨cl1, Ar1, q1, S1, M1, H1, G1⟩ := id V_a
 refine own_st (T' := s₁) (g' := (mkF m 16 #[vr arr, vi st, vi 2, vi (st + (2 : Int32)), vi (st + (1 : Int32))] [(.int (st + (1 : Int32))), (.ref arr)])) (fun t k => ?_) ?_
 ·refine X0.baloadBytes hx (j := st) (v := (.int (sg.getD 0 0))) (by rw [e0]; exact Ar1.1) (State.isArrayOf_alike hZ.alike Ar1.2.1) Ar1.2.2 (inb_of S1 (own_inN hst own_i16 (by omega))) (Has.at H1 (inb_of S1 (own_inN hst own_i16 (by omega))) ((own_lget bl (st).toNatClampNeg).trans (congrArg Value.int (own_rd hsg hst (by omega))))) (g := (mkF m 16 #[vr arr, vi st, vi 2, vi (st + (2 : Int32)), vi st] [(.int st), (.ref arr)])) rfl rfl (D d12_16) _ ?_
  refine XS.ifYes X0.here hx rfl (pc0 := 17) (pc' := 25) rfl (D d12_17) rfl ((if0 _ _).trans (flt hx0).2.1) (by decide) (by decide) ?_
  refine XS.iinc X0.here hx rfl (D d12_25) rfl (l' := #[vr arr, vi st, vi 2, vi (st + (2 : Int32)), vi (st + (1 : Int32))]) rfl ?_
  refine XS.goto X0.here hx rfl (pc0 := 28) (pc' := 7) rfl (D d12_28) (by decide) (by decide) ?_
  refine XS.iload X0.here hx rfl (D d12_7) rfl ?_
  refine XS.iloadN X0.here hx rfl (D d12_9) rfl ?_
  refine XS.icmpNo X0.here hx rfl (D d12_10) rfl (tlt ((own_ltN (own_add hst own_i1 (by omega)) (own_add hst hln (by omega))).mpr (by omega))).2.1 ?_
  refine XS.aloadN X0.here hx rfl (D d12_13) rfl rfl ?_
  refine XS.iload X0.here hx rfl (D d12_14) rfl ?_
  exact k
 obtain ⟨cl2, Ar2, q2, S2, M2, H2, G2⟩ := id V_a
 refine own_st (T' := s₁) (g' := (mkF m 32 #[vr arr, vi st, vi 2, vi (st + (2 : Int32)), vi ((st + (1 : Int32)) + (1 : Int32))] [(.int 2)])) (fun t k => ?_) ?_
 ·refine X0.baloadBytes hx (j := (st + (1 : Int32))) (v := (.int (sg.getD 1 0))) (by rw [e0]; exact Ar2.1) (State.isArrayOf_alike hZ.alike Ar2.2.1) Ar2.2.2 (inb_of S2 (own_inN (own_add hst own_i1 (by omega)) own_i16 (by omega))) (Has.at H2 (inb_of S2 (own_inN (own_add hst own_i1 (by omega)) own_i16 (by omega))) ((own_lget bl ((st + (1 : Int32))).toNatClampNeg).trans (congrArg Value.int (own_rd hsg (own_add hst own_i1 (by omega)) (by omega))))) (g := (mkF m 16 #[vr arr, vi st, vi 2, vi (st + (2 : Int32)), vi (st + (1 : Int32))] [(.int (st + (1 : Int32))), (.ref arr)])) rfl rfl (D d12_16) _ ?_
  refine XS.ifYes X0.here hx rfl (pc0 := 17) (pc' := 25) rfl (D d12_17) rfl ((if0 _ _).trans (flt hx1).2.1) (by decide) (by decide) ?_
  refine XS.iinc X0.here hx rfl (D d12_25) rfl (l' := #[vr arr, vi st, vi 2, vi (st + (2 : Int32)), vi ((st + (1 : Int32)) + (1 : Int32))]) rfl ?_
  refine XS.goto X0.here hx rfl (pc0 := 28) (pc' := 7) rfl (D d12_28) (by decide) (by decide) ?_
  refine XS.iload X0.here hx rfl (D d12_7) rfl ?_
  refine XS.iloadN X0.here hx rfl (D d12_9) rfl ?_
  refine XS.icmpYes X0.here hx rfl (pc0 := 10) (pc' := 31) rfl (D d12_10) rfl (flt (fun q => absurd ((own_ltN (own_add (own_add hst own_i1 (by omega)) own_i1 (by omega)) (own_add hst hln (by omega))).mp q) (by omega))).2.1 (by decide) (by decide) ?_
  refine XS.iloadN X0.here hx rfl (D d12_31) rfl ?_
  exact k
 exact own_retI X0 hx Bd (D d12_32) e0 (⟨rfl, N0, rfl⟩) (by decide) (by decide)
def own_r15 : Room := { frames := 0, cells := 0, slots := 0, locals := 0 }
def own_Q15 (Z : State) (fr_ to_ : Int32) (cs : Int32) (fm : Value) (u8 : Addr) (h0 : Heap) (n0 : Nat) : Option Value → Heap → List Loc → Prop := fun v h L => v = none ∧ Fr n0 L ∧ h = h0
theorem own_rm15 (l : Launch) (Z : State) (a0 : Array Value) (hw : own_W a0 Z) (fr_ to_ : Int32) (cs : Int32) (fm : Value) (u8 : Addr) (h0 : Heap) (n0 : Nat) (Z0 : n0 ≤ h0.size) (O0 : Old Z n0 h0) (hq : ¬ to_ < fr_) (HB : own_BB Z cs fm u8) :
  own_MF l Z own_y7 (Jvm.Cond.code own_y7 jdk_65_method_131_code 2 none) [] own_r15 #[(.int fr_), (.int to_)] h0 (own_Q15 Z fr_ to_ cs fm u8 h0 n0) := by
 refine own_open (plainFor_of_name own_pn4) hisR (Ls := #[vi fr_, vi to_]) ?_
 intro p e s m below meth c s₁ Bd hZ hx hby hml hown X0 e0
 have N0 := Fr.nil n0
 have D := @hb _ _ hby
 refine own_st (T' := s₁) (g' := (mkF m 37 #[vi fr_, vi to_] [])) (fun t k => ?_) ?_
 ·refine XS.iloadN X0.here hx rfl (D d15_0) rfl ?_
  refine XS.iloadN X0.here hx rfl (D d15_1) rfl ?_
  refine XS.icmpYes X0.here hx rfl (pc0 := 2) (pc' := 37) rfl (D d15_2) rfl (flt hq).2.1 (by decide) (by decide) ?_
  exact k
 exact own_retV X0 hx Bd (D d15_37) e0 (⟨rfl, N0, rfl⟩) (by decide) (by decide)
def own_r14 : Room := { frames := 1, cells := 1, slots := 8, locals := 18 }
def own_Q14 (Z : State) (arr : Addr) (ka : ClassId) (bl sg : List Int32) (st : Int32) (pn : Nat) (ln : Int32) (cs : Int32) (fm : Value) (u8 : Addr) (h0 : Heap) (n0 : Nat) : Option Value → Heap → List Loc → Prop := fun v h L => ∃ r k, v = some (.ref r) ∧ Fr n0 L ∧ Keep h0 h [] ∧ n0 ≤ r ∧ h0.size ≤ r ∧ Arv Z h r k .byte ln (sg.map Value.int) (.int 0)
theorem own_rm14 (l : Launch) (Z : State) (a0 : Array Value) (hw : own_W a0 Z) (arr : Addr) (ka : ClassId) (bl sg : List Int32) (st : Int32) (pn : Nat) (ln : Int32) (cs : Int32) (fm : Value) (u8 : Addr) (h0 : Heap) (n0 : Nat) (Z0 : n0 ≤ h0.size) (O0 : Old Z n0 h0) (V_a : Arv Z h0 arr ka .byte (16 : Int32) (bl.map Value.int) (.int 0)) (hst : st.toInt = (pn : Int)) (hsg : own_seg bl pn sg) (hln : ln.toInt = (sg.length : Int)) (HB : own_BB Z cs fm u8) :
  own_MF l Z own_y8 (Jvm.Cond.code own_y8 jdk_65_method_133_code 5 (some (.array .byte))) [] own_r14 #[(.ref arr), (.int st), (.int (st + ln))] h0 (own_Q14 Z arr ka bl sg st pn ln cs fm u8 h0 n0) := by
 refine own_open (plainFor_of_name own_pn4) hisR (Ls := #[vr arr, vi st, vi (st + ln), .unset, .unset]) ?_
 intro p e s m below meth c s₁ Bd hZ hx hby hml hown X0 e0
 obtain ⟨-, -, -, -, -, -, -, -, -, E_u8⟩ := id HB
 have N0 := Fr.nil n0
 have D := @hb _ _ hby
 have hp3 := hsg.2.1
 have hg8 := hsg.2.2.1
 refine own_st (T' := s₁) (g' := (mkF m 2 #[vr arr, vi st, vi (st + ln), .unset, .unset] [(.int (st + ln)), (.int st)])) (fun t k => ?_) ?_
 ·refine XS.iloadN X0.here hx rfl (D d14_0) rfl ?_
  refine XS.iloadN X0.here hx rfl (D d14_1) rfl ?_
  exact k
 obtain ⟨_, _, ⟨T1, L1, c1, n1⟩, -, X1, ⟨Lc1, hQ1, l1, y1, z1⟩, st1⟩ := Jvm.LawKit.callS X0 hx (y := own_y7) hown (om hZ hw 84 rfl) (om hZ hw 85 rfl) (om hZ hw 79 rfl) (om hZ hw 86 rfl) (by decide) (backOf (W := 0) (own_rm15 l Z a0 hw st (st + ln) cs fm u8 h0 n0 Z0 O0 (fun q => absurd ((own_ltN (own_add hst hln (by omega)) hst).mp q) (by omega)) HB) hZ (own_w hw 86 rfl) (own_w hw 79 rfl) (by decide) (by decide)) (g := (mkF m 2 #[vr arr, vi st, vi (st + ln), .unset, .unset] [(.int (st + ln)), (.int st)])) rfl (by rw [hml]; rfl) (argsL := [(.int st), (.int (st + ln))]) (rest := []) (lenOf own_pd2 rfl) rfl own_w0 (D d14_2) (fun _ _ => ⟨rfl, e0, (by decide : 0 + 0 ≤ _), (by decide : 0 + 0 ≤ _)⟩)
 dsimp only [Pt.U, Pt.locs, Pt.cells, Pt.slots] at X1 l1 y1 z1 st1 hQ1
 subst l1 y1 z1
 obtain ⟨rfl, N1q, e1⟩ := hQ1
 have N1 := Fr.app N0 N1q
 refine own_st (g' := (mkF m 5 #[vr arr, vi st, vi (st + ln), .unset, .unset] [])) st1 ?_
 refine own_st (T' := T1) (g' := (mkF m 8 #[vr arr, vi st, vi (st + ln), .unset, .unset] [(.int ((st + ln) - st))])) (fun t k => ?_) ?_
 ·refine XS.iloadN X1.here hx rfl (D d14_5) rfl ?_
  refine XS.iloadN X1.here hx rfl (D d14_6) rfl ?_
  refine XS.isub X1.here hx rfl (D d14_7) rfl ?_
  exact k
 rw [show ((st + ln) - st) = ln from own_sl st ln]
 refine own_st (T' := T1) (g' := (mkF m 10 #[vr arr, vi st, vi (st + ln), vi ln, .unset] [(.int ln)])) (fun t k => ?_) ?_
 ·refine XS.istoreN X1.here hx rfl (D d14_8) rfl (l' := #[vr arr, vi st, vi (st + ln), vi ln, .unset]) rfl ?_
  refine XS.iloadN X1.here hx rfl (D d14_9) rfl ?_
  exact k
 obtain ⟨T2, h2, k2, X2, e2, E2, A2, st2⟩ := newP X1 hx hZ (own_w hw 0 rfl) e1 (g := (mkF m 10 #[vr arr, vi st, vi (st + ln), vi ln, .unset] [(.int ln)])) rfl (D d14_10) rfl (own_ge0 hln) (cap := 8) (by rw [own_clamp hln]; exact hg8) (by decide) (by decide) (by decide)
 obtain ⟨b2, g2⟩ : ∃ z, z = h0.size := ⟨_, rfl⟩
 rw [← g2] at A2 st2
 have sz2 : h0.size ≤ b2 := Nat.le_of_eq g2.symm
 have ne_arr_b2 : arr ≠ b2 := Nat.ne_of_lt (Nat.lt_of_lt_of_le V_a.lt sz2)
 have f3 := E_u8.ext O0.2
 have ne_u8_b2 : u8 ≠ b2 := Nat.ne_of_lt (Nat.lt_of_lt_of_le f3.lt sz2)
 have g_b2 : n0 ≤ b2 := Nat.le_trans Z0 sz2
 have hz_b2 : h0.size ≤ b2 := Nat.le_trans (Keep.refl h0 []).1 sz2
 have K2 : Keep h0 h2 [] := (Keep.refl h0 []).ext E2
 have Z2 : n0 ≤ h2.size := Nat.le_trans Z0 E2.1
 have O2 := O0.ext E2
 have V2 : Arv Z h2 b2 k2 .byte ln [] (.int 0) := Arv.new A2 (own_ge0 hln)
 refine own_st (g' := (mkF m 12 #[vr arr, vi st, vi (st + ln), vi ln, .unset] [(.ref b2)])) st2 ?_
 have Vp2 := own_lpad sg.length V2
 refine own_st (T' := T2) (g' := (mkF m 20 #[vr arr, vi st, vi (st + ln), vi ln, vr b2] [(.ref arr), (.int 0), (.ref b2), (.int st), (.ref arr)])) (fun t k => ?_) ?_
 ·refine XS.astore X2.here hx rfl (D d14_12) rfl rfl (l' := #[vr arr, vi st, vi (st + ln), vi ln, vr b2]) rfl ?_
  refine XS.aloadN X2.here hx rfl (D d14_14) rfl rfl ?_
  refine XS.iloadN X2.here hx rfl (D d14_15) rfl ?_
  refine XS.aload X2.here hx rfl (D d14_16) rfl rfl ?_
  refine XS.iconst X2.here hx rfl (D d14_18) ?_
  refine XS.aloadN X2.here hx rfl (D d14_19) rfl rfl ?_
  exact k
 have f4 := V_a.ext E2
 obtain ⟨cl5, Ar5, q5, S5, M5, H5, G5⟩ := id f4
 refine own_st (T' := T2) (g' := (mkF m 24 #[vr arr, vi st, vi (st + ln), vi ln, vr b2] [(.int ln), (.int ((16 : Int32) - st)), (.int 0), (.ref b2), (.int st), (.ref arr)])) (fun t k => ?_) ?_
 ·refine X2.arraylength hx (by rw [e2]; exact Ar5.1) (State.isArrayOf_alike hZ.alike Ar5.2.1) (g := (mkF m 20 #[vr arr, vi st, vi (st + ln), vi ln, vr b2] [(.ref arr), (.int 0), (.ref b2), (.int st), (.ref arr)])) rfl rfl (D d14_20) _ ?_
  rw [len_of S5 M5]
  refine XS.iloadN X2.here hx rfl (D d14_21) rfl ?_
  refine XS.isub X2.here hx rfl (D d14_22) rfl ?_
  refine XS.iloadN X2.here hx rfl (D d14_23) rfl ?_
  exact k
 obtain ⟨_, _, ⟨T6, L6, c6, n6⟩, -, X6, ⟨Lc6, hQ6, l6, y6, z6⟩, st6⟩ := Jvm.LawKit.callS X2 hx (y := own_y5) hown (om hZ hw 87 rfl) (om hZ hw 88 rfl) (om hZ hw 89 rfl) (om hZ hw 90 rfl) (by decide) (backOf (W := 4) (own_rm16 l Z a0 hw ((16 : Int32) - st) ln cs fm u8 h2 n0 Z2 O2 ((own_ltN hln (own_subN own_i16 hst (by omega))).mpr (by omega)) HB) hZ (own_w hw 90 rfl) (own_w hw 89 rfl) (by decide) (by decide)) (g := (mkF m 24 #[vr arr, vi st, vi (st + ln), vi ln, vr b2] [(.int ln), (.int ((16 : Int32) - st)), (.int 0), (.ref b2), (.int st), (.ref arr)])) rfl (by rw [hml]; rfl) (argsL := [(.int ((16 : Int32) - st)), (.int ln)]) (rest := [(.int 0), (.ref b2), (.int st), (.ref arr)]) (lenOf own_pd3 rfl) rfl own_w0 (D d14_24) (fun _ _ => ⟨rfl, e2, (by decide : 1 + 0 ≤ _), (by decide : 8 + 0 ≤ _)⟩)
 dsimp only [Pt.U, Pt.locs, Pt.cells, Pt.slots] at X6 l6 y6 z6 st6 hQ6
 subst l6 y6 z6
 obtain ⟨rfl, N6q, e6⟩ := hQ6
 have N6 := Fr.app N1 N6q
 refine own_st (g' := (mkF m 27 #[vr arr, vi st, vi (st + ln), vi ln, vr b2] [(.int ln), (.int 0), (.ref b2), (.int st), (.ref arr)])) st6 ?_
 obtain ⟨T7, h7, Lc7, X7, e7, N7, Kc7, Vc7, st7⟩ := cpA X6 hx hZ hown (own_w hw 91 rfl) (own_w hw 94 rfl) (own_w hw 92 rfl) (own_w hw 93 rfl) e6 f4 Vp2 (Or.inl ⟨rfl, rfl⟩) (own_ge0 hst) (by decide) (own_ge0 hln) (by rw [own_clamp hln, own_clamp hst]; show pn + sg.length ≤ 16; omega) (by show 0 + _ ≤ _; omega) (us := sg.map Value.int) (own_us hsg hst hln) (by rw [own_clamp hln]; simp) N6 g_b2 (g := (mkF m 27 #[vr arr, vi st, vi (st + ln), vi ln, vr b2] [(.int ln), (.int 0), (.ref b2), (.int st), (.ref arr)])) rfl (by rw [hml]; rfl) rfl (D d14_27) (by decide) (W := 0) own_w0 (by decide)
 rw [own_clamp hln] at Vc7
 have K7 : Keep h0 h7 [] := K2.trans Kc7 (allS (Or.inr hz_b2) all0)
 have Z7 : n0 ≤ h7.size := Nat.le_trans Z2 Kc7.1
 have O7 := O2.keep Kc7 (allS g_b2 all0)
 have Vd7 : Arv Z h7 b2 k2 .byte ln (sg.map Value.int) (.int 0) := own_cplF sg.length _ Vc7
 refine own_st (g' := (mkF m 30 #[vr arr, vi st, vi (st + ln), vi ln, vr b2] [])) st7 ?_
 refine own_st (T' := T7) (g' := (mkF m 32 #[vr arr, vi st, vi (st + ln), vi ln, vr b2] [(.ref b2)])) (fun t k => ?_) ?_
 ·refine XS.aload X7.here hx rfl (D d14_30) rfl rfl ?_
  exact k
 exact own_retA X7 hx Bd rfl rfl (D d14_32) e7 (⟨b2, k2, rfl, N7, K7, g_b2, hz_b2, Vd7⟩) (by decide) (by decide)
def own_r13 : Room := { frames := 2, cells := 1, slots := 8, locals := 34 }
def own_Q13 (Z : State) (arr : Addr) (ka : ClassId) (bl sg : List Int32) (st : Int32) (pn : Nat) (ln : Int32) (cs : Int32) (fm : Value) (u8 : Addr) (h0 : Heap) (n0 : Nat) : Option Value → Heap → List Loc → Prop := fun v h L => ∃ r k, v = some (.ref r) ∧ Fr n0 L ∧ Keep h0 h [] ∧ n0 ≤ r ∧ h0.size ≤ r ∧ Arv Z h r k .byte ln (sg.map Value.int) (.int 0)
theorem own_rm13 (l : Launch) (Z : State) (a0 : Array Value) (hw : own_W a0 Z) (arr : Addr) (ka : ClassId) (bl sg : List Int32) (st : Int32) (pn : Nat) (ln : Int32) (cs : Int32) (fm : Value) (u8 : Addr) (h0 : Heap) (n0 : Nat) (Z0 : n0 ≤ h0.size) (O0 : Old Z n0 h0) (V_a : Arv Z h0 arr ka .byte (16 : Int32) (bl.map Value.int) (.int 0)) (hst : st.toInt = (pn : Int)) (hsg : own_seg bl pn sg) (hln : ln.toInt = (sg.length : Int)) (HB : own_BB Z cs fm u8) :
  own_MF l Z own_y9 (Jvm.Cond.code own_y9 jdk_65_method_132_code 3 (some (.array .byte))) [] own_r13 #[(.ref arr), (.int st), (.int (st + ln))] h0 (own_Q13 Z arr ka bl sg st pn ln cs fm u8 h0 n0) := by
 refine own_open (plainFor_of_name own_pn4) hisR (Ls := #[vr arr, vi st, vi (st + ln)]) ?_
 intro p e s m below meth c s₁ Bd hZ hx hby hml hown X0 e0
 obtain ⟨-, -, -, -, -, -, -, -, -, E_u8⟩ := id HB
 have N0 := Fr.nil n0
 have D := @hb _ _ hby
 have hp3 := hsg.2.1
 have hg8 := hsg.2.2.1
 refine own_st (T' := s₁) (g' := (mkF m 1 #[vr arr, vi st, vi (st + ln)] [(.int st)])) (fun t k => ?_) ?_
 ·refine XS.iloadN X0.here hx rfl (D d13_0) rfl ?_
  exact k
 by_cases hc1 : st = (0 : Int32)
 ·refine own_st (T' := s₁) (g' := (mkF m 6 #[vr arr, vi st, vi (st + ln)] [(.ref arr), (.int (st + ln))])) (fun t k => ?_) ?_
  ·refine XS.ifNo X0.here hx rfl (D d13_1) rfl ((if0 _ _).trans (teq hc1).2) ?_
   refine XS.iloadN X0.here hx rfl (D d13_4) rfl ?_
   refine XS.aloadN X0.here hx rfl (D d13_5) rfl rfl ?_
   exact k
  obtain ⟨cl2, Ar2, q2, S2, M2, H2, G2⟩ := id V_a
  refine own_st (T' := s₁) (g' := (mkF m 13 #[vr arr, vi st, vi (st + ln)] [(.int (st + ln)), (.int st), (.ref arr)])) (fun t k => ?_) ?_
  ·refine X0.arraylength hx (by rw [e0]; exact Ar2.1) (State.isArrayOf_alike hZ.alike Ar2.2.1) (g := (mkF m 6 #[vr arr, vi st, vi (st + ln)] [(.ref arr), (.int (st + ln))])) rfl rfl (D d13_6) _ ?_
   rw [len_of S2 M2]
   refine XS.icmpNo X0.here hx rfl (D d13_7) rfl (feq (own_neN (own_add hst hln (by omega)) own_i16 (by omega))).1 ?_
   refine XS.aloadN X0.here hx rfl (D d13_10) rfl rfl ?_
   refine XS.iloadN X0.here hx rfl (D d13_11) rfl ?_
   refine XS.iloadN X0.here hx rfl (D d13_12) rfl ?_
   exact k
  obtain ⟨_, _, ⟨T3, L3, c3, n3⟩, -, X3, ⟨Lc3, hQ3, l3, y3, z3⟩, st3⟩ := Jvm.LawKit.callS X0 hx (y := own_y8) hown (om hZ hw 81 rfl) (om hZ hw 82 rfl) (om hZ hw 79 rfl) (om hZ hw 83 rfl) (by decide) (backOf (W := 0) (own_rm14 l Z a0 hw arr ka bl sg st pn ln cs fm u8 h0 n0 Z0 O0 V_a hst hsg hln HB) hZ (own_w hw 83 rfl) (own_w hw 79 rfl) (by decide) (by decide)) (g := (mkF m 13 #[vr arr, vi st, vi (st + ln)] [(.int (st + ln)), (.int st), (.ref arr)])) rfl (by rw [hml]; rfl) (argsL := [(.ref arr), (.int st), (.int (st + ln))]) (rest := []) (lenOf own_pd4 rfl) rfl own_w0 (D d13_13) (fun _ _ => ⟨rfl, e0, (by decide : 0 + 1 ≤ _), (by decide : 0 + 8 ≤ _)⟩)
  dsimp only [Pt.U, Pt.locs, Pt.cells, Pt.slots] at X3 l3 y3 z3 st3 hQ3
  subst l3 y3 z3
  obtain ⟨h3, e3⟩ : ∃ z, T3.heap = z := ⟨_, rfl⟩
  rw [e3] at hQ3
  obtain ⟨r3, k3, rfl, N3q, Kc3, g3, hz3, Vc3⟩ := hQ3
  have N3 := Fr.app N0 N3q
  have ne_arr_r3 : arr ≠ r3 := Nat.ne_of_lt (Nat.lt_of_lt_of_le V_a.lt hz3)
  have f4 := E_u8.ext O0.2
  have ne_u8_r3 : u8 ≠ r3 := Nat.ne_of_lt (Nat.lt_of_lt_of_le f4.lt hz3)
  have hwr3 : h0.size ≤ r3 := Nat.le_trans (Keep.refl h0 []).1 hz3
  have K3 : Keep h0 h3 [] := (Keep.refl h0 []).trans Kc3 all0
  have Z3 : n0 ≤ h3.size := Nat.le_trans Z0 Kc3.1
  have O3 := O0.keep Kc3 all0
  refine own_st (g' := (mkF m 16 #[vr arr, vi st, vi (st + ln)] [(.ref r3)])) st3 ?_
  exact own_retA X3 hx Bd rfl rfl (D d13_16) e3 (⟨r3, k3, rfl, N3, K3, g3, hwr3, Vc3⟩) (by decide) (by decide)
 ·refine own_st (T' := s₁) (g' := (mkF m 13 #[vr arr, vi st, vi (st + ln)] [(.int (st + ln)), (.int st), (.ref arr)])) (fun t k => ?_) ?_
  ·refine XS.ifYes X0.here hx rfl (pc0 := 1) (pc' := 10) rfl (D d13_1) rfl ((if0 _ _).trans (feq hc1).2) (by decide) (by decide) ?_
   refine XS.aloadN X0.here hx rfl (D d13_10) rfl rfl ?_
   refine XS.iloadN X0.here hx rfl (D d13_11) rfl ?_
   refine XS.iloadN X0.here hx rfl (D d13_12) rfl ?_
   exact k
  obtain ⟨_, _, ⟨T5, L5, c5, n5⟩, -, X5, ⟨Lc5, hQ5, l5, y5, z5⟩, st5⟩ := Jvm.LawKit.callS X0 hx (y := own_y8) hown (om hZ hw 81 rfl) (om hZ hw 82 rfl) (om hZ hw 79 rfl) (om hZ hw 83 rfl) (by decide) (backOf (W := 0) (own_rm14 l Z a0 hw arr ka bl sg st pn ln cs fm u8 h0 n0 Z0 O0 V_a hst hsg hln HB) hZ (own_w hw 83 rfl) (own_w hw 79 rfl) (by decide) (by decide)) (g := (mkF m 13 #[vr arr, vi st, vi (st + ln)] [(.int (st + ln)), (.int st), (.ref arr)])) rfl (by rw [hml]; rfl) (argsL := [(.ref arr), (.int st), (.int (st + ln))]) (rest := []) (lenOf own_pd4 rfl) rfl own_w0 (D d13_13) (fun _ _ => ⟨rfl, e0, (by decide : 0 + 1 ≤ _), (by decide : 0 + 8 ≤ _)⟩)
  dsimp only [Pt.U, Pt.locs, Pt.cells, Pt.slots] at X5 l5 y5 z5 st5 hQ5
  subst l5 y5 z5
  obtain ⟨h5, e5⟩ : ∃ z, T5.heap = z := ⟨_, rfl⟩
  rw [e5] at hQ5
  obtain ⟨r5, k5, rfl, N5q, Kc5, g5, hz5, Vc5⟩ := hQ5
  have N5 := Fr.app N0 N5q
  have ne_arr_r5 : arr ≠ r5 := Nat.ne_of_lt (Nat.lt_of_lt_of_le V_a.lt hz5)
  have f6 := E_u8.ext O0.2
  have ne_u8_r5 : u8 ≠ r5 := Nat.ne_of_lt (Nat.lt_of_lt_of_le f6.lt hz5)
  have hwr5 : h0.size ≤ r5 := Nat.le_trans (Keep.refl h0 []).1 hz5
  have K5 : Keep h0 h5 [] := (Keep.refl h0 []).trans Kc5 all0
  have Z5 : n0 ≤ h5.size := Nat.le_trans Z0 Kc5.1
  have O5 := O0.keep Kc5 all0
  refine own_st (g' := (mkF m 16 #[vr arr, vi st, vi (st + ln)] [(.ref r5)])) st5 ?_
  exact own_retA X5 hx Bd rfl rfl (D d13_16) e5 (⟨r5, k5, rfl, N5, K5, g5, hwr5, Vc5⟩) (by decide) (by decide)
def own_r28 : Room := { frames := 1, cells := 1, slots := 8, locals := 18 }
def own_Q28 (Z : State) (arr : Addr) (ka : ClassId) (bl : List Int32) (zz mm : Int32) (N M : Nat) (cs : Int32) (fm : Value) (u8 : Addr) (h0 : Heap) (n0 : Nat) : Option Value → Heap → List Loc → Prop := fun v h L => ∃ r k, v = some (.ref r) ∧ Fr n0 L ∧ Keep h0 h [] ∧ n0 ≤ r ∧ h0.size ≤ r ∧ Arv Z h r k .byte mm ((bl.take M).map Value.int) (.int 0)
theorem own_rm28 (l : Launch) (Z : State) (a0 : Array Value) (hw : own_W a0 Z) (arr : Addr) (ka : ClassId) (bl : List Int32) (zz mm : Int32) (N M : Nat) (cs : Int32) (fm : Value) (u8 : Addr) (h0 : Heap) (n0 : Nat) (Z0 : n0 ≤ h0.size) (O0 : Old Z n0 h0) (V_a : Arv Z h0 arr ka .byte zz (bl.map Value.int) (.int 0)) (hzz : zz.toInt = (N : Int)) (hmm : mm.toInt = (M : Int)) (hMN : M < N) (hbl : bl.length = N) (hM8 : M ≤ 8) (HB : own_BB Z cs fm u8) :
  own_MF l Z own_y10 (Jvm.Cond.code own_y10 jdk_65_method_121_code 3 (some (.array .byte))) [] own_r28 #[(.ref arr), (.int mm)] h0 (own_Q28 Z arr ka bl zz mm N M cs fm u8 h0 n0) := by
 refine own_open (plainFor_of_name own_pn4) hisR (Ls := #[vr arr, vi mm, .unset]) ?_
 intro p e s m below meth c s₁ Bd hZ hx hby hml hown X0 e0
 obtain ⟨-, -, -, -, -, -, -, -, -, E_u8⟩ := id HB
 have N0 := Fr.nil n0
 have D := @hb _ _ hby
 refine own_st (T' := s₁) (g' := (mkF m 2 #[vr arr, vi mm, .unset] [(.ref arr), (.int mm)])) (fun t k => ?_) ?_
 ·refine XS.iloadN X0.here hx rfl (D d28_0) rfl ?_
  refine XS.aloadN X0.here hx rfl (D d28_1) rfl rfl ?_
  exact k
 obtain ⟨cl1, Ar1, q1, S1, M1, H1, G1⟩ := id V_a
 refine own_st (T' := s₁) (g' := (mkF m 15 #[vr arr, vi mm, .unset] [(.int mm)])) (fun t k => ?_) ?_
 ·refine X0.arraylength hx (by rw [e0]; exact Ar1.1) (State.isArrayOf_alike hZ.alike Ar1.2.1) (g := (mkF m 2 #[vr arr, vi mm, .unset] [(.ref arr), (.int mm)])) rfl rfl (D d28_2) _ ?_
  rw [len_of S1 M1]
  refine XS.icmpYes X0.here hx rfl (pc0 := 3) (pc' := 14) rfl (D d28_3) rfl (feq (own_neN hmm hzz (by omega))).2 (by decide) (by decide) ?_
  refine XS.iloadN X0.here hx rfl (D d28_14) rfl ?_
  exact k
 obtain ⟨T2, h2, k2, X2, e2, E2, A2, st2⟩ := newP X0 hx hZ (own_w hw 0 rfl) e0 (g := (mkF m 15 #[vr arr, vi mm, .unset] [(.int mm)])) rfl (D d28_15) rfl (own_ge0 hmm) (cap := 8) (by rw [own_clamp hmm]; exact hM8) (by decide) (by decide) (by decide)
 obtain ⟨b2, g2⟩ : ∃ z, z = h0.size := ⟨_, rfl⟩
 rw [← g2] at A2 st2
 have sz2 : h0.size ≤ b2 := Nat.le_of_eq g2.symm
 have ne_arr_b2 : arr ≠ b2 := Nat.ne_of_lt (Nat.lt_of_lt_of_le V_a.lt sz2)
 have f3 := E_u8.ext O0.2
 have ne_u8_b2 : u8 ≠ b2 := Nat.ne_of_lt (Nat.lt_of_lt_of_le f3.lt sz2)
 have g_b2 : n0 ≤ b2 := Nat.le_trans Z0 sz2
 have hz_b2 : h0.size ≤ b2 := Nat.le_trans (Keep.refl h0 []).1 sz2
 have K2 : Keep h0 h2 [] := (Keep.refl h0 []).ext E2
 have Z2 : n0 ≤ h2.size := Nat.le_trans Z0 E2.1
 have O2 := O0.ext E2
 have V2 : Arv Z h2 b2 k2 .byte mm [] (.int 0) := Arv.new A2 (own_ge0 hmm)
 refine own_st (g' := (mkF m 17 #[vr arr, vi mm, .unset] [(.ref b2)])) st2 ?_
 have Vp2 := own_lpad M V2
 refine own_st (T' := T2) (g' := (mkF m 23 #[vr arr, vi mm, vr b2] [(.ref arr), (.int 0), (.ref b2), (.int 0), (.ref arr)])) (fun t k => ?_) ?_
 ·refine XS.astoreN X2.here hx rfl (D d28_17) rfl rfl (l' := #[vr arr, vi mm, vr b2]) rfl ?_
  refine XS.aloadN X2.here hx rfl (D d28_18) rfl rfl ?_
  refine XS.iconst X2.here hx rfl (D d28_19) ?_
  refine XS.aloadN X2.here hx rfl (D d28_20) rfl rfl ?_
  refine XS.iconst X2.here hx rfl (D d28_21) ?_
  refine XS.aloadN X2.here hx rfl (D d28_22) rfl rfl ?_
  exact k
 have f4 := V_a.ext E2
 obtain ⟨cl5, Ar5, q5, S5, M5, H5, G5⟩ := id f4
 refine own_st (T' := T2) (g' := (mkF m 25 #[vr arr, vi mm, vr b2] [(.int mm), (.int zz), (.int 0), (.ref b2), (.int 0), (.ref arr)])) (fun t k => ?_) ?_
 ·refine X2.arraylength hx (by rw [e2]; exact Ar5.1) (State.isArrayOf_alike hZ.alike Ar5.2.1) (g := (mkF m 23 #[vr arr, vi mm, vr b2] [(.ref arr), (.int 0), (.ref b2), (.int 0), (.ref arr)])) rfl rfl (D d28_23) _ ?_
  rw [len_of S5 M5]
  refine XS.iloadN X2.here hx rfl (D d28_24) rfl ?_
  exact k
 obtain ⟨_, _, ⟨T6, L6, c6, n6⟩, -, X6, ⟨Lc6, hQ6, l6, y6, z6⟩, st6⟩ := Jvm.LawKit.callS X2 hx (y := own_y5) hown (om hZ hw 87 rfl) (om hZ hw 88 rfl) (om hZ hw 89 rfl) (om hZ hw 90 rfl) (by decide) (backOf (W := 4) (own_rm16 l Z a0 hw zz mm cs fm u8 h2 n0 Z2 O2 ((own_ltN hmm hzz).mpr hMN) HB) hZ (own_w hw 90 rfl) (own_w hw 89 rfl) (by decide) (by decide)) (g := (mkF m 25 #[vr arr, vi mm, vr b2] [(.int mm), (.int zz), (.int 0), (.ref b2), (.int 0), (.ref arr)])) rfl (by rw [hml]; rfl) (argsL := [(.int zz), (.int mm)]) (rest := [(.int 0), (.ref b2), (.int 0), (.ref arr)]) (lenOf own_pd3 rfl) rfl own_w0 (D d28_25) (fun _ _ => ⟨rfl, e2, (by decide : 1 + 0 ≤ _), (by decide : 8 + 0 ≤ _)⟩)
 dsimp only [Pt.U, Pt.locs, Pt.cells, Pt.slots] at X6 l6 y6 z6 st6 hQ6
 subst l6 y6 z6
 obtain ⟨rfl, N6q, e6⟩ := hQ6
 have N6 := Fr.app N0 N6q
 refine own_st (g' := (mkF m 28 #[vr arr, vi mm, vr b2] [(.int mm), (.int 0), (.ref b2), (.int 0), (.ref arr)])) st6 ?_
 obtain ⟨T7, h7, Lc7, X7, e7, N7, Kc7, Vc7, st7⟩ := cpA X6 hx hZ hown (own_w hw 91 rfl) (own_w hw 94 rfl) (own_w hw 92 rfl) (own_w hw 93 rfl) e6 f4 Vp2 (Or.inl ⟨rfl, rfl⟩) (by decide) (by decide) (own_ge0 hmm) (by rw [own_clamp hmm, own_clamp hzz]; show 0 + M ≤ N; omega) (by show 0 + _ ≤ _; omega) (us := (bl.take M).map Value.int) (by rw [own_clamp hmm]; exact own_tk hbl (by omega)) (by rw [own_clamp hmm]; simp) N6 g_b2 (g := (mkF m 28 #[vr arr, vi mm, vr b2] [(.int mm), (.int 0), (.ref b2), (.int 0), (.ref arr)])) rfl (by rw [hml]; rfl) rfl (D d28_28) (by decide) (W := 0) own_w0 (by decide)
 rw [own_clamp hmm] at Vc7
 have K7 : Keep h0 h7 [] := K2.trans Kc7 (allS (Or.inr hz_b2) all0)
 have Z7 : n0 ≤ h7.size := Nat.le_trans Z2 Kc7.1
 have O7 := O2.keep Kc7 (allS g_b2 all0)
 have Vd7 : Arv Z h7 b2 k2 .byte mm ((bl.take M).map Value.int) (.int 0) := own_cplF M _ Vc7
 refine own_st (g' := (mkF m 31 #[vr arr, vi mm, vr b2] [])) st7 ?_
 refine own_st (T' := T7) (g' := (mkF m 32 #[vr arr, vi mm, vr b2] [(.ref b2)])) (fun t k => ?_) ?_
 ·refine XS.aloadN X7.here hx rfl (D d28_31) rfl rfl ?_
  exact k
 exact own_retA X7 hx Bd rfl rfl (D d28_32) e7 (⟨b2, k2, rfl, N7, K7, g_b2, hz_b2, Vd7⟩) (by decide) (by decide)
def own_r22 : Room := { frames := 0, cells := 0, slots := 0, locals := 0 }
theorem own_rm22 (l : Launch) (Z : State) (a0 : Array Value) (hw : own_W a0 Z) (arr : Addr) (ka : ClassId) (bl : List Int32) (zz : Int32) (cs : Int32) (fm : Value) (u8 : Addr) (h0 : Heap) (n0 : Nat) (Z0 : n0 ≤ h0.size) (O0 : Old Z n0 h0) (V_a : Arv Z h0 arr ka .byte zz (bl.map Value.int) (.int 0)) (HB : own_BB Z cs fm u8) :
  own_MF l Z own_y11 (Jvm.Cond.code own_y11 jdk_52_method_6_code 1 (some .int)) [] own_r22 #[(.ref arr)] h0 (own_P h0 n0 (.int (zz >>> ((1 : Int32) &&& 31)))) := by
 refine own_open (plainFor_of_name own_pn5) hisR (Ls := #[vr arr]) ?_
 intro p e s m below meth c s₁ Bd hZ hx hby hml hown X0 e0
 have N0 := Fr.nil n0
 have D := @hb _ _ hby
 refine own_st (T' := s₁) (g' := (mkF m 1 #[vr arr] [(.ref arr)])) (fun t k => ?_) ?_
 ·refine XS.aloadN X0.here hx rfl (D d22_0) rfl rfl ?_
  exact k
 obtain ⟨cl1, Ar1, q1, S1, M1, H1, G1⟩ := id V_a
 refine own_st (T' := s₁) (g' := (mkF m 4 #[vr arr] [(.int (zz >>> ((1 : Int32) &&& 31)))])) (fun t k => ?_) ?_
 ·refine X0.arraylength hx (by rw [e0]; exact Ar1.1) (State.isArrayOf_alike hZ.alike Ar1.2.1) (g := (mkF m 1 #[vr arr] [(.ref arr)])) rfl rfl (D d22_1) _ ?_
  rw [len_of S1 M1]
  refine XS.iconst X0.here hx rfl (D d22_2) ?_
  refine XS.ishr X0.here hx rfl (D d22_3) rfl ?_
  exact k
 exact own_retI X0 hx Bd (D d22_4) e0 (⟨rfl, N0, rfl⟩) (by decide) (by decide)
def own_r18 : Room := { frames := 0, cells := 0, slots := 0, locals := 0 }
theorem own_rm18 (l : Launch) (Z : State) (a0 : Array Value) (hw : own_W a0 Z) (nz : Int32) (nn : Nat) (cs : Int32) (fm : Value) (u8 : Addr) (h0 : Heap) (n0 : Nat) (Z0 : n0 ≤ h0.size) (O0 : Old Z n0 h0) (hnz : nz.toInt = (nn : Int)) (hn8 : nn ≤ 8) (HB : own_BB Z cs fm u8) :
  own_MF l Z own_y12 (Jvm.Cond.code own_y12 jdk_52_method_3_code 1 (some .int)) [] own_r18 #[(.int nz)] h0 (own_P h0 n0 (.int (nz <<< ((1 : Int32) &&& 31)))) := by
 refine own_open (plainFor_of_name own_pn5) hisR (Ls := #[vi nz]) ?_
 intro p e s m below meth c s₁ Bd hZ hx hby hml hown X0 e0
 have N0 := Fr.nil n0
 have D := @hb _ _ hby
 refine own_st (T' := s₁) (g' := (mkF m 58 #[vi nz] [(.int (nz <<< ((1 : Int32) &&& 31)))])) (fun t k => ?_) ?_
 ·refine XS.iloadN X0.here hx rfl (D d18_0) rfl ?_
  refine XS.ifYes X0.here hx rfl (pc0 := 1) (pc' := 12) rfl (D d18_1) rfl ((if0 _ _).trans (flt (own_ge0 hnz)).2.1) (by decide) (by decide) ?_
  refine XS.iloadN X0.here hx rfl (D d18_12) rfl ?_
  refine X0.ldcInt hx hown (om hZ hw 102 rfl) (g := (mkF m 13 #[vi nz] [(.int nz)])) rfl (D d18_13) _ ?_
  refine XS.icmpYes X0.here hx rfl (pc0 := 15) (pc' := 55) rfl (D d18_15) rfl (tlt ((own_ltN hnz (show (1073741823 : Int32).toInt = ((1073741823 : Nat) : Int) from rfl)).mpr (by omega))).1 (by decide) (by decide) ?_
  refine XS.iloadN X0.here hx rfl (D d18_55) rfl ?_
  refine XS.iconst X0.here hx rfl (D d18_56) ?_
  refine XS.ishl X0.here hx rfl (D d18_57) rfl ?_
  exact k
 exact own_retI X0 hx Bd (D d18_58) e0 (⟨rfl, N0, rfl⟩) (by decide) (by decide)
def own_r17 : Room := { frames := 1, cells := 1, slots := 16, locals := 12 }
def own_Q17 (Z : State) (nz : Int32) (nn : Nat) (cs : Int32) (fm : Value) (u8 : Addr) (h0 : Heap) (n0 : Nat) : Option Value → Heap → List Loc → Prop := fun v h L => ∃ r k, v = some (.ref r) ∧ Fr n0 L ∧ Keep h0 h [] ∧ n0 ≤ r ∧ h0.size ≤ r ∧ Arv Z h r k .byte (nz <<< ((1 : Int32) &&& 31)) ((List.replicate (2 * nn) (0 : Int32)).map Value.int) (.int 0)
theorem own_rm17 (l : Launch) (Z : State) (a0 : Array Value) (hw : own_W a0 Z) (nz : Int32) (nn : Nat) (cs : Int32) (fm : Value) (u8 : Addr) (h0 : Heap) (n0 : Nat) (Z0 : n0 ≤ h0.size) (O0 : Old Z n0 h0) (hnz : nz.toInt = (nn : Int)) (hn8 : nn ≤ 8) (HB : own_BB Z cs fm u8) :
  own_MF l Z own_y13 (Jvm.Cond.code own_y13 jdk_52_method_2_code 1 (some (.array .byte))) [] own_r17 #[(.int nz)] h0 (own_Q17 Z nz nn cs fm u8 h0 n0) := by
 refine own_open (plainFor_of_name own_pn5) hisR (Ls := #[vi nz]) ?_
 intro p e s m below meth c s₁ Bd hZ hx hby hml hown X0 e0
 obtain ⟨-, -, -, -, -, -, -, -, -, E_u8⟩ := id HB
 have N0 := Fr.nil n0
 have D := @hb _ _ hby
 refine own_st (T' := s₁) (g' := (mkF m 1 #[vi nz] [(.int nz)])) (fun t k => ?_) ?_
 ·refine XS.iloadN X0.here hx rfl (D d17_0) rfl ?_
  exact k
 obtain ⟨_, _, ⟨T1, L1, c1, n1⟩, -, X1, ⟨Lc1, hQ1, l1, y1, z1⟩, st1⟩ := Jvm.LawKit.callS X0 hx (y := own_y12) hown (om hZ hw 99 rfl) (om hZ hw 100 rfl) (om hZ hw 97 rfl) (om hZ hw 101 rfl) (by decide) (backOf (W := 0) (own_rm18 l Z a0 hw nz nn cs fm u8 h0 n0 Z0 O0 hnz hn8 HB) hZ (own_w hw 101 rfl) (own_w hw 97 rfl) (by decide) (by decide)) (g := (mkF m 1 #[vi nz] [(.int nz)])) rfl (by rw [hml]; rfl) (argsL := [(.int nz)]) (rest := []) (lenOf own_pd5 rfl) rfl own_w0 (D d17_1) (fun _ _ => ⟨rfl, e0, (by decide : 0 + 0 ≤ _), (by decide : 0 + 0 ≤ _)⟩)
 dsimp only [Pt.U, Pt.locs, Pt.cells, Pt.slots] at X1 l1 y1 z1 st1 hQ1
 subst l1 y1 z1
 obtain ⟨rfl, N1q, e1⟩ := hQ1
 have N1 := Fr.app N0 N1q
 refine own_st (g' := (mkF m 4 #[vi nz] [(.int (nz <<< ((1 : Int32) &&& 31)))])) st1 ?_
 obtain ⟨T2, h2, k2, X2, e2, E2, A2, st2⟩ := newP X1 hx hZ (own_w hw 0 rfl) e1 (g := (mkF m 4 #[vi nz] [(.int (nz <<< ((1 : Int32) &&& 31)))])) rfl (D d17_4) rfl (own_ge0 (own_shl hnz hn8)) (cap := 16) (by rw [own_clamp (own_shl hnz hn8)]; omega) (by decide) (by decide) (by decide)
 obtain ⟨b2, g2⟩ : ∃ z, z = h0.size := ⟨_, rfl⟩
 rw [← g2] at A2 st2
 have sz2 : h0.size ≤ b2 := Nat.le_of_eq g2.symm
 have f3 := E_u8.ext O0.2
 have ne_u8_b2 : u8 ≠ b2 := Nat.ne_of_lt (Nat.lt_of_lt_of_le f3.lt sz2)
 have g_b2 : n0 ≤ b2 := Nat.le_trans Z0 sz2
 have hz_b2 : h0.size ≤ b2 := Nat.le_trans (Keep.refl h0 []).1 sz2
 have K2 : Keep h0 h2 [] := (Keep.refl h0 []).ext E2
 have Z2 : n0 ≤ h2.size := Nat.le_trans Z0 E2.1
 have O2 := O0.ext E2
 have V2 : Arv Z h2 b2 k2 .byte (nz <<< ((1 : Int32) &&& 31)) [] (.int 0) := Arv.new A2 (own_ge0 (own_shl hnz hn8))
 refine own_st (g' := (mkF m 6 #[vi nz] [(.ref b2)])) st2 ?_
 have Vp2 := own_lpad (2 * nn) V2
 exact own_retA X2 hx Bd rfl rfl (D d17_6) e2 (⟨b2, k2, rfl, N1, K2, g_b2, hz_b2, Vp2⟩) (by decide) (by decide)
def own_r23 : Room := { frames := 0, cells := 0, slots := 0, locals := 0 }
def own_Q23 (Z : State) (arr : Addr) (ka : ClassId) (bl : List Int32) (zz : Int32) (zn : Nat) (dv ch : Int32) (dn : Nat) (cs : Int32) (fm : Value) (u8 : Addr) (h0 : Heap) (n0 : Nat) : Option Value → Heap → List Loc → Prop := fun v h L => v = none ∧ Fr n0 L ∧ Keep h0 h [arr] ∧ Arv Z h arr ka .byte zz ((own_wrl bl (2 * dn) [own_LO ch, own_HI ch]).map Value.int) (.int 0)
theorem own_rm23 (l : Launch) (Z : State) (a0 : Array Value) (hw : own_W a0 Z) (arr : Addr) (ka : ClassId) (bl : List Int32) (zz : Int32) (zn : Nat) (dv ch : Int32) (dn : Nat) (cs : Int32) (fm : Value) (u8 : Addr) (h0 : Heap) (n0 : Nat) (Z0 : n0 ≤ h0.size) (O0 : Old Z n0 h0) (V_a : Arv Z h0 arr ka .byte zz (bl.map Value.int) (.int 0)) (hzz : zz.toInt = (zn : Int)) (hbl : bl.length = zn) (g_a : n0 ≤ arr) (hdv : dv.toInt = (dn : Int)) (hdn : 2 * dn + 1 < zn) (hz16 : zn ≤ 16) (HB : own_BB Z cs fm u8) :
  own_MF l Z own_y14 (Jvm.Cond.code own_y14 jdk_52_method_4_code 3 none) [] own_r23 #[(.ref arr), (.int dv), (.int ch)] h0 (own_Q23 Z arr ka bl zz zn dv ch dn cs fm u8 h0 n0) := by
 refine own_open (plainFor_of_name own_pn5) hisR (Ls := #[vr arr, vi dv, vi ch]) ?_
 intro p e s m below meth c s₁ Bd hZ hx hby hml hown X0 e0
 obtain ⟨-, -, -, -, S_ad, S_hb, S_lb, -, -, -⟩ := id HB
 have N0 := Fr.nil n0
 have D := @hb _ _ hby
 have hd2 := own_shl hdv (by omega : dn ≤ 8)
 have f1 := S_ad.ext O0.2
 obtain ⟨T2, X2, e2, st2⟩ := getS2 X0 hx hZ hown (host := "") (Or.inl (own_w hw 120 rfl)) Via.refl e0 f1 (g := (mkF m 0 #[vr arr, vi dv, vi ch] [])) rfl (D d23_0)
 refine own_st (g' := (mkF m 3 #[vr arr, vi dv, vi ch] [(.int 1)])) st2 ?_
 refine own_st (T' := T2) (g' := (mkF m 38 #[vr arr, vi ((dv <<< ((1 : Int32) &&& 31)) + (1 : Int32)), vi ch] [(.int ch), (.int (dv <<< ((1 : Int32) &&& 31))), (.ref arr)])) (fun t k => ?_) ?_
 ·refine XS.ifYes X2.here hx rfl (pc0 := 3) (pc' := 28) rfl (D d23_3) rfl ((if0 _ _).trans (feq (by decide : ¬ ((1 : Int32) = (0 : Int32)))).2) (by decide) (by decide) ?_
  refine XS.iloadN X2.here hx rfl (D d23_28) rfl ?_
  refine XS.iconst X2.here hx rfl (D d23_29) ?_
  refine XS.ishl X2.here hx rfl (D d23_30) rfl ?_
  refine XS.istoreN X2.here hx rfl (D d23_31) rfl (l' := #[vr arr, vi (dv <<< ((1 : Int32) &&& 31)), vi ch]) rfl ?_
  refine XS.aloadN X2.here hx rfl (D d23_32) rfl rfl ?_
  refine XS.iloadN X2.here hx rfl (D d23_33) rfl ?_
  refine XS.iinc X2.here hx rfl (D d23_34) rfl (l' := #[vr arr, vi ((dv <<< ((1 : Int32) &&& 31)) + (1 : Int32)), vi ch]) rfl ?_
  refine XS.iloadN X2.here hx rfl (D d23_37) rfl ?_
  exact k
 have f3 := S_hb.ext O0.2
 obtain ⟨T4, X4, e4, st4⟩ := getS2 X2 hx hZ hown (host := "") (Or.inl (own_w hw 121 rfl)) Via.refl e2 f3 (g := (mkF m 38 #[vr arr, vi ((dv <<< ((1 : Int32) &&& 31)) + (1 : Int32)), vi ch] [(.int ch), (.int (dv <<< ((1 : Int32) &&& 31))), (.ref arr)])) rfl (D d23_38)
 refine own_st (g' := (mkF m 41 #[vr arr, vi ((dv <<< ((1 : Int32) &&& 31)) + (1 : Int32)), vi ch] [(.int 0), (.int ch), (.int (dv <<< ((1 : Int32) &&& 31))), (.ref arr)])) st4 ?_
 refine own_st (T' := T4) (g' := (mkF m 43 #[vr arr, vi ((dv <<< ((1 : Int32) &&& 31)) + (1 : Int32)), vi ch] [(.int ((ch >>> ((0 : Int32) &&& 31)).toInt8.toInt32)), (.int (dv <<< ((1 : Int32) &&& 31))), (.ref arr)])) (fun t k => ?_) ?_
 ·refine XS.ishr X4.here hx rfl (D d23_41) rfl ?_
  refine XS.i2b X4.here hx rfl (D d23_42) rfl ?_
  exact k
 obtain ⟨cl5, Ar5, q5, S5, M5, H5, G5⟩ := id V_a
 obtain ⟨T6, h6, X6, e6, W6, st6⟩ := stB X4 hx hZ e4 Ar5 (j := (dv <<< ((1 : Int32) &&& 31))) (inb_of S5 (own_inN hd2 hzz (by omega))) (g := (mkF m 43 #[vr arr, vi ((dv <<< ((1 : Int32) &&& 31)) + (1 : Int32)), vi ch] [(.int ((ch >>> ((0 : Int32) &&& 31)).toInt8.toInt32)), (.int (dv <<< ((1 : Int32) &&& 31))), (.ref arr)])) rfl rfl (D d23_43)
 have N6 := Fr.snoc X6 N0 g_a
 have K6 : Keep h0 h6 [arr] := (Keep.refl h0 [arr]).wr W6 (Or.inl (List.mem_of_getElem? (i := 0) rfl))
 have Z6 : n0 ≤ h6.size := Nat.le_trans Z0 (Keep.of_wr W6).1
 have O6 := O0.wr W6 g_a
 have fw6 := (show Arv Z h6 arr ka .byte zz ((bl.set ((dv <<< ((1 : Int32) &&& 31))).toNatClampNeg ((ch >>> ((0 : Int32) &&& 31)).toInt8.toInt32)).map Value.int) (.int 0) by have q := Arv.set Ar5 q5 S5 M5 H5 G5 (fits_nar_byte _) W6 (((dv <<< ((1 : Int32) &&& 31))).toNatClampNeg) rfl (by rw [List.length_map, own_clamp hd2]; omega); rw [own_lset, own_bb (ch >>> ((0 : Int32) &&& 31))] at q; exact q)
 refine own_st (g' := (mkF m 44 #[vr arr, vi ((dv <<< ((1 : Int32) &&& 31)) + (1 : Int32)), vi ch] [])) st6 ?_
 refine own_st (T' := T6) (g' := (mkF m 47 #[vr arr, vi ((dv <<< ((1 : Int32) &&& 31)) + (1 : Int32)), vi ch] [(.int ch), (.int ((dv <<< ((1 : Int32) &&& 31)) + (1 : Int32))), (.ref arr)])) (fun t k => ?_) ?_
 ·refine XS.aloadN X6.here hx rfl (D d23_44) rfl rfl ?_
  refine XS.iloadN X6.here hx rfl (D d23_45) rfl ?_
  refine XS.iloadN X6.here hx rfl (D d23_46) rfl ?_
  exact k
 have f7 := S_lb.ext O6.2
 obtain ⟨T8, X8, e8, st8⟩ := getS2 X6 hx hZ hown (host := "") (Or.inl (own_w hw 122 rfl)) Via.refl e6 f7 (g := (mkF m 47 #[vr arr, vi ((dv <<< ((1 : Int32) &&& 31)) + (1 : Int32)), vi ch] [(.int ch), (.int ((dv <<< ((1 : Int32) &&& 31)) + (1 : Int32))), (.ref arr)])) rfl (D d23_47)
 refine own_st (g' := (mkF m 50 #[vr arr, vi ((dv <<< ((1 : Int32) &&& 31)) + (1 : Int32)), vi ch] [(.int 8), (.int ch), (.int ((dv <<< ((1 : Int32) &&& 31)) + (1 : Int32))), (.ref arr)])) st8 ?_
 refine own_st (T' := T8) (g' := (mkF m 52 #[vr arr, vi ((dv <<< ((1 : Int32) &&& 31)) + (1 : Int32)), vi ch] [(.int ((ch >>> ((8 : Int32) &&& 31)).toInt8.toInt32)), (.int ((dv <<< ((1 : Int32) &&& 31)) + (1 : Int32))), (.ref arr)])) (fun t k => ?_) ?_
 ·refine XS.ishr X8.here hx rfl (D d23_50) rfl ?_
  refine XS.i2b X8.here hx rfl (D d23_51) rfl ?_
  exact k
 obtain ⟨cl9, Ar9, q9, S9, M9, H9, G9⟩ := id fw6
 obtain ⟨T10, h10, X10, e10, W10, st10⟩ := stB X8 hx hZ e8 Ar9 (j := ((dv <<< ((1 : Int32) &&& 31)) + (1 : Int32))) (inb_of S9 (own_inN (own_add hd2 own_i1 (by omega)) hzz (by omega))) (g := (mkF m 52 #[vr arr, vi ((dv <<< ((1 : Int32) &&& 31)) + (1 : Int32)), vi ch] [(.int ((ch >>> ((8 : Int32) &&& 31)).toInt8.toInt32)), (.int ((dv <<< ((1 : Int32) &&& 31)) + (1 : Int32))), (.ref arr)])) rfl rfl (D d23_52)
 have N10 := Fr.snoc X10 N6 g_a
 have K10 : Keep h0 h10 [arr] := K6.wr W10 (Or.inl (List.mem_of_getElem? (i := 0) rfl))
 have Z10 : n0 ≤ h10.size := Nat.le_trans Z6 (Keep.of_wr W10).1
 have O10 := O6.wr W10 g_a
 have fw10 := (show Arv Z h10 arr ka .byte zz (((bl.set ((dv <<< ((1 : Int32) &&& 31))).toNatClampNeg ((ch >>> ((0 : Int32) &&& 31)).toInt8.toInt32)).set (((dv <<< ((1 : Int32) &&& 31)) + (1 : Int32))).toNatClampNeg ((ch >>> ((8 : Int32) &&& 31)).toInt8.toInt32)).map Value.int) (.int 0) by have q := Arv.set Ar9 q9 S9 M9 H9 G9 (fits_nar_byte _) W10 ((((dv <<< ((1 : Int32) &&& 31)) + (1 : Int32))).toNatClampNeg) rfl (by rw [List.length_map, own_clamp (own_add hd2 own_i1 (by omega))]; rw [List.length_set]; omega); rw [own_lset, own_bb (ch >>> ((8 : Int32) &&& 31))] at q; exact q)
 refine own_st (g' := (mkF m 53 #[vr arr, vi ((dv <<< ((1 : Int32) &&& 31)) + (1 : Int32)), vi ch] [])) st10 ?_
 exact own_retV X10 hx Bd (D d23_53) e10 (⟨rfl, N10, K10, by have q := fw10; rw [own_clamp hd2, own_clamp (own_add hd2 own_i1 (by omega))] at q; exact q⟩) (by decide) (by decide)
def own_r21_0 : Room := { frames := 2, cells := 0, slots := 0, locals := 29 }
def own_Q21_0 (Z : State) (arr : Addr) (ka : ClassId) (bl : List Int32) (zz : Int32) (zn : Nat) (cs : Int32) (fm : Value) (u8 : Addr) (h0 : Heap) (n0 : Nat) : Option Value → Heap → List Loc → Prop := fun v h L => v = none ∧ Fr n0 L ∧ h = h0
theorem own_rm21_0 (l : Launch) (Z : State) (a0 : Array Value) (hw : own_W a0 Z) (arr : Addr) (ka : ClassId) (bl : List Int32) (zz : Int32) (zn : Nat) (cs : Int32) (fm : Value) (u8 : Addr) (h0 : Heap) (n0 : Nat) (Z0 : n0 ≤ h0.size) (O0 : Old Z n0 h0) (V_a : Arv Z h0 arr ka .byte zz (bl.map Value.int) (.int 0)) (hzz : zz.toInt = (zn : Int)) (hbl : bl.length = zn) (hz2 : 2 ≤ zn) (HB : own_BB Z cs fm u8) :
  own_MF l Z own_y15 (Jvm.Cond.code own_y15 jdk_52_method_94_code 3 none) [] own_r21_0 #[(.int 0), (.int 0), (.ref arr)] h0 (own_Q21_0 Z arr ka bl zz zn cs fm u8 h0 n0) := by
 refine own_open (plainFor_of_name own_pn5) hisR (Ls := #[vi 0, vi 0, vr arr]) ?_
 intro p e s m below meth c s₁ Bd hZ hx hby hml hown X0 e0
 have N0 := Fr.nil n0
 have D := @hb _ _ hby
 refine own_st (T' := s₁) (g' := (mkF m 3 #[vi 0, vi 0, vr arr] [(.ref arr), (.int 0), (.int 0)])) (fun t k => ?_) ?_
 ·refine XS.iloadN X0.here hx rfl (D d21_0) rfl ?_
  refine XS.iloadN X0.here hx rfl (D d21_1) rfl ?_
  refine XS.aloadN X0.here hx rfl (D d21_2) rfl rfl ?_
  exact k
 obtain ⟨_, _, ⟨T1, L1, c1, n1⟩, -, X1, ⟨Lc1, hQ1, l1, y1, z1⟩, st1⟩ := Jvm.LawKit.callS X0 hx (y := own_y11) hown (om hZ hw 113 rfl) (om hZ hw 114 rfl) (om hZ hw 97 rfl) (om hZ hw 115 rfl) (by decide) (backOf (W := 2) (own_rm22 l Z a0 hw arr ka bl zz cs fm u8 h0 n0 Z0 O0 V_a HB) hZ (own_w hw 115 rfl) (own_w hw 97 rfl) (by decide) (by decide)) (g := (mkF m 3 #[vi 0, vi 0, vr arr] [(.ref arr), (.int 0), (.int 0)])) rfl (by rw [hml]; rfl) (argsL := [(.ref arr)]) (rest := [(.int 0), (.int 0)]) (lenOf own_pd6 rfl) rfl own_w0 (D d21_3) (fun _ _ => ⟨rfl, e0, (by decide : 0 + 0 ≤ _), (by decide : 0 + 0 ≤ _)⟩)
 dsimp only [Pt.U, Pt.locs, Pt.cells, Pt.slots] at X1 l1 y1 z1 st1 hQ1
 subst l1 y1 z1
 obtain ⟨rfl, N1q, e1⟩ := hQ1
 have N1 := Fr.app N0 N1q
 refine own_st (g' := (mkF m 6 #[vi 0, vi 0, vr arr] [(.int (zz >>> ((1 : Int32) &&& 31))), (.int 0), (.int 0)])) st1 ?_
 obtain ⟨_, _, ⟨T2, L2, c2, n2⟩, -, X2, ⟨Lc2, hQ2, l2, y2, z2⟩, st2⟩ := Jvm.LawKit.callS X1 hx (y := own_y4) hown (om hZ hw 116 rfl) (om hZ hw 58 rfl) (om hZ hw 42 rfl) (om hZ hw 59 rfl) (by decide) (backOf (W := 0) (own_rm9 l Z a0 hw (0 : Int32) (0 : Int32) (zz >>> ((1 : Int32) &&& 31)) cs fm u8 h0 n0 Z0 O0 (own_hq1 (own_nn (own_shr1 hzz)) (by decide) (by decide)) (fun q => absurd ((own_ltN (own_subN (own_shr1 hzz) (show (0 : Int32).toInt = ((0 : Nat) : Int) from rfl) (Nat.zero_le _)) (show (0 : Int32).toInt = ((0 : Nat) : Int) from rfl)).mp q) (by omega)) HB) hZ (own_w hw 59 rfl) (own_w hw 42 rfl) (by decide) (by decide)) (g := (mkF m 6 #[vi 0, vi 0, vr arr] [(.int (zz >>> ((1 : Int32) &&& 31))), (.int 0), (.int 0)])) rfl (by rw [hml]; rfl) (argsL := [(.int 0), (.int 0), (.int (zz >>> ((1 : Int32) &&& 31)))]) (rest := []) (lenOf own_pd7 rfl) rfl own_w0 (D d21_6) (fun _ _ => ⟨rfl, e1, (by decide : 0 + 0 ≤ _), (by decide : 0 + 0 ≤ _)⟩)
 dsimp only [Pt.U, Pt.locs, Pt.cells, Pt.slots] at X2 l2 y2 z2 st2 hQ2
 subst l2 y2 z2
 obtain ⟨rfl, N2q, e2⟩ := hQ2
 have N2 := Fr.app N1 N2q
 refine own_st (g' := (mkF m 9 #[vi 0, vi 0, vr arr] [(.int 0)])) st2 ?_
 refine own_st (T' := T2) (g' := (mkF m 10 #[vi 0, vi 0, vr arr] [])) (fun t k => ?_) ?_
 ·refine XS.pop X2.here hx rfl (D d21_9) rfl rfl ?_
  exact k
 exact own_retV X2 hx Bd (D d21_10) e2 (⟨rfl, N2, rfl⟩) (by decide) (by decide)
def own_r21_1 : Room := { frames := 2, cells := 0, slots := 0, locals := 29 }
def own_Q21_1 (Z : State) (arr : Addr) (ka : ClassId) (bl : List Int32) (zz : Int32) (zn : Nat) (cs : Int32) (fm : Value) (u8 : Addr) (h0 : Heap) (n0 : Nat) : Option Value → Heap → List Loc → Prop := fun v h L => v = none ∧ Fr n0 L ∧ h = h0
theorem own_rm21_1 (l : Launch) (Z : State) (a0 : Array Value) (hw : own_W a0 Z) (arr : Addr) (ka : ClassId) (bl : List Int32) (zz : Int32) (zn : Nat) (cs : Int32) (fm : Value) (u8 : Addr) (h0 : Heap) (n0 : Nat) (Z0 : n0 ≤ h0.size) (O0 : Old Z n0 h0) (V_a : Arv Z h0 arr ka .byte zz (bl.map Value.int) (.int 0)) (hzz : zz.toInt = (zn : Int)) (hbl : bl.length = zn) (hz2 : 2 ≤ zn) (HB : own_BB Z cs fm u8) :
  own_MF l Z own_y15 (Jvm.Cond.code own_y15 jdk_52_method_94_code 3 none) [] own_r21_1 #[(.int 0), (.int 1), (.ref arr)] h0 (own_Q21_1 Z arr ka bl zz zn cs fm u8 h0 n0) := by
 refine own_open (plainFor_of_name own_pn5) hisR (Ls := #[vi 0, vi 1, vr arr]) ?_
 intro p e s m below meth c s₁ Bd hZ hx hby hml hown X0 e0
 have N0 := Fr.nil n0
 have D := @hb _ _ hby
 refine own_st (T' := s₁) (g' := (mkF m 3 #[vi 0, vi 1, vr arr] [(.ref arr), (.int 1), (.int 0)])) (fun t k => ?_) ?_
 ·refine XS.iloadN X0.here hx rfl (D d21_0) rfl ?_
  refine XS.iloadN X0.here hx rfl (D d21_1) rfl ?_
  refine XS.aloadN X0.here hx rfl (D d21_2) rfl rfl ?_
  exact k
 obtain ⟨_, _, ⟨T1, L1, c1, n1⟩, -, X1, ⟨Lc1, hQ1, l1, y1, z1⟩, st1⟩ := Jvm.LawKit.callS X0 hx (y := own_y11) hown (om hZ hw 113 rfl) (om hZ hw 114 rfl) (om hZ hw 97 rfl) (om hZ hw 115 rfl) (by decide) (backOf (W := 2) (own_rm22 l Z a0 hw arr ka bl zz cs fm u8 h0 n0 Z0 O0 V_a HB) hZ (own_w hw 115 rfl) (own_w hw 97 rfl) (by decide) (by decide)) (g := (mkF m 3 #[vi 0, vi 1, vr arr] [(.ref arr), (.int 1), (.int 0)])) rfl (by rw [hml]; rfl) (argsL := [(.ref arr)]) (rest := [(.int 1), (.int 0)]) (lenOf own_pd6 rfl) rfl own_w0 (D d21_3) (fun _ _ => ⟨rfl, e0, (by decide : 0 + 0 ≤ _), (by decide : 0 + 0 ≤ _)⟩)
 dsimp only [Pt.U, Pt.locs, Pt.cells, Pt.slots] at X1 l1 y1 z1 st1 hQ1
 subst l1 y1 z1
 obtain ⟨rfl, N1q, e1⟩ := hQ1
 have N1 := Fr.app N0 N1q
 refine own_st (g' := (mkF m 6 #[vi 0, vi 1, vr arr] [(.int (zz >>> ((1 : Int32) &&& 31))), (.int 1), (.int 0)])) st1 ?_
 obtain ⟨_, _, ⟨T2, L2, c2, n2⟩, -, X2, ⟨Lc2, hQ2, l2, y2, z2⟩, st2⟩ := Jvm.LawKit.callS X1 hx (y := own_y4) hown (om hZ hw 116 rfl) (om hZ hw 58 rfl) (om hZ hw 42 rfl) (om hZ hw 59 rfl) (by decide) (backOf (W := 0) (own_rm9 l Z a0 hw (0 : Int32) (1 : Int32) (zz >>> ((1 : Int32) &&& 31)) cs fm u8 h0 n0 Z0 O0 (own_hq1 (own_nn (own_shr1 hzz)) (by decide) (by decide)) (fun q => absurd ((own_ltN (own_subN (own_shr1 hzz) (show (0 : Int32).toInt = ((0 : Nat) : Int) from rfl) (Nat.zero_le _)) (show (1 : Int32).toInt = ((1 : Nat) : Int) from rfl)).mp q) (by omega)) HB) hZ (own_w hw 59 rfl) (own_w hw 42 rfl) (by decide) (by decide)) (g := (mkF m 6 #[vi 0, vi 1, vr arr] [(.int (zz >>> ((1 : Int32) &&& 31))), (.int 1), (.int 0)])) rfl (by rw [hml]; rfl) (argsL := [(.int 0), (.int 1), (.int (zz >>> ((1 : Int32) &&& 31)))]) (rest := []) (lenOf own_pd7 rfl) rfl own_w0 (D d21_6) (fun _ _ => ⟨rfl, e1, (by decide : 0 + 0 ≤ _), (by decide : 0 + 0 ≤ _)⟩)
 dsimp only [Pt.U, Pt.locs, Pt.cells, Pt.slots] at X2 l2 y2 z2 st2 hQ2
 subst l2 y2 z2
 obtain ⟨rfl, N2q, e2⟩ := hQ2
 have N2 := Fr.app N1 N2q
 refine own_st (g' := (mkF m 9 #[vi 0, vi 1, vr arr] [(.int 0)])) st2 ?_
 refine own_st (T' := T2) (g' := (mkF m 10 #[vi 0, vi 1, vr arr] [])) (fun t k => ?_) ?_
 ·refine XS.pop X2.here hx rfl (D d21_9) rfl rfl ?_
  exact k
 exact own_retV X2 hx Bd (D d21_10) e2 (⟨rfl, N2, rfl⟩) (by decide) (by decide)
def own_r20_0 : Room := { frames := 3, cells := 0, slots := 0, locals := 43 }
def own_Q20_0 (Z : State) (src arr : Addr) (ks ka : ClassId) (sl bl : List Int32) (sz zz : Int32) (zn : Nat) (s0 : Int32) (cs : Int32) (fm : Value) (u8 : Addr) (h0 : Heap) (n0 : Nat) : Option Value → Heap → List Loc → Prop := fun v h L => v = none ∧ Fr n0 L ∧ Keep h0 h [arr] ∧ Arv Z h arr ka .byte zz (bl.map Value.int) (.int 0)
theorem own_rm20_0 (l : Launch) (Z : State) (a0 : Array Value) (hw : own_W a0 Z) (src arr : Addr) (ks ka : ClassId) (sl bl : List Int32) (sz zz : Int32) (zn : Nat) (s0 : Int32) (cs : Int32) (fm : Value) (u8 : Addr) (h0 : Heap) (n0 : Nat) (Z0 : n0 ≤ h0.size) (O0 : Old Z n0 h0) (V_s : Arv Z h0 src ks .byte sz (sl.map Value.int) (.int 0)) (V_a : Arv Z h0 arr ka .byte zz (bl.map Value.int) (.int 0)) (hzz : zz.toInt = (zn : Int)) (hbl : bl.length = zn) (hz2 : 2 ≤ zn) (hz16 : zn ≤ 16) (g_a : n0 ≤ arr) (nsa : src ≠ arr) (hs0 : sl.getD 0 0 = s0) (hsz : (0 : Int32) < sz) (HB : own_BB Z cs fm u8) :
  own_MF l Z own_y16 (Jvm.Cond.code own_y16 jdk_52_method_86_code 6 none) [] own_r20_0 #[(.ref src), (.int 0), (.ref arr), (.int 0), (.int 0)] h0 (own_Q20_0 Z src arr ks ka sl bl sz zz zn s0 cs fm u8 h0 n0) := by
 refine own_open (plainFor_of_name own_pn5) hisR (Ls := #[vr src, vi 0, vr arr, vi 0, vi 0, .unset]) ?_
 intro p e s m below meth c s₁ Bd hZ hx hby hml hown X0 e0
 have N0 := Fr.nil n0
 have D := @hb _ _ hby
 refine own_st (T' := s₁) (g' := (mkF m 4 #[vr src, vi 0, vr arr, vi 0, vi 0, .unset] [(.ref arr), (.int 0), (.int 0)])) (fun t k => ?_) ?_
 ·refine XS.iloadN X0.here hx rfl (D d20_0) rfl ?_
  refine XS.iload X0.here hx rfl (D d20_1) rfl ?_
  refine XS.aloadN X0.here hx rfl (D d20_3) rfl rfl ?_
  exact k
 obtain ⟨_, _, ⟨T1, L1, c1, n1⟩, -, X1, ⟨Lc1, hQ1, l1, y1, z1⟩, st1⟩ := Jvm.LawKit.callS X0 hx (y := own_y15) hown (om hZ hw 110 rfl) (om hZ hw 111 rfl) (om hZ hw 97 rfl) (om hZ hw 112 rfl) (by decide) (backOf (W := 0) (own_rm21_0 l Z a0 hw arr ka bl zz zn cs fm u8 h0 n0 Z0 O0 V_a hzz hbl hz2 HB) hZ (own_w hw 112 rfl) (own_w hw 97 rfl) (by decide) (by decide)) (g := (mkF m 4 #[vr src, vi 0, vr arr, vi 0, vi 0, .unset] [(.ref arr), (.int 0), (.int 0)])) rfl (by rw [hml]; rfl) (argsL := [(.int 0), (.int 0), (.ref arr)]) (rest := []) (lenOf own_pd8 rfl) rfl own_w0 (D d20_4) (fun _ _ => ⟨rfl, e0, (by decide : 0 + 0 ≤ _), (by decide : 0 + 0 ≤ _)⟩)
 dsimp only [Pt.U, Pt.locs, Pt.cells, Pt.slots] at X1 l1 y1 z1 st1 hQ1
 subst l1 y1 z1
 obtain ⟨rfl, N1q, e1⟩ := hQ1
 have N1 := Fr.app N0 N1q
 refine own_st (g' := (mkF m 7 #[vr src, vi 0, vr arr, vi 0, vi 0, .unset] [])) st1 ?_
 refine own_st (T' := T1) (g' := (mkF m 41 #[vr src, vi 0, vr arr, vi 0, vi 0, vi 0] [])) (fun t k => ?_) ?_
 ·refine XS.iconst X1.here hx rfl (D d20_7) ?_
  refine XS.istore X1.here hx rfl (D d20_8) rfl (l' := #[vr src, vi 0, vr arr, vi 0, vi 0, vi 0]) rfl ?_
  refine XS.iload X1.here hx rfl (D d20_10) rfl ?_
  refine XS.iload X1.here hx rfl (D d20_12) rfl ?_
  refine XS.icmpYes X1.here hx rfl (pc0 := 14) (pc' := 41) rfl (D d20_14) rfl (flt Int32.lt_irrefl).2.1 (by decide) (by decide) ?_
  exact k
 exact own_retV X1 hx Bd (D d20_41) e1 (⟨rfl, N1, (Keep.refl h0 [arr]), V_a⟩) (by decide) (by decide)
def own_r20_1 : Room := { frames := 3, cells := 0, slots := 0, locals := 43 }
def own_Q20_1 (Z : State) (src arr : Addr) (ks ka : ClassId) (sl bl : List Int32) (sz zz : Int32) (zn : Nat) (s0 : Int32) (cs : Int32) (fm : Value) (u8 : Addr) (h0 : Heap) (n0 : Nat) : Option Value → Heap → List Loc → Prop := fun v h L => v = none ∧ Fr n0 L ∧ Keep h0 h [arr] ∧ Arv Z h arr ka .byte zz ((own_wrl bl (2 * 0) [own_LO (s0 &&& (255 : Int32)), own_HI (s0 &&& (255 : Int32))]).map Value.int) (.int 0)
theorem own_rm20_1 (l : Launch) (Z : State) (a0 : Array Value) (hw : own_W a0 Z) (src arr : Addr) (ks ka : ClassId) (sl bl : List Int32) (sz zz : Int32) (zn : Nat) (s0 : Int32) (cs : Int32) (fm : Value) (u8 : Addr) (h0 : Heap) (n0 : Nat) (Z0 : n0 ≤ h0.size) (O0 : Old Z n0 h0) (V_s : Arv Z h0 src ks .byte sz (sl.map Value.int) (.int 0)) (V_a : Arv Z h0 arr ka .byte zz (bl.map Value.int) (.int 0)) (hzz : zz.toInt = (zn : Int)) (hbl : bl.length = zn) (hz2 : 2 ≤ zn) (hz16 : zn ≤ 16) (g_a : n0 ≤ arr) (nsa : src ≠ arr) (hs0 : sl.getD 0 0 = s0) (hsz : (0 : Int32) < sz) (HB : own_BB Z cs fm u8) :
  own_MF l Z own_y16 (Jvm.Cond.code own_y16 jdk_52_method_86_code 6 none) [] own_r20_1 #[(.ref src), (.int 0), (.ref arr), (.int 0), (.int 1)] h0 (own_Q20_1 Z src arr ks ka sl bl sz zz zn s0 cs fm u8 h0 n0) := by
 refine own_open (plainFor_of_name own_pn5) hisR (Ls := #[vr src, vi 0, vr arr, vi 0, vi 1, .unset]) ?_
 intro p e s m below meth c s₁ Bd hZ hx hby hml hown X0 e0
 have N0 := Fr.nil n0
 have D := @hb _ _ hby
 refine own_st (T' := s₁) (g' := (mkF m 4 #[vr src, vi 0, vr arr, vi 0, vi 1, .unset] [(.ref arr), (.int 1), (.int 0)])) (fun t k => ?_) ?_
 ·refine XS.iloadN X0.here hx rfl (D d20_0) rfl ?_
  refine XS.iload X0.here hx rfl (D d20_1) rfl ?_
  refine XS.aloadN X0.here hx rfl (D d20_3) rfl rfl ?_
  exact k
 obtain ⟨_, _, ⟨T1, L1, c1, n1⟩, -, X1, ⟨Lc1, hQ1, l1, y1, z1⟩, st1⟩ := Jvm.LawKit.callS X0 hx (y := own_y15) hown (om hZ hw 110 rfl) (om hZ hw 111 rfl) (om hZ hw 97 rfl) (om hZ hw 112 rfl) (by decide) (backOf (W := 0) (own_rm21_1 l Z a0 hw arr ka bl zz zn cs fm u8 h0 n0 Z0 O0 V_a hzz hbl hz2 HB) hZ (own_w hw 112 rfl) (own_w hw 97 rfl) (by decide) (by decide)) (g := (mkF m 4 #[vr src, vi 0, vr arr, vi 0, vi 1, .unset] [(.ref arr), (.int 1), (.int 0)])) rfl (by rw [hml]; rfl) (argsL := [(.int 0), (.int 1), (.ref arr)]) (rest := []) (lenOf own_pd8 rfl) rfl own_w0 (D d20_4) (fun _ _ => ⟨rfl, e0, (by decide : 0 + 0 ≤ _), (by decide : 0 + 0 ≤ _)⟩)
 dsimp only [Pt.U, Pt.locs, Pt.cells, Pt.slots] at X1 l1 y1 z1 st1 hQ1
 subst l1 y1 z1
 obtain ⟨rfl, N1q, e1⟩ := hQ1
 have N1 := Fr.app N0 N1q
 refine own_st (g' := (mkF m 7 #[vr src, vi 0, vr arr, vi 0, vi 1, .unset] [])) st1 ?_
 refine own_st (T' := T1) (g' := (mkF m 27 #[vr src, vi 1, vr arr, vi 1, vi 1, vi 0] [(.int 0), (.ref src), (.int 0), (.ref arr)])) (fun t k => ?_) ?_
 ·refine XS.iconst X1.here hx rfl (D d20_7) ?_
  refine XS.istore X1.here hx rfl (D d20_8) rfl (l' := #[vr src, vi 0, vr arr, vi 0, vi 1, vi 0]) rfl ?_
  refine XS.iload X1.here hx rfl (D d20_10) rfl ?_
  refine XS.iload X1.here hx rfl (D d20_12) rfl ?_
  refine XS.icmpNo X1.here hx rfl (D d20_14) rfl (tlt (by decide : (0 : Int32) < (1 : Int32))).2.1 ?_
  refine XS.aloadN X1.here hx rfl (D d20_17) rfl rfl ?_
  refine XS.iloadN X1.here hx rfl (D d20_18) rfl ?_
  refine XS.iinc X1.here hx rfl (D d20_19) rfl (l' := #[vr src, vi 0, vr arr, vi 1, vi 1, vi 0]) rfl ?_
  refine XS.aloadN X1.here hx rfl (D d20_22) rfl rfl ?_
  refine XS.iloadN X1.here hx rfl (D d20_23) rfl ?_
  refine XS.iinc X1.here hx rfl (D d20_24) rfl (l' := #[vr src, vi 1, vr arr, vi 1, vi 1, vi 0]) rfl ?_
  exact k
 obtain ⟨cl2, Ar2, q2, S2, M2, H2, G2⟩ := id V_s
 refine own_st (T' := T1) (g' := (mkF m 32 #[vr src, vi 1, vr arr, vi 1, vi 1, vi 0] [(.int (s0 &&& (255 : Int32))), (.int 0), (.ref arr)])) (fun t k => ?_) ?_
 ·refine X1.baloadBytes hx (j := (0 : Int32)) (v := (.int s0)) (by rw [e1]; exact Ar2.1) (State.isArrayOf_alike hZ.alike Ar2.2.1) Ar2.2.2 (inb_of S2 ⟨by decide, hsz⟩) (Has.at H2 (inb_of S2 ⟨by decide, hsz⟩) ((own_lget sl ((0 : Int32)).toNatClampNeg).trans (congrArg Value.int hs0))) (g := (mkF m 27 #[vr src, vi 1, vr arr, vi 1, vi 1, vi 0] [(.int 0), (.ref src), (.int 0), (.ref arr)])) rfl rfl (D d20_27) _ ?_
  refine XS.sipush X1.here hx rfl (D d20_28) ?_
  refine XS.iand X1.here hx rfl (D d20_31) rfl ?_
  exact k
 obtain ⟨_, _, ⟨T3, L3, c3, n3⟩, -, X3, ⟨Lc3, hQ3, l3, y3, z3⟩, st3⟩ := Jvm.LawKit.callS X1 hx (y := own_y14) hown (om hZ hw 117 rfl) (om hZ hw 118 rfl) (om hZ hw 97 rfl) (om hZ hw 119 rfl) (by decide) (backOf (W := 0) (own_rm23 l Z a0 hw arr ka bl zz zn (0 : Int32) (s0 &&& (255 : Int32)) 0 cs fm u8 h0 n0 Z0 O0 V_a hzz hbl g_a rfl (by omega) hz16 HB) hZ (own_w hw 119 rfl) (own_w hw 97 rfl) (by decide) (by decide)) (g := (mkF m 32 #[vr src, vi 1, vr arr, vi 1, vi 1, vi 0] [(.int (s0 &&& (255 : Int32))), (.int 0), (.ref arr)])) rfl (by rw [hml]; rfl) (argsL := [(.ref arr), (.int 0), (.int (s0 &&& (255 : Int32)))]) (rest := []) (lenOf own_pd9 rfl) rfl own_w0 (D d20_32) (fun _ _ => ⟨rfl, e1, (by decide : 0 + 0 ≤ _), (by decide : 0 + 0 ≤ _)⟩)
 dsimp only [Pt.U, Pt.locs, Pt.cells, Pt.slots] at X3 l3 y3 z3 st3 hQ3
 subst l3 y3 z3
 obtain ⟨h3, e3⟩ : ∃ z, T3.heap = z := ⟨_, rfl⟩
 rw [e3] at hQ3
 obtain ⟨rfl, N3q, Kc3, Vc3⟩ := hQ3
 have N3 := Fr.app N1 N3q
 have K3 : Keep h0 h3 [arr] := (Keep.refl h0 [arr]).trans Kc3 (allS (Or.inl (List.mem_of_getElem? (i := 0) rfl)) all0)
 have Z3 : n0 ≤ h3.size := Nat.le_trans Z0 Kc3.1
 have O3 := O0.keep Kc3 (allS g_a all0)
 refine own_st (g' := (mkF m 35 #[vr src, vi 1, vr arr, vi 1, vi 1, vi 0] [])) st3 ?_
 refine own_st (T' := T3) (g' := (mkF m 41 #[vr src, vi 1, vr arr, vi 1, vi 1, vi 1] [])) (fun t k => ?_) ?_
 ·refine XS.iinc X3.here hx rfl (D d20_35) rfl (l' := #[vr src, vi 1, vr arr, vi 1, vi 1, vi 1]) rfl ?_
  refine XS.goto X3.here hx rfl (pc0 := 38) (pc' := 10) rfl (D d20_38) (by decide) (by decide) ?_
  refine XS.iload X3.here hx rfl (D d20_10) rfl ?_
  refine XS.iload X3.here hx rfl (D d20_12) rfl ?_
  refine XS.icmpYes X3.here hx rfl (pc0 := 14) (pc' := 41) rfl (D d20_14) rfl (flt Int32.lt_irrefl).2.1 (by decide) (by decide) ?_
  exact k
 exact own_retV X3 hx Bd (D d20_41) e3 (⟨rfl, N3, K3, Vc3⟩) (by decide) (by decide)
def own_r19_0 : Room := { frames := 4, cells := 0, slots := 0, locals := 60 }
def own_Q19_0 (Z : State) (src arr : Addr) (ks ka : ClassId) (sl bl : List Int32) (sz zz : Int32) (zn : Nat) (s0 : Int32) (cs : Int32) (fm : Value) (u8 : Addr) (h0 : Heap) (n0 : Nat) : Option Value → Heap → List Loc → Prop := fun v h L => v = none ∧ Fr n0 L ∧ Keep h0 h [arr] ∧ Arv Z h arr ka .byte zz (bl.map Value.int) (.int 0)
theorem own_rm19_0 (l : Launch) (Z : State) (a0 : Array Value) (hw : own_W a0 Z) (src arr : Addr) (ks ka : ClassId) (sl bl : List Int32) (sz zz : Int32) (zn : Nat) (s0 : Int32) (cs : Int32) (fm : Value) (u8 : Addr) (h0 : Heap) (n0 : Nat) (Z0 : n0 ≤ h0.size) (O0 : Old Z n0 h0) (V_s : Arv Z h0 src ks .byte sz (sl.map Value.int) (.int 0)) (V_a : Arv Z h0 arr ka .byte zz (bl.map Value.int) (.int 0)) (hzz : zz.toInt = (zn : Int)) (hbl : bl.length = zn) (hz2 : 2 ≤ zn) (hz16 : zn ≤ 16) (g_a : n0 ≤ arr) (nsa : src ≠ arr) (hs0 : sl.getD 0 0 = s0) (hsz : (0 : Int32) < sz) (HB : own_BB Z cs fm u8) :
  own_MF l Z own_y17 (Jvm.Cond.code own_y17 jdk_43_method_50_code 5 none) [] own_r19_0 #[(.ref src), (.int 0), (.ref arr), (.int 0), (.int 0)] h0 (own_Q19_0 Z src arr ks ka sl bl sz zz zn s0 cs fm u8 h0 n0) := by
 refine own_open (plainFor_of_name own_pn6) hisR (Ls := #[vr src, vi 0, vr arr, vi 0, vi 0]) ?_
 intro p e s m below meth c s₁ Bd hZ hx hby hml hown X0 e0
 have N0 := Fr.nil n0
 have D := @hb _ _ hby
 refine own_st (T' := s₁) (g' := (mkF m 6 #[vr src, vi 0, vr arr, vi 0, vi 0] [(.int 0), (.int 0), (.ref arr), (.int 0), (.ref src)])) (fun t k => ?_) ?_
 ·refine XS.aloadN X0.here hx rfl (D d19_0) rfl rfl ?_
  refine XS.iloadN X0.here hx rfl (D d19_1) rfl ?_
  refine XS.aloadN X0.here hx rfl (D d19_2) rfl rfl ?_
  refine XS.iloadN X0.here hx rfl (D d19_3) rfl ?_
  refine XS.iload X0.here hx rfl (D d19_4) rfl ?_
  exact k
 obtain ⟨_, _, ⟨T1, L1, c1, n1⟩, -, X1, ⟨Lc1, hQ1, l1, y1, z1⟩, st1⟩ := Jvm.LawKit.callS X0 hx (y := own_y16) hown (om hZ hw 107 rfl) (om hZ hw 108 rfl) (om hZ hw 97 rfl) (om hZ hw 109 rfl) (by decide) (backOf (W := 0) (own_rm20_0 l Z a0 hw src arr ks ka sl bl sz zz zn s0 cs fm u8 h0 n0 Z0 O0 V_s V_a hzz hbl hz2 hz16 g_a nsa hs0 hsz HB) hZ (own_w hw 109 rfl) (own_w hw 97 rfl) (by decide) (by decide)) (g := (mkF m 6 #[vr src, vi 0, vr arr, vi 0, vi 0] [(.int 0), (.int 0), (.ref arr), (.int 0), (.ref src)])) rfl (by rw [hml]; rfl) (argsL := [(.ref src), (.int 0), (.ref arr), (.int 0), (.int 0)]) (rest := []) (lenOf own_pd10 rfl) rfl own_w0 (D d19_6) (fun _ _ => ⟨rfl, e0, (by decide : 0 + 0 ≤ _), (by decide : 0 + 0 ≤ _)⟩)
 dsimp only [Pt.U, Pt.locs, Pt.cells, Pt.slots] at X1 l1 y1 z1 st1 hQ1
 subst l1 y1 z1
 obtain ⟨h1, e1⟩ : ∃ z, T1.heap = z := ⟨_, rfl⟩
 rw [e1] at hQ1
 obtain ⟨rfl, N1q, Kc1, Vc1⟩ := hQ1
 have N1 := Fr.app N0 N1q
 have K1 : Keep h0 h1 [arr] := (Keep.refl h0 [arr]).trans Kc1 (allS (Or.inl (List.mem_of_getElem? (i := 0) rfl)) all0)
 have Z1 : n0 ≤ h1.size := Nat.le_trans Z0 Kc1.1
 have O1 := O0.keep Kc1 (allS g_a all0)
 refine own_st (g' := (mkF m 9 #[vr src, vi 0, vr arr, vi 0, vi 0] [])) st1 ?_
 exact own_retV X1 hx Bd (D d19_9) e1 (⟨rfl, N1, K1, Vc1⟩) (by decide) (by decide)
def own_r19_1 : Room := { frames := 4, cells := 0, slots := 0, locals := 60 }
def own_Q19_1 (Z : State) (src arr : Addr) (ks ka : ClassId) (sl bl : List Int32) (sz zz : Int32) (zn : Nat) (s0 : Int32) (cs : Int32) (fm : Value) (u8 : Addr) (h0 : Heap) (n0 : Nat) : Option Value → Heap → List Loc → Prop := fun v h L => v = none ∧ Fr n0 L ∧ Keep h0 h [arr] ∧ Arv Z h arr ka .byte zz ((own_wrl bl (2 * 0) [own_LO (s0 &&& (255 : Int32)), own_HI (s0 &&& (255 : Int32))]).map Value.int) (.int 0)
theorem own_rm19_1 (l : Launch) (Z : State) (a0 : Array Value) (hw : own_W a0 Z) (src arr : Addr) (ks ka : ClassId) (sl bl : List Int32) (sz zz : Int32) (zn : Nat) (s0 : Int32) (cs : Int32) (fm : Value) (u8 : Addr) (h0 : Heap) (n0 : Nat) (Z0 : n0 ≤ h0.size) (O0 : Old Z n0 h0) (V_s : Arv Z h0 src ks .byte sz (sl.map Value.int) (.int 0)) (V_a : Arv Z h0 arr ka .byte zz (bl.map Value.int) (.int 0)) (hzz : zz.toInt = (zn : Int)) (hbl : bl.length = zn) (hz2 : 2 ≤ zn) (hz16 : zn ≤ 16) (g_a : n0 ≤ arr) (nsa : src ≠ arr) (hs0 : sl.getD 0 0 = s0) (hsz : (0 : Int32) < sz) (HB : own_BB Z cs fm u8) :
  own_MF l Z own_y17 (Jvm.Cond.code own_y17 jdk_43_method_50_code 5 none) [] own_r19_1 #[(.ref src), (.int 0), (.ref arr), (.int 0), (.int 1)] h0 (own_Q19_1 Z src arr ks ka sl bl sz zz zn s0 cs fm u8 h0 n0) := by
 refine own_open (plainFor_of_name own_pn6) hisR (Ls := #[vr src, vi 0, vr arr, vi 0, vi 1]) ?_
 intro p e s m below meth c s₁ Bd hZ hx hby hml hown X0 e0
 have N0 := Fr.nil n0
 have D := @hb _ _ hby
 refine own_st (T' := s₁) (g' := (mkF m 6 #[vr src, vi 0, vr arr, vi 0, vi 1] [(.int 1), (.int 0), (.ref arr), (.int 0), (.ref src)])) (fun t k => ?_) ?_
 ·refine XS.aloadN X0.here hx rfl (D d19_0) rfl rfl ?_
  refine XS.iloadN X0.here hx rfl (D d19_1) rfl ?_
  refine XS.aloadN X0.here hx rfl (D d19_2) rfl rfl ?_
  refine XS.iloadN X0.here hx rfl (D d19_3) rfl ?_
  refine XS.iload X0.here hx rfl (D d19_4) rfl ?_
  exact k
 obtain ⟨_, _, ⟨T1, L1, c1, n1⟩, -, X1, ⟨Lc1, hQ1, l1, y1, z1⟩, st1⟩ := Jvm.LawKit.callS X0 hx (y := own_y16) hown (om hZ hw 107 rfl) (om hZ hw 108 rfl) (om hZ hw 97 rfl) (om hZ hw 109 rfl) (by decide) (backOf (W := 0) (own_rm20_1 l Z a0 hw src arr ks ka sl bl sz zz zn s0 cs fm u8 h0 n0 Z0 O0 V_s V_a hzz hbl hz2 hz16 g_a nsa hs0 hsz HB) hZ (own_w hw 109 rfl) (own_w hw 97 rfl) (by decide) (by decide)) (g := (mkF m 6 #[vr src, vi 0, vr arr, vi 0, vi 1] [(.int 1), (.int 0), (.ref arr), (.int 0), (.ref src)])) rfl (by rw [hml]; rfl) (argsL := [(.ref src), (.int 0), (.ref arr), (.int 0), (.int 1)]) (rest := []) (lenOf own_pd10 rfl) rfl own_w0 (D d19_6) (fun _ _ => ⟨rfl, e0, (by decide : 0 + 0 ≤ _), (by decide : 0 + 0 ≤ _)⟩)
 dsimp only [Pt.U, Pt.locs, Pt.cells, Pt.slots] at X1 l1 y1 z1 st1 hQ1
 subst l1 y1 z1
 obtain ⟨h1, e1⟩ : ∃ z, T1.heap = z := ⟨_, rfl⟩
 rw [e1] at hQ1
 obtain ⟨rfl, N1q, Kc1, Vc1⟩ := hQ1
 have N1 := Fr.app N0 N1q
 have K1 : Keep h0 h1 [arr] := (Keep.refl h0 [arr]).trans Kc1 (allS (Or.inl (List.mem_of_getElem? (i := 0) rfl)) all0)
 have Z1 : n0 ≤ h1.size := Nat.le_trans Z0 Kc1.1
 have O1 := O0.keep Kc1 (allS g_a all0)
 refine own_st (g' := (mkF m 9 #[vr src, vi 0, vr arr, vi 0, vi 1] [])) st1 ?_
 exact own_retV X1 hx Bd (D d19_9) e1 (⟨rfl, N1, K1, Vc1⟩) (by decide) (by decide)
def own_r43 : Room := { frames := 0, cells := 0, slots := 0, locals := 0 }
theorem own_rm43 (l : Launch) (Z : State) (a0 : Array Value) (hw : own_W a0 Z) (da db : Int32) (cs : Int32) (fm : Value) (u8 : Addr) (h0 : Heap) (n0 : Nat) (Z0 : n0 ≤ h0.size) (O0 : Old Z n0 h0) (HB : own_BB Z cs fm u8) :
  own_MF l Z own_y18 (Jvm.Cond.code own_y18 jdk_42_method_35_code 2 (some .char)) [] own_r43 #[(.int da), (.int db)] h0 (own_P h0 n0 (.int (own_d2 da db))) := by
 refine own_open (plainFor_of_name own_pn1) hisR (Ls := #[vi da, vi db]) ?_
 intro p e s m below meth c s₁ Bd hZ hx hby hml hown X0 e0
 have N0 := Fr.nil n0
 have D := @hb _ _ hby
 refine own_st (T' := s₁) (g' := (mkF m 11 #[vi da, vi db] [(.int ((((da <<< ((6 : Int32) &&& 31)) ^^^ db) ^^^ (3968 : Int32)).toUInt32.toUInt16.toUInt32.toInt32))])) (fun t k => ?_) ?_
 ·refine XS.iloadN X0.here hx rfl (D d43_0) rfl ?_
  refine XS.bipush X0.here hx rfl (D d43_1) ?_
  refine XS.ishl X0.here hx rfl (D d43_3) rfl ?_
  refine XS.iloadN X0.here hx rfl (D d43_4) rfl ?_
  refine XS.ixor X0.here hx rfl (D d43_5) rfl ?_
  refine XS.sipush X0.here hx rfl (D d43_6) ?_
  refine XS.ixor X0.here hx rfl (D d43_9) rfl ?_
  refine XS.i2c X0.here hx rfl (D d43_10) rfl ?_
  exact k
 exact own_retN X0 hx Bd (t := .char) (by simp) (XT.narrow_c _) (D d43_11) e0 (⟨rfl, N0, rfl⟩) (by decide) (by decide)
def own_r26 : Room := { frames := 0, cells := 0, slots := 0, locals := 0 }
theorem own_rm26 (l : Launch) (Z : State) (a0 : Array Value) (hw : own_W a0 Z) (da db dc : Int32) (cs : Int32) (fm : Value) (u8 : Addr) (h0 : Heap) (n0 : Nat) (Z0 : n0 ≤ h0.size) (O0 : Old Z n0 h0) (HB : own_BB Z cs fm u8) :
  own_MF l Z own_y19 (Jvm.Cond.code own_y19 jdk_42_method_36_code 3 (some .char)) [] own_r26 #[(.int da), (.int db), (.int dc)] h0 (own_P h0 n0 (.int (own_d3 da db dc))) := by
 refine own_open (plainFor_of_name own_pn1) hisR (Ls := #[vi da, vi db, vi dc]) ?_
 intro p e s m below meth c s₁ Bd hZ hx hby hml hown X0 e0
 have N0 := Fr.nil n0
 have D := @hb _ _ hby
 refine own_st (T' := s₁) (g' := (mkF m 16 #[vi da, vi db, vi dc] [(.int ((((da <<< ((12 : Int32) &&& 31)) ^^^ (db <<< ((6 : Int32) &&& 31))) ^^^ (dc ^^^ (-123008 : Int32))).toUInt32.toUInt16.toUInt32.toInt32))])) (fun t k => ?_) ?_
 ·refine XS.iloadN X0.here hx rfl (D d26_0) rfl ?_
  refine XS.bipush X0.here hx rfl (D d26_1) ?_
  refine XS.ishl X0.here hx rfl (D d26_3) rfl ?_
  refine XS.iloadN X0.here hx rfl (D d26_4) rfl ?_
  refine XS.bipush X0.here hx rfl (D d26_5) ?_
  refine XS.ishl X0.here hx rfl (D d26_7) rfl ?_
  refine XS.ixor X0.here hx rfl (D d26_8) rfl ?_
  refine XS.iloadN X0.here hx rfl (D d26_9) rfl ?_
  refine X0.ldcwInt hx hown (om hZ hw 132 rfl) (g := (mkF m 10 #[vi da, vi db, vi dc] [(.int dc), (.int ((da <<< ((12 : Int32) &&& 31)) ^^^ (db <<< ((6 : Int32) &&& 31))))])) rfl (D d26_10) _ ?_
  refine XS.ixor X0.here hx rfl (D d26_13) rfl ?_
  refine XS.ixor X0.here hx rfl (D d26_14) rfl ?_
  refine XS.i2c X0.here hx rfl (D d26_15) rfl ?_
  exact k
 exact own_retN X0 hx Bd (t := .char) (by simp) (XT.narrow_c _) (D d26_16) e0 (⟨rfl, N0, rfl⟩) (by decide) (by decide)
def own_r38 : Room := { frames := 0, cells := 0, slots := 0, locals := 0 }
theorem own_rm38 (l : Launch) (Z : State) (a0 : Array Value) (hw : own_W a0 Z) (da db dc dd : Int32) (cs : Int32) (fm : Value) (u8 : Addr) (h0 : Heap) (n0 : Nat) (Z0 : n0 ≤ h0.size) (O0 : Old Z n0 h0) (HB : own_BB Z cs fm u8) :
  own_MF l Z own_y20 (Jvm.Cond.code own_y20 jdk_42_method_37_code 4 (some .int)) [] own_r38 #[(.int da), (.int db), (.int dc), (.int dd)] h0 (own_P h0 n0 (.int (own_d4 da db dc dd))) := by
 refine own_open (plainFor_of_name own_pn1) hisR (Ls := #[vi da, vi db, vi dc, vi dd]) ?_
 intro p e s m below meth c s₁ Bd hZ hx hby hml hown X0 e0
 have N0 := Fr.nil n0
 have D := @hb _ _ hby
 refine own_st (T' := s₁) (g' := (mkF m 20 #[vi da, vi db, vi dc, vi dd] [(.int ((((da <<< ((18 : Int32) &&& 31)) ^^^ (db <<< ((12 : Int32) &&& 31))) ^^^ (dc <<< ((6 : Int32) &&& 31))) ^^^ (dd ^^^ (3678080 : Int32))))])) (fun t k => ?_) ?_
 ·refine XS.iloadN X0.here hx rfl (D d38_0) rfl ?_
  refine XS.bipush X0.here hx rfl (D d38_1) ?_
  refine XS.ishl X0.here hx rfl (D d38_3) rfl ?_
  refine XS.iloadN X0.here hx rfl (D d38_4) rfl ?_
  refine XS.bipush X0.here hx rfl (D d38_5) ?_
  refine XS.ishl X0.here hx rfl (D d38_7) rfl ?_
  refine XS.ixor X0.here hx rfl (D d38_8) rfl ?_
  refine XS.iloadN X0.here hx rfl (D d38_9) rfl ?_
  refine XS.bipush X0.here hx rfl (D d38_10) ?_
  refine XS.ishl X0.here hx rfl (D d38_12) rfl ?_
  refine XS.ixor X0.here hx rfl (D d38_13) rfl ?_
  refine XS.iloadN X0.here hx rfl (D d38_14) rfl ?_
  refine X0.ldcwInt hx hown (om hZ hw 191 rfl) (g := (mkF m 15 #[vi da, vi db, vi dc, vi dd] [(.int dd), (.int (((da <<< ((18 : Int32) &&& 31)) ^^^ (db <<< ((12 : Int32) &&& 31))) ^^^ (dc <<< ((6 : Int32) &&& 31))))])) rfl (D d38_15) _ ?_
  refine XS.ixor X0.here hx rfl (D d38_18) rfl ?_
  refine XS.ixor X0.here hx rfl (D d38_19) rfl ?_
  exact k
 exact own_retI X0 hx Bd (D d38_20) e0 (⟨rfl, N0, rfl⟩) (by decide) (by decide)
def own_r45 : Room := { frames := 0, cells := 0, slots := 0, locals := 0 }
theorem own_rm45 (l : Launch) (Z : State) (a0 : Array Value) (hw : own_W a0 Z) (da : Int32) (cs : Int32) (fm : Value) (u8 : Addr) (h0 : Heap) (n0 : Nat) (Z0 : n0 ≤ h0.size) (O0 : Old Z n0 h0) (hq : (da &&& (192 : Int32)) = (128 : Int32)) (HB : own_BB Z cs fm u8) :
  own_MF l Z own_y21 (Jvm.Cond.code own_y21 jdk_42_method_29_code 1 (some .boolean)) [] own_r45 #[(.int da)] h0 (own_P h0 n0 (.int 0)) := by
 refine own_open (plainFor_of_name own_pn1) hisR (Ls := #[vi da]) ?_
 intro p e s m below meth c s₁ Bd hZ hx hby hml hown X0 e0
 have N0 := Fr.nil n0
 have D := @hb _ _ hby
 refine own_st (T' := s₁) (g' := (mkF m 16 #[vi da] [(.int 0)])) (fun t k => ?_) ?_
 ·refine XS.iloadN X0.here hx rfl (D d45_0) rfl ?_
  refine XS.sipush X0.here hx rfl (D d45_1) ?_
  refine XS.iand X0.here hx rfl (D d45_4) rfl ?_
  refine XS.sipush X0.here hx rfl (D d45_5) ?_
  refine XS.icmpYes X0.here hx rfl (pc0 := 8) (pc' := 15) rfl (D d45_8) rfl (teq hq).1 (by decide) (by decide) ?_
  refine XS.iconst X0.here hx rfl (D d45_15) ?_
  exact k
 exact own_retN X0 hx Bd (t := .boolean) (by simp) rfl (D d45_16) e0 (⟨rfl, N0, rfl⟩) (by decide) (by decide)
def own_r25 : Room := { frames := 0, cells := 0, slots := 0, locals := 0 }
theorem own_rm25 (l : Launch) (Z : State) (a0 : Array Value) (hw : own_W a0 Z) (da db dc : Int32) (cs : Int32) (fm : Value) (u8 : Addr) (h0 : Heap) (n0 : Nat) (Z0 : n0 ≤ h0.size) (O0 : Old Z n0 h0) (hK : own_K3 da db dc) (HB : own_BB Z cs fm u8) :
  own_MF l Z own_y22 (Jvm.Cond.code own_y22 jdk_42_method_30_code 3 (some .boolean)) [] own_r25 #[(.int da), (.int db), (.int dc)] h0 (own_P h0 n0 (.int 0)) := by
 refine own_open (plainFor_of_name own_pn1) hisR (Ls := #[vi da, vi db, vi dc]) ?_
 intro p e s m below meth c s₁ Bd hZ hx hby hml hown X0 e0
 have N0 := Fr.nil n0
 have D := @hb _ _ hby
 refine own_st (T' := s₁) (g' := (mkF m 3 #[vi da, vi db, vi dc] [(.int (-32)), (.int da)])) (fun t k => ?_) ?_
 ·refine XS.iloadN X0.here hx rfl (D d25_0) rfl ?_
  refine XS.bipush X0.here hx rfl (D d25_1) ?_
  exact k
 by_cases h32 : da = (-32 : Int32)
 ·refine own_st (T' := s₁) (g' := (mkF m 44 #[vi da, vi db, vi dc] [(.int 0)])) (fun t k => ?_) ?_
  ·refine XS.icmpNo X0.here hx rfl (D d25_3) rfl (teq h32).2 ?_
   refine XS.iloadN X0.here hx rfl (D d25_6) rfl ?_
   refine XS.sipush X0.here hx rfl (D d25_7) ?_
   refine XS.iand X0.here hx rfl (D d25_10) rfl ?_
   refine XS.sipush X0.here hx rfl (D d25_11) ?_
   refine XS.icmpNo X0.here hx rfl (D d25_14) rfl (feq (hK.2.2.2.2.1 h32)).1 ?_
   refine XS.iloadN X0.here hx rfl (D d25_17) rfl ?_
   refine XS.sipush X0.here hx rfl (D d25_18) ?_
   refine XS.iand X0.here hx rfl (D d25_21) rfl ?_
   refine XS.sipush X0.here hx rfl (D d25_22) ?_
   refine XS.icmpNo X0.here hx rfl (D d25_25) rfl (teq hK.2.2.2.2.2.1).2 ?_
   refine XS.iloadN X0.here hx rfl (D d25_28) rfl ?_
   refine XS.sipush X0.here hx rfl (D d25_29) ?_
   refine XS.iand X0.here hx rfl (D d25_32) rfl ?_
   refine XS.sipush X0.here hx rfl (D d25_33) ?_
   refine XS.icmpYes X0.here hx rfl (pc0 := 36) (pc' := 43) rfl (D d25_36) rfl (teq hK.2.2.2.2.2.2.1).1 (by decide) (by decide) ?_
   refine XS.iconst X0.here hx rfl (D d25_43) ?_
   exact k
  exact own_retN X0 hx Bd (t := .boolean) (by simp) rfl (D d25_44) e0 (⟨rfl, N0, rfl⟩) (by decide) (by decide)
 ·refine own_st (T' := s₁) (g' := (mkF m 44 #[vi da, vi db, vi dc] [(.int 0)])) (fun t k => ?_) ?_
  ·refine XS.icmpYes X0.here hx rfl (pc0 := 3) (pc' := 17) rfl (D d25_3) rfl (feq h32).2 (by decide) (by decide) ?_
   refine XS.iloadN X0.here hx rfl (D d25_17) rfl ?_
   refine XS.sipush X0.here hx rfl (D d25_18) ?_
   refine XS.iand X0.here hx rfl (D d25_21) rfl ?_
   refine XS.sipush X0.here hx rfl (D d25_22) ?_
   refine XS.icmpNo X0.here hx rfl (D d25_25) rfl (teq hK.2.2.2.2.2.1).2 ?_
   refine XS.iloadN X0.here hx rfl (D d25_28) rfl ?_
   refine XS.sipush X0.here hx rfl (D d25_29) ?_
   refine XS.iand X0.here hx rfl (D d25_32) rfl ?_
   refine XS.sipush X0.here hx rfl (D d25_33) ?_
   refine XS.icmpYes X0.here hx rfl (pc0 := 36) (pc' := 43) rfl (D d25_36) rfl (teq hK.2.2.2.2.2.2.1).1 (by decide) (by decide) ?_
   refine XS.iconst X0.here hx rfl (D d25_43) ?_
   exact k
  exact own_retN X0 hx Bd (t := .boolean) (by simp) rfl (D d25_44) e0 (⟨rfl, N0, rfl⟩) (by decide) (by decide)
def own_r39 : Room := { frames := 0, cells := 0, slots := 0, locals := 0 }
theorem own_rm39 (l : Launch) (Z : State) (a0 : Array Value) (hw : own_W a0 Z) (da db dc : Int32) (cs : Int32) (fm : Value) (u8 : Addr) (h0 : Heap) (n0 : Nat) (Z0 : n0 ≤ h0.size) (O0 : Old Z n0 h0) (hqda : (da &&& (192 : Int32)) = (128 : Int32)) (hqdb : (db &&& (192 : Int32)) = (128 : Int32)) (hqdc : (dc &&& (192 : Int32)) = (128 : Int32)) (HB : own_BB Z cs fm u8) :
  own_MF l Z own_y23 (Jvm.Cond.code own_y23 jdk_42_method_32_code 3 (some .boolean)) [] own_r39 #[(.int da), (.int db), (.int dc)] h0 (own_P h0 n0 (.int 0)) := by
 refine own_open (plainFor_of_name own_pn1) hisR (Ls := #[vi da, vi db, vi dc]) ?_
 intro p e s m below meth c s₁ Bd hZ hx hby hml hown X0 e0
 have N0 := Fr.nil n0
 have D := @hb _ _ hby
 refine own_st (T' := s₁) (g' := (mkF m 38 #[vi da, vi db, vi dc] [(.int 0)])) (fun t k => ?_) ?_
 ·refine XS.iloadN X0.here hx rfl (D d39_0) rfl ?_
  refine XS.sipush X0.here hx rfl (D d39_1) ?_
  refine XS.iand X0.here hx rfl (D d39_4) rfl ?_
  refine XS.sipush X0.here hx rfl (D d39_5) ?_
  refine XS.icmpNo X0.here hx rfl (D d39_8) rfl (teq hqda).2 ?_
  refine XS.iloadN X0.here hx rfl (D d39_11) rfl ?_
  refine XS.sipush X0.here hx rfl (D d39_12) ?_
  refine XS.iand X0.here hx rfl (D d39_15) rfl ?_
  refine XS.sipush X0.here hx rfl (D d39_16) ?_
  refine XS.icmpNo X0.here hx rfl (D d39_19) rfl (teq hqdb).2 ?_
  refine XS.iloadN X0.here hx rfl (D d39_22) rfl ?_
  refine XS.sipush X0.here hx rfl (D d39_23) ?_
  refine XS.iand X0.here hx rfl (D d39_26) rfl ?_
  refine XS.sipush X0.here hx rfl (D d39_27) ?_
  refine XS.icmpYes X0.here hx rfl (pc0 := 30) (pc' := 37) rfl (D d39_30) rfl (teq hqdc).1 (by decide) (by decide) ?_
  refine XS.iconst X0.here hx rfl (D d39_37) ?_
  exact k
 exact own_retN X0 hx Bd (t := .boolean) (by simp) rfl (D d39_38) e0 (⟨rfl, N0, rfl⟩) (by decide) (by decide)
def own_r27 : Room := { frames := 0, cells := 0, slots := 0, locals := 0 }
theorem own_rm27 (l : Launch) (Z : State) (a0 : Array Value) (hw : own_W a0 Z) (da : Int32) (cs : Int32) (fm : Value) (u8 : Addr) (h0 : Heap) (n0 : Nat) (Z0 : n0 ≤ h0.size) (O0 : Old Z n0 h0) (hs0 : ¬ da < (55296 : Int32) → ¬ da < (57344 : Int32)) (HB : own_BB Z cs fm u8) :
  own_MF l Z own_y24 (Jvm.Cond.code own_y24 jdk_89_method_16_code 1 (some .boolean)) [] own_r27 #[(.int da)] h0 (own_P h0 n0 (.int 0)) := by
 refine own_open (plainFor_of_name own_pn7) hisR (Ls := #[vi da]) ?_
 intro p e s m below meth c s₁ Bd hZ hx hby hml hown X0 e0
 have N0 := Fr.nil n0
 have D := @hb _ _ hby
 refine own_st (T' := s₁) (g' := (mkF m 3 #[vi da] [(.int 55296), (.int da)])) (fun t k => ?_) ?_
 ·refine XS.iloadN X0.here hx rfl (D d27_0) rfl ?_
  refine X0.ldcInt hx hown (om hZ hw 137 rfl) (g := (mkF m 1 #[vi da] [(.int da)])) rfl (D d27_1) _ ?_
  exact k
 by_cases hs1 : da < (55296 : Int32)
 ·refine own_st (T' := s₁) (g' := (mkF m 17 #[vi da] [(.int 0)])) (fun t k => ?_) ?_
  ·refine XS.icmpYes X0.here hx rfl (pc0 := 3) (pc' := 16) rfl (D d27_3) rfl (tlt hs1).1 (by decide) (by decide) ?_
   refine XS.iconst X0.here hx rfl (D d27_16) ?_
   exact k
  exact own_retN X0 hx Bd (t := .boolean) (by simp) rfl (D d27_17) e0 (⟨rfl, N0, rfl⟩) (by decide) (by decide)
 ·refine own_st (T' := s₁) (g' := (mkF m 17 #[vi da] [(.int 0)])) (fun t k => ?_) ?_
  ·refine XS.icmpNo X0.here hx rfl (D d27_3) rfl (flt hs1).1 ?_
   refine XS.iloadN X0.here hx rfl (D d27_6) rfl ?_
   refine X0.ldcInt hx hown (om hZ hw 138 rfl) (g := (mkF m 7 #[vi da] [(.int da)])) rfl (D d27_7) _ ?_
   refine XS.icmpYes X0.here hx rfl (pc0 := 9) (pc' := 16) rfl (D d27_9) rfl (flt (hs0 hs1)).2.1 (by decide) (by decide) ?_
   refine XS.iconst X0.here hx rfl (D d27_16) ?_
   exact k
  exact own_retN X0 hx Bd (t := .boolean) (by simp) rfl (D d27_17) e0 (⟨rfl, N0, rfl⟩) (by decide) (by decide)
def own_r40 : Room := { frames := 0, cells := 0, slots := 0, locals := 0 }
theorem own_rm40 (l : Launch) (Z : State) (a0 : Array Value) (hw : own_W a0 Z) (da : Int32) (cs : Int32) (fm : Value) (u8 : Addr) (h0 : Heap) (n0 : Nat) (Z0 : n0 ≤ h0.size) (O0 : Old Z n0 h0) (hs0 : ¬ da < (65536 : Int32)) (hs1 : da < (1114112 : Int32)) (HB : own_BB Z cs fm u8) :
  own_MF l Z own_y25 (Jvm.Cond.code own_y25 jdk_89_method_13_code 1 (some .boolean)) [] own_r40 #[(.int da)] h0 (own_P h0 n0 (.int 1)) := by
 refine own_open (plainFor_of_name own_pn7) hisR (Ls := #[vi da]) ?_
 intro p e s m below meth c s₁ Bd hZ hx hby hml hown X0 e0
 have N0 := Fr.nil n0
 have D := @hb _ _ hby
 refine own_st (T' := s₁) (g' := (mkF m 17 #[vi da] [(.int 1)])) (fun t k => ?_) ?_
 ·refine XS.iloadN X0.here hx rfl (D d40_0) rfl ?_
  refine X0.ldcInt hx hown (om hZ hw 198 rfl) (g := (mkF m 1 #[vi da] [(.int da)])) rfl (D d40_1) _ ?_
  refine XS.icmpNo X0.here hx rfl (D d40_3) rfl (flt hs0).1 ?_
  refine XS.iloadN X0.here hx rfl (D d40_6) rfl ?_
  refine X0.ldcInt hx hown (om hZ hw 199 rfl) (g := (mkF m 7 #[vi da] [(.int da)])) rfl (D d40_7) _ ?_
  refine XS.icmpNo X0.here hx rfl (D d40_9) rfl (tlt hs1).2.1 ?_
  refine XS.iconst X0.here hx rfl (D d40_12) ?_
  refine XS.goto X0.here hx rfl (pc0 := 13) (pc' := 17) rfl (D d40_13) (by decide) (by decide) ?_
  exact k
 exact own_retN X0 hx Bd (t := .boolean) (by simp) rfl (D d40_17) e0 (⟨rfl, N0, rfl⟩) (by decide) (by decide)
def own_r41 : Room := { frames := 0, cells := 0, slots := 0, locals := 0 }
theorem own_rm41 (l : Launch) (Z : State) (a0 : Array Value) (hw : own_W a0 Z) (da : Int32) (cs : Int32) (fm : Value) (u8 : Addr) (h0 : Heap) (n0 : Nat) (Z0 : n0 ≤ h0.size) (O0 : Old Z n0 h0) (HB : own_BB Z cs fm u8) :
  own_MF l Z own_y26 (Jvm.Cond.code own_y26 jdk_89_method_28_code 1 (some .char)) [] own_r41 #[(.int da)] h0 (own_P h0 n0 (.int (own_hs da))) := by
 refine own_open (plainFor_of_name own_pn7) hisR (Ls := #[vi da]) ?_
 intro p e s m below meth c s₁ Bd hZ hx hby hml hown X0 e0
 have N0 := Fr.nil n0
 have D := @hb _ _ hby
 refine own_st (T' := s₁) (g' := (mkF m 8 #[vi da] [(.int ((((da.toUInt32 >>> ((10 : Int32) &&& 31).toUInt32).toInt32) + (55232 : Int32)).toUInt32.toUInt16.toUInt32.toInt32))])) (fun t k => ?_) ?_
 ·refine XS.iloadN X0.here hx rfl (D d41_0) rfl ?_
  refine XS.bipush X0.here hx rfl (D d41_1) ?_
  refine XS.iushr X0.here hx rfl (D d41_3) rfl ?_
  refine X0.ldcInt hx hown (om hZ hw 203 rfl) (g := (mkF m 4 #[vi da] [(.int ((da.toUInt32 >>> ((10 : Int32) &&& 31).toUInt32).toInt32))])) rfl (D d41_4) _ ?_
  refine XS.iadd X0.here hx rfl (D d41_6) rfl ?_
  refine XS.i2c X0.here hx rfl (D d41_7) rfl ?_
  exact k
 exact own_retN X0 hx Bd (t := .char) (by simp) (XT.narrow_c _) (D d41_8) e0 (⟨rfl, N0, rfl⟩) (by decide) (by decide)
def own_r42 : Room := { frames := 0, cells := 0, slots := 0, locals := 0 }
theorem own_rm42 (l : Launch) (Z : State) (a0 : Array Value) (hw : own_W a0 Z) (da : Int32) (cs : Int32) (fm : Value) (u8 : Addr) (h0 : Heap) (n0 : Nat) (Z0 : n0 ≤ h0.size) (O0 : Old Z n0 h0) (HB : own_BB Z cs fm u8) :
  own_MF l Z own_y27 (Jvm.Cond.code own_y27 jdk_89_method_29_code 1 (some .char)) [] own_r42 #[(.int da)] h0 (own_P h0 n0 (.int (own_ls da))) := by
 refine own_open (plainFor_of_name own_pn7) hisR (Ls := #[vi da]) ?_
 intro p e s m below meth c s₁ Bd hZ hx hby hml hown X0 e0
 have N0 := Fr.nil n0
 have D := @hb _ _ hby
 refine own_st (T' := s₁) (g' := (mkF m 9 #[vi da] [(.int (((da &&& (1023 : Int32)) + (56320 : Int32)).toUInt32.toUInt16.toUInt32.toInt32))])) (fun t k => ?_) ?_
 ·refine XS.iloadN X0.here hx rfl (D d42_0) rfl ?_
  refine XS.sipush X0.here hx rfl (D d42_1) ?_
  refine XS.iand X0.here hx rfl (D d42_4) rfl ?_
  refine X0.ldcInt hx hown (om hZ hw 207 rfl) (g := (mkF m 5 #[vi da] [(.int (da &&& (1023 : Int32)))])) rfl (D d42_5) _ ?_
  refine XS.iadd X0.here hx rfl (D d42_7) rfl ?_
  refine XS.i2c X0.here hx rfl (D d42_8) rfl ?_
  exact k
 exact own_retN X0 hx Bd (t := .char) (by simp) (XT.narrow_c _) (D d42_9) e0 (⟨rfl, N0, rfl⟩) (by decide) (by decide)
def own_r24 : Room := { frames := 1, cells := 0, slots := 0, locals := 15 }
def own_Q24 (Z : State) (src dst : Addr) (ks kd : ClassId) (sl dl rb ch : List Int32) (sv nv zz dv : Int32) (sn nn zn dn : Nat) (cs : Int32) (fm : Value) (u8 : Addr) (h0 : Heap) (n0 : Nat) : Option Value → Heap → List Loc → Prop := fun v h L => v = some (.int (Int32.ofNat (dn + ch.length))) ∧ Fr n0 L ∧ Keep h0 h [dst] ∧ Arv Z h dst kd .byte zz ((own_wrl dl (2 * dn) (own_wide ch)).map Value.int) (.int 0)
theorem own_u2 (l : Launch) (Z : State) (a0 : Array Value) (hw : own_W a0 Z) (src dst : Addr) (ks kd : ClassId) (sl dl rb ch : List Int32) (sv nv zz dv : Int32) (sn nn zn dn : Nat) (cs : Int32) (fm : Value) (u8 : Addr) (h0 : Heap) (n0 : Nat) (Z0 : n0 ≤ h0.size) (O0 : Old Z n0 h0) (V_s : Arv Z h0 src ks .byte nv (sl.map Value.int) (.int 0)) (V_d : Arv Z h0 dst kd .byte zz (dl.map Value.int) (.int 0)) (g_d : n0 ≤ dst) (nsd : src ≠ dst) (hsv : sv.toInt = (sn : Int)) (hnv : nv.toInt = (nn : Int)) (hzz : zz.toInt = (zn : Int)) (hdv : dv.toInt = (dn : Int)) (hdl : dl.length = zn) (hz16 : zn ≤ 16) (hnz : zn = 2 * nn) (hrb : ∀ i, i < rb.length → sl.getD (sn + i) 0 = rb.getD i 0) (hnn : sn + rb.length = nn) (hrl : own_rlU rb ch) (hdc : dn + ch.length ≤ nn) (HB : own_BB Z cs fm u8) {p : Program} {e : Env} {s : State} {m : MethodId} {below : List Frame} {meth : Method} {c : Code} {s₁ : State} (Bd : BodyLoose p l own_y28 (head1 ((Jvm.Cond.code own_y28 jdk_42_method_38_code 11 (some .int)) :: []) own_r24) jdk_42_method_38_code 11 (some .int) e s m #[(.ref src), (.int sv), (.int nv), (.ref dst), (.int dv), (.int 1)] below meth c s₁) (hZ : Z.Warmed39 s.vm) (hx : p.tables.exec = Jvm.exec) (hby : c.code = jdk_42_method_38_code) (hml : c.maxLocals = 11) (hown : s.vm.findClass own_y28.cls = some m.cls) :
  ∀ (a6 a7 sw dw : Int32) (u8_ u9_ u10_ : Slot) (sm dm : Nat) (b2 h2 el : List Int32) (hh : Heap), own_slt u8_ u9_ u10_ → sw.toInt = (sm : Int) → dw.toInt = (dm : Int) → (∀ i, i < b2.length → sl.getD (sm + i) 0 = b2.getD i 0) → sm + b2.length = nn → dm + h2.length ≤ nn → own_one b2 h2 → el.length = zn → Arv Z hh src ks .byte nv (sl.map Value.int) (.int 0) → Arv Z hh dst kd .byte zz (el.map Value.int) (.int 0) → Keep h0 hh [dst] → Old Z n0 hh → n0 ≤ hh.size → own_wrl el (2 * dm) (own_wide h2) = own_wrl dl (2 * dn) (own_wide ch) → dm + h2.length = dn + ch.length → ∀ (T : State) (locs : List Loc), Stand p l e own_r24 s m #[(.ref src), (.int sv), (.int nv), (.ref dst), (.int dv), (.int 1)] below meth c T locs 0 0 → Fr n0 locs → T.heap = hh → own_Go p e below (own_K s (own_Q24 Z src dst ks kd sl dl rb ch sv nv zz dv sn nn zn dn cs fm u8 h0 n0) own_r24.cells own_r24.slots) T (mkF m 0 #[vr src, vi sw, vi nv, vr dst, vi dw, vi 1, vi a6, vi a7, u8_, u9_, u10_] []) := by
 intro a6 a7 sw dw u8_ u9_ u10_ sm dm b2 h2 el hh hus hsw hdw hb2 hnb hdh ho hel Vs Vd Kj Oj Zj heq hlq Tj lj Xj Nj ej
 rcases own_one4 ho with ⟨z0, h2k, rfl, rfl⟩ | ⟨z0, z1, h2k, rfl, rfl⟩ | ⟨z0, z1, z2, h2k, rfl, rfl⟩ | ⟨z0, z1, z2, z3, h2k, rfl, rfl⟩
 ·have hnb' : sm + 1 = nn := hnb
  have hdh' : dm + 1 ≤ nn := hdh
  have sp1 := own_add hsw own_i1 (by omega)
  have dp1 := own_add hdw own_i1 (by omega)
  have sl0 : sw < nv := (own_ltN hsw hnv).mpr (by omega)
  refine own_st (T' := Tj) (g' := (mkF m 10 #[vr src, vi (sw + (1 : Int32)), vi nv, vr dst, vi dw, vi 1, vi a6, vi a7, u8_, u9_, u10_] [(.int sw), (.ref src)])) (fun t k => ?_) ?_
  ·refine XS.iloadN Xj.here hx rfl (hb hby d24_0) rfl ?_
   refine XS.iloadN Xj.here hx rfl (hb hby d24_1) rfl ?_
   refine XS.icmpNo Xj.here hx rfl (hb hby d24_2) rfl (tlt sl0).2.1 ?_
   refine XS.aloadN Xj.here hx rfl (hb hby d24_5) rfl rfl ?_
   refine XS.iloadN Xj.here hx rfl (hb hby d24_6) rfl ?_
   refine XS.iinc Xj.here hx rfl (hb hby d24_7) rfl (l' := #[vr src, vi (sw + (1 : Int32)), vi nv, vr dst, vi dw, vi 1, vi a6, vi a7, u8_, u9_, u10_]) rfl ?_
   exact k
  obtain ⟨cl1, Ar1, q1, S1, M1, H1, G1⟩ := id Vs
  refine own_st (T' := Tj) (g' := (mkF m 27 #[vr src, vi (sw + (1 : Int32)), vi nv, vr dst, vi (dw + (1 : Int32)), vi 1, vi z0, vi a7, u8_, u9_, u10_] [(.int (z0.toUInt32.toUInt16.toUInt32.toInt32)), (.int dw), (.ref dst)])) (fun t k => ?_) ?_
  ·refine Xj.baloadBytes hx (j := sw) (v := (.int z0)) (by rw [ej]; exact Ar1.1) (State.isArrayOf_alike hZ.alike Ar1.2.1) Ar1.2.2 (inb_of S1 ⟨own_ge0 hsw, sl0⟩) (Has.at H1 (inb_of S1 ⟨own_ge0 hsw, sl0⟩) ((own_lget sl (sw).toNatClampNeg).trans (congrArg Value.int (own_rdL hsw (hb2 0 (by simp)))))) (g := (mkF m 10 #[vr src, vi (sw + (1 : Int32)), vi nv, vr dst, vi dw, vi 1, vi a6, vi a7, u8_, u9_, u10_] [(.int sw), (.ref src)])) rfl rfl (hb hby d24_10) _ ?_
   refine XS.istore Xj.here hx rfl (hb hby d24_11) rfl (l' := #[vr src, vi (sw + (1 : Int32)), vi nv, vr dst, vi dw, vi 1, vi z0, vi a7, u8_, u9_, u10_]) rfl ?_
   refine XS.iload Xj.here hx rfl (hb hby d24_13) rfl ?_
   refine XS.ifNo Xj.here hx rfl (hb hby d24_15) rfl ((if0 _ _).trans (flt (own_asc_n h2k)).1) ?_
   refine XS.aloadN Xj.here hx rfl (hb hby d24_18) rfl rfl ?_
   refine XS.iload Xj.here hx rfl (hb hby d24_19) rfl ?_
   refine XS.iinc Xj.here hx rfl (hb hby d24_21) rfl (l' := #[vr src, vi (sw + (1 : Int32)), vi nv, vr dst, vi (dw + (1 : Int32)), vi 1, vi z0, vi a7, u8_, u9_, u10_]) rfl ?_
   refine XS.iload Xj.here hx rfl (hb hby d24_24) rfl ?_
   refine XS.i2c Xj.here hx rfl (hb hby d24_26) rfl ?_
   exact k
  obtain ⟨_, _, ⟨T2, L2, c2, n2⟩, -, X2, ⟨Lc2, hQ2, l2, y2, z2⟩, st2⟩ := Jvm.LawKit.callS Xj hx (y := own_y14) hown (om hZ hw 139 rfl) (om hZ hw 118 rfl) (om hZ hw 97 rfl) (om hZ hw 119 rfl) (by decide) (backOf (W := 0) (own_rm23 l Z a0 hw dst kd el zz zn dw (z0.toUInt32.toUInt16.toUInt32.toInt32) dm cs fm u8 hh n0 Zj Oj Vd hzz hel g_d hdw (by omega) hz16 HB) hZ (own_w hw 119 rfl) (own_w hw 97 rfl) (by decide) (by decide)) (g := (mkF m 27 #[vr src, vi (sw + (1 : Int32)), vi nv, vr dst, vi (dw + (1 : Int32)), vi 1, vi z0, vi a7, u8_, u9_, u10_] [(.int (z0.toUInt32.toUInt16.toUInt32.toInt32)), (.int dw), (.ref dst)])) rfl (by rw [hml]; rfl) (argsL := [(.ref dst), (.int dw), (.int (z0.toUInt32.toUInt16.toUInt32.toInt32))]) (rest := []) (lenOf own_pd9 rfl) rfl own_w0 (hb hby d24_27) (fun _ _ => ⟨rfl, ej, (by decide : 0 + 0 ≤ _), (by decide : 0 + 0 ≤ _)⟩)
  dsimp only [Pt.U, Pt.locs, Pt.cells, Pt.slots] at X2 l2 y2 z2 st2 hQ2
  subst l2 y2 z2
  obtain ⟨h2, e2⟩ : ∃ z, T2.heap = z := ⟨_, rfl⟩
  rw [e2] at hQ2
  obtain ⟨rfl, N2q, Kc2, Vc2⟩ := hQ2
  have N2 := Fr.app Nj N2q
  have K2 : Keep h0 h2 [dst] := Kj.trans Kc2 (allS (Or.inl (List.mem_of_getElem? (i := 0) rfl)) all0)
  have Z2 : n0 ≤ h2.size := Nat.le_trans Zj Kc2.1
  have O2 := Oj.keep Kc2 (allS g_d all0)
  refine own_st (g' := (mkF m 30 #[vr src, vi (sw + (1 : Int32)), vi nv, vr dst, vi (dw + (1 : Int32)), vi 1, vi z0, vi a7, u8_, u9_, u10_] [])) st2 ?_
  refine own_st (T' := T2) (g' := (mkF m 623 #[vr src, vi (sw + (1 : Int32)), vi nv, vr dst, vi (dw + (1 : Int32)), vi 1, vi z0, vi a7, u8_, u9_, u10_] [(.int (dw + (1 : Int32)))])) (fun t k => ?_) ?_
  ·refine XS.goto X2.here hx rfl (pc0 := 30) (pc' := 618) rfl (hb hby d24_30) (by decide) (by decide) ?_
   refine XS.goto X2.here hx rfl (pc0 := 618) (pc' := 0) rfl (hb hby d24_618) (by decide) (by decide) ?_
   refine XS.iloadN X2.here hx rfl (hb hby d24_0) rfl ?_
   refine XS.iloadN X2.here hx rfl (hb hby d24_1) rfl ?_
   refine XS.icmpYes X2.here hx rfl (pc0 := 2) (pc' := 621) rfl (hb hby d24_2) rfl (flt (fun q => absurd ((own_ltN sp1 hnv).mp q) (by omega))).2.1 (by decide) (by decide) ?_
   refine XS.iload X2.here hx rfl (hb hby d24_621) rfl ?_
   exact k
  exact own_retI X2 hx Bd (hb hby d24_623) e2 (⟨congrArg (fun z => some (Value.int z)) ((own_ofN dp1).trans (congrArg Int32.ofNat hlq)), N2, K2, heq ▸ (own_wa h2k Vc2)⟩) (by decide) (by decide)
 ·have hnb' : sm + 2 = nn := hnb
  have hdh' : dm + 1 ≤ nn := hdh
  have sp1 := own_add hsw own_i1 (by omega)
  have sp2 := own_add sp1 own_i1 (by omega)
  have dp1 := own_add hdw own_i1 (by omega)
  have sl0 : sw < nv := (own_ltN hsw hnv).mpr (by omega)
  have sl1 : (sw + (1 : Int32)) < nv := (own_ltN sp1 hnv).mpr (by omega)
  refine own_st (T' := Tj) (g' := (mkF m 10 #[vr src, vi (sw + (1 : Int32)), vi nv, vr dst, vi dw, vi 1, vi a6, vi a7, u8_, u9_, u10_] [(.int sw), (.ref src)])) (fun t k => ?_) ?_
  ·refine XS.iloadN Xj.here hx rfl (hb hby d24_0) rfl ?_
   refine XS.iloadN Xj.here hx rfl (hb hby d24_1) rfl ?_
   refine XS.icmpNo Xj.here hx rfl (hb hby d24_2) rfl (tlt sl0).2.1 ?_
   refine XS.aloadN Xj.here hx rfl (hb hby d24_5) rfl rfl ?_
   refine XS.iloadN Xj.here hx rfl (hb hby d24_6) rfl ?_
   refine XS.iinc Xj.here hx rfl (hb hby d24_7) rfl (l' := #[vr src, vi (sw + (1 : Int32)), vi nv, vr dst, vi dw, vi 1, vi a6, vi a7, u8_, u9_, u10_]) rfl ?_
   exact k
  obtain ⟨cl3, Ar3, q3, S3, M3, H3, G3⟩ := id Vs
  refine own_st (T' := Tj) (g' := (mkF m 60 #[vr src, vi ((sw + (1 : Int32)) + (1 : Int32)), vi nv, vr dst, vi dw, vi 1, vi z0, vi a7, u8_, u9_, u10_] [(.int (sw + (1 : Int32))), (.ref src)])) (fun t k => ?_) ?_
  ·refine Xj.baloadBytes hx (j := sw) (v := (.int z0)) (by rw [ej]; exact Ar3.1) (State.isArrayOf_alike hZ.alike Ar3.2.1) Ar3.2.2 (inb_of S3 ⟨own_ge0 hsw, sl0⟩) (Has.at H3 (inb_of S3 ⟨own_ge0 hsw, sl0⟩) ((own_lget sl (sw).toNatClampNeg).trans (congrArg Value.int (own_rdL hsw (hb2 0 (by simp)))))) (g := (mkF m 10 #[vr src, vi (sw + (1 : Int32)), vi nv, vr dst, vi dw, vi 1, vi a6, vi a7, u8_, u9_, u10_] [(.int sw), (.ref src)])) rfl rfl (hb hby d24_10) _ ?_
   refine XS.istore Xj.here hx rfl (hb hby d24_11) rfl (l' := #[vr src, vi (sw + (1 : Int32)), vi nv, vr dst, vi dw, vi 1, vi z0, vi a7, u8_, u9_, u10_]) rfl ?_
   refine XS.iload Xj.here hx rfl (hb hby d24_13) rfl ?_
   refine XS.ifYes Xj.here hx rfl (pc0 := 15) (pc' := 33) rfl (hb hby d24_15) rfl ((if0 _ _).trans (tlt (own_lead_neg h2k.1)).1) (by decide) (by decide) ?_
   refine XS.iload Xj.here hx rfl (hb hby d24_33) rfl ?_
   refine XS.iconst Xj.here hx rfl (hb hby d24_35) ?_
   refine XS.ishr Xj.here hx rfl (hb hby d24_36) rfl ?_
   refine XS.bipush Xj.here hx rfl (hb hby d24_37) ?_
   refine XS.icmpNo Xj.here hx rfl (hb hby d24_39) rfl (teq (own_lead_5 h2k.1)).2 ?_
   refine XS.iload Xj.here hx rfl (hb hby d24_42) rfl ?_
   refine XS.bipush Xj.here hx rfl (hb hby d24_44) ?_
   refine XS.iand Xj.here hx rfl (hb hby d24_46) rfl ?_
   refine XS.ifNo Xj.here hx rfl (hb hby d24_47) rfl ((if0 _ _).trans (feq (own_lead_30 h2k.1)).1) ?_
   refine XS.iloadN Xj.here hx rfl (hb hby d24_50) rfl ?_
   refine XS.iloadN Xj.here hx rfl (hb hby d24_51) rfl ?_
   refine XS.icmpNo Xj.here hx rfl (hb hby d24_52) rfl (tlt sl1).2.1 ?_
   refine XS.aloadN Xj.here hx rfl (hb hby d24_55) rfl rfl ?_
   refine XS.iloadN Xj.here hx rfl (hb hby d24_56) rfl ?_
   refine XS.iinc Xj.here hx rfl (hb hby d24_57) rfl (l' := #[vr src, vi ((sw + (1 : Int32)) + (1 : Int32)), vi nv, vr dst, vi dw, vi 1, vi z0, vi a7, u8_, u9_, u10_]) rfl ?_
   exact k
  obtain ⟨cl4, Ar4, q4, S4, M4, H4, G4⟩ := id Vs
  refine own_st (T' := Tj) (g' := (mkF m 65 #[vr src, vi ((sw + (1 : Int32)) + (1 : Int32)), vi nv, vr dst, vi dw, vi 1, vi z0, vi z1, u8_, u9_, u10_] [(.int z1)])) (fun t k => ?_) ?_
  ·refine Xj.baloadBytes hx (j := (sw + (1 : Int32))) (v := (.int z1)) (by rw [ej]; exact Ar4.1) (State.isArrayOf_alike hZ.alike Ar4.2.1) Ar4.2.2 (inb_of S4 ⟨own_ge0 sp1, sl1⟩) (Has.at H4 (inb_of S4 ⟨own_ge0 sp1, sl1⟩) ((own_lget sl ((sw + (1 : Int32))).toNatClampNeg).trans (congrArg Value.int (own_rdL sp1 (hb2 1 (by simp)))))) (g := (mkF m 60 #[vr src, vi ((sw + (1 : Int32)) + (1 : Int32)), vi nv, vr dst, vi dw, vi 1, vi z0, vi a7, u8_, u9_, u10_] [(.int (sw + (1 : Int32))), (.ref src)])) rfl rfl (hb hby d24_60) _ ?_
   refine XS.istore Xj.here hx rfl (hb hby d24_61) rfl (l' := #[vr src, vi ((sw + (1 : Int32)) + (1 : Int32)), vi nv, vr dst, vi dw, vi 1, vi z0, vi z1, u8_, u9_, u10_]) rfl ?_
   refine XS.iload Xj.here hx rfl (hb hby d24_63) rfl ?_
   exact k
  obtain ⟨_, _, ⟨T5, L5, c5, n5⟩, -, X5, ⟨Lc5, hQ5, l5, y5, z5⟩, st5⟩ := Jvm.LawKit.callS Xj hx (y := own_y21) hown (om hZ hw 216 rfl) (om hZ hw 217 rfl) (om hZ hw 42 rfl) (om hZ hw 218 rfl) (by decide) (backOf (W := 0) (own_rm45 l Z a0 hw z1 cs fm u8 hh n0 Zj Oj (own_cont_c h2k.2) HB) hZ (own_w hw 218 rfl) (own_w hw 42 rfl) (by decide) (by decide)) (g := (mkF m 65 #[vr src, vi ((sw + (1 : Int32)) + (1 : Int32)), vi nv, vr dst, vi dw, vi 1, vi z0, vi z1, u8_, u9_, u10_] [(.int z1)])) rfl (by rw [hml]; rfl) (argsL := [(.int z1)]) (rest := []) (lenOf own_pd11 rfl) rfl own_w0 (hb hby d24_65) (fun _ _ => ⟨rfl, ej, (by decide : 0 + 0 ≤ _), (by decide : 0 + 0 ≤ _)⟩)
  dsimp only [Pt.U, Pt.locs, Pt.cells, Pt.slots] at X5 l5 y5 z5 st5 hQ5
  subst l5 y5 z5
  obtain ⟨rfl, N5q, e5⟩ := hQ5
  have N5 := Fr.app Nj N5q
  refine own_st (g' := (mkF m 68 #[vr src, vi ((sw + (1 : Int32)) + (1 : Int32)), vi nv, vr dst, vi dw, vi 1, vi z0, vi z1, u8_, u9_, u10_] [(.int 0)])) st5 ?_
  refine own_st (T' := T5) (g' := (mkF m 110 #[vr src, vi ((sw + (1 : Int32)) + (1 : Int32)), vi nv, vr dst, vi (dw + (1 : Int32)), vi 1, vi z0, vi z1, u8_, u9_, u10_] [(.int z1), (.int z0), (.int dw), (.ref dst)])) (fun t k => ?_) ?_
  ·refine XS.ifYes X5.here hx rfl (pc0 := 68) (pc' := 100) rfl (hb hby d24_68) rfl ((if0 _ _).trans (teq (rfl : (0 : Int32) = (0 : Int32))).1) (by decide) (by decide) ?_
   refine XS.aloadN X5.here hx rfl (hb hby d24_100) rfl rfl ?_
   refine XS.iload X5.here hx rfl (hb hby d24_101) rfl ?_
   refine XS.iinc X5.here hx rfl (hb hby d24_103) rfl (l' := #[vr src, vi ((sw + (1 : Int32)) + (1 : Int32)), vi nv, vr dst, vi (dw + (1 : Int32)), vi 1, vi z0, vi z1, u8_, u9_, u10_]) rfl ?_
   refine XS.iload X5.here hx rfl (hb hby d24_106) rfl ?_
   refine XS.iload X5.here hx rfl (hb hby d24_108) rfl ?_
   exact k
  obtain ⟨_, _, ⟨T6, L6, c6, n6⟩, -, X6, ⟨Lc6, hQ6, l6, y6, z6⟩, st6⟩ := Jvm.LawKit.callS X5 hx (y := own_y18) hown (om hZ hw 209 rfl) (om hZ hw 210 rfl) (om hZ hw 42 rfl) (om hZ hw 211 rfl) (by decide) (backOf (W := 2) (own_rm43 l Z a0 hw z0 z1 cs fm u8 hh n0 Zj Oj HB) hZ (own_w hw 211 rfl) (own_w hw 42 rfl) (by decide) (by decide)) (g := (mkF m 110 #[vr src, vi ((sw + (1 : Int32)) + (1 : Int32)), vi nv, vr dst, vi (dw + (1 : Int32)), vi 1, vi z0, vi z1, u8_, u9_, u10_] [(.int z1), (.int z0), (.int dw), (.ref dst)])) rfl (by rw [hml]; rfl) (argsL := [(.int z0), (.int z1)]) (rest := [(.int dw), (.ref dst)]) (lenOf own_pd12 rfl) rfl own_w0 (hb hby d24_110) (fun _ _ => ⟨rfl, e5, (by decide : 0 + 0 ≤ _), (by decide : 0 + 0 ≤ _)⟩)
  dsimp only [Pt.U, Pt.locs, Pt.cells, Pt.slots] at X6 l6 y6 z6 st6 hQ6
  subst l6 y6 z6
  obtain ⟨rfl, N6q, e6⟩ := hQ6
  have N6 := Fr.app N5 N6q
  refine own_st (g' := (mkF m 113 #[vr src, vi ((sw + (1 : Int32)) + (1 : Int32)), vi nv, vr dst, vi (dw + (1 : Int32)), vi 1, vi z0, vi z1, u8_, u9_, u10_] [(.int (own_d2 z0 z1)), (.int dw), (.ref dst)])) st6 ?_
  obtain ⟨_, _, ⟨T7, L7, c7, n7⟩, -, X7, ⟨Lc7, hQ7, l7, y7, z7⟩, st7⟩ := Jvm.LawKit.callS X6 hx (y := own_y14) hown (om hZ hw 139 rfl) (om hZ hw 118 rfl) (om hZ hw 97 rfl) (om hZ hw 119 rfl) (by decide) (backOf (W := 0) (own_rm23 l Z a0 hw dst kd el zz zn dw (own_d2 z0 z1) dm cs fm u8 hh n0 Zj Oj Vd hzz hel g_d hdw (by omega) hz16 HB) hZ (own_w hw 119 rfl) (own_w hw 97 rfl) (by decide) (by decide)) (g := (mkF m 113 #[vr src, vi ((sw + (1 : Int32)) + (1 : Int32)), vi nv, vr dst, vi (dw + (1 : Int32)), vi 1, vi z0, vi z1, u8_, u9_, u10_] [(.int (own_d2 z0 z1)), (.int dw), (.ref dst)])) rfl (by rw [hml]; rfl) (argsL := [(.ref dst), (.int dw), (.int (own_d2 z0 z1))]) (rest := []) (lenOf own_pd9 rfl) rfl own_w0 (hb hby d24_113) (fun _ _ => ⟨rfl, e6, (by decide : 0 + 0 ≤ _), (by decide : 0 + 0 ≤ _)⟩)
  dsimp only [Pt.U, Pt.locs, Pt.cells, Pt.slots] at X7 l7 y7 z7 st7 hQ7
  subst l7 y7 z7
  obtain ⟨h7, e7⟩ : ∃ z, T7.heap = z := ⟨_, rfl⟩
  rw [e7] at hQ7
  obtain ⟨rfl, N7q, Kc7, Vc7⟩ := hQ7
  have N7 := Fr.app N6 N7q
  have K7 : Keep h0 h7 [dst] := Kj.trans Kc7 (allS (Or.inl (List.mem_of_getElem? (i := 0) rfl)) all0)
  have Z7 : n0 ≤ h7.size := Nat.le_trans Zj Kc7.1
  have O7 := Oj.keep Kc7 (allS g_d all0)
  refine own_st (g' := (mkF m 116 #[vr src, vi ((sw + (1 : Int32)) + (1 : Int32)), vi nv, vr dst, vi (dw + (1 : Int32)), vi 1, vi z0, vi z1, u8_, u9_, u10_] [])) st7 ?_
  refine own_st (T' := T7) (g' := (mkF m 623 #[vr src, vi ((sw + (1 : Int32)) + (1 : Int32)), vi nv, vr dst, vi (dw + (1 : Int32)), vi 1, vi z0, vi z1, u8_, u9_, u10_] [(.int (dw + (1 : Int32)))])) (fun t k => ?_) ?_
  ·refine XS.goto X7.here hx rfl (pc0 := 116) (pc' := 0) rfl (hb hby d24_116) (by decide) (by decide) ?_
   refine XS.iloadN X7.here hx rfl (hb hby d24_0) rfl ?_
   refine XS.iloadN X7.here hx rfl (hb hby d24_1) rfl ?_
   refine XS.icmpYes X7.here hx rfl (pc0 := 2) (pc' := 621) rfl (hb hby d24_2) rfl (flt (fun q => absurd ((own_ltN sp2 hnv).mp q) (by omega))).2.1 (by decide) (by decide) ?_
   refine XS.iload X7.here hx rfl (hb hby d24_621) rfl ?_
   exact k
  exact own_retI X7 hx Bd (hb hby d24_623) e7 (⟨congrArg (fun z => some (Value.int z)) ((own_ofN dp1).trans (congrArg Int32.ofNat hlq)), N7, K7, heq ▸ Vc7⟩) (by decide) (by decide)
 ·have hnb' : sm + 3 = nn := hnb
  have hdh' : dm + 1 ≤ nn := hdh
  rcases hus with ⟨rfl, rfl, rfl⟩ | ⟨s8, s9, rfl, rfl, rfl⟩ | ⟨s8, s9, s10, rfl, rfl, rfl⟩
  ·have sp1 := own_add hsw own_i1 (by omega)
   have sp2 := own_add sp1 own_i1 (by omega)
   have sp3 := own_add sp2 own_i1 (by omega)
   have dp1 := own_add hdw own_i1 (by omega)
   have sl0 : sw < nv := (own_ltN hsw hnv).mpr (by omega)
   have sl1 : (sw + (1 : Int32)) < nv := (own_ltN sp1 hnv).mpr (by omega)
   have sl2 : ((sw + (1 : Int32)) + (1 : Int32)) < nv := (own_ltN sp2 hnv).mpr (by omega)
   refine own_st (T' := Tj) (g' := (mkF m 10 #[vr src, vi (sw + (1 : Int32)), vi nv, vr dst, vi dw, vi 1, vi a6, vi a7, .unset, .unset, .unset] [(.int sw), (.ref src)])) (fun t k => ?_) ?_
   ·refine XS.iloadN Xj.here hx rfl (hb hby d24_0) rfl ?_
    refine XS.iloadN Xj.here hx rfl (hb hby d24_1) rfl ?_
    refine XS.icmpNo Xj.here hx rfl (hb hby d24_2) rfl (tlt sl0).2.1 ?_
    refine XS.aloadN Xj.here hx rfl (hb hby d24_5) rfl rfl ?_
    refine XS.iloadN Xj.here hx rfl (hb hby d24_6) rfl ?_
    refine XS.iinc Xj.here hx rfl (hb hby d24_7) rfl (l' := #[vr src, vi (sw + (1 : Int32)), vi nv, vr dst, vi dw, vi 1, vi a6, vi a7, .unset, .unset, .unset]) rfl ?_
    exact k
   obtain ⟨cl8, Ar8, q8, S8, M8, H8, G8⟩ := id Vs
   refine own_st (T' := Tj) (g' := (mkF m 164 #[vr src, vi ((sw + (1 : Int32)) + (1 : Int32)), vi nv, vr dst, vi dw, vi 1, vi z0, vi a7, .unset, .unset, .unset] [(.int (sw + (1 : Int32))), (.ref src)])) (fun t k => ?_) ?_
   ·refine Xj.baloadBytes hx (j := sw) (v := (.int z0)) (by rw [ej]; exact Ar8.1) (State.isArrayOf_alike hZ.alike Ar8.2.1) Ar8.2.2 (inb_of S8 ⟨own_ge0 hsw, sl0⟩) (Has.at H8 (inb_of S8 ⟨own_ge0 hsw, sl0⟩) ((own_lget sl (sw).toNatClampNeg).trans (congrArg Value.int (own_rdL hsw (hb2 0 (by simp)))))) (g := (mkF m 10 #[vr src, vi (sw + (1 : Int32)), vi nv, vr dst, vi dw, vi 1, vi a6, vi a7, .unset, .unset, .unset] [(.int sw), (.ref src)])) rfl rfl (hb hby d24_10) _ ?_
    refine XS.istore Xj.here hx rfl (hb hby d24_11) rfl (l' := #[vr src, vi (sw + (1 : Int32)), vi nv, vr dst, vi dw, vi 1, vi z0, vi a7, .unset, .unset, .unset]) rfl ?_
    refine XS.iload Xj.here hx rfl (hb hby d24_13) rfl ?_
    refine XS.ifYes Xj.here hx rfl (pc0 := 15) (pc' := 33) rfl (hb hby d24_15) rfl ((if0 _ _).trans (tlt h2k.1).1) (by decide) (by decide) ?_
    refine XS.iload Xj.here hx rfl (hb hby d24_33) rfl ?_
    refine XS.iconst Xj.here hx rfl (hb hby d24_35) ?_
    refine XS.ishr Xj.here hx rfl (hb hby d24_36) rfl ?_
    refine XS.bipush Xj.here hx rfl (hb hby d24_37) ?_
    refine XS.icmpYes Xj.here hx rfl (pc0 := 39) (pc' := 143) rfl (hb hby d24_39) rfl (feq h2k.2.2.1).2 (by decide) (by decide) ?_
    refine XS.iload Xj.here hx rfl (hb hby d24_143) rfl ?_
    refine XS.iconst Xj.here hx rfl (hb hby d24_145) ?_
    refine XS.ishr Xj.here hx rfl (hb hby d24_146) rfl ?_
    refine XS.bipush Xj.here hx rfl (hb hby d24_147) ?_
    refine XS.icmpNo Xj.here hx rfl (hb hby d24_149) rfl (teq h2k.2.2.2.1).2 ?_
    refine XS.iloadN Xj.here hx rfl (hb hby d24_152) rfl ?_
    refine XS.iconst Xj.here hx rfl (hb hby d24_153) ?_
    refine XS.iadd Xj.here hx rfl (hb hby d24_154) rfl ?_
    refine XS.iloadN Xj.here hx rfl (hb hby d24_155) rfl ?_
    refine XS.icmpNo Xj.here hx rfl (hb hby d24_156) rfl (tlt ((own_ltN (own_add sp1 own_i1 (by omega)) hnv).mpr (by omega))).2.1 ?_
    refine XS.aloadN Xj.here hx rfl (hb hby d24_159) rfl rfl ?_
    refine XS.iloadN Xj.here hx rfl (hb hby d24_160) rfl ?_
    refine XS.iinc Xj.here hx rfl (hb hby d24_161) rfl (l' := #[vr src, vi ((sw + (1 : Int32)) + (1 : Int32)), vi nv, vr dst, vi dw, vi 1, vi z0, vi a7, .unset, .unset, .unset]) rfl ?_
    exact k
   obtain ⟨cl9, Ar9, q9, S9, M9, H9, G9⟩ := id Vs
   refine own_st (T' := Tj) (g' := (mkF m 172 #[vr src, vi (((sw + (1 : Int32)) + (1 : Int32)) + (1 : Int32)), vi nv, vr dst, vi dw, vi 1, vi z0, vi z1, .unset, .unset, .unset] [(.int ((sw + (1 : Int32)) + (1 : Int32))), (.ref src)])) (fun t k => ?_) ?_
   ·refine Xj.baloadBytes hx (j := (sw + (1 : Int32))) (v := (.int z1)) (by rw [ej]; exact Ar9.1) (State.isArrayOf_alike hZ.alike Ar9.2.1) Ar9.2.2 (inb_of S9 ⟨own_ge0 sp1, sl1⟩) (Has.at H9 (inb_of S9 ⟨own_ge0 sp1, sl1⟩) ((own_lget sl ((sw + (1 : Int32))).toNatClampNeg).trans (congrArg Value.int (own_rdL sp1 (hb2 1 (by simp)))))) (g := (mkF m 164 #[vr src, vi ((sw + (1 : Int32)) + (1 : Int32)), vi nv, vr dst, vi dw, vi 1, vi z0, vi a7, .unset, .unset, .unset] [(.int (sw + (1 : Int32))), (.ref src)])) rfl rfl (hb hby d24_164) _ ?_
    refine XS.istore Xj.here hx rfl (hb hby d24_165) rfl (l' := #[vr src, vi ((sw + (1 : Int32)) + (1 : Int32)), vi nv, vr dst, vi dw, vi 1, vi z0, vi z1, .unset, .unset, .unset]) rfl ?_
    refine XS.aloadN Xj.here hx rfl (hb hby d24_167) rfl rfl ?_
    refine XS.iloadN Xj.here hx rfl (hb hby d24_168) rfl ?_
    refine XS.iinc Xj.here hx rfl (hb hby d24_169) rfl (l' := #[vr src, vi (((sw + (1 : Int32)) + (1 : Int32)) + (1 : Int32)), vi nv, vr dst, vi dw, vi 1, vi z0, vi z1, .unset, .unset, .unset]) rfl ?_
    exact k
   obtain ⟨cl10, Ar10, q10, S10, M10, H10, G10⟩ := id Vs
   refine own_st (T' := Tj) (g' := (mkF m 181 #[vr src, vi (((sw + (1 : Int32)) + (1 : Int32)) + (1 : Int32)), vi nv, vr dst, vi dw, vi 1, vi z0, vi z1, vi z2, .unset, .unset] [(.int z2), (.int z1), (.int z0)])) (fun t k => ?_) ?_
   ·refine Xj.baloadBytes hx (j := ((sw + (1 : Int32)) + (1 : Int32))) (v := (.int z2)) (by rw [ej]; exact Ar10.1) (State.isArrayOf_alike hZ.alike Ar10.2.1) Ar10.2.2 (inb_of S10 ⟨own_ge0 sp2, sl2⟩) (Has.at H10 (inb_of S10 ⟨own_ge0 sp2, sl2⟩) ((own_lget sl (((sw + (1 : Int32)) + (1 : Int32))).toNatClampNeg).trans (congrArg Value.int (own_rdL sp2 (hb2 2 (by simp)))))) (g := (mkF m 172 #[vr src, vi (((sw + (1 : Int32)) + (1 : Int32)) + (1 : Int32)), vi nv, vr dst, vi dw, vi 1, vi z0, vi z1, .unset, .unset, .unset] [(.int ((sw + (1 : Int32)) + (1 : Int32))), (.ref src)])) rfl rfl (hb hby d24_172) _ ?_
    refine XS.istore Xj.here hx rfl (hb hby d24_173) rfl (l' := #[vr src, vi (((sw + (1 : Int32)) + (1 : Int32)) + (1 : Int32)), vi nv, vr dst, vi dw, vi 1, vi z0, vi z1, vi z2, .unset, .unset]) rfl ?_
    refine XS.iload Xj.here hx rfl (hb hby d24_175) rfl ?_
    refine XS.iload Xj.here hx rfl (hb hby d24_177) rfl ?_
    refine XS.iload Xj.here hx rfl (hb hby d24_179) rfl ?_
    exact k
   obtain ⟨_, _, ⟨T11, L11, c11, n11⟩, -, X11, ⟨Lc11, hQ11, l11, y11, z11⟩, st11⟩ := Jvm.LawKit.callS Xj hx (y := own_y22) hown (om hZ hw 126 rfl) (om hZ hw 127 rfl) (om hZ hw 42 rfl) (om hZ hw 128 rfl) (by decide) (backOf (W := 0) (own_rm25 l Z a0 hw z0 z1 z2 cs fm u8 hh n0 Zj Oj h2k HB) hZ (own_w hw 128 rfl) (own_w hw 42 rfl) (by decide) (by decide)) (g := (mkF m 181 #[vr src, vi (((sw + (1 : Int32)) + (1 : Int32)) + (1 : Int32)), vi nv, vr dst, vi dw, vi 1, vi z0, vi z1, vi z2, .unset, .unset] [(.int z2), (.int z1), (.int z0)])) rfl (by rw [hml]; rfl) (argsL := [(.int z0), (.int z1), (.int z2)]) (rest := []) (lenOf own_pd13 rfl) rfl own_w0 (hb hby d24_181) (fun _ _ => ⟨rfl, ej, (by decide : 0 + 0 ≤ _), (by decide : 0 + 0 ≤ _)⟩)
   dsimp only [Pt.U, Pt.locs, Pt.cells, Pt.slots] at X11 l11 y11 z11 st11 hQ11
   subst l11 y11 z11
   obtain ⟨rfl, N11q, e11⟩ := hQ11
   have N11 := Fr.app Nj N11q
   refine own_st (g' := (mkF m 184 #[vr src, vi (((sw + (1 : Int32)) + (1 : Int32)) + (1 : Int32)), vi nv, vr dst, vi dw, vi 1, vi z0, vi z1, vi z2, .unset, .unset] [(.int 0)])) st11 ?_
   refine own_st (T' := T11) (g' := (mkF m 230 #[vr src, vi (((sw + (1 : Int32)) + (1 : Int32)) + (1 : Int32)), vi nv, vr dst, vi dw, vi 1, vi z0, vi z1, vi z2, .unset, .unset] [(.int z2), (.int z1), (.int z0)])) (fun t k => ?_) ?_
   ·refine XS.ifYes X11.here hx rfl (pc0 := 184) (pc' := 224) rfl (hb hby d24_184) rfl ((if0 _ _).trans (teq (rfl : (0 : Int32) = (0 : Int32))).1) (by decide) (by decide) ?_
    refine XS.iload X11.here hx rfl (hb hby d24_224) rfl ?_
    refine XS.iload X11.here hx rfl (hb hby d24_226) rfl ?_
    refine XS.iload X11.here hx rfl (hb hby d24_228) rfl ?_
    exact k
   obtain ⟨_, _, ⟨T12, L12, c12, n12⟩, -, X12, ⟨Lc12, hQ12, l12, y12, z12⟩, st12⟩ := Jvm.LawKit.callS X11 hx (y := own_y19) hown (om hZ hw 129 rfl) (om hZ hw 130 rfl) (om hZ hw 42 rfl) (om hZ hw 131 rfl) (by decide) (backOf (W := 0) (own_rm26 l Z a0 hw z0 z1 z2 cs fm u8 hh n0 Zj Oj HB) hZ (own_w hw 131 rfl) (own_w hw 42 rfl) (by decide) (by decide)) (g := (mkF m 230 #[vr src, vi (((sw + (1 : Int32)) + (1 : Int32)) + (1 : Int32)), vi nv, vr dst, vi dw, vi 1, vi z0, vi z1, vi z2, .unset, .unset] [(.int z2), (.int z1), (.int z0)])) rfl (by rw [hml]; rfl) (argsL := [(.int z0), (.int z1), (.int z2)]) (rest := []) (lenOf own_pd14 rfl) rfl own_w0 (hb hby d24_230) (fun _ _ => ⟨rfl, e11, (by decide : 0 + 0 ≤ _), (by decide : 0 + 0 ≤ _)⟩)
   dsimp only [Pt.U, Pt.locs, Pt.cells, Pt.slots] at X12 l12 y12 z12 st12 hQ12
   subst l12 y12 z12
   obtain ⟨rfl, N12q, e12⟩ := hQ12
   have N12 := Fr.app N11 N12q
   refine own_st (g' := (mkF m 233 #[vr src, vi (((sw + (1 : Int32)) + (1 : Int32)) + (1 : Int32)), vi nv, vr dst, vi dw, vi 1, vi z0, vi z1, vi z2, .unset, .unset] [(.int (own_d3 z0 z1 z2))])) st12 ?_
   refine own_st (T' := T12) (g' := (mkF m 237 #[vr src, vi (((sw + (1 : Int32)) + (1 : Int32)) + (1 : Int32)), vi nv, vr dst, vi dw, vi 1, vi z0, vi z1, vi z2, vi (own_d3 z0 z1 z2), .unset] [(.int (own_d3 z0 z1 z2))])) (fun t k => ?_) ?_
   ·refine XS.istore X12.here hx rfl (hb hby d24_233) rfl (l' := #[vr src, vi (((sw + (1 : Int32)) + (1 : Int32)) + (1 : Int32)), vi nv, vr dst, vi dw, vi 1, vi z0, vi z1, vi z2, vi (own_d3 z0 z1 z2), .unset]) rfl ?_
    refine XS.iload X12.here hx rfl (hb hby d24_235) rfl ?_
    exact k
   obtain ⟨_, _, ⟨T13, L13, c13, n13⟩, -, X13, ⟨Lc13, hQ13, l13, y13, z13⟩, st13⟩ := Jvm.LawKit.callS X12 hx (y := own_y24) hown (om hZ hw 133 rfl) (om hZ hw 134 rfl) (om hZ hw 135 rfl) (om hZ hw 136 rfl) (by decide) (backOf (W := 0) (own_rm27 l Z a0 hw (own_d3 z0 z1 z2) cs fm u8 hh n0 Zj Oj h2k.2.2.2.2.2.2.2 HB) hZ (own_w hw 136 rfl) (own_w hw 135 rfl) (by decide) (by decide)) (g := (mkF m 237 #[vr src, vi (((sw + (1 : Int32)) + (1 : Int32)) + (1 : Int32)), vi nv, vr dst, vi dw, vi 1, vi z0, vi z1, vi z2, vi (own_d3 z0 z1 z2), .unset] [(.int (own_d3 z0 z1 z2))])) rfl (by rw [hml]; rfl) (argsL := [(.int (own_d3 z0 z1 z2))]) (rest := []) (lenOf own_pd15 rfl) rfl own_w0 (hb hby d24_237) (fun _ _ => ⟨rfl, e12, (by decide : 0 + 0 ≤ _), (by decide : 0 + 0 ≤ _)⟩)
   dsimp only [Pt.U, Pt.locs, Pt.cells, Pt.slots] at X13 l13 y13 z13 st13 hQ13
   subst l13 y13 z13
   obtain ⟨rfl, N13q, e13⟩ := hQ13
   have N13 := Fr.app N12 N13q
   refine own_st (g' := (mkF m 240 #[vr src, vi (((sw + (1 : Int32)) + (1 : Int32)) + (1 : Int32)), vi nv, vr dst, vi dw, vi 1, vi z0, vi z1, vi z2, vi (own_d3 z0 z1 z2), .unset] [(.int 0)])) st13 ?_
   refine own_st (T' := T13) (g' := (mkF m 277 #[vr src, vi (((sw + (1 : Int32)) + (1 : Int32)) + (1 : Int32)), vi nv, vr dst, vi (dw + (1 : Int32)), vi 1, vi z0, vi z1, vi z2, vi (own_d3 z0 z1 z2), .unset] [(.int (own_d3 z0 z1 z2)), (.int dw), (.ref dst)])) (fun t k => ?_) ?_
   ·refine XS.ifYes X13.here hx rfl (pc0 := 240) (pc' := 269) rfl (hb hby d24_240) rfl ((if0 _ _).trans (teq (rfl : (0 : Int32) = (0 : Int32))).1) (by decide) (by decide) ?_
    refine XS.aloadN X13.here hx rfl (hb hby d24_269) rfl rfl ?_
    refine XS.iload X13.here hx rfl (hb hby d24_270) rfl ?_
    refine XS.iinc X13.here hx rfl (hb hby d24_272) rfl (l' := #[vr src, vi (((sw + (1 : Int32)) + (1 : Int32)) + (1 : Int32)), vi nv, vr dst, vi (dw + (1 : Int32)), vi 1, vi z0, vi z1, vi z2, vi (own_d3 z0 z1 z2), .unset]) rfl ?_
    refine XS.iload X13.here hx rfl (hb hby d24_275) rfl ?_
    exact k
   obtain ⟨_, _, ⟨T14, L14, c14, n14⟩, -, X14, ⟨Lc14, hQ14, l14, y14, z14⟩, st14⟩ := Jvm.LawKit.callS X13 hx (y := own_y14) hown (om hZ hw 139 rfl) (om hZ hw 118 rfl) (om hZ hw 97 rfl) (om hZ hw 119 rfl) (by decide) (backOf (W := 0) (own_rm23 l Z a0 hw dst kd el zz zn dw (own_d3 z0 z1 z2) dm cs fm u8 hh n0 Zj Oj Vd hzz hel g_d hdw (by omega) hz16 HB) hZ (own_w hw 119 rfl) (own_w hw 97 rfl) (by decide) (by decide)) (g := (mkF m 277 #[vr src, vi (((sw + (1 : Int32)) + (1 : Int32)) + (1 : Int32)), vi nv, vr dst, vi (dw + (1 : Int32)), vi 1, vi z0, vi z1, vi z2, vi (own_d3 z0 z1 z2), .unset] [(.int (own_d3 z0 z1 z2)), (.int dw), (.ref dst)])) rfl (by rw [hml]; rfl) (argsL := [(.ref dst), (.int dw), (.int (own_d3 z0 z1 z2))]) (rest := []) (lenOf own_pd9 rfl) rfl own_w0 (hb hby d24_277) (fun _ _ => ⟨rfl, e13, (by decide : 0 + 0 ≤ _), (by decide : 0 + 0 ≤ _)⟩)
   dsimp only [Pt.U, Pt.locs, Pt.cells, Pt.slots] at X14 l14 y14 z14 st14 hQ14
   subst l14 y14 z14
   obtain ⟨h14, e14⟩ : ∃ z, T14.heap = z := ⟨_, rfl⟩
   rw [e14] at hQ14
   obtain ⟨rfl, N14q, Kc14, Vc14⟩ := hQ14
   have N14 := Fr.app N13 N14q
   have K14 : Keep h0 h14 [dst] := Kj.trans Kc14 (allS (Or.inl (List.mem_of_getElem? (i := 0) rfl)) all0)
   have Z14 : n0 ≤ h14.size := Nat.le_trans Zj Kc14.1
   have O14 := Oj.keep Kc14 (allS g_d all0)
   refine own_st (g' := (mkF m 280 #[vr src, vi (((sw + (1 : Int32)) + (1 : Int32)) + (1 : Int32)), vi nv, vr dst, vi (dw + (1 : Int32)), vi 1, vi z0, vi z1, vi z2, vi (own_d3 z0 z1 z2), .unset] [])) st14 ?_
   refine own_st (T' := T14) (g' := (mkF m 623 #[vr src, vi (((sw + (1 : Int32)) + (1 : Int32)) + (1 : Int32)), vi nv, vr dst, vi (dw + (1 : Int32)), vi 1, vi z0, vi z1, vi z2, vi (own_d3 z0 z1 z2), .unset] [(.int (dw + (1 : Int32)))])) (fun t k => ?_) ?_
   ·refine XS.goto X14.here hx rfl (pc0 := 280) (pc' := 0) rfl (hb hby d24_280) (by decide) (by decide) ?_
    refine XS.iloadN X14.here hx rfl (hb hby d24_0) rfl ?_
    refine XS.iloadN X14.here hx rfl (hb hby d24_1) rfl ?_
    refine XS.icmpYes X14.here hx rfl (pc0 := 2) (pc' := 621) rfl (hb hby d24_2) rfl (flt (fun q => absurd ((own_ltN sp3 hnv).mp q) (by omega))).2.1 (by decide) (by decide) ?_
    refine XS.iload X14.here hx rfl (hb hby d24_621) rfl ?_
    exact k
   exact own_retI X14 hx Bd (hb hby d24_623) e14 (⟨congrArg (fun z => some (Value.int z)) ((own_ofN dp1).trans (congrArg Int32.ofNat hlq)), N14, K14, heq ▸ Vc14⟩) (by decide) (by decide)
  ·have sp1 := own_add hsw own_i1 (by omega)
   have sp2 := own_add sp1 own_i1 (by omega)
   have sp3 := own_add sp2 own_i1 (by omega)
   have dp1 := own_add hdw own_i1 (by omega)
   have sl0 : sw < nv := (own_ltN hsw hnv).mpr (by omega)
   have sl1 : (sw + (1 : Int32)) < nv := (own_ltN sp1 hnv).mpr (by omega)
   have sl2 : ((sw + (1 : Int32)) + (1 : Int32)) < nv := (own_ltN sp2 hnv).mpr (by omega)
   refine own_st (T' := Tj) (g' := (mkF m 10 #[vr src, vi (sw + (1 : Int32)), vi nv, vr dst, vi dw, vi 1, vi a6, vi a7, vi s8, vi s9, .unset] [(.int sw), (.ref src)])) (fun t k => ?_) ?_
   ·refine XS.iloadN Xj.here hx rfl (hb hby d24_0) rfl ?_
    refine XS.iloadN Xj.here hx rfl (hb hby d24_1) rfl ?_
    refine XS.icmpNo Xj.here hx rfl (hb hby d24_2) rfl (tlt sl0).2.1 ?_
    refine XS.aloadN Xj.here hx rfl (hb hby d24_5) rfl rfl ?_
    refine XS.iloadN Xj.here hx rfl (hb hby d24_6) rfl ?_
    refine XS.iinc Xj.here hx rfl (hb hby d24_7) rfl (l' := #[vr src, vi (sw + (1 : Int32)), vi nv, vr dst, vi dw, vi 1, vi a6, vi a7, vi s8, vi s9, .unset]) rfl ?_
    exact k
   obtain ⟨cl15, Ar15, q15, S15, M15, H15, G15⟩ := id Vs
   refine own_st (T' := Tj) (g' := (mkF m 164 #[vr src, vi ((sw + (1 : Int32)) + (1 : Int32)), vi nv, vr dst, vi dw, vi 1, vi z0, vi a7, vi s8, vi s9, .unset] [(.int (sw + (1 : Int32))), (.ref src)])) (fun t k => ?_) ?_
   ·refine Xj.baloadBytes hx (j := sw) (v := (.int z0)) (by rw [ej]; exact Ar15.1) (State.isArrayOf_alike hZ.alike Ar15.2.1) Ar15.2.2 (inb_of S15 ⟨own_ge0 hsw, sl0⟩) (Has.at H15 (inb_of S15 ⟨own_ge0 hsw, sl0⟩) ((own_lget sl (sw).toNatClampNeg).trans (congrArg Value.int (own_rdL hsw (hb2 0 (by simp)))))) (g := (mkF m 10 #[vr src, vi (sw + (1 : Int32)), vi nv, vr dst, vi dw, vi 1, vi a6, vi a7, vi s8, vi s9, .unset] [(.int sw), (.ref src)])) rfl rfl (hb hby d24_10) _ ?_
    refine XS.istore Xj.here hx rfl (hb hby d24_11) rfl (l' := #[vr src, vi (sw + (1 : Int32)), vi nv, vr dst, vi dw, vi 1, vi z0, vi a7, vi s8, vi s9, .unset]) rfl ?_
    refine XS.iload Xj.here hx rfl (hb hby d24_13) rfl ?_
    refine XS.ifYes Xj.here hx rfl (pc0 := 15) (pc' := 33) rfl (hb hby d24_15) rfl ((if0 _ _).trans (tlt h2k.1).1) (by decide) (by decide) ?_
    refine XS.iload Xj.here hx rfl (hb hby d24_33) rfl ?_
    refine XS.iconst Xj.here hx rfl (hb hby d24_35) ?_
    refine XS.ishr Xj.here hx rfl (hb hby d24_36) rfl ?_
    refine XS.bipush Xj.here hx rfl (hb hby d24_37) ?_
    refine XS.icmpYes Xj.here hx rfl (pc0 := 39) (pc' := 143) rfl (hb hby d24_39) rfl (feq h2k.2.2.1).2 (by decide) (by decide) ?_
    refine XS.iload Xj.here hx rfl (hb hby d24_143) rfl ?_
    refine XS.iconst Xj.here hx rfl (hb hby d24_145) ?_
    refine XS.ishr Xj.here hx rfl (hb hby d24_146) rfl ?_
    refine XS.bipush Xj.here hx rfl (hb hby d24_147) ?_
    refine XS.icmpNo Xj.here hx rfl (hb hby d24_149) rfl (teq h2k.2.2.2.1).2 ?_
    refine XS.iloadN Xj.here hx rfl (hb hby d24_152) rfl ?_
    refine XS.iconst Xj.here hx rfl (hb hby d24_153) ?_
    refine XS.iadd Xj.here hx rfl (hb hby d24_154) rfl ?_
    refine XS.iloadN Xj.here hx rfl (hb hby d24_155) rfl ?_
    refine XS.icmpNo Xj.here hx rfl (hb hby d24_156) rfl (tlt ((own_ltN (own_add sp1 own_i1 (by omega)) hnv).mpr (by omega))).2.1 ?_
    refine XS.aloadN Xj.here hx rfl (hb hby d24_159) rfl rfl ?_
    refine XS.iloadN Xj.here hx rfl (hb hby d24_160) rfl ?_
    refine XS.iinc Xj.here hx rfl (hb hby d24_161) rfl (l' := #[vr src, vi ((sw + (1 : Int32)) + (1 : Int32)), vi nv, vr dst, vi dw, vi 1, vi z0, vi a7, vi s8, vi s9, .unset]) rfl ?_
    exact k
   obtain ⟨cl16, Ar16, q16, S16, M16, H16, G16⟩ := id Vs
   refine own_st (T' := Tj) (g' := (mkF m 172 #[vr src, vi (((sw + (1 : Int32)) + (1 : Int32)) + (1 : Int32)), vi nv, vr dst, vi dw, vi 1, vi z0, vi z1, vi s8, vi s9, .unset] [(.int ((sw + (1 : Int32)) + (1 : Int32))), (.ref src)])) (fun t k => ?_) ?_
   ·refine Xj.baloadBytes hx (j := (sw + (1 : Int32))) (v := (.int z1)) (by rw [ej]; exact Ar16.1) (State.isArrayOf_alike hZ.alike Ar16.2.1) Ar16.2.2 (inb_of S16 ⟨own_ge0 sp1, sl1⟩) (Has.at H16 (inb_of S16 ⟨own_ge0 sp1, sl1⟩) ((own_lget sl ((sw + (1 : Int32))).toNatClampNeg).trans (congrArg Value.int (own_rdL sp1 (hb2 1 (by simp)))))) (g := (mkF m 164 #[vr src, vi ((sw + (1 : Int32)) + (1 : Int32)), vi nv, vr dst, vi dw, vi 1, vi z0, vi a7, vi s8, vi s9, .unset] [(.int (sw + (1 : Int32))), (.ref src)])) rfl rfl (hb hby d24_164) _ ?_
    refine XS.istore Xj.here hx rfl (hb hby d24_165) rfl (l' := #[vr src, vi ((sw + (1 : Int32)) + (1 : Int32)), vi nv, vr dst, vi dw, vi 1, vi z0, vi z1, vi s8, vi s9, .unset]) rfl ?_
    refine XS.aloadN Xj.here hx rfl (hb hby d24_167) rfl rfl ?_
    refine XS.iloadN Xj.here hx rfl (hb hby d24_168) rfl ?_
    refine XS.iinc Xj.here hx rfl (hb hby d24_169) rfl (l' := #[vr src, vi (((sw + (1 : Int32)) + (1 : Int32)) + (1 : Int32)), vi nv, vr dst, vi dw, vi 1, vi z0, vi z1, vi s8, vi s9, .unset]) rfl ?_
    exact k
   obtain ⟨cl17, Ar17, q17, S17, M17, H17, G17⟩ := id Vs
   refine own_st (T' := Tj) (g' := (mkF m 181 #[vr src, vi (((sw + (1 : Int32)) + (1 : Int32)) + (1 : Int32)), vi nv, vr dst, vi dw, vi 1, vi z0, vi z1, vi z2, vi s9, .unset] [(.int z2), (.int z1), (.int z0)])) (fun t k => ?_) ?_
   ·refine Xj.baloadBytes hx (j := ((sw + (1 : Int32)) + (1 : Int32))) (v := (.int z2)) (by rw [ej]; exact Ar17.1) (State.isArrayOf_alike hZ.alike Ar17.2.1) Ar17.2.2 (inb_of S17 ⟨own_ge0 sp2, sl2⟩) (Has.at H17 (inb_of S17 ⟨own_ge0 sp2, sl2⟩) ((own_lget sl (((sw + (1 : Int32)) + (1 : Int32))).toNatClampNeg).trans (congrArg Value.int (own_rdL sp2 (hb2 2 (by simp)))))) (g := (mkF m 172 #[vr src, vi (((sw + (1 : Int32)) + (1 : Int32)) + (1 : Int32)), vi nv, vr dst, vi dw, vi 1, vi z0, vi z1, vi s8, vi s9, .unset] [(.int ((sw + (1 : Int32)) + (1 : Int32))), (.ref src)])) rfl rfl (hb hby d24_172) _ ?_
    refine XS.istore Xj.here hx rfl (hb hby d24_173) rfl (l' := #[vr src, vi (((sw + (1 : Int32)) + (1 : Int32)) + (1 : Int32)), vi nv, vr dst, vi dw, vi 1, vi z0, vi z1, vi z2, vi s9, .unset]) rfl ?_
    refine XS.iload Xj.here hx rfl (hb hby d24_175) rfl ?_
    refine XS.iload Xj.here hx rfl (hb hby d24_177) rfl ?_
    refine XS.iload Xj.here hx rfl (hb hby d24_179) rfl ?_
    exact k
   obtain ⟨_, _, ⟨T18, L18, c18, n18⟩, -, X18, ⟨Lc18, hQ18, l18, y18, z18⟩, st18⟩ := Jvm.LawKit.callS Xj hx (y := own_y22) hown (om hZ hw 126 rfl) (om hZ hw 127 rfl) (om hZ hw 42 rfl) (om hZ hw 128 rfl) (by decide) (backOf (W := 0) (own_rm25 l Z a0 hw z0 z1 z2 cs fm u8 hh n0 Zj Oj h2k HB) hZ (own_w hw 128 rfl) (own_w hw 42 rfl) (by decide) (by decide)) (g := (mkF m 181 #[vr src, vi (((sw + (1 : Int32)) + (1 : Int32)) + (1 : Int32)), vi nv, vr dst, vi dw, vi 1, vi z0, vi z1, vi z2, vi s9, .unset] [(.int z2), (.int z1), (.int z0)])) rfl (by rw [hml]; rfl) (argsL := [(.int z0), (.int z1), (.int z2)]) (rest := []) (lenOf own_pd13 rfl) rfl own_w0 (hb hby d24_181) (fun _ _ => ⟨rfl, ej, (by decide : 0 + 0 ≤ _), (by decide : 0 + 0 ≤ _)⟩)
   dsimp only [Pt.U, Pt.locs, Pt.cells, Pt.slots] at X18 l18 y18 z18 st18 hQ18
   subst l18 y18 z18
   obtain ⟨rfl, N18q, e18⟩ := hQ18
   have N18 := Fr.app Nj N18q
   refine own_st (g' := (mkF m 184 #[vr src, vi (((sw + (1 : Int32)) + (1 : Int32)) + (1 : Int32)), vi nv, vr dst, vi dw, vi 1, vi z0, vi z1, vi z2, vi s9, .unset] [(.int 0)])) st18 ?_
   refine own_st (T' := T18) (g' := (mkF m 230 #[vr src, vi (((sw + (1 : Int32)) + (1 : Int32)) + (1 : Int32)), vi nv, vr dst, vi dw, vi 1, vi z0, vi z1, vi z2, vi s9, .unset] [(.int z2), (.int z1), (.int z0)])) (fun t k => ?_) ?_
   ·refine XS.ifYes X18.here hx rfl (pc0 := 184) (pc' := 224) rfl (hb hby d24_184) rfl ((if0 _ _).trans (teq (rfl : (0 : Int32) = (0 : Int32))).1) (by decide) (by decide) ?_
    refine XS.iload X18.here hx rfl (hb hby d24_224) rfl ?_
    refine XS.iload X18.here hx rfl (hb hby d24_226) rfl ?_
    refine XS.iload X18.here hx rfl (hb hby d24_228) rfl ?_
    exact k
   obtain ⟨_, _, ⟨T19, L19, c19, n19⟩, -, X19, ⟨Lc19, hQ19, l19, y19, z19⟩, st19⟩ := Jvm.LawKit.callS X18 hx (y := own_y19) hown (om hZ hw 129 rfl) (om hZ hw 130 rfl) (om hZ hw 42 rfl) (om hZ hw 131 rfl) (by decide) (backOf (W := 0) (own_rm26 l Z a0 hw z0 z1 z2 cs fm u8 hh n0 Zj Oj HB) hZ (own_w hw 131 rfl) (own_w hw 42 rfl) (by decide) (by decide)) (g := (mkF m 230 #[vr src, vi (((sw + (1 : Int32)) + (1 : Int32)) + (1 : Int32)), vi nv, vr dst, vi dw, vi 1, vi z0, vi z1, vi z2, vi s9, .unset] [(.int z2), (.int z1), (.int z0)])) rfl (by rw [hml]; rfl) (argsL := [(.int z0), (.int z1), (.int z2)]) (rest := []) (lenOf own_pd14 rfl) rfl own_w0 (hb hby d24_230) (fun _ _ => ⟨rfl, e18, (by decide : 0 + 0 ≤ _), (by decide : 0 + 0 ≤ _)⟩)
   dsimp only [Pt.U, Pt.locs, Pt.cells, Pt.slots] at X19 l19 y19 z19 st19 hQ19
   subst l19 y19 z19
   obtain ⟨rfl, N19q, e19⟩ := hQ19
   have N19 := Fr.app N18 N19q
   refine own_st (g' := (mkF m 233 #[vr src, vi (((sw + (1 : Int32)) + (1 : Int32)) + (1 : Int32)), vi nv, vr dst, vi dw, vi 1, vi z0, vi z1, vi z2, vi s9, .unset] [(.int (own_d3 z0 z1 z2))])) st19 ?_
   refine own_st (T' := T19) (g' := (mkF m 237 #[vr src, vi (((sw + (1 : Int32)) + (1 : Int32)) + (1 : Int32)), vi nv, vr dst, vi dw, vi 1, vi z0, vi z1, vi z2, vi (own_d3 z0 z1 z2), .unset] [(.int (own_d3 z0 z1 z2))])) (fun t k => ?_) ?_
   ·refine XS.istore X19.here hx rfl (hb hby d24_233) rfl (l' := #[vr src, vi (((sw + (1 : Int32)) + (1 : Int32)) + (1 : Int32)), vi nv, vr dst, vi dw, vi 1, vi z0, vi z1, vi z2, vi (own_d3 z0 z1 z2), .unset]) rfl ?_
    refine XS.iload X19.here hx rfl (hb hby d24_235) rfl ?_
    exact k
   obtain ⟨_, _, ⟨T20, L20, c20, n20⟩, -, X20, ⟨Lc20, hQ20, l20, y20, z20⟩, st20⟩ := Jvm.LawKit.callS X19 hx (y := own_y24) hown (om hZ hw 133 rfl) (om hZ hw 134 rfl) (om hZ hw 135 rfl) (om hZ hw 136 rfl) (by decide) (backOf (W := 0) (own_rm27 l Z a0 hw (own_d3 z0 z1 z2) cs fm u8 hh n0 Zj Oj h2k.2.2.2.2.2.2.2 HB) hZ (own_w hw 136 rfl) (own_w hw 135 rfl) (by decide) (by decide)) (g := (mkF m 237 #[vr src, vi (((sw + (1 : Int32)) + (1 : Int32)) + (1 : Int32)), vi nv, vr dst, vi dw, vi 1, vi z0, vi z1, vi z2, vi (own_d3 z0 z1 z2), .unset] [(.int (own_d3 z0 z1 z2))])) rfl (by rw [hml]; rfl) (argsL := [(.int (own_d3 z0 z1 z2))]) (rest := []) (lenOf own_pd15 rfl) rfl own_w0 (hb hby d24_237) (fun _ _ => ⟨rfl, e19, (by decide : 0 + 0 ≤ _), (by decide : 0 + 0 ≤ _)⟩)
   dsimp only [Pt.U, Pt.locs, Pt.cells, Pt.slots] at X20 l20 y20 z20 st20 hQ20
   subst l20 y20 z20
   obtain ⟨rfl, N20q, e20⟩ := hQ20
   have N20 := Fr.app N19 N20q
   refine own_st (g' := (mkF m 240 #[vr src, vi (((sw + (1 : Int32)) + (1 : Int32)) + (1 : Int32)), vi nv, vr dst, vi dw, vi 1, vi z0, vi z1, vi z2, vi (own_d3 z0 z1 z2), .unset] [(.int 0)])) st20 ?_
   refine own_st (T' := T20) (g' := (mkF m 277 #[vr src, vi (((sw + (1 : Int32)) + (1 : Int32)) + (1 : Int32)), vi nv, vr dst, vi (dw + (1 : Int32)), vi 1, vi z0, vi z1, vi z2, vi (own_d3 z0 z1 z2), .unset] [(.int (own_d3 z0 z1 z2)), (.int dw), (.ref dst)])) (fun t k => ?_) ?_
   ·refine XS.ifYes X20.here hx rfl (pc0 := 240) (pc' := 269) rfl (hb hby d24_240) rfl ((if0 _ _).trans (teq (rfl : (0 : Int32) = (0 : Int32))).1) (by decide) (by decide) ?_
    refine XS.aloadN X20.here hx rfl (hb hby d24_269) rfl rfl ?_
    refine XS.iload X20.here hx rfl (hb hby d24_270) rfl ?_
    refine XS.iinc X20.here hx rfl (hb hby d24_272) rfl (l' := #[vr src, vi (((sw + (1 : Int32)) + (1 : Int32)) + (1 : Int32)), vi nv, vr dst, vi (dw + (1 : Int32)), vi 1, vi z0, vi z1, vi z2, vi (own_d3 z0 z1 z2), .unset]) rfl ?_
    refine XS.iload X20.here hx rfl (hb hby d24_275) rfl ?_
    exact k
   obtain ⟨_, _, ⟨T21, L21, c21, n21⟩, -, X21, ⟨Lc21, hQ21, l21, y21, z21⟩, st21⟩ := Jvm.LawKit.callS X20 hx (y := own_y14) hown (om hZ hw 139 rfl) (om hZ hw 118 rfl) (om hZ hw 97 rfl) (om hZ hw 119 rfl) (by decide) (backOf (W := 0) (own_rm23 l Z a0 hw dst kd el zz zn dw (own_d3 z0 z1 z2) dm cs fm u8 hh n0 Zj Oj Vd hzz hel g_d hdw (by omega) hz16 HB) hZ (own_w hw 119 rfl) (own_w hw 97 rfl) (by decide) (by decide)) (g := (mkF m 277 #[vr src, vi (((sw + (1 : Int32)) + (1 : Int32)) + (1 : Int32)), vi nv, vr dst, vi (dw + (1 : Int32)), vi 1, vi z0, vi z1, vi z2, vi (own_d3 z0 z1 z2), .unset] [(.int (own_d3 z0 z1 z2)), (.int dw), (.ref dst)])) rfl (by rw [hml]; rfl) (argsL := [(.ref dst), (.int dw), (.int (own_d3 z0 z1 z2))]) (rest := []) (lenOf own_pd9 rfl) rfl own_w0 (hb hby d24_277) (fun _ _ => ⟨rfl, e20, (by decide : 0 + 0 ≤ _), (by decide : 0 + 0 ≤ _)⟩)
   dsimp only [Pt.U, Pt.locs, Pt.cells, Pt.slots] at X21 l21 y21 z21 st21 hQ21
   subst l21 y21 z21
   obtain ⟨h21, e21⟩ : ∃ z, T21.heap = z := ⟨_, rfl⟩
   rw [e21] at hQ21
   obtain ⟨rfl, N21q, Kc21, Vc21⟩ := hQ21
   have N21 := Fr.app N20 N21q
   have K21 : Keep h0 h21 [dst] := Kj.trans Kc21 (allS (Or.inl (List.mem_of_getElem? (i := 0) rfl)) all0)
   have Z21 : n0 ≤ h21.size := Nat.le_trans Zj Kc21.1
   have O21 := Oj.keep Kc21 (allS g_d all0)
   refine own_st (g' := (mkF m 280 #[vr src, vi (((sw + (1 : Int32)) + (1 : Int32)) + (1 : Int32)), vi nv, vr dst, vi (dw + (1 : Int32)), vi 1, vi z0, vi z1, vi z2, vi (own_d3 z0 z1 z2), .unset] [])) st21 ?_
   refine own_st (T' := T21) (g' := (mkF m 623 #[vr src, vi (((sw + (1 : Int32)) + (1 : Int32)) + (1 : Int32)), vi nv, vr dst, vi (dw + (1 : Int32)), vi 1, vi z0, vi z1, vi z2, vi (own_d3 z0 z1 z2), .unset] [(.int (dw + (1 : Int32)))])) (fun t k => ?_) ?_
   ·refine XS.goto X21.here hx rfl (pc0 := 280) (pc' := 0) rfl (hb hby d24_280) (by decide) (by decide) ?_
    refine XS.iloadN X21.here hx rfl (hb hby d24_0) rfl ?_
    refine XS.iloadN X21.here hx rfl (hb hby d24_1) rfl ?_
    refine XS.icmpYes X21.here hx rfl (pc0 := 2) (pc' := 621) rfl (hb hby d24_2) rfl (flt (fun q => absurd ((own_ltN sp3 hnv).mp q) (by omega))).2.1 (by decide) (by decide) ?_
    refine XS.iload X21.here hx rfl (hb hby d24_621) rfl ?_
    exact k
   exact own_retI X21 hx Bd (hb hby d24_623) e21 (⟨congrArg (fun z => some (Value.int z)) ((own_ofN dp1).trans (congrArg Int32.ofNat hlq)), N21, K21, heq ▸ Vc21⟩) (by decide) (by decide)
  ·have sp1 := own_add hsw own_i1 (by omega)
   have sp2 := own_add sp1 own_i1 (by omega)
   have sp3 := own_add sp2 own_i1 (by omega)
   have dp1 := own_add hdw own_i1 (by omega)
   have sl0 : sw < nv := (own_ltN hsw hnv).mpr (by omega)
   have sl1 : (sw + (1 : Int32)) < nv := (own_ltN sp1 hnv).mpr (by omega)
   have sl2 : ((sw + (1 : Int32)) + (1 : Int32)) < nv := (own_ltN sp2 hnv).mpr (by omega)
   refine own_st (T' := Tj) (g' := (mkF m 10 #[vr src, vi (sw + (1 : Int32)), vi nv, vr dst, vi dw, vi 1, vi a6, vi a7, vi s8, vi s9, vi s10] [(.int sw), (.ref src)])) (fun t k => ?_) ?_
   ·refine XS.iloadN Xj.here hx rfl (hb hby d24_0) rfl ?_
    refine XS.iloadN Xj.here hx rfl (hb hby d24_1) rfl ?_
    refine XS.icmpNo Xj.here hx rfl (hb hby d24_2) rfl (tlt sl0).2.1 ?_
    refine XS.aloadN Xj.here hx rfl (hb hby d24_5) rfl rfl ?_
    refine XS.iloadN Xj.here hx rfl (hb hby d24_6) rfl ?_
    refine XS.iinc Xj.here hx rfl (hb hby d24_7) rfl (l' := #[vr src, vi (sw + (1 : Int32)), vi nv, vr dst, vi dw, vi 1, vi a6, vi a7, vi s8, vi s9, vi s10]) rfl ?_
    exact k
   obtain ⟨cl22, Ar22, q22, S22, M22, H22, G22⟩ := id Vs
   refine own_st (T' := Tj) (g' := (mkF m 164 #[vr src, vi ((sw + (1 : Int32)) + (1 : Int32)), vi nv, vr dst, vi dw, vi 1, vi z0, vi a7, vi s8, vi s9, vi s10] [(.int (sw + (1 : Int32))), (.ref src)])) (fun t k => ?_) ?_
   ·refine Xj.baloadBytes hx (j := sw) (v := (.int z0)) (by rw [ej]; exact Ar22.1) (State.isArrayOf_alike hZ.alike Ar22.2.1) Ar22.2.2 (inb_of S22 ⟨own_ge0 hsw, sl0⟩) (Has.at H22 (inb_of S22 ⟨own_ge0 hsw, sl0⟩) ((own_lget sl (sw).toNatClampNeg).trans (congrArg Value.int (own_rdL hsw (hb2 0 (by simp)))))) (g := (mkF m 10 #[vr src, vi (sw + (1 : Int32)), vi nv, vr dst, vi dw, vi 1, vi a6, vi a7, vi s8, vi s9, vi s10] [(.int sw), (.ref src)])) rfl rfl (hb hby d24_10) _ ?_
    refine XS.istore Xj.here hx rfl (hb hby d24_11) rfl (l' := #[vr src, vi (sw + (1 : Int32)), vi nv, vr dst, vi dw, vi 1, vi z0, vi a7, vi s8, vi s9, vi s10]) rfl ?_
    refine XS.iload Xj.here hx rfl (hb hby d24_13) rfl ?_
    refine XS.ifYes Xj.here hx rfl (pc0 := 15) (pc' := 33) rfl (hb hby d24_15) rfl ((if0 _ _).trans (tlt h2k.1).1) (by decide) (by decide) ?_
    refine XS.iload Xj.here hx rfl (hb hby d24_33) rfl ?_
    refine XS.iconst Xj.here hx rfl (hb hby d24_35) ?_
    refine XS.ishr Xj.here hx rfl (hb hby d24_36) rfl ?_
    refine XS.bipush Xj.here hx rfl (hb hby d24_37) ?_
    refine XS.icmpYes Xj.here hx rfl (pc0 := 39) (pc' := 143) rfl (hb hby d24_39) rfl (feq h2k.2.2.1).2 (by decide) (by decide) ?_
    refine XS.iload Xj.here hx rfl (hb hby d24_143) rfl ?_
    refine XS.iconst Xj.here hx rfl (hb hby d24_145) ?_
    refine XS.ishr Xj.here hx rfl (hb hby d24_146) rfl ?_
    refine XS.bipush Xj.here hx rfl (hb hby d24_147) ?_
    refine XS.icmpNo Xj.here hx rfl (hb hby d24_149) rfl (teq h2k.2.2.2.1).2 ?_
    refine XS.iloadN Xj.here hx rfl (hb hby d24_152) rfl ?_
    refine XS.iconst Xj.here hx rfl (hb hby d24_153) ?_
    refine XS.iadd Xj.here hx rfl (hb hby d24_154) rfl ?_
    refine XS.iloadN Xj.here hx rfl (hb hby d24_155) rfl ?_
    refine XS.icmpNo Xj.here hx rfl (hb hby d24_156) rfl (tlt ((own_ltN (own_add sp1 own_i1 (by omega)) hnv).mpr (by omega))).2.1 ?_
    refine XS.aloadN Xj.here hx rfl (hb hby d24_159) rfl rfl ?_
    refine XS.iloadN Xj.here hx rfl (hb hby d24_160) rfl ?_
    refine XS.iinc Xj.here hx rfl (hb hby d24_161) rfl (l' := #[vr src, vi ((sw + (1 : Int32)) + (1 : Int32)), vi nv, vr dst, vi dw, vi 1, vi z0, vi a7, vi s8, vi s9, vi s10]) rfl ?_
    exact k
   obtain ⟨cl23, Ar23, q23, S23, M23, H23, G23⟩ := id Vs
   refine own_st (T' := Tj) (g' := (mkF m 172 #[vr src, vi (((sw + (1 : Int32)) + (1 : Int32)) + (1 : Int32)), vi nv, vr dst, vi dw, vi 1, vi z0, vi z1, vi s8, vi s9, vi s10] [(.int ((sw + (1 : Int32)) + (1 : Int32))), (.ref src)])) (fun t k => ?_) ?_
   ·refine Xj.baloadBytes hx (j := (sw + (1 : Int32))) (v := (.int z1)) (by rw [ej]; exact Ar23.1) (State.isArrayOf_alike hZ.alike Ar23.2.1) Ar23.2.2 (inb_of S23 ⟨own_ge0 sp1, sl1⟩) (Has.at H23 (inb_of S23 ⟨own_ge0 sp1, sl1⟩) ((own_lget sl ((sw + (1 : Int32))).toNatClampNeg).trans (congrArg Value.int (own_rdL sp1 (hb2 1 (by simp)))))) (g := (mkF m 164 #[vr src, vi ((sw + (1 : Int32)) + (1 : Int32)), vi nv, vr dst, vi dw, vi 1, vi z0, vi a7, vi s8, vi s9, vi s10] [(.int (sw + (1 : Int32))), (.ref src)])) rfl rfl (hb hby d24_164) _ ?_
    refine XS.istore Xj.here hx rfl (hb hby d24_165) rfl (l' := #[vr src, vi ((sw + (1 : Int32)) + (1 : Int32)), vi nv, vr dst, vi dw, vi 1, vi z0, vi z1, vi s8, vi s9, vi s10]) rfl ?_
    refine XS.aloadN Xj.here hx rfl (hb hby d24_167) rfl rfl ?_
    refine XS.iloadN Xj.here hx rfl (hb hby d24_168) rfl ?_
    refine XS.iinc Xj.here hx rfl (hb hby d24_169) rfl (l' := #[vr src, vi (((sw + (1 : Int32)) + (1 : Int32)) + (1 : Int32)), vi nv, vr dst, vi dw, vi 1, vi z0, vi z1, vi s8, vi s9, vi s10]) rfl ?_
    exact k
   obtain ⟨cl24, Ar24, q24, S24, M24, H24, G24⟩ := id Vs
   refine own_st (T' := Tj) (g' := (mkF m 181 #[vr src, vi (((sw + (1 : Int32)) + (1 : Int32)) + (1 : Int32)), vi nv, vr dst, vi dw, vi 1, vi z0, vi z1, vi z2, vi s9, vi s10] [(.int z2), (.int z1), (.int z0)])) (fun t k => ?_) ?_
   ·refine Xj.baloadBytes hx (j := ((sw + (1 : Int32)) + (1 : Int32))) (v := (.int z2)) (by rw [ej]; exact Ar24.1) (State.isArrayOf_alike hZ.alike Ar24.2.1) Ar24.2.2 (inb_of S24 ⟨own_ge0 sp2, sl2⟩) (Has.at H24 (inb_of S24 ⟨own_ge0 sp2, sl2⟩) ((own_lget sl (((sw + (1 : Int32)) + (1 : Int32))).toNatClampNeg).trans (congrArg Value.int (own_rdL sp2 (hb2 2 (by simp)))))) (g := (mkF m 172 #[vr src, vi (((sw + (1 : Int32)) + (1 : Int32)) + (1 : Int32)), vi nv, vr dst, vi dw, vi 1, vi z0, vi z1, vi s8, vi s9, vi s10] [(.int ((sw + (1 : Int32)) + (1 : Int32))), (.ref src)])) rfl rfl (hb hby d24_172) _ ?_
    refine XS.istore Xj.here hx rfl (hb hby d24_173) rfl (l' := #[vr src, vi (((sw + (1 : Int32)) + (1 : Int32)) + (1 : Int32)), vi nv, vr dst, vi dw, vi 1, vi z0, vi z1, vi z2, vi s9, vi s10]) rfl ?_
    refine XS.iload Xj.here hx rfl (hb hby d24_175) rfl ?_
    refine XS.iload Xj.here hx rfl (hb hby d24_177) rfl ?_
    refine XS.iload Xj.here hx rfl (hb hby d24_179) rfl ?_
    exact k
   obtain ⟨_, _, ⟨T25, L25, c25, n25⟩, -, X25, ⟨Lc25, hQ25, l25, y25, z25⟩, st25⟩ := Jvm.LawKit.callS Xj hx (y := own_y22) hown (om hZ hw 126 rfl) (om hZ hw 127 rfl) (om hZ hw 42 rfl) (om hZ hw 128 rfl) (by decide) (backOf (W := 0) (own_rm25 l Z a0 hw z0 z1 z2 cs fm u8 hh n0 Zj Oj h2k HB) hZ (own_w hw 128 rfl) (own_w hw 42 rfl) (by decide) (by decide)) (g := (mkF m 181 #[vr src, vi (((sw + (1 : Int32)) + (1 : Int32)) + (1 : Int32)), vi nv, vr dst, vi dw, vi 1, vi z0, vi z1, vi z2, vi s9, vi s10] [(.int z2), (.int z1), (.int z0)])) rfl (by rw [hml]; rfl) (argsL := [(.int z0), (.int z1), (.int z2)]) (rest := []) (lenOf own_pd13 rfl) rfl own_w0 (hb hby d24_181) (fun _ _ => ⟨rfl, ej, (by decide : 0 + 0 ≤ _), (by decide : 0 + 0 ≤ _)⟩)
   dsimp only [Pt.U, Pt.locs, Pt.cells, Pt.slots] at X25 l25 y25 z25 st25 hQ25
   subst l25 y25 z25
   obtain ⟨rfl, N25q, e25⟩ := hQ25
   have N25 := Fr.app Nj N25q
   refine own_st (g' := (mkF m 184 #[vr src, vi (((sw + (1 : Int32)) + (1 : Int32)) + (1 : Int32)), vi nv, vr dst, vi dw, vi 1, vi z0, vi z1, vi z2, vi s9, vi s10] [(.int 0)])) st25 ?_
   refine own_st (T' := T25) (g' := (mkF m 230 #[vr src, vi (((sw + (1 : Int32)) + (1 : Int32)) + (1 : Int32)), vi nv, vr dst, vi dw, vi 1, vi z0, vi z1, vi z2, vi s9, vi s10] [(.int z2), (.int z1), (.int z0)])) (fun t k => ?_) ?_
   ·refine XS.ifYes X25.here hx rfl (pc0 := 184) (pc' := 224) rfl (hb hby d24_184) rfl ((if0 _ _).trans (teq (rfl : (0 : Int32) = (0 : Int32))).1) (by decide) (by decide) ?_
    refine XS.iload X25.here hx rfl (hb hby d24_224) rfl ?_
    refine XS.iload X25.here hx rfl (hb hby d24_226) rfl ?_
    refine XS.iload X25.here hx rfl (hb hby d24_228) rfl ?_
    exact k
   obtain ⟨_, _, ⟨T26, L26, c26, n26⟩, -, X26, ⟨Lc26, hQ26, l26, y26, z26⟩, st26⟩ := Jvm.LawKit.callS X25 hx (y := own_y19) hown (om hZ hw 129 rfl) (om hZ hw 130 rfl) (om hZ hw 42 rfl) (om hZ hw 131 rfl) (by decide) (backOf (W := 0) (own_rm26 l Z a0 hw z0 z1 z2 cs fm u8 hh n0 Zj Oj HB) hZ (own_w hw 131 rfl) (own_w hw 42 rfl) (by decide) (by decide)) (g := (mkF m 230 #[vr src, vi (((sw + (1 : Int32)) + (1 : Int32)) + (1 : Int32)), vi nv, vr dst, vi dw, vi 1, vi z0, vi z1, vi z2, vi s9, vi s10] [(.int z2), (.int z1), (.int z0)])) rfl (by rw [hml]; rfl) (argsL := [(.int z0), (.int z1), (.int z2)]) (rest := []) (lenOf own_pd14 rfl) rfl own_w0 (hb hby d24_230) (fun _ _ => ⟨rfl, e25, (by decide : 0 + 0 ≤ _), (by decide : 0 + 0 ≤ _)⟩)
   dsimp only [Pt.U, Pt.locs, Pt.cells, Pt.slots] at X26 l26 y26 z26 st26 hQ26
   subst l26 y26 z26
   obtain ⟨rfl, N26q, e26⟩ := hQ26
   have N26 := Fr.app N25 N26q
   refine own_st (g' := (mkF m 233 #[vr src, vi (((sw + (1 : Int32)) + (1 : Int32)) + (1 : Int32)), vi nv, vr dst, vi dw, vi 1, vi z0, vi z1, vi z2, vi s9, vi s10] [(.int (own_d3 z0 z1 z2))])) st26 ?_
   refine own_st (T' := T26) (g' := (mkF m 237 #[vr src, vi (((sw + (1 : Int32)) + (1 : Int32)) + (1 : Int32)), vi nv, vr dst, vi dw, vi 1, vi z0, vi z1, vi z2, vi (own_d3 z0 z1 z2), vi s10] [(.int (own_d3 z0 z1 z2))])) (fun t k => ?_) ?_
   ·refine XS.istore X26.here hx rfl (hb hby d24_233) rfl (l' := #[vr src, vi (((sw + (1 : Int32)) + (1 : Int32)) + (1 : Int32)), vi nv, vr dst, vi dw, vi 1, vi z0, vi z1, vi z2, vi (own_d3 z0 z1 z2), vi s10]) rfl ?_
    refine XS.iload X26.here hx rfl (hb hby d24_235) rfl ?_
    exact k
   obtain ⟨_, _, ⟨T27, L27, c27, n27⟩, -, X27, ⟨Lc27, hQ27, l27, y27, z27⟩, st27⟩ := Jvm.LawKit.callS X26 hx (y := own_y24) hown (om hZ hw 133 rfl) (om hZ hw 134 rfl) (om hZ hw 135 rfl) (om hZ hw 136 rfl) (by decide) (backOf (W := 0) (own_rm27 l Z a0 hw (own_d3 z0 z1 z2) cs fm u8 hh n0 Zj Oj h2k.2.2.2.2.2.2.2 HB) hZ (own_w hw 136 rfl) (own_w hw 135 rfl) (by decide) (by decide)) (g := (mkF m 237 #[vr src, vi (((sw + (1 : Int32)) + (1 : Int32)) + (1 : Int32)), vi nv, vr dst, vi dw, vi 1, vi z0, vi z1, vi z2, vi (own_d3 z0 z1 z2), vi s10] [(.int (own_d3 z0 z1 z2))])) rfl (by rw [hml]; rfl) (argsL := [(.int (own_d3 z0 z1 z2))]) (rest := []) (lenOf own_pd15 rfl) rfl own_w0 (hb hby d24_237) (fun _ _ => ⟨rfl, e26, (by decide : 0 + 0 ≤ _), (by decide : 0 + 0 ≤ _)⟩)
   dsimp only [Pt.U, Pt.locs, Pt.cells, Pt.slots] at X27 l27 y27 z27 st27 hQ27
   subst l27 y27 z27
   obtain ⟨rfl, N27q, e27⟩ := hQ27
   have N27 := Fr.app N26 N27q
   refine own_st (g' := (mkF m 240 #[vr src, vi (((sw + (1 : Int32)) + (1 : Int32)) + (1 : Int32)), vi nv, vr dst, vi dw, vi 1, vi z0, vi z1, vi z2, vi (own_d3 z0 z1 z2), vi s10] [(.int 0)])) st27 ?_
   refine own_st (T' := T27) (g' := (mkF m 277 #[vr src, vi (((sw + (1 : Int32)) + (1 : Int32)) + (1 : Int32)), vi nv, vr dst, vi (dw + (1 : Int32)), vi 1, vi z0, vi z1, vi z2, vi (own_d3 z0 z1 z2), vi s10] [(.int (own_d3 z0 z1 z2)), (.int dw), (.ref dst)])) (fun t k => ?_) ?_
   ·refine XS.ifYes X27.here hx rfl (pc0 := 240) (pc' := 269) rfl (hb hby d24_240) rfl ((if0 _ _).trans (teq (rfl : (0 : Int32) = (0 : Int32))).1) (by decide) (by decide) ?_
    refine XS.aloadN X27.here hx rfl (hb hby d24_269) rfl rfl ?_
    refine XS.iload X27.here hx rfl (hb hby d24_270) rfl ?_
    refine XS.iinc X27.here hx rfl (hb hby d24_272) rfl (l' := #[vr src, vi (((sw + (1 : Int32)) + (1 : Int32)) + (1 : Int32)), vi nv, vr dst, vi (dw + (1 : Int32)), vi 1, vi z0, vi z1, vi z2, vi (own_d3 z0 z1 z2), vi s10]) rfl ?_
    refine XS.iload X27.here hx rfl (hb hby d24_275) rfl ?_
    exact k
   obtain ⟨_, _, ⟨T28, L28, c28, n28⟩, -, X28, ⟨Lc28, hQ28, l28, y28, z28⟩, st28⟩ := Jvm.LawKit.callS X27 hx (y := own_y14) hown (om hZ hw 139 rfl) (om hZ hw 118 rfl) (om hZ hw 97 rfl) (om hZ hw 119 rfl) (by decide) (backOf (W := 0) (own_rm23 l Z a0 hw dst kd el zz zn dw (own_d3 z0 z1 z2) dm cs fm u8 hh n0 Zj Oj Vd hzz hel g_d hdw (by omega) hz16 HB) hZ (own_w hw 119 rfl) (own_w hw 97 rfl) (by decide) (by decide)) (g := (mkF m 277 #[vr src, vi (((sw + (1 : Int32)) + (1 : Int32)) + (1 : Int32)), vi nv, vr dst, vi (dw + (1 : Int32)), vi 1, vi z0, vi z1, vi z2, vi (own_d3 z0 z1 z2), vi s10] [(.int (own_d3 z0 z1 z2)), (.int dw), (.ref dst)])) rfl (by rw [hml]; rfl) (argsL := [(.ref dst), (.int dw), (.int (own_d3 z0 z1 z2))]) (rest := []) (lenOf own_pd9 rfl) rfl own_w0 (hb hby d24_277) (fun _ _ => ⟨rfl, e27, (by decide : 0 + 0 ≤ _), (by decide : 0 + 0 ≤ _)⟩)
   dsimp only [Pt.U, Pt.locs, Pt.cells, Pt.slots] at X28 l28 y28 z28 st28 hQ28
   subst l28 y28 z28
   obtain ⟨h28, e28⟩ : ∃ z, T28.heap = z := ⟨_, rfl⟩
   rw [e28] at hQ28
   obtain ⟨rfl, N28q, Kc28, Vc28⟩ := hQ28
   have N28 := Fr.app N27 N28q
   have K28 : Keep h0 h28 [dst] := Kj.trans Kc28 (allS (Or.inl (List.mem_of_getElem? (i := 0) rfl)) all0)
   have Z28 : n0 ≤ h28.size := Nat.le_trans Zj Kc28.1
   have O28 := Oj.keep Kc28 (allS g_d all0)
   refine own_st (g' := (mkF m 280 #[vr src, vi (((sw + (1 : Int32)) + (1 : Int32)) + (1 : Int32)), vi nv, vr dst, vi (dw + (1 : Int32)), vi 1, vi z0, vi z1, vi z2, vi (own_d3 z0 z1 z2), vi s10] [])) st28 ?_
   refine own_st (T' := T28) (g' := (mkF m 623 #[vr src, vi (((sw + (1 : Int32)) + (1 : Int32)) + (1 : Int32)), vi nv, vr dst, vi (dw + (1 : Int32)), vi 1, vi z0, vi z1, vi z2, vi (own_d3 z0 z1 z2), vi s10] [(.int (dw + (1 : Int32)))])) (fun t k => ?_) ?_
   ·refine XS.goto X28.here hx rfl (pc0 := 280) (pc' := 0) rfl (hb hby d24_280) (by decide) (by decide) ?_
    refine XS.iloadN X28.here hx rfl (hb hby d24_0) rfl ?_
    refine XS.iloadN X28.here hx rfl (hb hby d24_1) rfl ?_
    refine XS.icmpYes X28.here hx rfl (pc0 := 2) (pc' := 621) rfl (hb hby d24_2) rfl (flt (fun q => absurd ((own_ltN sp3 hnv).mp q) (by omega))).2.1 (by decide) (by decide) ?_
    refine XS.iload X28.here hx rfl (hb hby d24_621) rfl ?_
    exact k
   exact own_retI X28 hx Bd (hb hby d24_623) e28 (⟨congrArg (fun z => some (Value.int z)) ((own_ofN dp1).trans (congrArg Int32.ofNat hlq)), N28, K28, heq ▸ Vc28⟩) (by decide) (by decide)
 ·have hnb' : sm + 4 = nn := hnb
  have hdh' : dm + 2 ≤ nn := hdh
  rcases hus with ⟨rfl, rfl, rfl⟩ | ⟨s8, s9, rfl, rfl, rfl⟩ | ⟨s8, s9, s10, rfl, rfl, rfl⟩
  ·have sp1 := own_add hsw own_i1 (by omega)
   have sp2 := own_add sp1 own_i1 (by omega)
   have sp3 := own_add sp2 own_i1 (by omega)
   have sp4 := own_add sp3 own_i1 (by omega)
   have dp1 := own_add hdw own_i1 (by omega)
   have dp2 := own_add dp1 own_i1 (by omega)
   have sl0 : sw < nv := (own_ltN hsw hnv).mpr (by omega)
   have sl1 : (sw + (1 : Int32)) < nv := (own_ltN sp1 hnv).mpr (by omega)
   have sl2 : ((sw + (1 : Int32)) + (1 : Int32)) < nv := (own_ltN sp2 hnv).mpr (by omega)
   have sl3 : (((sw + (1 : Int32)) + (1 : Int32)) + (1 : Int32)) < nv := (own_ltN sp3 hnv).mpr (by omega)
   refine own_st (T' := Tj) (g' := (mkF m 10 #[vr src, vi (sw + (1 : Int32)), vi nv, vr dst, vi dw, vi 1, vi a6, vi a7, .unset, .unset, .unset] [(.int sw), (.ref src)])) (fun t k => ?_) ?_
   ·refine XS.iloadN Xj.here hx rfl (hb hby d24_0) rfl ?_
    refine XS.iloadN Xj.here hx rfl (hb hby d24_1) rfl ?_
    refine XS.icmpNo Xj.here hx rfl (hb hby d24_2) rfl (tlt sl0).2.1 ?_
    refine XS.aloadN Xj.here hx rfl (hb hby d24_5) rfl rfl ?_
    refine XS.iloadN Xj.here hx rfl (hb hby d24_6) rfl ?_
    refine XS.iinc Xj.here hx rfl (hb hby d24_7) rfl (l' := #[vr src, vi (sw + (1 : Int32)), vi nv, vr dst, vi dw, vi 1, vi a6, vi a7, .unset, .unset, .unset]) rfl ?_
    exact k
   obtain ⟨cl29, Ar29, q29, S29, M29, H29, G29⟩ := id Vs
   refine own_st (T' := Tj) (g' := (mkF m 370 #[vr src, vi ((sw + (1 : Int32)) + (1 : Int32)), vi nv, vr dst, vi dw, vi 1, vi z0, vi a7, .unset, .unset, .unset] [(.int (sw + (1 : Int32))), (.ref src)])) (fun t k => ?_) ?_
   ·refine Xj.baloadBytes hx (j := sw) (v := (.int z0)) (by rw [ej]; exact Ar29.1) (State.isArrayOf_alike hZ.alike Ar29.2.1) Ar29.2.2 (inb_of S29 ⟨own_ge0 hsw, sl0⟩) (Has.at H29 (inb_of S29 ⟨own_ge0 hsw, sl0⟩) ((own_lget sl (sw).toNatClampNeg).trans (congrArg Value.int (own_rdL hsw (hb2 0 (by simp)))))) (g := (mkF m 10 #[vr src, vi (sw + (1 : Int32)), vi nv, vr dst, vi dw, vi 1, vi a6, vi a7, .unset, .unset, .unset] [(.int sw), (.ref src)])) rfl rfl (hb hby d24_10) _ ?_
    refine XS.istore Xj.here hx rfl (hb hby d24_11) rfl (l' := #[vr src, vi (sw + (1 : Int32)), vi nv, vr dst, vi dw, vi 1, vi z0, vi a7, .unset, .unset, .unset]) rfl ?_
    refine XS.iload Xj.here hx rfl (hb hby d24_13) rfl ?_
    refine XS.ifYes Xj.here hx rfl (pc0 := 15) (pc' := 33) rfl (hb hby d24_15) rfl ((if0 _ _).trans (tlt h2k.1).1) (by decide) (by decide) ?_
    refine XS.iload Xj.here hx rfl (hb hby d24_33) rfl ?_
    refine XS.iconst Xj.here hx rfl (hb hby d24_35) ?_
    refine XS.ishr Xj.here hx rfl (hb hby d24_36) rfl ?_
    refine XS.bipush Xj.here hx rfl (hb hby d24_37) ?_
    refine XS.icmpYes Xj.here hx rfl (pc0 := 39) (pc' := 143) rfl (hb hby d24_39) rfl (feq h2k.2.2.1).2 (by decide) (by decide) ?_
    refine XS.iload Xj.here hx rfl (hb hby d24_143) rfl ?_
    refine XS.iconst Xj.here hx rfl (hb hby d24_145) ?_
    refine XS.ishr Xj.here hx rfl (hb hby d24_146) rfl ?_
    refine XS.bipush Xj.here hx rfl (hb hby d24_147) ?_
    refine XS.icmpYes Xj.here hx rfl (pc0 := 149) (pc' := 349) rfl (hb hby d24_149) rfl (feq h2k.2.2.2.1).2 (by decide) (by decide) ?_
    refine XS.iload Xj.here hx rfl (hb hby d24_349) rfl ?_
    refine XS.iconst Xj.here hx rfl (hb hby d24_351) ?_
    refine XS.ishr Xj.here hx rfl (hb hby d24_352) rfl ?_
    refine XS.bipush Xj.here hx rfl (hb hby d24_353) ?_
    refine XS.icmpNo Xj.here hx rfl (hb hby d24_355) rfl (teq h2k.2.2.2.2.1).2 ?_
    refine XS.iloadN Xj.here hx rfl (hb hby d24_358) rfl ?_
    refine XS.iconst Xj.here hx rfl (hb hby d24_359) ?_
    refine XS.iadd Xj.here hx rfl (hb hby d24_360) rfl ?_
    refine XS.iloadN Xj.here hx rfl (hb hby d24_361) rfl ?_
    refine XS.icmpNo Xj.here hx rfl (hb hby d24_362) rfl (tlt ((own_ltN (own_add sp1 (show (2 : Int32).toInt = ((2 : Nat) : Int) from rfl) (by omega)) hnv).mpr (by omega))).2.1 ?_
    refine XS.aloadN Xj.here hx rfl (hb hby d24_365) rfl rfl ?_
    refine XS.iloadN Xj.here hx rfl (hb hby d24_366) rfl ?_
    refine XS.iinc Xj.here hx rfl (hb hby d24_367) rfl (l' := #[vr src, vi ((sw + (1 : Int32)) + (1 : Int32)), vi nv, vr dst, vi dw, vi 1, vi z0, vi a7, .unset, .unset, .unset]) rfl ?_
    exact k
   obtain ⟨cl30, Ar30, q30, S30, M30, H30, G30⟩ := id Vs
   refine own_st (T' := Tj) (g' := (mkF m 378 #[vr src, vi (((sw + (1 : Int32)) + (1 : Int32)) + (1 : Int32)), vi nv, vr dst, vi dw, vi 1, vi z0, vi z1, .unset, .unset, .unset] [(.int ((sw + (1 : Int32)) + (1 : Int32))), (.ref src)])) (fun t k => ?_) ?_
   ·refine Xj.baloadBytes hx (j := (sw + (1 : Int32))) (v := (.int z1)) (by rw [ej]; exact Ar30.1) (State.isArrayOf_alike hZ.alike Ar30.2.1) Ar30.2.2 (inb_of S30 ⟨own_ge0 sp1, sl1⟩) (Has.at H30 (inb_of S30 ⟨own_ge0 sp1, sl1⟩) ((own_lget sl ((sw + (1 : Int32))).toNatClampNeg).trans (congrArg Value.int (own_rdL sp1 (hb2 1 (by simp)))))) (g := (mkF m 370 #[vr src, vi ((sw + (1 : Int32)) + (1 : Int32)), vi nv, vr dst, vi dw, vi 1, vi z0, vi a7, .unset, .unset, .unset] [(.int (sw + (1 : Int32))), (.ref src)])) rfl rfl (hb hby d24_370) _ ?_
    refine XS.istore Xj.here hx rfl (hb hby d24_371) rfl (l' := #[vr src, vi ((sw + (1 : Int32)) + (1 : Int32)), vi nv, vr dst, vi dw, vi 1, vi z0, vi z1, .unset, .unset, .unset]) rfl ?_
    refine XS.aloadN Xj.here hx rfl (hb hby d24_373) rfl rfl ?_
    refine XS.iloadN Xj.here hx rfl (hb hby d24_374) rfl ?_
    refine XS.iinc Xj.here hx rfl (hb hby d24_375) rfl (l' := #[vr src, vi (((sw + (1 : Int32)) + (1 : Int32)) + (1 : Int32)), vi nv, vr dst, vi dw, vi 1, vi z0, vi z1, .unset, .unset, .unset]) rfl ?_
    exact k
   obtain ⟨cl31, Ar31, q31, S31, M31, H31, G31⟩ := id Vs
   refine own_st (T' := Tj) (g' := (mkF m 386 #[vr src, .val (.int ((((sw + (1 : Int32)) + (1 : Int32)) + (1 : Int32)) + (1 : Int32))), vi nv, vr dst, vi dw, vi 1, vi z0, vi z1, vi z2, .unset, .unset] [(.int (((sw + (1 : Int32)) + (1 : Int32)) + (1 : Int32))), (.ref src)])) (fun t k => ?_) ?_
   ·refine Xj.baloadBytes hx (j := ((sw + (1 : Int32)) + (1 : Int32))) (v := (.int z2)) (by rw [ej]; exact Ar31.1) (State.isArrayOf_alike hZ.alike Ar31.2.1) Ar31.2.2 (inb_of S31 ⟨own_ge0 sp2, sl2⟩) (Has.at H31 (inb_of S31 ⟨own_ge0 sp2, sl2⟩) ((own_lget sl (((sw + (1 : Int32)) + (1 : Int32))).toNatClampNeg).trans (congrArg Value.int (own_rdL sp2 (hb2 2 (by simp)))))) (g := (mkF m 378 #[vr src, vi (((sw + (1 : Int32)) + (1 : Int32)) + (1 : Int32)), vi nv, vr dst, vi dw, vi 1, vi z0, vi z1, .unset, .unset, .unset] [(.int ((sw + (1 : Int32)) + (1 : Int32))), (.ref src)])) rfl rfl (hb hby d24_378) _ ?_
    refine XS.istore Xj.here hx rfl (hb hby d24_379) rfl (l' := #[vr src, vi (((sw + (1 : Int32)) + (1 : Int32)) + (1 : Int32)), vi nv, vr dst, vi dw, vi 1, vi z0, vi z1, vi z2, .unset, .unset]) rfl ?_
    refine XS.aloadN Xj.here hx rfl (hb hby d24_381) rfl rfl ?_
    refine XS.iloadN Xj.here hx rfl (hb hby d24_382) rfl ?_
    refine XS.iinc Xj.here hx rfl (hb hby d24_383) rfl (l' := #[vr src, .val (.int ((((sw + (1 : Int32)) + (1 : Int32)) + (1 : Int32)) + (1 : Int32))), vi nv, vr dst, vi dw, vi 1, vi z0, vi z1, vi z2, .unset, .unset]) rfl ?_
    exact k
   obtain ⟨cl32, Ar32, q32, S32, M32, H32, G32⟩ := id Vs
   refine own_st (T' := Tj) (g' := (mkF m 397 #[vr src, .val (.int ((((sw + (1 : Int32)) + (1 : Int32)) + (1 : Int32)) + (1 : Int32))), vi nv, vr dst, vi dw, vi 1, vi z0, vi z1, vi z2, vi z3, .unset] [(.int z3), (.int z2), (.int z1), (.int z0)])) (fun t k => ?_) ?_
   ·refine Xj.baloadBytes hx (j := (((sw + (1 : Int32)) + (1 : Int32)) + (1 : Int32))) (v := (.int z3)) (by rw [ej]; exact Ar32.1) (State.isArrayOf_alike hZ.alike Ar32.2.1) Ar32.2.2 (inb_of S32 ⟨own_ge0 sp3, sl3⟩) (Has.at H32 (inb_of S32 ⟨own_ge0 sp3, sl3⟩) ((own_lget sl ((((sw + (1 : Int32)) + (1 : Int32)) + (1 : Int32))).toNatClampNeg).trans (congrArg Value.int (own_rdL sp3 (hb2 3 (by simp)))))) (g := (mkF m 386 #[vr src, .val (.int ((((sw + (1 : Int32)) + (1 : Int32)) + (1 : Int32)) + (1 : Int32))), vi nv, vr dst, vi dw, vi 1, vi z0, vi z1, vi z2, .unset, .unset] [(.int (((sw + (1 : Int32)) + (1 : Int32)) + (1 : Int32))), (.ref src)])) rfl rfl (hb hby d24_386) _ ?_
    refine XS.istore Xj.here hx rfl (hb hby d24_387) rfl (l' := #[vr src, .val (.int ((((sw + (1 : Int32)) + (1 : Int32)) + (1 : Int32)) + (1 : Int32))), vi nv, vr dst, vi dw, vi 1, vi z0, vi z1, vi z2, vi z3, .unset]) rfl ?_
    refine XS.iload Xj.here hx rfl (hb hby d24_389) rfl ?_
    refine XS.iload Xj.here hx rfl (hb hby d24_391) rfl ?_
    refine XS.iload Xj.here hx rfl (hb hby d24_393) rfl ?_
    refine XS.iload Xj.here hx rfl (hb hby d24_395) rfl ?_
    exact k
   obtain ⟨_, _, ⟨T33, L33, c33, n33⟩, -, X33, ⟨Lc33, hQ33, l33, y33, z33⟩, st33⟩ := Jvm.LawKit.callS Xj hx (y := own_y20) hown (om hZ hw 188 rfl) (om hZ hw 189 rfl) (om hZ hw 42 rfl) (om hZ hw 190 rfl) (by decide) (backOf (W := 0) (own_rm38 l Z a0 hw z0 z1 z2 z3 cs fm u8 hh n0 Zj Oj HB) hZ (own_w hw 190 rfl) (own_w hw 42 rfl) (by decide) (by decide)) (g := (mkF m 397 #[vr src, .val (.int ((((sw + (1 : Int32)) + (1 : Int32)) + (1 : Int32)) + (1 : Int32))), vi nv, vr dst, vi dw, vi 1, vi z0, vi z1, vi z2, vi z3, .unset] [(.int z3), (.int z2), (.int z1), (.int z0)])) rfl (by rw [hml]; rfl) (argsL := [(.int z0), (.int z1), (.int z2), (.int z3)]) (rest := []) (lenOf own_pd16 rfl) rfl own_w0 (hb hby d24_397) (fun _ _ => ⟨rfl, ej, (by decide : 0 + 0 ≤ _), (by decide : 0 + 0 ≤ _)⟩)
   dsimp only [Pt.U, Pt.locs, Pt.cells, Pt.slots] at X33 l33 y33 z33 st33 hQ33
   subst l33 y33 z33
   obtain ⟨rfl, N33q, e33⟩ := hQ33
   have N33 := Fr.app Nj N33q
   refine own_st (g' := (mkF m 400 #[vr src, .val (.int ((((sw + (1 : Int32)) + (1 : Int32)) + (1 : Int32)) + (1 : Int32))), vi nv, vr dst, vi dw, vi 1, vi z0, vi z1, vi z2, vi z3, .unset] [(.int (own_d4 z0 z1 z2 z3))])) st33 ?_
   refine own_st (T' := T33) (g' := (mkF m 408 #[vr src, .val (.int ((((sw + (1 : Int32)) + (1 : Int32)) + (1 : Int32)) + (1 : Int32))), vi nv, vr dst, vi dw, vi 1, vi z0, vi z1, vi z2, vi z3, vi (own_d4 z0 z1 z2 z3)] [(.int z3), (.int z2), (.int z1)])) (fun t k => ?_) ?_
   ·refine XS.istore X33.here hx rfl (hb hby d24_400) rfl (l' := #[vr src, .val (.int ((((sw + (1 : Int32)) + (1 : Int32)) + (1 : Int32)) + (1 : Int32))), vi nv, vr dst, vi dw, vi 1, vi z0, vi z1, vi z2, vi z3, vi (own_d4 z0 z1 z2 z3)]) rfl ?_
    refine XS.iload X33.here hx rfl (hb hby d24_402) rfl ?_
    refine XS.iload X33.here hx rfl (hb hby d24_404) rfl ?_
    refine XS.iload X33.here hx rfl (hb hby d24_406) rfl ?_
    exact k
   obtain ⟨_, _, ⟨T34, L34, c34, n34⟩, -, X34, ⟨Lc34, hQ34, l34, y34, z34⟩, st34⟩ := Jvm.LawKit.callS X33 hx (y := own_y23) hown (om hZ hw 192 rfl) (om hZ hw 193 rfl) (om hZ hw 42 rfl) (om hZ hw 194 rfl) (by decide) (backOf (W := 0) (own_rm39 l Z a0 hw z1 z2 z3 cs fm u8 hh n0 Zj Oj h2k.2.2.2.2.2.1 h2k.2.2.2.2.2.2.1 h2k.2.2.2.2.2.2.2.1 HB) hZ (own_w hw 194 rfl) (own_w hw 42 rfl) (by decide) (by decide)) (g := (mkF m 408 #[vr src, .val (.int ((((sw + (1 : Int32)) + (1 : Int32)) + (1 : Int32)) + (1 : Int32))), vi nv, vr dst, vi dw, vi 1, vi z0, vi z1, vi z2, vi z3, vi (own_d4 z0 z1 z2 z3)] [(.int z3), (.int z2), (.int z1)])) rfl (by rw [hml]; rfl) (argsL := [(.int z1), (.int z2), (.int z3)]) (rest := []) (lenOf own_pd13 rfl) rfl own_w0 (hb hby d24_408) (fun _ _ => ⟨rfl, e33, (by decide : 0 + 0 ≤ _), (by decide : 0 + 0 ≤ _)⟩)
   dsimp only [Pt.U, Pt.locs, Pt.cells, Pt.slots] at X34 l34 y34 z34 st34 hQ34
   subst l34 y34 z34
   obtain ⟨rfl, N34q, e34⟩ := hQ34
   have N34 := Fr.app N33 N34q
   refine own_st (g' := (mkF m 411 #[vr src, .val (.int ((((sw + (1 : Int32)) + (1 : Int32)) + (1 : Int32)) + (1 : Int32))), vi nv, vr dst, vi dw, vi 1, vi z0, vi z1, vi z2, vi z3, vi (own_d4 z0 z1 z2 z3)] [(.int 0)])) st34 ?_
   refine own_st (T' := T34) (g' := (mkF m 416 #[vr src, .val (.int ((((sw + (1 : Int32)) + (1 : Int32)) + (1 : Int32)) + (1 : Int32))), vi nv, vr dst, vi dw, vi 1, vi z0, vi z1, vi z2, vi z3, vi (own_d4 z0 z1 z2 z3)] [(.int (own_d4 z0 z1 z2 z3))])) (fun t k => ?_) ?_
   ·refine XS.ifNo X34.here hx rfl (hb hby d24_411) rfl ((if0 _ _).trans (teq (rfl : (0 : Int32) = (0 : Int32))).2) ?_
    refine XS.iload X34.here hx rfl (hb hby d24_414) rfl ?_
    exact k
   obtain ⟨_, _, ⟨T35, L35, c35, n35⟩, -, X35, ⟨Lc35, hQ35, l35, y35, z35⟩, st35⟩ := Jvm.LawKit.callS X34 hx (y := own_y25) hown (om hZ hw 195 rfl) (om hZ hw 196 rfl) (om hZ hw 135 rfl) (om hZ hw 197 rfl) (by decide) (backOf (W := 0) (own_rm40 l Z a0 hw (own_d4 z0 z1 z2 z3) cs fm u8 hh n0 Zj Oj h2k.2.2.2.2.2.2.2.2.1 h2k.2.2.2.2.2.2.2.2.2 HB) hZ (own_w hw 197 rfl) (own_w hw 135 rfl) (by decide) (by decide)) (g := (mkF m 416 #[vr src, .val (.int ((((sw + (1 : Int32)) + (1 : Int32)) + (1 : Int32)) + (1 : Int32))), vi nv, vr dst, vi dw, vi 1, vi z0, vi z1, vi z2, vi z3, vi (own_d4 z0 z1 z2 z3)] [(.int (own_d4 z0 z1 z2 z3))])) rfl (by rw [hml]; rfl) (argsL := [(.int (own_d4 z0 z1 z2 z3))]) (rest := []) (lenOf own_pd11 rfl) rfl own_w0 (hb hby d24_416) (fun _ _ => ⟨rfl, e34, (by decide : 0 + 0 ≤ _), (by decide : 0 + 0 ≤ _)⟩)
   dsimp only [Pt.U, Pt.locs, Pt.cells, Pt.slots] at X35 l35 y35 z35 st35 hQ35
   subst l35 y35 z35
   obtain ⟨rfl, N35q, e35⟩ := hQ35
   have N35 := Fr.app N34 N35q
   refine own_st (g' := (mkF m 419 #[vr src, .val (.int ((((sw + (1 : Int32)) + (1 : Int32)) + (1 : Int32)) + (1 : Int32))), vi nv, vr dst, vi dw, vi 1, vi z0, vi z1, vi z2, vi z3, vi (own_d4 z0 z1 z2 z3)] [(.int 1)])) st35 ?_
   refine own_st (T' := T35) (g' := (mkF m 467 #[vr src, .val (.int ((((sw + (1 : Int32)) + (1 : Int32)) + (1 : Int32)) + (1 : Int32))), vi nv, vr dst, vi (dw + (1 : Int32)), vi 1, vi z0, vi z1, vi z2, vi z3, vi (own_d4 z0 z1 z2 z3)] [(.int (own_d4 z0 z1 z2 z3)), (.int dw), (.ref dst)])) (fun t k => ?_) ?_
   ·refine XS.ifYes X35.here hx rfl (pc0 := 419) (pc' := 459) rfl (hb hby d24_419) rfl ((if0 _ _).trans (feq (by decide : ¬ ((1 : Int32) = (0 : Int32)))).2) (by decide) (by decide) ?_
    refine XS.aloadN X35.here hx rfl (hb hby d24_459) rfl rfl ?_
    refine XS.iload X35.here hx rfl (hb hby d24_460) rfl ?_
    refine XS.iinc X35.here hx rfl (hb hby d24_462) rfl (l' := #[vr src, .val (.int ((((sw + (1 : Int32)) + (1 : Int32)) + (1 : Int32)) + (1 : Int32))), vi nv, vr dst, vi (dw + (1 : Int32)), vi 1, vi z0, vi z1, vi z2, vi z3, vi (own_d4 z0 z1 z2 z3)]) rfl ?_
    refine XS.iload X35.here hx rfl (hb hby d24_465) rfl ?_
    exact k
   obtain ⟨_, _, ⟨T36, L36, c36, n36⟩, -, X36, ⟨Lc36, hQ36, l36, y36, z36⟩, st36⟩ := Jvm.LawKit.callS X35 hx (y := own_y26) hown (om hZ hw 200 rfl) (om hZ hw 201 rfl) (om hZ hw 135 rfl) (om hZ hw 202 rfl) (by decide) (backOf (W := 2) (own_rm41 l Z a0 hw (own_d4 z0 z1 z2 z3) cs fm u8 hh n0 Zj Oj HB) hZ (own_w hw 202 rfl) (own_w hw 135 rfl) (by decide) (by decide)) (g := (mkF m 467 #[vr src, .val (.int ((((sw + (1 : Int32)) + (1 : Int32)) + (1 : Int32)) + (1 : Int32))), vi nv, vr dst, vi (dw + (1 : Int32)), vi 1, vi z0, vi z1, vi z2, vi z3, vi (own_d4 z0 z1 z2 z3)] [(.int (own_d4 z0 z1 z2 z3)), (.int dw), (.ref dst)])) rfl (by rw [hml]; rfl) (argsL := [(.int (own_d4 z0 z1 z2 z3))]) (rest := [(.int dw), (.ref dst)]) (lenOf own_pd17 rfl) rfl own_w0 (hb hby d24_467) (fun _ _ => ⟨rfl, e35, (by decide : 0 + 0 ≤ _), (by decide : 0 + 0 ≤ _)⟩)
   dsimp only [Pt.U, Pt.locs, Pt.cells, Pt.slots] at X36 l36 y36 z36 st36 hQ36
   subst l36 y36 z36
   obtain ⟨rfl, N36q, e36⟩ := hQ36
   have N36 := Fr.app N35 N36q
   refine own_st (g' := (mkF m 470 #[vr src, .val (.int ((((sw + (1 : Int32)) + (1 : Int32)) + (1 : Int32)) + (1 : Int32))), vi nv, vr dst, vi (dw + (1 : Int32)), vi 1, vi z0, vi z1, vi z2, vi z3, vi (own_d4 z0 z1 z2 z3)] [(.int (own_hs (own_d4 z0 z1 z2 z3))), (.int dw), (.ref dst)])) st36 ?_
   obtain ⟨_, _, ⟨T37, L37, c37, n37⟩, -, X37, ⟨Lc37, hQ37, l37, y37, z37⟩, st37⟩ := Jvm.LawKit.callS X36 hx (y := own_y14) hown (om hZ hw 139 rfl) (om hZ hw 118 rfl) (om hZ hw 97 rfl) (om hZ hw 119 rfl) (by decide) (backOf (W := 0) (own_rm23 l Z a0 hw dst kd el zz zn dw (own_hs (own_d4 z0 z1 z2 z3)) dm cs fm u8 hh n0 Zj Oj Vd hzz hel g_d hdw (by omega) hz16 HB) hZ (own_w hw 119 rfl) (own_w hw 97 rfl) (by decide) (by decide)) (g := (mkF m 470 #[vr src, .val (.int ((((sw + (1 : Int32)) + (1 : Int32)) + (1 : Int32)) + (1 : Int32))), vi nv, vr dst, vi (dw + (1 : Int32)), vi 1, vi z0, vi z1, vi z2, vi z3, vi (own_d4 z0 z1 z2 z3)] [(.int (own_hs (own_d4 z0 z1 z2 z3))), (.int dw), (.ref dst)])) rfl (by rw [hml]; rfl) (argsL := [(.ref dst), (.int dw), (.int (own_hs (own_d4 z0 z1 z2 z3)))]) (rest := []) (lenOf own_pd9 rfl) rfl own_w0 (hb hby d24_470) (fun _ _ => ⟨rfl, e36, (by decide : 0 + 0 ≤ _), (by decide : 0 + 0 ≤ _)⟩)
   dsimp only [Pt.U, Pt.locs, Pt.cells, Pt.slots] at X37 l37 y37 z37 st37 hQ37
   subst l37 y37 z37
   obtain ⟨h37, e37⟩ : ∃ z, T37.heap = z := ⟨_, rfl⟩
   rw [e37] at hQ37
   obtain ⟨rfl, N37q, Kc37, Vc37⟩ := hQ37
   have N37 := Fr.app N36 N37q
   have K37 : Keep h0 h37 [dst] := Kj.trans Kc37 (allS (Or.inl (List.mem_of_getElem? (i := 0) rfl)) all0)
   have Z37 : n0 ≤ h37.size := Nat.le_trans Zj Kc37.1
   have O37 := Oj.keep Kc37 (allS g_d all0)
   refine own_st (g' := (mkF m 473 #[vr src, .val (.int ((((sw + (1 : Int32)) + (1 : Int32)) + (1 : Int32)) + (1 : Int32))), vi nv, vr dst, vi (dw + (1 : Int32)), vi 1, vi z0, vi z1, vi z2, vi z3, vi (own_d4 z0 z1 z2 z3)] [])) st37 ?_
   refine own_st (T' := T37) (g' := (mkF m 481 #[vr src, .val (.int ((((sw + (1 : Int32)) + (1 : Int32)) + (1 : Int32)) + (1 : Int32))), vi nv, vr dst, vi ((dw + (1 : Int32)) + (1 : Int32)), vi 1, vi z0, vi z1, vi z2, vi z3, vi (own_d4 z0 z1 z2 z3)] [(.int (own_d4 z0 z1 z2 z3)), (.int (dw + (1 : Int32))), (.ref dst)])) (fun t k => ?_) ?_
   ·refine XS.aloadN X37.here hx rfl (hb hby d24_473) rfl rfl ?_
    refine XS.iload X37.here hx rfl (hb hby d24_474) rfl ?_
    refine XS.iinc X37.here hx rfl (hb hby d24_476) rfl (l' := #[vr src, .val (.int ((((sw + (1 : Int32)) + (1 : Int32)) + (1 : Int32)) + (1 : Int32))), vi nv, vr dst, vi ((dw + (1 : Int32)) + (1 : Int32)), vi 1, vi z0, vi z1, vi z2, vi z3, vi (own_d4 z0 z1 z2 z3)]) rfl ?_
    refine XS.iload X37.here hx rfl (hb hby d24_479) rfl ?_
    exact k
   obtain ⟨_, _, ⟨T38, L38, c38, n38⟩, -, X38, ⟨Lc38, hQ38, l38, y38, z38⟩, st38⟩ := Jvm.LawKit.callS X37 hx (y := own_y27) hown (om hZ hw 204 rfl) (om hZ hw 205 rfl) (om hZ hw 135 rfl) (om hZ hw 206 rfl) (by decide) (backOf (W := 2) (own_rm42 l Z a0 hw (own_d4 z0 z1 z2 z3) cs fm u8 h37 n0 Z37 O37 HB) hZ (own_w hw 206 rfl) (own_w hw 135 rfl) (by decide) (by decide)) (g := (mkF m 481 #[vr src, .val (.int ((((sw + (1 : Int32)) + (1 : Int32)) + (1 : Int32)) + (1 : Int32))), vi nv, vr dst, vi ((dw + (1 : Int32)) + (1 : Int32)), vi 1, vi z0, vi z1, vi z2, vi z3, vi (own_d4 z0 z1 z2 z3)] [(.int (own_d4 z0 z1 z2 z3)), (.int (dw + (1 : Int32))), (.ref dst)])) rfl (by rw [hml]; rfl) (argsL := [(.int (own_d4 z0 z1 z2 z3))]) (rest := [(.int (dw + (1 : Int32))), (.ref dst)]) (lenOf own_pd17 rfl) rfl own_w0 (hb hby d24_481) (fun _ _ => ⟨rfl, e37, (by decide : 0 + 0 ≤ _), (by decide : 0 + 0 ≤ _)⟩)
   dsimp only [Pt.U, Pt.locs, Pt.cells, Pt.slots] at X38 l38 y38 z38 st38 hQ38
   subst l38 y38 z38
   obtain ⟨rfl, N38q, e38⟩ := hQ38
   have N38 := Fr.app N37 N38q
   refine own_st (g' := (mkF m 484 #[vr src, .val (.int ((((sw + (1 : Int32)) + (1 : Int32)) + (1 : Int32)) + (1 : Int32))), vi nv, vr dst, vi ((dw + (1 : Int32)) + (1 : Int32)), vi 1, vi z0, vi z1, vi z2, vi z3, vi (own_d4 z0 z1 z2 z3)] [(.int (own_ls (own_d4 z0 z1 z2 z3))), (.int (dw + (1 : Int32))), (.ref dst)])) st38 ?_
   obtain ⟨_, _, ⟨T39, L39, c39, n39⟩, -, X39, ⟨Lc39, hQ39, l39, y39, z39⟩, st39⟩ := Jvm.LawKit.callS X38 hx (y := own_y14) hown (om hZ hw 139 rfl) (om hZ hw 118 rfl) (om hZ hw 97 rfl) (om hZ hw 119 rfl) (by decide) (backOf (W := 0) (own_rm23 l Z a0 hw dst kd (own_wrl el (2 * dm) [own_LO (own_hs (own_d4 z0 z1 z2 z3)), own_HI (own_hs (own_d4 z0 z1 z2 z3))]) zz zn (dw + (1 : Int32)) (own_ls (own_d4 z0 z1 z2 z3)) (dm + 1) cs fm u8 h37 n0 Z37 O37 Vc37 hzz (by rw [own_wrl_len]; exact hel) g_d dp1 (by omega) hz16 HB) hZ (own_w hw 119 rfl) (own_w hw 97 rfl) (by decide) (by decide)) (g := (mkF m 484 #[vr src, .val (.int ((((sw + (1 : Int32)) + (1 : Int32)) + (1 : Int32)) + (1 : Int32))), vi nv, vr dst, vi ((dw + (1 : Int32)) + (1 : Int32)), vi 1, vi z0, vi z1, vi z2, vi z3, vi (own_d4 z0 z1 z2 z3)] [(.int (own_ls (own_d4 z0 z1 z2 z3))), (.int (dw + (1 : Int32))), (.ref dst)])) rfl (by rw [hml]; rfl) (argsL := [(.ref dst), (.int (dw + (1 : Int32))), (.int (own_ls (own_d4 z0 z1 z2 z3)))]) (rest := []) (lenOf own_pd9 rfl) rfl own_w0 (hb hby d24_484) (fun _ _ => ⟨rfl, e38, (by decide : 0 + 0 ≤ _), (by decide : 0 + 0 ≤ _)⟩)
   dsimp only [Pt.U, Pt.locs, Pt.cells, Pt.slots] at X39 l39 y39 z39 st39 hQ39
   subst l39 y39 z39
   obtain ⟨h39, e39⟩ : ∃ z, T39.heap = z := ⟨_, rfl⟩
   rw [e39] at hQ39
   obtain ⟨rfl, N39q, Kc39, Vc39⟩ := hQ39
   have N39 := Fr.app N38 N39q
   have K39 : Keep h0 h39 [dst] := K37.trans Kc39 (allS (Or.inl (List.mem_of_getElem? (i := 0) rfl)) all0)
   have Z39 : n0 ≤ h39.size := Nat.le_trans Z37 Kc39.1
   have O39 := O37.keep Kc39 (allS g_d all0)
   refine own_st (g' := (mkF m 487 #[vr src, .val (.int ((((sw + (1 : Int32)) + (1 : Int32)) + (1 : Int32)) + (1 : Int32))), vi nv, vr dst, vi ((dw + (1 : Int32)) + (1 : Int32)), vi 1, vi z0, vi z1, vi z2, vi z3, vi (own_d4 z0 z1 z2 z3)] [])) st39 ?_
   refine own_st (T' := T39) (g' := (mkF m 623 #[vr src, .val (.int ((((sw + (1 : Int32)) + (1 : Int32)) + (1 : Int32)) + (1 : Int32))), vi nv, vr dst, vi ((dw + (1 : Int32)) + (1 : Int32)), vi 1, vi z0, vi z1, vi z2, vi z3, vi (own_d4 z0 z1 z2 z3)] [(.int ((dw + (1 : Int32)) + (1 : Int32)))])) (fun t k => ?_) ?_
   ·refine XS.goto X39.here hx rfl (pc0 := 487) (pc' := 0) rfl (hb hby d24_487) (by decide) (by decide) ?_
    refine XS.iloadN X39.here hx rfl (hb hby d24_0) rfl ?_
    refine XS.iloadN X39.here hx rfl (hb hby d24_1) rfl ?_
    refine XS.icmpYes X39.here hx rfl (pc0 := 2) (pc' := 621) rfl (hb hby d24_2) rfl (flt (fun q => absurd ((own_ltN sp4 hnv).mp q) (by omega))).2.1 (by decide) (by decide) ?_
    refine XS.iload X39.here hx rfl (hb hby d24_621) rfl ?_
    exact k
   exact own_retI X39 hx Bd (hb hby d24_623) e39 (⟨congrArg (fun z => some (Value.int z)) ((own_ofN dp2).trans (congrArg Int32.ofNat hlq)), N39, K39, heq ▸ (own_wf Vc39)⟩) (by decide) (by decide)
  ·have sp1 := own_add hsw own_i1 (by omega)
   have sp2 := own_add sp1 own_i1 (by omega)
   have sp3 := own_add sp2 own_i1 (by omega)
   have sp4 := own_add sp3 own_i1 (by omega)
   have dp1 := own_add hdw own_i1 (by omega)
   have dp2 := own_add dp1 own_i1 (by omega)
   have sl0 : sw < nv := (own_ltN hsw hnv).mpr (by omega)
   have sl1 : (sw + (1 : Int32)) < nv := (own_ltN sp1 hnv).mpr (by omega)
   have sl2 : ((sw + (1 : Int32)) + (1 : Int32)) < nv := (own_ltN sp2 hnv).mpr (by omega)
   have sl3 : (((sw + (1 : Int32)) + (1 : Int32)) + (1 : Int32)) < nv := (own_ltN sp3 hnv).mpr (by omega)
   refine own_st (T' := Tj) (g' := (mkF m 10 #[vr src, vi (sw + (1 : Int32)), vi nv, vr dst, vi dw, vi 1, vi a6, vi a7, vi s8, vi s9, .unset] [(.int sw), (.ref src)])) (fun t k => ?_) ?_
   ·refine XS.iloadN Xj.here hx rfl (hb hby d24_0) rfl ?_
    refine XS.iloadN Xj.here hx rfl (hb hby d24_1) rfl ?_
    refine XS.icmpNo Xj.here hx rfl (hb hby d24_2) rfl (tlt sl0).2.1 ?_
    refine XS.aloadN Xj.here hx rfl (hb hby d24_5) rfl rfl ?_
    refine XS.iloadN Xj.here hx rfl (hb hby d24_6) rfl ?_
    refine XS.iinc Xj.here hx rfl (hb hby d24_7) rfl (l' := #[vr src, vi (sw + (1 : Int32)), vi nv, vr dst, vi dw, vi 1, vi a6, vi a7, vi s8, vi s9, .unset]) rfl ?_
    exact k
   obtain ⟨cl40, Ar40, q40, S40, M40, H40, G40⟩ := id Vs
   refine own_st (T' := Tj) (g' := (mkF m 370 #[vr src, vi ((sw + (1 : Int32)) + (1 : Int32)), vi nv, vr dst, vi dw, vi 1, vi z0, vi a7, vi s8, vi s9, .unset] [(.int (sw + (1 : Int32))), (.ref src)])) (fun t k => ?_) ?_
   ·refine Xj.baloadBytes hx (j := sw) (v := (.int z0)) (by rw [ej]; exact Ar40.1) (State.isArrayOf_alike hZ.alike Ar40.2.1) Ar40.2.2 (inb_of S40 ⟨own_ge0 hsw, sl0⟩) (Has.at H40 (inb_of S40 ⟨own_ge0 hsw, sl0⟩) ((own_lget sl (sw).toNatClampNeg).trans (congrArg Value.int (own_rdL hsw (hb2 0 (by simp)))))) (g := (mkF m 10 #[vr src, vi (sw + (1 : Int32)), vi nv, vr dst, vi dw, vi 1, vi a6, vi a7, vi s8, vi s9, .unset] [(.int sw), (.ref src)])) rfl rfl (hb hby d24_10) _ ?_
    refine XS.istore Xj.here hx rfl (hb hby d24_11) rfl (l' := #[vr src, vi (sw + (1 : Int32)), vi nv, vr dst, vi dw, vi 1, vi z0, vi a7, vi s8, vi s9, .unset]) rfl ?_
    refine XS.iload Xj.here hx rfl (hb hby d24_13) rfl ?_
    refine XS.ifYes Xj.here hx rfl (pc0 := 15) (pc' := 33) rfl (hb hby d24_15) rfl ((if0 _ _).trans (tlt h2k.1).1) (by decide) (by decide) ?_
    refine XS.iload Xj.here hx rfl (hb hby d24_33) rfl ?_
    refine XS.iconst Xj.here hx rfl (hb hby d24_35) ?_
    refine XS.ishr Xj.here hx rfl (hb hby d24_36) rfl ?_
    refine XS.bipush Xj.here hx rfl (hb hby d24_37) ?_
    refine XS.icmpYes Xj.here hx rfl (pc0 := 39) (pc' := 143) rfl (hb hby d24_39) rfl (feq h2k.2.2.1).2 (by decide) (by decide) ?_
    refine XS.iload Xj.here hx rfl (hb hby d24_143) rfl ?_
    refine XS.iconst Xj.here hx rfl (hb hby d24_145) ?_
    refine XS.ishr Xj.here hx rfl (hb hby d24_146) rfl ?_
    refine XS.bipush Xj.here hx rfl (hb hby d24_147) ?_
    refine XS.icmpYes Xj.here hx rfl (pc0 := 149) (pc' := 349) rfl (hb hby d24_149) rfl (feq h2k.2.2.2.1).2 (by decide) (by decide) ?_
    refine XS.iload Xj.here hx rfl (hb hby d24_349) rfl ?_
    refine XS.iconst Xj.here hx rfl (hb hby d24_351) ?_
    refine XS.ishr Xj.here hx rfl (hb hby d24_352) rfl ?_
    refine XS.bipush Xj.here hx rfl (hb hby d24_353) ?_
    refine XS.icmpNo Xj.here hx rfl (hb hby d24_355) rfl (teq h2k.2.2.2.2.1).2 ?_
    refine XS.iloadN Xj.here hx rfl (hb hby d24_358) rfl ?_
    refine XS.iconst Xj.here hx rfl (hb hby d24_359) ?_
    refine XS.iadd Xj.here hx rfl (hb hby d24_360) rfl ?_
    refine XS.iloadN Xj.here hx rfl (hb hby d24_361) rfl ?_
    refine XS.icmpNo Xj.here hx rfl (hb hby d24_362) rfl (tlt ((own_ltN (own_add sp1 (show (2 : Int32).toInt = ((2 : Nat) : Int) from rfl) (by omega)) hnv).mpr (by omega))).2.1 ?_
    refine XS.aloadN Xj.here hx rfl (hb hby d24_365) rfl rfl ?_
    refine XS.iloadN Xj.here hx rfl (hb hby d24_366) rfl ?_
    refine XS.iinc Xj.here hx rfl (hb hby d24_367) rfl (l' := #[vr src, vi ((sw + (1 : Int32)) + (1 : Int32)), vi nv, vr dst, vi dw, vi 1, vi z0, vi a7, vi s8, vi s9, .unset]) rfl ?_
    exact k
   obtain ⟨cl41, Ar41, q41, S41, M41, H41, G41⟩ := id Vs
   refine own_st (T' := Tj) (g' := (mkF m 378 #[vr src, vi (((sw + (1 : Int32)) + (1 : Int32)) + (1 : Int32)), vi nv, vr dst, vi dw, vi 1, vi z0, vi z1, vi s8, vi s9, .unset] [(.int ((sw + (1 : Int32)) + (1 : Int32))), (.ref src)])) (fun t k => ?_) ?_
   ·refine Xj.baloadBytes hx (j := (sw + (1 : Int32))) (v := (.int z1)) (by rw [ej]; exact Ar41.1) (State.isArrayOf_alike hZ.alike Ar41.2.1) Ar41.2.2 (inb_of S41 ⟨own_ge0 sp1, sl1⟩) (Has.at H41 (inb_of S41 ⟨own_ge0 sp1, sl1⟩) ((own_lget sl ((sw + (1 : Int32))).toNatClampNeg).trans (congrArg Value.int (own_rdL sp1 (hb2 1 (by simp)))))) (g := (mkF m 370 #[vr src, vi ((sw + (1 : Int32)) + (1 : Int32)), vi nv, vr dst, vi dw, vi 1, vi z0, vi a7, vi s8, vi s9, .unset] [(.int (sw + (1 : Int32))), (.ref src)])) rfl rfl (hb hby d24_370) _ ?_
    refine XS.istore Xj.here hx rfl (hb hby d24_371) rfl (l' := #[vr src, vi ((sw + (1 : Int32)) + (1 : Int32)), vi nv, vr dst, vi dw, vi 1, vi z0, vi z1, vi s8, vi s9, .unset]) rfl ?_
    refine XS.aloadN Xj.here hx rfl (hb hby d24_373) rfl rfl ?_
    refine XS.iloadN Xj.here hx rfl (hb hby d24_374) rfl ?_
    refine XS.iinc Xj.here hx rfl (hb hby d24_375) rfl (l' := #[vr src, vi (((sw + (1 : Int32)) + (1 : Int32)) + (1 : Int32)), vi nv, vr dst, vi dw, vi 1, vi z0, vi z1, vi s8, vi s9, .unset]) rfl ?_
    exact k
   obtain ⟨cl42, Ar42, q42, S42, M42, H42, G42⟩ := id Vs
   refine own_st (T' := Tj) (g' := (mkF m 386 #[vr src, .val (.int ((((sw + (1 : Int32)) + (1 : Int32)) + (1 : Int32)) + (1 : Int32))), vi nv, vr dst, vi dw, vi 1, vi z0, vi z1, vi z2, vi s9, .unset] [(.int (((sw + (1 : Int32)) + (1 : Int32)) + (1 : Int32))), (.ref src)])) (fun t k => ?_) ?_
   ·refine Xj.baloadBytes hx (j := ((sw + (1 : Int32)) + (1 : Int32))) (v := (.int z2)) (by rw [ej]; exact Ar42.1) (State.isArrayOf_alike hZ.alike Ar42.2.1) Ar42.2.2 (inb_of S42 ⟨own_ge0 sp2, sl2⟩) (Has.at H42 (inb_of S42 ⟨own_ge0 sp2, sl2⟩) ((own_lget sl (((sw + (1 : Int32)) + (1 : Int32))).toNatClampNeg).trans (congrArg Value.int (own_rdL sp2 (hb2 2 (by simp)))))) (g := (mkF m 378 #[vr src, vi (((sw + (1 : Int32)) + (1 : Int32)) + (1 : Int32)), vi nv, vr dst, vi dw, vi 1, vi z0, vi z1, vi s8, vi s9, .unset] [(.int ((sw + (1 : Int32)) + (1 : Int32))), (.ref src)])) rfl rfl (hb hby d24_378) _ ?_
    refine XS.istore Xj.here hx rfl (hb hby d24_379) rfl (l' := #[vr src, vi (((sw + (1 : Int32)) + (1 : Int32)) + (1 : Int32)), vi nv, vr dst, vi dw, vi 1, vi z0, vi z1, vi z2, vi s9, .unset]) rfl ?_
    refine XS.aloadN Xj.here hx rfl (hb hby d24_381) rfl rfl ?_
    refine XS.iloadN Xj.here hx rfl (hb hby d24_382) rfl ?_
    refine XS.iinc Xj.here hx rfl (hb hby d24_383) rfl (l' := #[vr src, .val (.int ((((sw + (1 : Int32)) + (1 : Int32)) + (1 : Int32)) + (1 : Int32))), vi nv, vr dst, vi dw, vi 1, vi z0, vi z1, vi z2, vi s9, .unset]) rfl ?_
    exact k
   obtain ⟨cl43, Ar43, q43, S43, M43, H43, G43⟩ := id Vs
   refine own_st (T' := Tj) (g' := (mkF m 397 #[vr src, .val (.int ((((sw + (1 : Int32)) + (1 : Int32)) + (1 : Int32)) + (1 : Int32))), vi nv, vr dst, vi dw, vi 1, vi z0, vi z1, vi z2, vi z3, .unset] [(.int z3), (.int z2), (.int z1), (.int z0)])) (fun t k => ?_) ?_
   ·refine Xj.baloadBytes hx (j := (((sw + (1 : Int32)) + (1 : Int32)) + (1 : Int32))) (v := (.int z3)) (by rw [ej]; exact Ar43.1) (State.isArrayOf_alike hZ.alike Ar43.2.1) Ar43.2.2 (inb_of S43 ⟨own_ge0 sp3, sl3⟩) (Has.at H43 (inb_of S43 ⟨own_ge0 sp3, sl3⟩) ((own_lget sl ((((sw + (1 : Int32)) + (1 : Int32)) + (1 : Int32))).toNatClampNeg).trans (congrArg Value.int (own_rdL sp3 (hb2 3 (by simp)))))) (g := (mkF m 386 #[vr src, .val (.int ((((sw + (1 : Int32)) + (1 : Int32)) + (1 : Int32)) + (1 : Int32))), vi nv, vr dst, vi dw, vi 1, vi z0, vi z1, vi z2, vi s9, .unset] [(.int (((sw + (1 : Int32)) + (1 : Int32)) + (1 : Int32))), (.ref src)])) rfl rfl (hb hby d24_386) _ ?_
    refine XS.istore Xj.here hx rfl (hb hby d24_387) rfl (l' := #[vr src, .val (.int ((((sw + (1 : Int32)) + (1 : Int32)) + (1 : Int32)) + (1 : Int32))), vi nv, vr dst, vi dw, vi 1, vi z0, vi z1, vi z2, vi z3, .unset]) rfl ?_
    refine XS.iload Xj.here hx rfl (hb hby d24_389) rfl ?_
    refine XS.iload Xj.here hx rfl (hb hby d24_391) rfl ?_
    refine XS.iload Xj.here hx rfl (hb hby d24_393) rfl ?_
    refine XS.iload Xj.here hx rfl (hb hby d24_395) rfl ?_
    exact k
   obtain ⟨_, _, ⟨T44, L44, c44, n44⟩, -, X44, ⟨Lc44, hQ44, l44, y44, z44⟩, st44⟩ := Jvm.LawKit.callS Xj hx (y := own_y20) hown (om hZ hw 188 rfl) (om hZ hw 189 rfl) (om hZ hw 42 rfl) (om hZ hw 190 rfl) (by decide) (backOf (W := 0) (own_rm38 l Z a0 hw z0 z1 z2 z3 cs fm u8 hh n0 Zj Oj HB) hZ (own_w hw 190 rfl) (own_w hw 42 rfl) (by decide) (by decide)) (g := (mkF m 397 #[vr src, .val (.int ((((sw + (1 : Int32)) + (1 : Int32)) + (1 : Int32)) + (1 : Int32))), vi nv, vr dst, vi dw, vi 1, vi z0, vi z1, vi z2, vi z3, .unset] [(.int z3), (.int z2), (.int z1), (.int z0)])) rfl (by rw [hml]; rfl) (argsL := [(.int z0), (.int z1), (.int z2), (.int z3)]) (rest := []) (lenOf own_pd16 rfl) rfl own_w0 (hb hby d24_397) (fun _ _ => ⟨rfl, ej, (by decide : 0 + 0 ≤ _), (by decide : 0 + 0 ≤ _)⟩)
   dsimp only [Pt.U, Pt.locs, Pt.cells, Pt.slots] at X44 l44 y44 z44 st44 hQ44
   subst l44 y44 z44
   obtain ⟨rfl, N44q, e44⟩ := hQ44
   have N44 := Fr.app Nj N44q
   refine own_st (g' := (mkF m 400 #[vr src, .val (.int ((((sw + (1 : Int32)) + (1 : Int32)) + (1 : Int32)) + (1 : Int32))), vi nv, vr dst, vi dw, vi 1, vi z0, vi z1, vi z2, vi z3, .unset] [(.int (own_d4 z0 z1 z2 z3))])) st44 ?_
   refine own_st (T' := T44) (g' := (mkF m 408 #[vr src, .val (.int ((((sw + (1 : Int32)) + (1 : Int32)) + (1 : Int32)) + (1 : Int32))), vi nv, vr dst, vi dw, vi 1, vi z0, vi z1, vi z2, vi z3, vi (own_d4 z0 z1 z2 z3)] [(.int z3), (.int z2), (.int z1)])) (fun t k => ?_) ?_
   ·refine XS.istore X44.here hx rfl (hb hby d24_400) rfl (l' := #[vr src, .val (.int ((((sw + (1 : Int32)) + (1 : Int32)) + (1 : Int32)) + (1 : Int32))), vi nv, vr dst, vi dw, vi 1, vi z0, vi z1, vi z2, vi z3, vi (own_d4 z0 z1 z2 z3)]) rfl ?_
    refine XS.iload X44.here hx rfl (hb hby d24_402) rfl ?_
    refine XS.iload X44.here hx rfl (hb hby d24_404) rfl ?_
    refine XS.iload X44.here hx rfl (hb hby d24_406) rfl ?_
    exact k
   obtain ⟨_, _, ⟨T45, L45, c45, n45⟩, -, X45, ⟨Lc45, hQ45, l45, y45, z45⟩, st45⟩ := Jvm.LawKit.callS X44 hx (y := own_y23) hown (om hZ hw 192 rfl) (om hZ hw 193 rfl) (om hZ hw 42 rfl) (om hZ hw 194 rfl) (by decide) (backOf (W := 0) (own_rm39 l Z a0 hw z1 z2 z3 cs fm u8 hh n0 Zj Oj h2k.2.2.2.2.2.1 h2k.2.2.2.2.2.2.1 h2k.2.2.2.2.2.2.2.1 HB) hZ (own_w hw 194 rfl) (own_w hw 42 rfl) (by decide) (by decide)) (g := (mkF m 408 #[vr src, .val (.int ((((sw + (1 : Int32)) + (1 : Int32)) + (1 : Int32)) + (1 : Int32))), vi nv, vr dst, vi dw, vi 1, vi z0, vi z1, vi z2, vi z3, vi (own_d4 z0 z1 z2 z3)] [(.int z3), (.int z2), (.int z1)])) rfl (by rw [hml]; rfl) (argsL := [(.int z1), (.int z2), (.int z3)]) (rest := []) (lenOf own_pd13 rfl) rfl own_w0 (hb hby d24_408) (fun _ _ => ⟨rfl, e44, (by decide : 0 + 0 ≤ _), (by decide : 0 + 0 ≤ _)⟩)
   dsimp only [Pt.U, Pt.locs, Pt.cells, Pt.slots] at X45 l45 y45 z45 st45 hQ45
   subst l45 y45 z45
   obtain ⟨rfl, N45q, e45⟩ := hQ45
   have N45 := Fr.app N44 N45q
   refine own_st (g' := (mkF m 411 #[vr src, .val (.int ((((sw + (1 : Int32)) + (1 : Int32)) + (1 : Int32)) + (1 : Int32))), vi nv, vr dst, vi dw, vi 1, vi z0, vi z1, vi z2, vi z3, vi (own_d4 z0 z1 z2 z3)] [(.int 0)])) st45 ?_
   refine own_st (T' := T45) (g' := (mkF m 416 #[vr src, .val (.int ((((sw + (1 : Int32)) + (1 : Int32)) + (1 : Int32)) + (1 : Int32))), vi nv, vr dst, vi dw, vi 1, vi z0, vi z1, vi z2, vi z3, vi (own_d4 z0 z1 z2 z3)] [(.int (own_d4 z0 z1 z2 z3))])) (fun t k => ?_) ?_
   ·refine XS.ifNo X45.here hx rfl (hb hby d24_411) rfl ((if0 _ _).trans (teq (rfl : (0 : Int32) = (0 : Int32))).2) ?_
    refine XS.iload X45.here hx rfl (hb hby d24_414) rfl ?_
    exact k
   obtain ⟨_, _, ⟨T46, L46, c46, n46⟩, -, X46, ⟨Lc46, hQ46, l46, y46, z46⟩, st46⟩ := Jvm.LawKit.callS X45 hx (y := own_y25) hown (om hZ hw 195 rfl) (om hZ hw 196 rfl) (om hZ hw 135 rfl) (om hZ hw 197 rfl) (by decide) (backOf (W := 0) (own_rm40 l Z a0 hw (own_d4 z0 z1 z2 z3) cs fm u8 hh n0 Zj Oj h2k.2.2.2.2.2.2.2.2.1 h2k.2.2.2.2.2.2.2.2.2 HB) hZ (own_w hw 197 rfl) (own_w hw 135 rfl) (by decide) (by decide)) (g := (mkF m 416 #[vr src, .val (.int ((((sw + (1 : Int32)) + (1 : Int32)) + (1 : Int32)) + (1 : Int32))), vi nv, vr dst, vi dw, vi 1, vi z0, vi z1, vi z2, vi z3, vi (own_d4 z0 z1 z2 z3)] [(.int (own_d4 z0 z1 z2 z3))])) rfl (by rw [hml]; rfl) (argsL := [(.int (own_d4 z0 z1 z2 z3))]) (rest := []) (lenOf own_pd11 rfl) rfl own_w0 (hb hby d24_416) (fun _ _ => ⟨rfl, e45, (by decide : 0 + 0 ≤ _), (by decide : 0 + 0 ≤ _)⟩)
   dsimp only [Pt.U, Pt.locs, Pt.cells, Pt.slots] at X46 l46 y46 z46 st46 hQ46
   subst l46 y46 z46
   obtain ⟨rfl, N46q, e46⟩ := hQ46
   have N46 := Fr.app N45 N46q
   refine own_st (g' := (mkF m 419 #[vr src, .val (.int ((((sw + (1 : Int32)) + (1 : Int32)) + (1 : Int32)) + (1 : Int32))), vi nv, vr dst, vi dw, vi 1, vi z0, vi z1, vi z2, vi z3, vi (own_d4 z0 z1 z2 z3)] [(.int 1)])) st46 ?_
   refine own_st (T' := T46) (g' := (mkF m 467 #[vr src, .val (.int ((((sw + (1 : Int32)) + (1 : Int32)) + (1 : Int32)) + (1 : Int32))), vi nv, vr dst, vi (dw + (1 : Int32)), vi 1, vi z0, vi z1, vi z2, vi z3, vi (own_d4 z0 z1 z2 z3)] [(.int (own_d4 z0 z1 z2 z3)), (.int dw), (.ref dst)])) (fun t k => ?_) ?_
   ·refine XS.ifYes X46.here hx rfl (pc0 := 419) (pc' := 459) rfl (hb hby d24_419) rfl ((if0 _ _).trans (feq (by decide : ¬ ((1 : Int32) = (0 : Int32)))).2) (by decide) (by decide) ?_
    refine XS.aloadN X46.here hx rfl (hb hby d24_459) rfl rfl ?_
    refine XS.iload X46.here hx rfl (hb hby d24_460) rfl ?_
    refine XS.iinc X46.here hx rfl (hb hby d24_462) rfl (l' := #[vr src, .val (.int ((((sw + (1 : Int32)) + (1 : Int32)) + (1 : Int32)) + (1 : Int32))), vi nv, vr dst, vi (dw + (1 : Int32)), vi 1, vi z0, vi z1, vi z2, vi z3, vi (own_d4 z0 z1 z2 z3)]) rfl ?_
    refine XS.iload X46.here hx rfl (hb hby d24_465) rfl ?_
    exact k
   obtain ⟨_, _, ⟨T47, L47, c47, n47⟩, -, X47, ⟨Lc47, hQ47, l47, y47, z47⟩, st47⟩ := Jvm.LawKit.callS X46 hx (y := own_y26) hown (om hZ hw 200 rfl) (om hZ hw 201 rfl) (om hZ hw 135 rfl) (om hZ hw 202 rfl) (by decide) (backOf (W := 2) (own_rm41 l Z a0 hw (own_d4 z0 z1 z2 z3) cs fm u8 hh n0 Zj Oj HB) hZ (own_w hw 202 rfl) (own_w hw 135 rfl) (by decide) (by decide)) (g := (mkF m 467 #[vr src, .val (.int ((((sw + (1 : Int32)) + (1 : Int32)) + (1 : Int32)) + (1 : Int32))), vi nv, vr dst, vi (dw + (1 : Int32)), vi 1, vi z0, vi z1, vi z2, vi z3, vi (own_d4 z0 z1 z2 z3)] [(.int (own_d4 z0 z1 z2 z3)), (.int dw), (.ref dst)])) rfl (by rw [hml]; rfl) (argsL := [(.int (own_d4 z0 z1 z2 z3))]) (rest := [(.int dw), (.ref dst)]) (lenOf own_pd17 rfl) rfl own_w0 (hb hby d24_467) (fun _ _ => ⟨rfl, e46, (by decide : 0 + 0 ≤ _), (by decide : 0 + 0 ≤ _)⟩)
   dsimp only [Pt.U, Pt.locs, Pt.cells, Pt.slots] at X47 l47 y47 z47 st47 hQ47
   subst l47 y47 z47
   obtain ⟨rfl, N47q, e47⟩ := hQ47
   have N47 := Fr.app N46 N47q
   refine own_st (g' := (mkF m 470 #[vr src, .val (.int ((((sw + (1 : Int32)) + (1 : Int32)) + (1 : Int32)) + (1 : Int32))), vi nv, vr dst, vi (dw + (1 : Int32)), vi 1, vi z0, vi z1, vi z2, vi z3, vi (own_d4 z0 z1 z2 z3)] [(.int (own_hs (own_d4 z0 z1 z2 z3))), (.int dw), (.ref dst)])) st47 ?_
   obtain ⟨_, _, ⟨T48, L48, c48, n48⟩, -, X48, ⟨Lc48, hQ48, l48, y48, z48⟩, st48⟩ := Jvm.LawKit.callS X47 hx (y := own_y14) hown (om hZ hw 139 rfl) (om hZ hw 118 rfl) (om hZ hw 97 rfl) (om hZ hw 119 rfl) (by decide) (backOf (W := 0) (own_rm23 l Z a0 hw dst kd el zz zn dw (own_hs (own_d4 z0 z1 z2 z3)) dm cs fm u8 hh n0 Zj Oj Vd hzz hel g_d hdw (by omega) hz16 HB) hZ (own_w hw 119 rfl) (own_w hw 97 rfl) (by decide) (by decide)) (g := (mkF m 470 #[vr src, .val (.int ((((sw + (1 : Int32)) + (1 : Int32)) + (1 : Int32)) + (1 : Int32))), vi nv, vr dst, vi (dw + (1 : Int32)), vi 1, vi z0, vi z1, vi z2, vi z3, vi (own_d4 z0 z1 z2 z3)] [(.int (own_hs (own_d4 z0 z1 z2 z3))), (.int dw), (.ref dst)])) rfl (by rw [hml]; rfl) (argsL := [(.ref dst), (.int dw), (.int (own_hs (own_d4 z0 z1 z2 z3)))]) (rest := []) (lenOf own_pd9 rfl) rfl own_w0 (hb hby d24_470) (fun _ _ => ⟨rfl, e47, (by decide : 0 + 0 ≤ _), (by decide : 0 + 0 ≤ _)⟩)
   dsimp only [Pt.U, Pt.locs, Pt.cells, Pt.slots] at X48 l48 y48 z48 st48 hQ48
   subst l48 y48 z48
   obtain ⟨h48, e48⟩ : ∃ z, T48.heap = z := ⟨_, rfl⟩
   rw [e48] at hQ48
   obtain ⟨rfl, N48q, Kc48, Vc48⟩ := hQ48
   have N48 := Fr.app N47 N48q
   have K48 : Keep h0 h48 [dst] := Kj.trans Kc48 (allS (Or.inl (List.mem_of_getElem? (i := 0) rfl)) all0)
   have Z48 : n0 ≤ h48.size := Nat.le_trans Zj Kc48.1
   have O48 := Oj.keep Kc48 (allS g_d all0)
   refine own_st (g' := (mkF m 473 #[vr src, .val (.int ((((sw + (1 : Int32)) + (1 : Int32)) + (1 : Int32)) + (1 : Int32))), vi nv, vr dst, vi (dw + (1 : Int32)), vi 1, vi z0, vi z1, vi z2, vi z3, vi (own_d4 z0 z1 z2 z3)] [])) st48 ?_
   refine own_st (T' := T48) (g' := (mkF m 481 #[vr src, .val (.int ((((sw + (1 : Int32)) + (1 : Int32)) + (1 : Int32)) + (1 : Int32))), vi nv, vr dst, vi ((dw + (1 : Int32)) + (1 : Int32)), vi 1, vi z0, vi z1, vi z2, vi z3, vi (own_d4 z0 z1 z2 z3)] [(.int (own_d4 z0 z1 z2 z3)), (.int (dw + (1 : Int32))), (.ref dst)])) (fun t k => ?_) ?_
   ·refine XS.aloadN X48.here hx rfl (hb hby d24_473) rfl rfl ?_
    refine XS.iload X48.here hx rfl (hb hby d24_474) rfl ?_
    refine XS.iinc X48.here hx rfl (hb hby d24_476) rfl (l' := #[vr src, .val (.int ((((sw + (1 : Int32)) + (1 : Int32)) + (1 : Int32)) + (1 : Int32))), vi nv, vr dst, vi ((dw + (1 : Int32)) + (1 : Int32)), vi 1, vi z0, vi z1, vi z2, vi z3, vi (own_d4 z0 z1 z2 z3)]) rfl ?_
    refine XS.iload X48.here hx rfl (hb hby d24_479) rfl ?_
    exact k
   obtain ⟨_, _, ⟨T49, L49, c49, n49⟩, -, X49, ⟨Lc49, hQ49, l49, y49, z49⟩, st49⟩ := Jvm.LawKit.callS X48 hx (y := own_y27) hown (om hZ hw 204 rfl) (om hZ hw 205 rfl) (om hZ hw 135 rfl) (om hZ hw 206 rfl) (by decide) (backOf (W := 2) (own_rm42 l Z a0 hw (own_d4 z0 z1 z2 z3) cs fm u8 h48 n0 Z48 O48 HB) hZ (own_w hw 206 rfl) (own_w hw 135 rfl) (by decide) (by decide)) (g := (mkF m 481 #[vr src, .val (.int ((((sw + (1 : Int32)) + (1 : Int32)) + (1 : Int32)) + (1 : Int32))), vi nv, vr dst, vi ((dw + (1 : Int32)) + (1 : Int32)), vi 1, vi z0, vi z1, vi z2, vi z3, vi (own_d4 z0 z1 z2 z3)] [(.int (own_d4 z0 z1 z2 z3)), (.int (dw + (1 : Int32))), (.ref dst)])) rfl (by rw [hml]; rfl) (argsL := [(.int (own_d4 z0 z1 z2 z3))]) (rest := [(.int (dw + (1 : Int32))), (.ref dst)]) (lenOf own_pd17 rfl) rfl own_w0 (hb hby d24_481) (fun _ _ => ⟨rfl, e48, (by decide : 0 + 0 ≤ _), (by decide : 0 + 0 ≤ _)⟩)
   dsimp only [Pt.U, Pt.locs, Pt.cells, Pt.slots] at X49 l49 y49 z49 st49 hQ49
   subst l49 y49 z49
   obtain ⟨rfl, N49q, e49⟩ := hQ49
   have N49 := Fr.app N48 N49q
   refine own_st (g' := (mkF m 484 #[vr src, .val (.int ((((sw + (1 : Int32)) + (1 : Int32)) + (1 : Int32)) + (1 : Int32))), vi nv, vr dst, vi ((dw + (1 : Int32)) + (1 : Int32)), vi 1, vi z0, vi z1, vi z2, vi z3, vi (own_d4 z0 z1 z2 z3)] [(.int (own_ls (own_d4 z0 z1 z2 z3))), (.int (dw + (1 : Int32))), (.ref dst)])) st49 ?_
   obtain ⟨_, _, ⟨T50, L50, c50, n50⟩, -, X50, ⟨Lc50, hQ50, l50, y50, z50⟩, st50⟩ := Jvm.LawKit.callS X49 hx (y := own_y14) hown (om hZ hw 139 rfl) (om hZ hw 118 rfl) (om hZ hw 97 rfl) (om hZ hw 119 rfl) (by decide) (backOf (W := 0) (own_rm23 l Z a0 hw dst kd (own_wrl el (2 * dm) [own_LO (own_hs (own_d4 z0 z1 z2 z3)), own_HI (own_hs (own_d4 z0 z1 z2 z3))]) zz zn (dw + (1 : Int32)) (own_ls (own_d4 z0 z1 z2 z3)) (dm + 1) cs fm u8 h48 n0 Z48 O48 Vc48 hzz (by rw [own_wrl_len]; exact hel) g_d dp1 (by omega) hz16 HB) hZ (own_w hw 119 rfl) (own_w hw 97 rfl) (by decide) (by decide)) (g := (mkF m 484 #[vr src, .val (.int ((((sw + (1 : Int32)) + (1 : Int32)) + (1 : Int32)) + (1 : Int32))), vi nv, vr dst, vi ((dw + (1 : Int32)) + (1 : Int32)), vi 1, vi z0, vi z1, vi z2, vi z3, vi (own_d4 z0 z1 z2 z3)] [(.int (own_ls (own_d4 z0 z1 z2 z3))), (.int (dw + (1 : Int32))), (.ref dst)])) rfl (by rw [hml]; rfl) (argsL := [(.ref dst), (.int (dw + (1 : Int32))), (.int (own_ls (own_d4 z0 z1 z2 z3)))]) (rest := []) (lenOf own_pd9 rfl) rfl own_w0 (hb hby d24_484) (fun _ _ => ⟨rfl, e49, (by decide : 0 + 0 ≤ _), (by decide : 0 + 0 ≤ _)⟩)
   dsimp only [Pt.U, Pt.locs, Pt.cells, Pt.slots] at X50 l50 y50 z50 st50 hQ50
   subst l50 y50 z50
   obtain ⟨h50, e50⟩ : ∃ z, T50.heap = z := ⟨_, rfl⟩
   rw [e50] at hQ50
   obtain ⟨rfl, N50q, Kc50, Vc50⟩ := hQ50
   have N50 := Fr.app N49 N50q
   have K50 : Keep h0 h50 [dst] := K48.trans Kc50 (allS (Or.inl (List.mem_of_getElem? (i := 0) rfl)) all0)
   have Z50 : n0 ≤ h50.size := Nat.le_trans Z48 Kc50.1
   have O50 := O48.keep Kc50 (allS g_d all0)
   refine own_st (g' := (mkF m 487 #[vr src, .val (.int ((((sw + (1 : Int32)) + (1 : Int32)) + (1 : Int32)) + (1 : Int32))), vi nv, vr dst, vi ((dw + (1 : Int32)) + (1 : Int32)), vi 1, vi z0, vi z1, vi z2, vi z3, vi (own_d4 z0 z1 z2 z3)] [])) st50 ?_
   refine own_st (T' := T50) (g' := (mkF m 623 #[vr src, .val (.int ((((sw + (1 : Int32)) + (1 : Int32)) + (1 : Int32)) + (1 : Int32))), vi nv, vr dst, vi ((dw + (1 : Int32)) + (1 : Int32)), vi 1, vi z0, vi z1, vi z2, vi z3, vi (own_d4 z0 z1 z2 z3)] [(.int ((dw + (1 : Int32)) + (1 : Int32)))])) (fun t k => ?_) ?_
   ·refine XS.goto X50.here hx rfl (pc0 := 487) (pc' := 0) rfl (hb hby d24_487) (by decide) (by decide) ?_
    refine XS.iloadN X50.here hx rfl (hb hby d24_0) rfl ?_
    refine XS.iloadN X50.here hx rfl (hb hby d24_1) rfl ?_
    refine XS.icmpYes X50.here hx rfl (pc0 := 2) (pc' := 621) rfl (hb hby d24_2) rfl (flt (fun q => absurd ((own_ltN sp4 hnv).mp q) (by omega))).2.1 (by decide) (by decide) ?_
    refine XS.iload X50.here hx rfl (hb hby d24_621) rfl ?_
    exact k
   exact own_retI X50 hx Bd (hb hby d24_623) e50 (⟨congrArg (fun z => some (Value.int z)) ((own_ofN dp2).trans (congrArg Int32.ofNat hlq)), N50, K50, heq ▸ (own_wf Vc50)⟩) (by decide) (by decide)
  ·have sp1 := own_add hsw own_i1 (by omega)
   have sp2 := own_add sp1 own_i1 (by omega)
   have sp3 := own_add sp2 own_i1 (by omega)
   have sp4 := own_add sp3 own_i1 (by omega)
   have dp1 := own_add hdw own_i1 (by omega)
   have dp2 := own_add dp1 own_i1 (by omega)
   have sl0 : sw < nv := (own_ltN hsw hnv).mpr (by omega)
   have sl1 : (sw + (1 : Int32)) < nv := (own_ltN sp1 hnv).mpr (by omega)
   have sl2 : ((sw + (1 : Int32)) + (1 : Int32)) < nv := (own_ltN sp2 hnv).mpr (by omega)
   have sl3 : (((sw + (1 : Int32)) + (1 : Int32)) + (1 : Int32)) < nv := (own_ltN sp3 hnv).mpr (by omega)
   refine own_st (T' := Tj) (g' := (mkF m 10 #[vr src, vi (sw + (1 : Int32)), vi nv, vr dst, vi dw, vi 1, vi a6, vi a7, vi s8, vi s9, vi s10] [(.int sw), (.ref src)])) (fun t k => ?_) ?_
   ·refine XS.iloadN Xj.here hx rfl (hb hby d24_0) rfl ?_
    refine XS.iloadN Xj.here hx rfl (hb hby d24_1) rfl ?_
    refine XS.icmpNo Xj.here hx rfl (hb hby d24_2) rfl (tlt sl0).2.1 ?_
    refine XS.aloadN Xj.here hx rfl (hb hby d24_5) rfl rfl ?_
    refine XS.iloadN Xj.here hx rfl (hb hby d24_6) rfl ?_
    refine XS.iinc Xj.here hx rfl (hb hby d24_7) rfl (l' := #[vr src, vi (sw + (1 : Int32)), vi nv, vr dst, vi dw, vi 1, vi a6, vi a7, vi s8, vi s9, vi s10]) rfl ?_
    exact k
   obtain ⟨cl51, Ar51, q51, S51, M51, H51, G51⟩ := id Vs
   refine own_st (T' := Tj) (g' := (mkF m 370 #[vr src, vi ((sw + (1 : Int32)) + (1 : Int32)), vi nv, vr dst, vi dw, vi 1, vi z0, vi a7, vi s8, vi s9, vi s10] [(.int (sw + (1 : Int32))), (.ref src)])) (fun t k => ?_) ?_
   ·refine Xj.baloadBytes hx (j := sw) (v := (.int z0)) (by rw [ej]; exact Ar51.1) (State.isArrayOf_alike hZ.alike Ar51.2.1) Ar51.2.2 (inb_of S51 ⟨own_ge0 hsw, sl0⟩) (Has.at H51 (inb_of S51 ⟨own_ge0 hsw, sl0⟩) ((own_lget sl (sw).toNatClampNeg).trans (congrArg Value.int (own_rdL hsw (hb2 0 (by simp)))))) (g := (mkF m 10 #[vr src, vi (sw + (1 : Int32)), vi nv, vr dst, vi dw, vi 1, vi a6, vi a7, vi s8, vi s9, vi s10] [(.int sw), (.ref src)])) rfl rfl (hb hby d24_10) _ ?_
    refine XS.istore Xj.here hx rfl (hb hby d24_11) rfl (l' := #[vr src, vi (sw + (1 : Int32)), vi nv, vr dst, vi dw, vi 1, vi z0, vi a7, vi s8, vi s9, vi s10]) rfl ?_
    refine XS.iload Xj.here hx rfl (hb hby d24_13) rfl ?_
    refine XS.ifYes Xj.here hx rfl (pc0 := 15) (pc' := 33) rfl (hb hby d24_15) rfl ((if0 _ _).trans (tlt h2k.1).1) (by decide) (by decide) ?_
    refine XS.iload Xj.here hx rfl (hb hby d24_33) rfl ?_
    refine XS.iconst Xj.here hx rfl (hb hby d24_35) ?_
    refine XS.ishr Xj.here hx rfl (hb hby d24_36) rfl ?_
    refine XS.bipush Xj.here hx rfl (hb hby d24_37) ?_
    refine XS.icmpYes Xj.here hx rfl (pc0 := 39) (pc' := 143) rfl (hb hby d24_39) rfl (feq h2k.2.2.1).2 (by decide) (by decide) ?_
    refine XS.iload Xj.here hx rfl (hb hby d24_143) rfl ?_
    refine XS.iconst Xj.here hx rfl (hb hby d24_145) ?_
    refine XS.ishr Xj.here hx rfl (hb hby d24_146) rfl ?_
    refine XS.bipush Xj.here hx rfl (hb hby d24_147) ?_
    refine XS.icmpYes Xj.here hx rfl (pc0 := 149) (pc' := 349) rfl (hb hby d24_149) rfl (feq h2k.2.2.2.1).2 (by decide) (by decide) ?_
    refine XS.iload Xj.here hx rfl (hb hby d24_349) rfl ?_
    refine XS.iconst Xj.here hx rfl (hb hby d24_351) ?_
    refine XS.ishr Xj.here hx rfl (hb hby d24_352) rfl ?_
    refine XS.bipush Xj.here hx rfl (hb hby d24_353) ?_
    refine XS.icmpNo Xj.here hx rfl (hb hby d24_355) rfl (teq h2k.2.2.2.2.1).2 ?_
    refine XS.iloadN Xj.here hx rfl (hb hby d24_358) rfl ?_
    refine XS.iconst Xj.here hx rfl (hb hby d24_359) ?_
    refine XS.iadd Xj.here hx rfl (hb hby d24_360) rfl ?_
    refine XS.iloadN Xj.here hx rfl (hb hby d24_361) rfl ?_
    refine XS.icmpNo Xj.here hx rfl (hb hby d24_362) rfl (tlt ((own_ltN (own_add sp1 (show (2 : Int32).toInt = ((2 : Nat) : Int) from rfl) (by omega)) hnv).mpr (by omega))).2.1 ?_
    refine XS.aloadN Xj.here hx rfl (hb hby d24_365) rfl rfl ?_
    refine XS.iloadN Xj.here hx rfl (hb hby d24_366) rfl ?_
    refine XS.iinc Xj.here hx rfl (hb hby d24_367) rfl (l' := #[vr src, vi ((sw + (1 : Int32)) + (1 : Int32)), vi nv, vr dst, vi dw, vi 1, vi z0, vi a7, vi s8, vi s9, vi s10]) rfl ?_
    exact k
   obtain ⟨cl52, Ar52, q52, S52, M52, H52, G52⟩ := id Vs
   refine own_st (T' := Tj) (g' := (mkF m 378 #[vr src, vi (((sw + (1 : Int32)) + (1 : Int32)) + (1 : Int32)), vi nv, vr dst, vi dw, vi 1, vi z0, vi z1, vi s8, vi s9, vi s10] [(.int ((sw + (1 : Int32)) + (1 : Int32))), (.ref src)])) (fun t k => ?_) ?_
   ·refine Xj.baloadBytes hx (j := (sw + (1 : Int32))) (v := (.int z1)) (by rw [ej]; exact Ar52.1) (State.isArrayOf_alike hZ.alike Ar52.2.1) Ar52.2.2 (inb_of S52 ⟨own_ge0 sp1, sl1⟩) (Has.at H52 (inb_of S52 ⟨own_ge0 sp1, sl1⟩) ((own_lget sl ((sw + (1 : Int32))).toNatClampNeg).trans (congrArg Value.int (own_rdL sp1 (hb2 1 (by simp)))))) (g := (mkF m 370 #[vr src, vi ((sw + (1 : Int32)) + (1 : Int32)), vi nv, vr dst, vi dw, vi 1, vi z0, vi a7, vi s8, vi s9, vi s10] [(.int (sw + (1 : Int32))), (.ref src)])) rfl rfl (hb hby d24_370) _ ?_
    refine XS.istore Xj.here hx rfl (hb hby d24_371) rfl (l' := #[vr src, vi ((sw + (1 : Int32)) + (1 : Int32)), vi nv, vr dst, vi dw, vi 1, vi z0, vi z1, vi s8, vi s9, vi s10]) rfl ?_
    refine XS.aloadN Xj.here hx rfl (hb hby d24_373) rfl rfl ?_
    refine XS.iloadN Xj.here hx rfl (hb hby d24_374) rfl ?_
    refine XS.iinc Xj.here hx rfl (hb hby d24_375) rfl (l' := #[vr src, vi (((sw + (1 : Int32)) + (1 : Int32)) + (1 : Int32)), vi nv, vr dst, vi dw, vi 1, vi z0, vi z1, vi s8, vi s9, vi s10]) rfl ?_
    exact k
   obtain ⟨cl53, Ar53, q53, S53, M53, H53, G53⟩ := id Vs
   refine own_st (T' := Tj) (g' := (mkF m 386 #[vr src, .val (.int ((((sw + (1 : Int32)) + (1 : Int32)) + (1 : Int32)) + (1 : Int32))), vi nv, vr dst, vi dw, vi 1, vi z0, vi z1, vi z2, vi s9, vi s10] [(.int (((sw + (1 : Int32)) + (1 : Int32)) + (1 : Int32))), (.ref src)])) (fun t k => ?_) ?_
   ·refine Xj.baloadBytes hx (j := ((sw + (1 : Int32)) + (1 : Int32))) (v := (.int z2)) (by rw [ej]; exact Ar53.1) (State.isArrayOf_alike hZ.alike Ar53.2.1) Ar53.2.2 (inb_of S53 ⟨own_ge0 sp2, sl2⟩) (Has.at H53 (inb_of S53 ⟨own_ge0 sp2, sl2⟩) ((own_lget sl (((sw + (1 : Int32)) + (1 : Int32))).toNatClampNeg).trans (congrArg Value.int (own_rdL sp2 (hb2 2 (by simp)))))) (g := (mkF m 378 #[vr src, vi (((sw + (1 : Int32)) + (1 : Int32)) + (1 : Int32)), vi nv, vr dst, vi dw, vi 1, vi z0, vi z1, vi s8, vi s9, vi s10] [(.int ((sw + (1 : Int32)) + (1 : Int32))), (.ref src)])) rfl rfl (hb hby d24_378) _ ?_
    refine XS.istore Xj.here hx rfl (hb hby d24_379) rfl (l' := #[vr src, vi (((sw + (1 : Int32)) + (1 : Int32)) + (1 : Int32)), vi nv, vr dst, vi dw, vi 1, vi z0, vi z1, vi z2, vi s9, vi s10]) rfl ?_
    refine XS.aloadN Xj.here hx rfl (hb hby d24_381) rfl rfl ?_
    refine XS.iloadN Xj.here hx rfl (hb hby d24_382) rfl ?_
    refine XS.iinc Xj.here hx rfl (hb hby d24_383) rfl (l' := #[vr src, .val (.int ((((sw + (1 : Int32)) + (1 : Int32)) + (1 : Int32)) + (1 : Int32))), vi nv, vr dst, vi dw, vi 1, vi z0, vi z1, vi z2, vi s9, vi s10]) rfl ?_
    exact k
   obtain ⟨cl54, Ar54, q54, S54, M54, H54, G54⟩ := id Vs
   refine own_st (T' := Tj) (g' := (mkF m 397 #[vr src, .val (.int ((((sw + (1 : Int32)) + (1 : Int32)) + (1 : Int32)) + (1 : Int32))), vi nv, vr dst, vi dw, vi 1, vi z0, vi z1, vi z2, vi z3, vi s10] [(.int z3), (.int z2), (.int z1), (.int z0)])) (fun t k => ?_) ?_
   ·refine Xj.baloadBytes hx (j := (((sw + (1 : Int32)) + (1 : Int32)) + (1 : Int32))) (v := (.int z3)) (by rw [ej]; exact Ar54.1) (State.isArrayOf_alike hZ.alike Ar54.2.1) Ar54.2.2 (inb_of S54 ⟨own_ge0 sp3, sl3⟩) (Has.at H54 (inb_of S54 ⟨own_ge0 sp3, sl3⟩) ((own_lget sl ((((sw + (1 : Int32)) + (1 : Int32)) + (1 : Int32))).toNatClampNeg).trans (congrArg Value.int (own_rdL sp3 (hb2 3 (by simp)))))) (g := (mkF m 386 #[vr src, .val (.int ((((sw + (1 : Int32)) + (1 : Int32)) + (1 : Int32)) + (1 : Int32))), vi nv, vr dst, vi dw, vi 1, vi z0, vi z1, vi z2, vi s9, vi s10] [(.int (((sw + (1 : Int32)) + (1 : Int32)) + (1 : Int32))), (.ref src)])) rfl rfl (hb hby d24_386) _ ?_
    refine XS.istore Xj.here hx rfl (hb hby d24_387) rfl (l' := #[vr src, .val (.int ((((sw + (1 : Int32)) + (1 : Int32)) + (1 : Int32)) + (1 : Int32))), vi nv, vr dst, vi dw, vi 1, vi z0, vi z1, vi z2, vi z3, vi s10]) rfl ?_
    refine XS.iload Xj.here hx rfl (hb hby d24_389) rfl ?_
    refine XS.iload Xj.here hx rfl (hb hby d24_391) rfl ?_
    refine XS.iload Xj.here hx rfl (hb hby d24_393) rfl ?_
    refine XS.iload Xj.here hx rfl (hb hby d24_395) rfl ?_
    exact k
   obtain ⟨_, _, ⟨T55, L55, c55, n55⟩, -, X55, ⟨Lc55, hQ55, l55, y55, z55⟩, st55⟩ := Jvm.LawKit.callS Xj hx (y := own_y20) hown (om hZ hw 188 rfl) (om hZ hw 189 rfl) (om hZ hw 42 rfl) (om hZ hw 190 rfl) (by decide) (backOf (W := 0) (own_rm38 l Z a0 hw z0 z1 z2 z3 cs fm u8 hh n0 Zj Oj HB) hZ (own_w hw 190 rfl) (own_w hw 42 rfl) (by decide) (by decide)) (g := (mkF m 397 #[vr src, .val (.int ((((sw + (1 : Int32)) + (1 : Int32)) + (1 : Int32)) + (1 : Int32))), vi nv, vr dst, vi dw, vi 1, vi z0, vi z1, vi z2, vi z3, vi s10] [(.int z3), (.int z2), (.int z1), (.int z0)])) rfl (by rw [hml]; rfl) (argsL := [(.int z0), (.int z1), (.int z2), (.int z3)]) (rest := []) (lenOf own_pd16 rfl) rfl own_w0 (hb hby d24_397) (fun _ _ => ⟨rfl, ej, (by decide : 0 + 0 ≤ _), (by decide : 0 + 0 ≤ _)⟩)
   dsimp only [Pt.U, Pt.locs, Pt.cells, Pt.slots] at X55 l55 y55 z55 st55 hQ55
   subst l55 y55 z55
   obtain ⟨rfl, N55q, e55⟩ := hQ55
   have N55 := Fr.app Nj N55q
   refine own_st (g' := (mkF m 400 #[vr src, .val (.int ((((sw + (1 : Int32)) + (1 : Int32)) + (1 : Int32)) + (1 : Int32))), vi nv, vr dst, vi dw, vi 1, vi z0, vi z1, vi z2, vi z3, vi s10] [(.int (own_d4 z0 z1 z2 z3))])) st55 ?_
   refine own_st (T' := T55) (g' := (mkF m 408 #[vr src, .val (.int ((((sw + (1 : Int32)) + (1 : Int32)) + (1 : Int32)) + (1 : Int32))), vi nv, vr dst, vi dw, vi 1, vi z0, vi z1, vi z2, vi z3, vi (own_d4 z0 z1 z2 z3)] [(.int z3), (.int z2), (.int z1)])) (fun t k => ?_) ?_
   ·refine XS.istore X55.here hx rfl (hb hby d24_400) rfl (l' := #[vr src, .val (.int ((((sw + (1 : Int32)) + (1 : Int32)) + (1 : Int32)) + (1 : Int32))), vi nv, vr dst, vi dw, vi 1, vi z0, vi z1, vi z2, vi z3, vi (own_d4 z0 z1 z2 z3)]) rfl ?_
    refine XS.iload X55.here hx rfl (hb hby d24_402) rfl ?_
    refine XS.iload X55.here hx rfl (hb hby d24_404) rfl ?_
    refine XS.iload X55.here hx rfl (hb hby d24_406) rfl ?_
    exact k
   obtain ⟨_, _, ⟨T56, L56, c56, n56⟩, -, X56, ⟨Lc56, hQ56, l56, y56, z56⟩, st56⟩ := Jvm.LawKit.callS X55 hx (y := own_y23) hown (om hZ hw 192 rfl) (om hZ hw 193 rfl) (om hZ hw 42 rfl) (om hZ hw 194 rfl) (by decide) (backOf (W := 0) (own_rm39 l Z a0 hw z1 z2 z3 cs fm u8 hh n0 Zj Oj h2k.2.2.2.2.2.1 h2k.2.2.2.2.2.2.1 h2k.2.2.2.2.2.2.2.1 HB) hZ (own_w hw 194 rfl) (own_w hw 42 rfl) (by decide) (by decide)) (g := (mkF m 408 #[vr src, .val (.int ((((sw + (1 : Int32)) + (1 : Int32)) + (1 : Int32)) + (1 : Int32))), vi nv, vr dst, vi dw, vi 1, vi z0, vi z1, vi z2, vi z3, vi (own_d4 z0 z1 z2 z3)] [(.int z3), (.int z2), (.int z1)])) rfl (by rw [hml]; rfl) (argsL := [(.int z1), (.int z2), (.int z3)]) (rest := []) (lenOf own_pd13 rfl) rfl own_w0 (hb hby d24_408) (fun _ _ => ⟨rfl, e55, (by decide : 0 + 0 ≤ _), (by decide : 0 + 0 ≤ _)⟩)
   dsimp only [Pt.U, Pt.locs, Pt.cells, Pt.slots] at X56 l56 y56 z56 st56 hQ56
   subst l56 y56 z56
   obtain ⟨rfl, N56q, e56⟩ := hQ56
   have N56 := Fr.app N55 N56q
   refine own_st (g' := (mkF m 411 #[vr src, .val (.int ((((sw + (1 : Int32)) + (1 : Int32)) + (1 : Int32)) + (1 : Int32))), vi nv, vr dst, vi dw, vi 1, vi z0, vi z1, vi z2, vi z3, vi (own_d4 z0 z1 z2 z3)] [(.int 0)])) st56 ?_
   refine own_st (T' := T56) (g' := (mkF m 416 #[vr src, .val (.int ((((sw + (1 : Int32)) + (1 : Int32)) + (1 : Int32)) + (1 : Int32))), vi nv, vr dst, vi dw, vi 1, vi z0, vi z1, vi z2, vi z3, vi (own_d4 z0 z1 z2 z3)] [(.int (own_d4 z0 z1 z2 z3))])) (fun t k => ?_) ?_
   ·refine XS.ifNo X56.here hx rfl (hb hby d24_411) rfl ((if0 _ _).trans (teq (rfl : (0 : Int32) = (0 : Int32))).2) ?_
    refine XS.iload X56.here hx rfl (hb hby d24_414) rfl ?_
    exact k
   obtain ⟨_, _, ⟨T57, L57, c57, n57⟩, -, X57, ⟨Lc57, hQ57, l57, y57, z57⟩, st57⟩ := Jvm.LawKit.callS X56 hx (y := own_y25) hown (om hZ hw 195 rfl) (om hZ hw 196 rfl) (om hZ hw 135 rfl) (om hZ hw 197 rfl) (by decide) (backOf (W := 0) (own_rm40 l Z a0 hw (own_d4 z0 z1 z2 z3) cs fm u8 hh n0 Zj Oj h2k.2.2.2.2.2.2.2.2.1 h2k.2.2.2.2.2.2.2.2.2 HB) hZ (own_w hw 197 rfl) (own_w hw 135 rfl) (by decide) (by decide)) (g := (mkF m 416 #[vr src, .val (.int ((((sw + (1 : Int32)) + (1 : Int32)) + (1 : Int32)) + (1 : Int32))), vi nv, vr dst, vi dw, vi 1, vi z0, vi z1, vi z2, vi z3, vi (own_d4 z0 z1 z2 z3)] [(.int (own_d4 z0 z1 z2 z3))])) rfl (by rw [hml]; rfl) (argsL := [(.int (own_d4 z0 z1 z2 z3))]) (rest := []) (lenOf own_pd11 rfl) rfl own_w0 (hb hby d24_416) (fun _ _ => ⟨rfl, e56, (by decide : 0 + 0 ≤ _), (by decide : 0 + 0 ≤ _)⟩)
   dsimp only [Pt.U, Pt.locs, Pt.cells, Pt.slots] at X57 l57 y57 z57 st57 hQ57
   subst l57 y57 z57
   obtain ⟨rfl, N57q, e57⟩ := hQ57
   have N57 := Fr.app N56 N57q
   refine own_st (g' := (mkF m 419 #[vr src, .val (.int ((((sw + (1 : Int32)) + (1 : Int32)) + (1 : Int32)) + (1 : Int32))), vi nv, vr dst, vi dw, vi 1, vi z0, vi z1, vi z2, vi z3, vi (own_d4 z0 z1 z2 z3)] [(.int 1)])) st57 ?_
   refine own_st (T' := T57) (g' := (mkF m 467 #[vr src, .val (.int ((((sw + (1 : Int32)) + (1 : Int32)) + (1 : Int32)) + (1 : Int32))), vi nv, vr dst, vi (dw + (1 : Int32)), vi 1, vi z0, vi z1, vi z2, vi z3, vi (own_d4 z0 z1 z2 z3)] [(.int (own_d4 z0 z1 z2 z3)), (.int dw), (.ref dst)])) (fun t k => ?_) ?_
   ·refine XS.ifYes X57.here hx rfl (pc0 := 419) (pc' := 459) rfl (hb hby d24_419) rfl ((if0 _ _).trans (feq (by decide : ¬ ((1 : Int32) = (0 : Int32)))).2) (by decide) (by decide) ?_
    refine XS.aloadN X57.here hx rfl (hb hby d24_459) rfl rfl ?_
    refine XS.iload X57.here hx rfl (hb hby d24_460) rfl ?_
    refine XS.iinc X57.here hx rfl (hb hby d24_462) rfl (l' := #[vr src, .val (.int ((((sw + (1 : Int32)) + (1 : Int32)) + (1 : Int32)) + (1 : Int32))), vi nv, vr dst, vi (dw + (1 : Int32)), vi 1, vi z0, vi z1, vi z2, vi z3, vi (own_d4 z0 z1 z2 z3)]) rfl ?_
    refine XS.iload X57.here hx rfl (hb hby d24_465) rfl ?_
    exact k
   obtain ⟨_, _, ⟨T58, L58, c58, n58⟩, -, X58, ⟨Lc58, hQ58, l58, y58, z58⟩, st58⟩ := Jvm.LawKit.callS X57 hx (y := own_y26) hown (om hZ hw 200 rfl) (om hZ hw 201 rfl) (om hZ hw 135 rfl) (om hZ hw 202 rfl) (by decide) (backOf (W := 2) (own_rm41 l Z a0 hw (own_d4 z0 z1 z2 z3) cs fm u8 hh n0 Zj Oj HB) hZ (own_w hw 202 rfl) (own_w hw 135 rfl) (by decide) (by decide)) (g := (mkF m 467 #[vr src, .val (.int ((((sw + (1 : Int32)) + (1 : Int32)) + (1 : Int32)) + (1 : Int32))), vi nv, vr dst, vi (dw + (1 : Int32)), vi 1, vi z0, vi z1, vi z2, vi z3, vi (own_d4 z0 z1 z2 z3)] [(.int (own_d4 z0 z1 z2 z3)), (.int dw), (.ref dst)])) rfl (by rw [hml]; rfl) (argsL := [(.int (own_d4 z0 z1 z2 z3))]) (rest := [(.int dw), (.ref dst)]) (lenOf own_pd17 rfl) rfl own_w0 (hb hby d24_467) (fun _ _ => ⟨rfl, e57, (by decide : 0 + 0 ≤ _), (by decide : 0 + 0 ≤ _)⟩)
   dsimp only [Pt.U, Pt.locs, Pt.cells, Pt.slots] at X58 l58 y58 z58 st58 hQ58
   subst l58 y58 z58
   obtain ⟨rfl, N58q, e58⟩ := hQ58
   have N58 := Fr.app N57 N58q
   refine own_st (g' := (mkF m 470 #[vr src, .val (.int ((((sw + (1 : Int32)) + (1 : Int32)) + (1 : Int32)) + (1 : Int32))), vi nv, vr dst, vi (dw + (1 : Int32)), vi 1, vi z0, vi z1, vi z2, vi z3, vi (own_d4 z0 z1 z2 z3)] [(.int (own_hs (own_d4 z0 z1 z2 z3))), (.int dw), (.ref dst)])) st58 ?_
   obtain ⟨_, _, ⟨T59, L59, c59, n59⟩, -, X59, ⟨Lc59, hQ59, l59, y59, z59⟩, st59⟩ := Jvm.LawKit.callS X58 hx (y := own_y14) hown (om hZ hw 139 rfl) (om hZ hw 118 rfl) (om hZ hw 97 rfl) (om hZ hw 119 rfl) (by decide) (backOf (W := 0) (own_rm23 l Z a0 hw dst kd el zz zn dw (own_hs (own_d4 z0 z1 z2 z3)) dm cs fm u8 hh n0 Zj Oj Vd hzz hel g_d hdw (by omega) hz16 HB) hZ (own_w hw 119 rfl) (own_w hw 97 rfl) (by decide) (by decide)) (g := (mkF m 470 #[vr src, .val (.int ((((sw + (1 : Int32)) + (1 : Int32)) + (1 : Int32)) + (1 : Int32))), vi nv, vr dst, vi (dw + (1 : Int32)), vi 1, vi z0, vi z1, vi z2, vi z3, vi (own_d4 z0 z1 z2 z3)] [(.int (own_hs (own_d4 z0 z1 z2 z3))), (.int dw), (.ref dst)])) rfl (by rw [hml]; rfl) (argsL := [(.ref dst), (.int dw), (.int (own_hs (own_d4 z0 z1 z2 z3)))]) (rest := []) (lenOf own_pd9 rfl) rfl own_w0 (hb hby d24_470) (fun _ _ => ⟨rfl, e58, (by decide : 0 + 0 ≤ _), (by decide : 0 + 0 ≤ _)⟩)
   dsimp only [Pt.U, Pt.locs, Pt.cells, Pt.slots] at X59 l59 y59 z59 st59 hQ59
   subst l59 y59 z59
   obtain ⟨h59, e59⟩ : ∃ z, T59.heap = z := ⟨_, rfl⟩
   rw [e59] at hQ59
   obtain ⟨rfl, N59q, Kc59, Vc59⟩ := hQ59
   have N59 := Fr.app N58 N59q
   have K59 : Keep h0 h59 [dst] := Kj.trans Kc59 (allS (Or.inl (List.mem_of_getElem? (i := 0) rfl)) all0)
   have Z59 : n0 ≤ h59.size := Nat.le_trans Zj Kc59.1
   have O59 := Oj.keep Kc59 (allS g_d all0)
   refine own_st (g' := (mkF m 473 #[vr src, .val (.int ((((sw + (1 : Int32)) + (1 : Int32)) + (1 : Int32)) + (1 : Int32))), vi nv, vr dst, vi (dw + (1 : Int32)), vi 1, vi z0, vi z1, vi z2, vi z3, vi (own_d4 z0 z1 z2 z3)] [])) st59 ?_
   refine own_st (T' := T59) (g' := (mkF m 481 #[vr src, .val (.int ((((sw + (1 : Int32)) + (1 : Int32)) + (1 : Int32)) + (1 : Int32))), vi nv, vr dst, vi ((dw + (1 : Int32)) + (1 : Int32)), vi 1, vi z0, vi z1, vi z2, vi z3, vi (own_d4 z0 z1 z2 z3)] [(.int (own_d4 z0 z1 z2 z3)), (.int (dw + (1 : Int32))), (.ref dst)])) (fun t k => ?_) ?_
   ·refine XS.aloadN X59.here hx rfl (hb hby d24_473) rfl rfl ?_
    refine XS.iload X59.here hx rfl (hb hby d24_474) rfl ?_
    refine XS.iinc X59.here hx rfl (hb hby d24_476) rfl (l' := #[vr src, .val (.int ((((sw + (1 : Int32)) + (1 : Int32)) + (1 : Int32)) + (1 : Int32))), vi nv, vr dst, vi ((dw + (1 : Int32)) + (1 : Int32)), vi 1, vi z0, vi z1, vi z2, vi z3, vi (own_d4 z0 z1 z2 z3)]) rfl ?_
    refine XS.iload X59.here hx rfl (hb hby d24_479) rfl ?_
    exact k
   obtain ⟨_, _, ⟨T60, L60, c60, n60⟩, -, X60, ⟨Lc60, hQ60, l60, y60, z60⟩, st60⟩ := Jvm.LawKit.callS X59 hx (y := own_y27) hown (om hZ hw 204 rfl) (om hZ hw 205 rfl) (om hZ hw 135 rfl) (om hZ hw 206 rfl) (by decide) (backOf (W := 2) (own_rm42 l Z a0 hw (own_d4 z0 z1 z2 z3) cs fm u8 h59 n0 Z59 O59 HB) hZ (own_w hw 206 rfl) (own_w hw 135 rfl) (by decide) (by decide)) (g := (mkF m 481 #[vr src, .val (.int ((((sw + (1 : Int32)) + (1 : Int32)) + (1 : Int32)) + (1 : Int32))), vi nv, vr dst, vi ((dw + (1 : Int32)) + (1 : Int32)), vi 1, vi z0, vi z1, vi z2, vi z3, vi (own_d4 z0 z1 z2 z3)] [(.int (own_d4 z0 z1 z2 z3)), (.int (dw + (1 : Int32))), (.ref dst)])) rfl (by rw [hml]; rfl) (argsL := [(.int (own_d4 z0 z1 z2 z3))]) (rest := [(.int (dw + (1 : Int32))), (.ref dst)]) (lenOf own_pd17 rfl) rfl own_w0 (hb hby d24_481) (fun _ _ => ⟨rfl, e59, (by decide : 0 + 0 ≤ _), (by decide : 0 + 0 ≤ _)⟩)
   dsimp only [Pt.U, Pt.locs, Pt.cells, Pt.slots] at X60 l60 y60 z60 st60 hQ60
   subst l60 y60 z60
   obtain ⟨rfl, N60q, e60⟩ := hQ60
   have N60 := Fr.app N59 N60q
   refine own_st (g' := (mkF m 484 #[vr src, .val (.int ((((sw + (1 : Int32)) + (1 : Int32)) + (1 : Int32)) + (1 : Int32))), vi nv, vr dst, vi ((dw + (1 : Int32)) + (1 : Int32)), vi 1, vi z0, vi z1, vi z2, vi z3, vi (own_d4 z0 z1 z2 z3)] [(.int (own_ls (own_d4 z0 z1 z2 z3))), (.int (dw + (1 : Int32))), (.ref dst)])) st60 ?_
   obtain ⟨_, _, ⟨T61, L61, c61, n61⟩, -, X61, ⟨Lc61, hQ61, l61, y61, z61⟩, st61⟩ := Jvm.LawKit.callS X60 hx (y := own_y14) hown (om hZ hw 139 rfl) (om hZ hw 118 rfl) (om hZ hw 97 rfl) (om hZ hw 119 rfl) (by decide) (backOf (W := 0) (own_rm23 l Z a0 hw dst kd (own_wrl el (2 * dm) [own_LO (own_hs (own_d4 z0 z1 z2 z3)), own_HI (own_hs (own_d4 z0 z1 z2 z3))]) zz zn (dw + (1 : Int32)) (own_ls (own_d4 z0 z1 z2 z3)) (dm + 1) cs fm u8 h59 n0 Z59 O59 Vc59 hzz (by rw [own_wrl_len]; exact hel) g_d dp1 (by omega) hz16 HB) hZ (own_w hw 119 rfl) (own_w hw 97 rfl) (by decide) (by decide)) (g := (mkF m 484 #[vr src, .val (.int ((((sw + (1 : Int32)) + (1 : Int32)) + (1 : Int32)) + (1 : Int32))), vi nv, vr dst, vi ((dw + (1 : Int32)) + (1 : Int32)), vi 1, vi z0, vi z1, vi z2, vi z3, vi (own_d4 z0 z1 z2 z3)] [(.int (own_ls (own_d4 z0 z1 z2 z3))), (.int (dw + (1 : Int32))), (.ref dst)])) rfl (by rw [hml]; rfl) (argsL := [(.ref dst), (.int (dw + (1 : Int32))), (.int (own_ls (own_d4 z0 z1 z2 z3)))]) (rest := []) (lenOf own_pd9 rfl) rfl own_w0 (hb hby d24_484) (fun _ _ => ⟨rfl, e60, (by decide : 0 + 0 ≤ _), (by decide : 0 + 0 ≤ _)⟩)
   dsimp only [Pt.U, Pt.locs, Pt.cells, Pt.slots] at X61 l61 y61 z61 st61 hQ61
   subst l61 y61 z61
   obtain ⟨h61, e61⟩ : ∃ z, T61.heap = z := ⟨_, rfl⟩
   rw [e61] at hQ61
   obtain ⟨rfl, N61q, Kc61, Vc61⟩ := hQ61
   have N61 := Fr.app N60 N61q
   have K61 : Keep h0 h61 [dst] := K59.trans Kc61 (allS (Or.inl (List.mem_of_getElem? (i := 0) rfl)) all0)
   have Z61 : n0 ≤ h61.size := Nat.le_trans Z59 Kc61.1
   have O61 := O59.keep Kc61 (allS g_d all0)
   refine own_st (g' := (mkF m 487 #[vr src, .val (.int ((((sw + (1 : Int32)) + (1 : Int32)) + (1 : Int32)) + (1 : Int32))), vi nv, vr dst, vi ((dw + (1 : Int32)) + (1 : Int32)), vi 1, vi z0, vi z1, vi z2, vi z3, vi (own_d4 z0 z1 z2 z3)] [])) st61 ?_
   refine own_st (T' := T61) (g' := (mkF m 623 #[vr src, .val (.int ((((sw + (1 : Int32)) + (1 : Int32)) + (1 : Int32)) + (1 : Int32))), vi nv, vr dst, vi ((dw + (1 : Int32)) + (1 : Int32)), vi 1, vi z0, vi z1, vi z2, vi z3, vi (own_d4 z0 z1 z2 z3)] [(.int ((dw + (1 : Int32)) + (1 : Int32)))])) (fun t k => ?_) ?_
   ·refine XS.goto X61.here hx rfl (pc0 := 487) (pc' := 0) rfl (hb hby d24_487) (by decide) (by decide) ?_
    refine XS.iloadN X61.here hx rfl (hb hby d24_0) rfl ?_
    refine XS.iloadN X61.here hx rfl (hb hby d24_1) rfl ?_
    refine XS.icmpYes X61.here hx rfl (pc0 := 2) (pc' := 621) rfl (hb hby d24_2) rfl (flt (fun q => absurd ((own_ltN sp4 hnv).mp q) (by omega))).2.1 (by decide) (by decide) ?_
    refine XS.iload X61.here hx rfl (hb hby d24_621) rfl ?_
    exact k
   exact own_retI X61 hx Bd (hb hby d24_623) e61 (⟨congrArg (fun z => some (Value.int z)) ((own_ofN dp2).trans (congrArg Int32.ofNat hlq)), N61, K61, heq ▸ (own_wf Vc61)⟩) (by decide) (by decide)
theorem own_rm24 (l : Launch) (Z : State) (a0 : Array Value) (hw : own_W a0 Z) (src dst : Addr) (ks kd : ClassId) (sl dl rb ch : List Int32) (sv nv zz dv : Int32) (sn nn zn dn : Nat) (cs : Int32) (fm : Value) (u8 : Addr) (h0 : Heap) (n0 : Nat) (Z0 : n0 ≤ h0.size) (O0 : Old Z n0 h0) (V_s : Arv Z h0 src ks .byte nv (sl.map Value.int) (.int 0)) (V_d : Arv Z h0 dst kd .byte zz (dl.map Value.int) (.int 0)) (g_d : n0 ≤ dst) (nsd : src ≠ dst) (hsv : sv.toInt = (sn : Int)) (hnv : nv.toInt = (nn : Int)) (hzz : zz.toInt = (zn : Int)) (hdv : dv.toInt = (dn : Int)) (hdl : dl.length = zn) (hz16 : zn ≤ 16) (hnz : zn = 2 * nn) (hrb : ∀ i, i < rb.length → sl.getD (sn + i) 0 = rb.getD i 0) (hnn : sn + rb.length = nn) (hrl : own_rlU rb ch) (hdc : dn + ch.length ≤ nn) (HB : own_BB Z cs fm u8) :
  own_MF l Z own_y28 (Jvm.Cond.code own_y28 jdk_42_method_38_code 11 (some .int)) [] own_r24 #[(.ref src), (.int sv), (.int nv), (.ref dst), (.int dv), (.int 1)] h0 (own_Q24 Z src dst ks kd sl dl rb ch sv nv zz dv sn nn zn dn cs fm u8 h0 n0) := by
 refine own_open (plainFor_of_name own_pn1) hisR (Ls := #[vr src, vi sv, vi nv, vr dst, vi dv, vi 1, .unset, .unset, .unset, .unset, .unset]) ?_
 intro p e s m below meth c s₁ Bd hZ hx hby hml hown X0 e0
 have N0 := Fr.nil n0
 have D := @hb _ _ hby
 have J := own_u2 l Z a0 hw src dst ks kd sl dl rb ch sv nv zz dv sn nn zn dn cs fm u8 h0 n0 Z0 O0 V_s V_d g_d nsd hsv hnv hzz hdv hdl hz16 hnz hrb hnn hrl hdc HB Bd hZ hx hby hml hown
 obtain ⟨b1, h1, b2, h2, ho1, ht2, rfl, rfl⟩ := hrl
 have hb1 : ∀ i, i < b1.length → sl.getD (sn + i) 0 = b1.getD i 0 := own_appL hrb
 have hb2 : ∀ i, i < b2.length → sl.getD (sn + b1.length + i) 0 = b2.getD i 0 := own_appR hrb
 rw [List.length_append] at hnn hdc
 rcases ho1 with ⟨x0, x1, h2k, h2l, rfl, rfl⟩ | ⟨x0, x1, x2, h2k, rfl, rfl⟩ | ⟨x0, x1, x2, x3, h2k, rfl, rfl⟩
 ·have hnn' : sn + (2 + b2.length) = nn := hnn
  have hdc' : dn + (1 + h2.length) ≤ nn := hdc
  have sp1 := own_add hsv own_i1 (by omega)
  have sp2 := own_add sp1 own_i1 (by omega)
  have dp1 := own_add hdv own_i1 (by omega)
  have sl0 : sv < nv := (own_ltN hsv hnv).mpr (by omega)
  have sl1 : (sv + (1 : Int32)) < nv := (own_ltN sp1 hnv).mpr (by omega)
  refine own_st (T' := s₁) (g' := (mkF m 10 #[vr src, vi (sv + (1 : Int32)), vi nv, vr dst, vi dv, vi 1, .unset, .unset, .unset, .unset, .unset] [(.int sv), (.ref src)])) (fun t k => ?_) ?_
  ·refine XS.iloadN X0.here hx rfl (D d24_0) rfl ?_
   refine XS.iloadN X0.here hx rfl (D d24_1) rfl ?_
   refine XS.icmpNo X0.here hx rfl (D d24_2) rfl (tlt sl0).2.1 ?_
   refine XS.aloadN X0.here hx rfl (D d24_5) rfl rfl ?_
   refine XS.iloadN X0.here hx rfl (D d24_6) rfl ?_
   refine XS.iinc X0.here hx rfl (D d24_7) rfl (l' := #[vr src, vi (sv + (1 : Int32)), vi nv, vr dst, vi dv, vi 1, .unset, .unset, .unset, .unset, .unset]) rfl ?_
   exact k
  obtain ⟨cl62, Ar62, q62, S62, M62, H62, G62⟩ := id V_s
  refine own_st (T' := s₁) (g' := (mkF m 60 #[vr src, vi ((sv + (1 : Int32)) + (1 : Int32)), vi nv, vr dst, vi dv, vi 1, vi x0, .unset, .unset, .unset, .unset] [(.int (sv + (1 : Int32))), (.ref src)])) (fun t k => ?_) ?_
  ·refine X0.baloadBytes hx (j := sv) (v := (.int x0)) (by rw [e0]; exact Ar62.1) (State.isArrayOf_alike hZ.alike Ar62.2.1) Ar62.2.2 (inb_of S62 ⟨own_ge0 hsv, sl0⟩) (Has.at H62 (inb_of S62 ⟨own_ge0 hsv, sl0⟩) ((own_lget sl (sv).toNatClampNeg).trans (congrArg Value.int (own_rdL hsv (hb1 0 (by simp)))))) (g := (mkF m 10 #[vr src, vi (sv + (1 : Int32)), vi nv, vr dst, vi dv, vi 1, .unset, .unset, .unset, .unset, .unset] [(.int sv), (.ref src)])) rfl rfl (D d24_10) _ ?_
   refine XS.istore X0.here hx rfl (D d24_11) rfl (l' := #[vr src, vi (sv + (1 : Int32)), vi nv, vr dst, vi dv, vi 1, vi x0, .unset, .unset, .unset, .unset]) rfl ?_
   refine XS.iload X0.here hx rfl (D d24_13) rfl ?_
   refine XS.ifYes X0.here hx rfl (pc0 := 15) (pc' := 33) rfl (D d24_15) rfl ((if0 _ _).trans (tlt (own_lead_neg h2k.1)).1) (by decide) (by decide) ?_
   refine XS.iload X0.here hx rfl (D d24_33) rfl ?_
   refine XS.iconst X0.here hx rfl (D d24_35) ?_
   refine XS.ishr X0.here hx rfl (D d24_36) rfl ?_
   refine XS.bipush X0.here hx rfl (D d24_37) ?_
   refine XS.icmpNo X0.here hx rfl (D d24_39) rfl (teq (own_lead_5 h2k.1)).2 ?_
   refine XS.iload X0.here hx rfl (D d24_42) rfl ?_
   refine XS.bipush X0.here hx rfl (D d24_44) ?_
   refine XS.iand X0.here hx rfl (D d24_46) rfl ?_
   refine XS.ifNo X0.here hx rfl (D d24_47) rfl ((if0 _ _).trans (feq (own_lead_30 h2k.1)).1) ?_
   refine XS.iloadN X0.here hx rfl (D d24_50) rfl ?_
   refine XS.iloadN X0.here hx rfl (D d24_51) rfl ?_
   refine XS.icmpNo X0.here hx rfl (D d24_52) rfl (tlt sl1).2.1 ?_
   refine XS.aloadN X0.here hx rfl (D d24_55) rfl rfl ?_
   refine XS.iloadN X0.here hx rfl (D d24_56) rfl ?_
   refine XS.iinc X0.here hx rfl (D d24_57) rfl (l' := #[vr src, vi ((sv + (1 : Int32)) + (1 : Int32)), vi nv, vr dst, vi dv, vi 1, vi x0, .unset, .unset, .unset, .unset]) rfl ?_
   exact k
  obtain ⟨cl63, Ar63, q63, S63, M63, H63, G63⟩ := id V_s
  refine own_st (T' := s₁) (g' := (mkF m 65 #[vr src, vi ((sv + (1 : Int32)) + (1 : Int32)), vi nv, vr dst, vi dv, vi 1, vi x0, vi x1, .unset, .unset, .unset] [(.int x1)])) (fun t k => ?_) ?_
  ·refine X0.baloadBytes hx (j := (sv + (1 : Int32))) (v := (.int x1)) (by rw [e0]; exact Ar63.1) (State.isArrayOf_alike hZ.alike Ar63.2.1) Ar63.2.2 (inb_of S63 ⟨own_ge0 sp1, sl1⟩) (Has.at H63 (inb_of S63 ⟨own_ge0 sp1, sl1⟩) ((own_lget sl ((sv + (1 : Int32))).toNatClampNeg).trans (congrArg Value.int (own_rdL sp1 (hb1 1 (by simp)))))) (g := (mkF m 60 #[vr src, vi ((sv + (1 : Int32)) + (1 : Int32)), vi nv, vr dst, vi dv, vi 1, vi x0, .unset, .unset, .unset, .unset] [(.int (sv + (1 : Int32))), (.ref src)])) rfl rfl (D d24_60) _ ?_
   refine XS.istore X0.here hx rfl (D d24_61) rfl (l' := #[vr src, vi ((sv + (1 : Int32)) + (1 : Int32)), vi nv, vr dst, vi dv, vi 1, vi x0, vi x1, .unset, .unset, .unset]) rfl ?_
   refine XS.iload X0.here hx rfl (D d24_63) rfl ?_
   exact k
  obtain ⟨_, _, ⟨T64, L64, c64, n64⟩, -, X64, ⟨Lc64, hQ64, l64, y64, z64⟩, st64⟩ := Jvm.LawKit.callS X0 hx (y := own_y21) hown (om hZ hw 216 rfl) (om hZ hw 217 rfl) (om hZ hw 42 rfl) (om hZ hw 218 rfl) (by decide) (backOf (W := 0) (own_rm45 l Z a0 hw x1 cs fm u8 h0 n0 Z0 O0 (own_cont_c h2k.2) HB) hZ (own_w hw 218 rfl) (own_w hw 42 rfl) (by decide) (by decide)) (g := (mkF m 65 #[vr src, vi ((sv + (1 : Int32)) + (1 : Int32)), vi nv, vr dst, vi dv, vi 1, vi x0, vi x1, .unset, .unset, .unset] [(.int x1)])) rfl (by rw [hml]; rfl) (argsL := [(.int x1)]) (rest := []) (lenOf own_pd11 rfl) rfl own_w0 (D d24_65) (fun _ _ => ⟨rfl, e0, (by decide : 0 + 0 ≤ _), (by decide : 0 + 0 ≤ _)⟩)
  dsimp only [Pt.U, Pt.locs, Pt.cells, Pt.slots] at X64 l64 y64 z64 st64 hQ64
  subst l64 y64 z64
  obtain ⟨rfl, N64q, e64⟩ := hQ64
  have N64 := Fr.app N0 N64q
  refine own_st (g' := (mkF m 68 #[vr src, vi ((sv + (1 : Int32)) + (1 : Int32)), vi nv, vr dst, vi dv, vi 1, vi x0, vi x1, .unset, .unset, .unset] [(.int 0)])) st64 ?_
  refine own_st (T' := T64) (g' := (mkF m 110 #[vr src, vi ((sv + (1 : Int32)) + (1 : Int32)), vi nv, vr dst, vi (dv + (1 : Int32)), vi 1, vi x0, vi x1, .unset, .unset, .unset] [(.int x1), (.int x0), (.int dv), (.ref dst)])) (fun t k => ?_) ?_
  ·refine XS.ifYes X64.here hx rfl (pc0 := 68) (pc' := 100) rfl (D d24_68) rfl ((if0 _ _).trans (teq (rfl : (0 : Int32) = (0 : Int32))).1) (by decide) (by decide) ?_
   refine XS.aloadN X64.here hx rfl (D d24_100) rfl rfl ?_
   refine XS.iload X64.here hx rfl (D d24_101) rfl ?_
   refine XS.iinc X64.here hx rfl (D d24_103) rfl (l' := #[vr src, vi ((sv + (1 : Int32)) + (1 : Int32)), vi nv, vr dst, vi (dv + (1 : Int32)), vi 1, vi x0, vi x1, .unset, .unset, .unset]) rfl ?_
   refine XS.iload X64.here hx rfl (D d24_106) rfl ?_
   refine XS.iload X64.here hx rfl (D d24_108) rfl ?_
   exact k
  obtain ⟨_, _, ⟨T65, L65, c65, n65⟩, -, X65, ⟨Lc65, hQ65, l65, y65, z65⟩, st65⟩ := Jvm.LawKit.callS X64 hx (y := own_y18) hown (om hZ hw 209 rfl) (om hZ hw 210 rfl) (om hZ hw 42 rfl) (om hZ hw 211 rfl) (by decide) (backOf (W := 2) (own_rm43 l Z a0 hw x0 x1 cs fm u8 h0 n0 Z0 O0 HB) hZ (own_w hw 211 rfl) (own_w hw 42 rfl) (by decide) (by decide)) (g := (mkF m 110 #[vr src, vi ((sv + (1 : Int32)) + (1 : Int32)), vi nv, vr dst, vi (dv + (1 : Int32)), vi 1, vi x0, vi x1, .unset, .unset, .unset] [(.int x1), (.int x0), (.int dv), (.ref dst)])) rfl (by rw [hml]; rfl) (argsL := [(.int x0), (.int x1)]) (rest := [(.int dv), (.ref dst)]) (lenOf own_pd12 rfl) rfl own_w0 (D d24_110) (fun _ _ => ⟨rfl, e64, (by decide : 0 + 0 ≤ _), (by decide : 0 + 0 ≤ _)⟩)
  dsimp only [Pt.U, Pt.locs, Pt.cells, Pt.slots] at X65 l65 y65 z65 st65 hQ65
  subst l65 y65 z65
  obtain ⟨rfl, N65q, e65⟩ := hQ65
  have N65 := Fr.app N64 N65q
  refine own_st (g' := (mkF m 113 #[vr src, vi ((sv + (1 : Int32)) + (1 : Int32)), vi nv, vr dst, vi (dv + (1 : Int32)), vi 1, vi x0, vi x1, .unset, .unset, .unset] [(.int (own_d2 x0 x1)), (.int dv), (.ref dst)])) st65 ?_
  obtain ⟨_, _, ⟨T66, L66, c66, n66⟩, -, X66, ⟨Lc66, hQ66, l66, y66, z66⟩, st66⟩ := Jvm.LawKit.callS X65 hx (y := own_y14) hown (om hZ hw 139 rfl) (om hZ hw 118 rfl) (om hZ hw 97 rfl) (om hZ hw 119 rfl) (by decide) (backOf (W := 0) (own_rm23 l Z a0 hw dst kd dl zz zn dv (own_d2 x0 x1) dn cs fm u8 h0 n0 Z0 O0 V_d hzz hdl g_d hdv (by omega) hz16 HB) hZ (own_w hw 119 rfl) (own_w hw 97 rfl) (by decide) (by decide)) (g := (mkF m 113 #[vr src, vi ((sv + (1 : Int32)) + (1 : Int32)), vi nv, vr dst, vi (dv + (1 : Int32)), vi 1, vi x0, vi x1, .unset, .unset, .unset] [(.int (own_d2 x0 x1)), (.int dv), (.ref dst)])) rfl (by rw [hml]; rfl) (argsL := [(.ref dst), (.int dv), (.int (own_d2 x0 x1))]) (rest := []) (lenOf own_pd9 rfl) rfl own_w0 (D d24_113) (fun _ _ => ⟨rfl, e65, (by decide : 0 + 0 ≤ _), (by decide : 0 + 0 ≤ _)⟩)
  dsimp only [Pt.U, Pt.locs, Pt.cells, Pt.slots] at X66 l66 y66 z66 st66 hQ66
  subst l66 y66 z66
  obtain ⟨h66, e66⟩ : ∃ z, T66.heap = z := ⟨_, rfl⟩
  rw [e66] at hQ66
  obtain ⟨rfl, N66q, Kc66, Vc66⟩ := hQ66
  have N66 := Fr.app N65 N66q
  have K66 : Keep h0 h66 [dst] := (Keep.refl h0 [dst]).trans Kc66 (allS (Or.inl (List.mem_of_getElem? (i := 0) rfl)) all0)
  have Z66 : n0 ≤ h66.size := Nat.le_trans Z0 Kc66.1
  have O66 := O0.keep Kc66 (allS g_d all0)
  refine own_st (g' := (mkF m 116 #[vr src, vi ((sv + (1 : Int32)) + (1 : Int32)), vi nv, vr dst, vi (dv + (1 : Int32)), vi 1, vi x0, vi x1, .unset, .unset, .unset] [])) st66 ?_
  refine own_st (T' := T66) (g' := (mkF m 0 #[vr src, vi ((sv + (1 : Int32)) + (1 : Int32)), vi nv, vr dst, vi (dv + (1 : Int32)), vi 1, vi x0, vi x1, .unset, .unset, .unset] [])) (fun t k => ?_) ?_
  ·refine XS.goto X66.here hx rfl (pc0 := 116) (pc' := 0) rfl (D d24_116) (by decide) (by decide) ?_
   exact k
  rcases ht2 with ⟨rfl, rfl⟩ | ho2
  ·have hnn2 : sn + 2 = nn := hnn
   refine own_st (T' := T66) (g' := (mkF m 623 #[vr src, vi ((sv + (1 : Int32)) + (1 : Int32)), vi nv, vr dst, vi (dv + (1 : Int32)), vi 1, vi x0, vi x1, .unset, .unset, .unset] [(.int (dv + (1 : Int32)))])) (fun t k => ?_) ?_
   ·refine XS.iloadN X66.here hx rfl (D d24_0) rfl ?_
    refine XS.iloadN X66.here hx rfl (D d24_1) rfl ?_
    refine XS.icmpYes X66.here hx rfl (pc0 := 2) (pc' := 621) rfl (D d24_2) rfl (flt (fun q => absurd ((own_ltN sp2 hnv).mp q) (by omega))).2.1 (by decide) (by decide) ?_
    refine XS.iload X66.here hx rfl (D d24_621) rfl ?_
    exact k
   exact own_retI X66 hx Bd (D d24_623) e66 (⟨congrArg (fun z => some (Value.int z)) (own_ofN (n := dn + 1) dp1), N66, K66, Vc66⟩) (by decide) (by decide)
  ·have f67 := V_s.keep Kc66 (ninS nsd nin0)
   exact J x0 x1 ((sv + (1 : Int32)) + (1 : Int32)) (dv + (1 : Int32)) (.unset) (.unset) (.unset) (sn + 2) (dn + 1) b2 h2 _ _ (Or.inl ⟨rfl, rfl, rfl⟩) (by have q := sp2; exact q) (by have q := dp1; exact q) hb2 (by omega) (by omega) ho2 (by rw [own_wrl_len]; exact hdl) f67 Vc66 K66 O66 Z66 (own_wcat1 _ _ _ _) (by simp only [List.length_append, List.length_cons, List.length_nil]; omega) T66 _ X66 N66 e66
 ·have hnn' : sn + (3 + b2.length) = nn := hnn
  have hdc' : dn + (1 + h2.length) ≤ nn := hdc
  have sp1 := own_add hsv own_i1 (by omega)
  have sp2 := own_add sp1 own_i1 (by omega)
  have sp3 := own_add sp2 own_i1 (by omega)
  have dp1 := own_add hdv own_i1 (by omega)
  have sl0 : sv < nv := (own_ltN hsv hnv).mpr (by omega)
  have sl1 : (sv + (1 : Int32)) < nv := (own_ltN sp1 hnv).mpr (by omega)
  have sl2 : ((sv + (1 : Int32)) + (1 : Int32)) < nv := (own_ltN sp2 hnv).mpr (by omega)
  refine own_st (T' := s₁) (g' := (mkF m 10 #[vr src, vi (sv + (1 : Int32)), vi nv, vr dst, vi dv, vi 1, .unset, .unset, .unset, .unset, .unset] [(.int sv), (.ref src)])) (fun t k => ?_) ?_
  ·refine XS.iloadN X0.here hx rfl (D d24_0) rfl ?_
   refine XS.iloadN X0.here hx rfl (D d24_1) rfl ?_
   refine XS.icmpNo X0.here hx rfl (D d24_2) rfl (tlt sl0).2.1 ?_
   refine XS.aloadN X0.here hx rfl (D d24_5) rfl rfl ?_
   refine XS.iloadN X0.here hx rfl (D d24_6) rfl ?_
   refine XS.iinc X0.here hx rfl (D d24_7) rfl (l' := #[vr src, vi (sv + (1 : Int32)), vi nv, vr dst, vi dv, vi 1, .unset, .unset, .unset, .unset, .unset]) rfl ?_
   exact k
  obtain ⟨cl68, Ar68, q68, S68, M68, H68, G68⟩ := id V_s
  refine own_st (T' := s₁) (g' := (mkF m 164 #[vr src, vi ((sv + (1 : Int32)) + (1 : Int32)), vi nv, vr dst, vi dv, vi 1, vi x0, .unset, .unset, .unset, .unset] [(.int (sv + (1 : Int32))), (.ref src)])) (fun t k => ?_) ?_
  ·refine X0.baloadBytes hx (j := sv) (v := (.int x0)) (by rw [e0]; exact Ar68.1) (State.isArrayOf_alike hZ.alike Ar68.2.1) Ar68.2.2 (inb_of S68 ⟨own_ge0 hsv, sl0⟩) (Has.at H68 (inb_of S68 ⟨own_ge0 hsv, sl0⟩) ((own_lget sl (sv).toNatClampNeg).trans (congrArg Value.int (own_rdL hsv (hb1 0 (by simp)))))) (g := (mkF m 10 #[vr src, vi (sv + (1 : Int32)), vi nv, vr dst, vi dv, vi 1, .unset, .unset, .unset, .unset, .unset] [(.int sv), (.ref src)])) rfl rfl (D d24_10) _ ?_
   refine XS.istore X0.here hx rfl (D d24_11) rfl (l' := #[vr src, vi (sv + (1 : Int32)), vi nv, vr dst, vi dv, vi 1, vi x0, .unset, .unset, .unset, .unset]) rfl ?_
   refine XS.iload X0.here hx rfl (D d24_13) rfl ?_
   refine XS.ifYes X0.here hx rfl (pc0 := 15) (pc' := 33) rfl (D d24_15) rfl ((if0 _ _).trans (tlt h2k.1).1) (by decide) (by decide) ?_
   refine XS.iload X0.here hx rfl (D d24_33) rfl ?_
   refine XS.iconst X0.here hx rfl (D d24_35) ?_
   refine XS.ishr X0.here hx rfl (D d24_36) rfl ?_
   refine XS.bipush X0.here hx rfl (D d24_37) ?_
   refine XS.icmpYes X0.here hx rfl (pc0 := 39) (pc' := 143) rfl (D d24_39) rfl (feq h2k.2.2.1).2 (by decide) (by decide) ?_
   refine XS.iload X0.here hx rfl (D d24_143) rfl ?_
   refine XS.iconst X0.here hx rfl (D d24_145) ?_
   refine XS.ishr X0.here hx rfl (D d24_146) rfl ?_
   refine XS.bipush X0.here hx rfl (D d24_147) ?_
   refine XS.icmpNo X0.here hx rfl (D d24_149) rfl (teq h2k.2.2.2.1).2 ?_
   refine XS.iloadN X0.here hx rfl (D d24_152) rfl ?_
   refine XS.iconst X0.here hx rfl (D d24_153) ?_
   refine XS.iadd X0.here hx rfl (D d24_154) rfl ?_
   refine XS.iloadN X0.here hx rfl (D d24_155) rfl ?_
   refine XS.icmpNo X0.here hx rfl (D d24_156) rfl (tlt ((own_ltN (own_add sp1 own_i1 (by omega)) hnv).mpr (by omega))).2.1 ?_
   refine XS.aloadN X0.here hx rfl (D d24_159) rfl rfl ?_
   refine XS.iloadN X0.here hx rfl (D d24_160) rfl ?_
   refine XS.iinc X0.here hx rfl (D d24_161) rfl (l' := #[vr src, vi ((sv + (1 : Int32)) + (1 : Int32)), vi nv, vr dst, vi dv, vi 1, vi x0, .unset, .unset, .unset, .unset]) rfl ?_
   exact k
  obtain ⟨cl69, Ar69, q69, S69, M69, H69, G69⟩ := id V_s
  refine own_st (T' := s₁) (g' := (mkF m 172 #[vr src, vi (((sv + (1 : Int32)) + (1 : Int32)) + (1 : Int32)), vi nv, vr dst, vi dv, vi 1, vi x0, vi x1, .unset, .unset, .unset] [(.int ((sv + (1 : Int32)) + (1 : Int32))), (.ref src)])) (fun t k => ?_) ?_
  ·refine X0.baloadBytes hx (j := (sv + (1 : Int32))) (v := (.int x1)) (by rw [e0]; exact Ar69.1) (State.isArrayOf_alike hZ.alike Ar69.2.1) Ar69.2.2 (inb_of S69 ⟨own_ge0 sp1, sl1⟩) (Has.at H69 (inb_of S69 ⟨own_ge0 sp1, sl1⟩) ((own_lget sl ((sv + (1 : Int32))).toNatClampNeg).trans (congrArg Value.int (own_rdL sp1 (hb1 1 (by simp)))))) (g := (mkF m 164 #[vr src, vi ((sv + (1 : Int32)) + (1 : Int32)), vi nv, vr dst, vi dv, vi 1, vi x0, .unset, .unset, .unset, .unset] [(.int (sv + (1 : Int32))), (.ref src)])) rfl rfl (D d24_164) _ ?_
   refine XS.istore X0.here hx rfl (D d24_165) rfl (l' := #[vr src, vi ((sv + (1 : Int32)) + (1 : Int32)), vi nv, vr dst, vi dv, vi 1, vi x0, vi x1, .unset, .unset, .unset]) rfl ?_
   refine XS.aloadN X0.here hx rfl (D d24_167) rfl rfl ?_
   refine XS.iloadN X0.here hx rfl (D d24_168) rfl ?_
   refine XS.iinc X0.here hx rfl (D d24_169) rfl (l' := #[vr src, vi (((sv + (1 : Int32)) + (1 : Int32)) + (1 : Int32)), vi nv, vr dst, vi dv, vi 1, vi x0, vi x1, .unset, .unset, .unset]) rfl ?_
   exact k
  obtain ⟨cl70, Ar70, q70, S70, M70, H70, G70⟩ := id V_s
  refine own_st (T' := s₁) (g' := (mkF m 181 #[vr src, vi (((sv + (1 : Int32)) + (1 : Int32)) + (1 : Int32)), vi nv, vr dst, vi dv, vi 1, vi x0, vi x1, vi x2, .unset, .unset] [(.int x2), (.int x1), (.int x0)])) (fun t k => ?_) ?_
  ·refine X0.baloadBytes hx (j := ((sv + (1 : Int32)) + (1 : Int32))) (v := (.int x2)) (by rw [e0]; exact Ar70.1) (State.isArrayOf_alike hZ.alike Ar70.2.1) Ar70.2.2 (inb_of S70 ⟨own_ge0 sp2, sl2⟩) (Has.at H70 (inb_of S70 ⟨own_ge0 sp2, sl2⟩) ((own_lget sl (((sv + (1 : Int32)) + (1 : Int32))).toNatClampNeg).trans (congrArg Value.int (own_rdL sp2 (hb1 2 (by simp)))))) (g := (mkF m 172 #[vr src, vi (((sv + (1 : Int32)) + (1 : Int32)) + (1 : Int32)), vi nv, vr dst, vi dv, vi 1, vi x0, vi x1, .unset, .unset, .unset] [(.int ((sv + (1 : Int32)) + (1 : Int32))), (.ref src)])) rfl rfl (D d24_172) _ ?_
   refine XS.istore X0.here hx rfl (D d24_173) rfl (l' := #[vr src, vi (((sv + (1 : Int32)) + (1 : Int32)) + (1 : Int32)), vi nv, vr dst, vi dv, vi 1, vi x0, vi x1, vi x2, .unset, .unset]) rfl ?_
   refine XS.iload X0.here hx rfl (D d24_175) rfl ?_
   refine XS.iload X0.here hx rfl (D d24_177) rfl ?_
   refine XS.iload X0.here hx rfl (D d24_179) rfl ?_
   exact k
  obtain ⟨_, _, ⟨T71, L71, c71, n71⟩, -, X71, ⟨Lc71, hQ71, l71, y71, z71⟩, st71⟩ := Jvm.LawKit.callS X0 hx (y := own_y22) hown (om hZ hw 126 rfl) (om hZ hw 127 rfl) (om hZ hw 42 rfl) (om hZ hw 128 rfl) (by decide) (backOf (W := 0) (own_rm25 l Z a0 hw x0 x1 x2 cs fm u8 h0 n0 Z0 O0 h2k HB) hZ (own_w hw 128 rfl) (own_w hw 42 rfl) (by decide) (by decide)) (g := (mkF m 181 #[vr src, vi (((sv + (1 : Int32)) + (1 : Int32)) + (1 : Int32)), vi nv, vr dst, vi dv, vi 1, vi x0, vi x1, vi x2, .unset, .unset] [(.int x2), (.int x1), (.int x0)])) rfl (by rw [hml]; rfl) (argsL := [(.int x0), (.int x1), (.int x2)]) (rest := []) (lenOf own_pd13 rfl) rfl own_w0 (D d24_181) (fun _ _ => ⟨rfl, e0, (by decide : 0 + 0 ≤ _), (by decide : 0 + 0 ≤ _)⟩)
  dsimp only [Pt.U, Pt.locs, Pt.cells, Pt.slots] at X71 l71 y71 z71 st71 hQ71
  subst l71 y71 z71
  obtain ⟨rfl, N71q, e71⟩ := hQ71
  have N71 := Fr.app N0 N71q
  refine own_st (g' := (mkF m 184 #[vr src, vi (((sv + (1 : Int32)) + (1 : Int32)) + (1 : Int32)), vi nv, vr dst, vi dv, vi 1, vi x0, vi x1, vi x2, .unset, .unset] [(.int 0)])) st71 ?_
  refine own_st (T' := T71) (g' := (mkF m 230 #[vr src, vi (((sv + (1 : Int32)) + (1 : Int32)) + (1 : Int32)), vi nv, vr dst, vi dv, vi 1, vi x0, vi x1, vi x2, .unset, .unset] [(.int x2), (.int x1), (.int x0)])) (fun t k => ?_) ?_
  ·refine XS.ifYes X71.here hx rfl (pc0 := 184) (pc' := 224) rfl (D d24_184) rfl ((if0 _ _).trans (teq (rfl : (0 : Int32) = (0 : Int32))).1) (by decide) (by decide) ?_
   refine XS.iload X71.here hx rfl (D d24_224) rfl ?_
   refine XS.iload X71.here hx rfl (D d24_226) rfl ?_
   refine XS.iload X71.here hx rfl (D d24_228) rfl ?_
   exact k
  obtain ⟨_, _, ⟨T72, L72, c72, n72⟩, -, X72, ⟨Lc72, hQ72, l72, y72, z72⟩, st72⟩ := Jvm.LawKit.callS X71 hx (y := own_y19) hown (om hZ hw 129 rfl) (om hZ hw 130 rfl) (om hZ hw 42 rfl) (om hZ hw 131 rfl) (by decide) (backOf (W := 0) (own_rm26 l Z a0 hw x0 x1 x2 cs fm u8 h0 n0 Z0 O0 HB) hZ (own_w hw 131 rfl) (own_w hw 42 rfl) (by decide) (by decide)) (g := (mkF m 230 #[vr src, vi (((sv + (1 : Int32)) + (1 : Int32)) + (1 : Int32)), vi nv, vr dst, vi dv, vi 1, vi x0, vi x1, vi x2, .unset, .unset] [(.int x2), (.int x1), (.int x0)])) rfl (by rw [hml]; rfl) (argsL := [(.int x0), (.int x1), (.int x2)]) (rest := []) (lenOf own_pd14 rfl) rfl own_w0 (D d24_230) (fun _ _ => ⟨rfl, e71, (by decide : 0 + 0 ≤ _), (by decide : 0 + 0 ≤ _)⟩)
  dsimp only [Pt.U, Pt.locs, Pt.cells, Pt.slots] at X72 l72 y72 z72 st72 hQ72
  subst l72 y72 z72
  obtain ⟨rfl, N72q, e72⟩ := hQ72
  have N72 := Fr.app N71 N72q
  refine own_st (g' := (mkF m 233 #[vr src, vi (((sv + (1 : Int32)) + (1 : Int32)) + (1 : Int32)), vi nv, vr dst, vi dv, vi 1, vi x0, vi x1, vi x2, .unset, .unset] [(.int (own_d3 x0 x1 x2))])) st72 ?_
  refine own_st (T' := T72) (g' := (mkF m 237 #[vr src, vi (((sv + (1 : Int32)) + (1 : Int32)) + (1 : Int32)), vi nv, vr dst, vi dv, vi 1, vi x0, vi x1, vi x2, vi (own_d3 x0 x1 x2), .unset] [(.int (own_d3 x0 x1 x2))])) (fun t k => ?_) ?_
  ·refine XS.istore X72.here hx rfl (D d24_233) rfl (l' := #[vr src, vi (((sv + (1 : Int32)) + (1 : Int32)) + (1 : Int32)), vi nv, vr dst, vi dv, vi 1, vi x0, vi x1, vi x2, vi (own_d3 x0 x1 x2), .unset]) rfl ?_
   refine XS.iload X72.here hx rfl (D d24_235) rfl ?_
   exact k
  obtain ⟨_, _, ⟨T73, L73, c73, n73⟩, -, X73, ⟨Lc73, hQ73, l73, y73, z73⟩, st73⟩ := Jvm.LawKit.callS X72 hx (y := own_y24) hown (om hZ hw 133 rfl) (om hZ hw 134 rfl) (om hZ hw 135 rfl) (om hZ hw 136 rfl) (by decide) (backOf (W := 0) (own_rm27 l Z a0 hw (own_d3 x0 x1 x2) cs fm u8 h0 n0 Z0 O0 h2k.2.2.2.2.2.2.2 HB) hZ (own_w hw 136 rfl) (own_w hw 135 rfl) (by decide) (by decide)) (g := (mkF m 237 #[vr src, vi (((sv + (1 : Int32)) + (1 : Int32)) + (1 : Int32)), vi nv, vr dst, vi dv, vi 1, vi x0, vi x1, vi x2, vi (own_d3 x0 x1 x2), .unset] [(.int (own_d3 x0 x1 x2))])) rfl (by rw [hml]; rfl) (argsL := [(.int (own_d3 x0 x1 x2))]) (rest := []) (lenOf own_pd15 rfl) rfl own_w0 (D d24_237) (fun _ _ => ⟨rfl, e72, (by decide : 0 + 0 ≤ _), (by decide : 0 + 0 ≤ _)⟩)
  dsimp only [Pt.U, Pt.locs, Pt.cells, Pt.slots] at X73 l73 y73 z73 st73 hQ73
  subst l73 y73 z73
  obtain ⟨rfl, N73q, e73⟩ := hQ73
  have N73 := Fr.app N72 N73q
  refine own_st (g' := (mkF m 240 #[vr src, vi (((sv + (1 : Int32)) + (1 : Int32)) + (1 : Int32)), vi nv, vr dst, vi dv, vi 1, vi x0, vi x1, vi x2, vi (own_d3 x0 x1 x2), .unset] [(.int 0)])) st73 ?_
  refine own_st (T' := T73) (g' := (mkF m 277 #[vr src, vi (((sv + (1 : Int32)) + (1 : Int32)) + (1 : Int32)), vi nv, vr dst, vi (dv + (1 : Int32)), vi 1, vi x0, vi x1, vi x2, vi (own_d3 x0 x1 x2), .unset] [(.int (own_d3 x0 x1 x2)), (.int dv), (.ref dst)])) (fun t k => ?_) ?_
  ·refine XS.ifYes X73.here hx rfl (pc0 := 240) (pc' := 269) rfl (D d24_240) rfl ((if0 _ _).trans (teq (rfl : (0 : Int32) = (0 : Int32))).1) (by decide) (by decide) ?_
   refine XS.aloadN X73.here hx rfl (D d24_269) rfl rfl ?_
   refine XS.iload X73.here hx rfl (D d24_270) rfl ?_
   refine XS.iinc X73.here hx rfl (D d24_272) rfl (l' := #[vr src, vi (((sv + (1 : Int32)) + (1 : Int32)) + (1 : Int32)), vi nv, vr dst, vi (dv + (1 : Int32)), vi 1, vi x0, vi x1, vi x2, vi (own_d3 x0 x1 x2), .unset]) rfl ?_
   refine XS.iload X73.here hx rfl (D d24_275) rfl ?_
   exact k
  obtain ⟨_, _, ⟨T74, L74, c74, n74⟩, -, X74, ⟨Lc74, hQ74, l74, y74, z74⟩, st74⟩ := Jvm.LawKit.callS X73 hx (y := own_y14) hown (om hZ hw 139 rfl) (om hZ hw 118 rfl) (om hZ hw 97 rfl) (om hZ hw 119 rfl) (by decide) (backOf (W := 0) (own_rm23 l Z a0 hw dst kd dl zz zn dv (own_d3 x0 x1 x2) dn cs fm u8 h0 n0 Z0 O0 V_d hzz hdl g_d hdv (by omega) hz16 HB) hZ (own_w hw 119 rfl) (own_w hw 97 rfl) (by decide) (by decide)) (g := (mkF m 277 #[vr src, vi (((sv + (1 : Int32)) + (1 : Int32)) + (1 : Int32)), vi nv, vr dst, vi (dv + (1 : Int32)), vi 1, vi x0, vi x1, vi x2, vi (own_d3 x0 x1 x2), .unset] [(.int (own_d3 x0 x1 x2)), (.int dv), (.ref dst)])) rfl (by rw [hml]; rfl) (argsL := [(.ref dst), (.int dv), (.int (own_d3 x0 x1 x2))]) (rest := []) (lenOf own_pd9 rfl) rfl own_w0 (D d24_277) (fun _ _ => ⟨rfl, e73, (by decide : 0 + 0 ≤ _), (by decide : 0 + 0 ≤ _)⟩)
  dsimp only [Pt.U, Pt.locs, Pt.cells, Pt.slots] at X74 l74 y74 z74 st74 hQ74
  subst l74 y74 z74
  obtain ⟨h74, e74⟩ : ∃ z, T74.heap = z := ⟨_, rfl⟩
  rw [e74] at hQ74
  obtain ⟨rfl, N74q, Kc74, Vc74⟩ := hQ74
  have N74 := Fr.app N73 N74q
  have K74 : Keep h0 h74 [dst] := (Keep.refl h0 [dst]).trans Kc74 (allS (Or.inl (List.mem_of_getElem? (i := 0) rfl)) all0)
  have Z74 : n0 ≤ h74.size := Nat.le_trans Z0 Kc74.1
  have O74 := O0.keep Kc74 (allS g_d all0)
  refine own_st (g' := (mkF m 280 #[vr src, vi (((sv + (1 : Int32)) + (1 : Int32)) + (1 : Int32)), vi nv, vr dst, vi (dv + (1 : Int32)), vi 1, vi x0, vi x1, vi x2, vi (own_d3 x0 x1 x2), .unset] [])) st74 ?_
  refine own_st (T' := T74) (g' := (mkF m 0 #[vr src, vi (((sv + (1 : Int32)) + (1 : Int32)) + (1 : Int32)), vi nv, vr dst, vi (dv + (1 : Int32)), vi 1, vi x0, vi x1, vi x2, vi (own_d3 x0 x1 x2), .unset] [])) (fun t k => ?_) ?_
  ·refine XS.goto X74.here hx rfl (pc0 := 280) (pc' := 0) rfl (D d24_280) (by decide) (by decide) ?_
   exact k
  rcases ht2 with ⟨rfl, rfl⟩ | ho2
  ·have hnn2 : sn + 3 = nn := hnn
   refine own_st (T' := T74) (g' := (mkF m 623 #[vr src, vi (((sv + (1 : Int32)) + (1 : Int32)) + (1 : Int32)), vi nv, vr dst, vi (dv + (1 : Int32)), vi 1, vi x0, vi x1, vi x2, vi (own_d3 x0 x1 x2), .unset] [(.int (dv + (1 : Int32)))])) (fun t k => ?_) ?_
   ·refine XS.iloadN X74.here hx rfl (D d24_0) rfl ?_
    refine XS.iloadN X74.here hx rfl (D d24_1) rfl ?_
    refine XS.icmpYes X74.here hx rfl (pc0 := 2) (pc' := 621) rfl (D d24_2) rfl (flt (fun q => absurd ((own_ltN sp3 hnv).mp q) (by omega))).2.1 (by decide) (by decide) ?_
    refine XS.iload X74.here hx rfl (D d24_621) rfl ?_
    exact k
   exact own_retI X74 hx Bd (D d24_623) e74 (⟨congrArg (fun z => some (Value.int z)) (own_ofN (n := dn + 1) dp1), N74, K74, Vc74⟩) (by decide) (by decide)
  ·have f75 := V_s.keep Kc74 (ninS nsd nin0)
   exact J x0 x1 (((sv + (1 : Int32)) + (1 : Int32)) + (1 : Int32)) (dv + (1 : Int32)) (vi x2) (vi (own_d3 x0 x1 x2)) (.unset) (sn + 3) (dn + 1) b2 h2 _ _ (Or.inr (Or.inl ⟨_, _, rfl, rfl, rfl⟩)) (by have q := sp3; exact q) (by have q := dp1; exact q) hb2 (by omega) (by omega) ho2 (by rw [own_wrl_len]; exact hdl) f75 Vc74 K74 O74 Z74 (own_wcat1 _ _ _ _) (by simp only [List.length_append, List.length_cons, List.length_nil]; omega) T74 _ X74 N74 e74
 ·have hnn' : sn + (4 + b2.length) = nn := hnn
  have hdc' : dn + (2 + h2.length) ≤ nn := hdc
  have sp1 := own_add hsv own_i1 (by omega)
  have sp2 := own_add sp1 own_i1 (by omega)
  have sp3 := own_add sp2 own_i1 (by omega)
  have sp4 := own_add sp3 own_i1 (by omega)
  have dp1 := own_add hdv own_i1 (by omega)
  have dp2 := own_add dp1 own_i1 (by omega)
  have sl0 : sv < nv := (own_ltN hsv hnv).mpr (by omega)
  have sl1 : (sv + (1 : Int32)) < nv := (own_ltN sp1 hnv).mpr (by omega)
  have sl2 : ((sv + (1 : Int32)) + (1 : Int32)) < nv := (own_ltN sp2 hnv).mpr (by omega)
  have sl3 : (((sv + (1 : Int32)) + (1 : Int32)) + (1 : Int32)) < nv := (own_ltN sp3 hnv).mpr (by omega)
  refine own_st (T' := s₁) (g' := (mkF m 10 #[vr src, vi (sv + (1 : Int32)), vi nv, vr dst, vi dv, vi 1, .unset, .unset, .unset, .unset, .unset] [(.int sv), (.ref src)])) (fun t k => ?_) ?_
  ·refine XS.iloadN X0.here hx rfl (D d24_0) rfl ?_
   refine XS.iloadN X0.here hx rfl (D d24_1) rfl ?_
   refine XS.icmpNo X0.here hx rfl (D d24_2) rfl (tlt sl0).2.1 ?_
   refine XS.aloadN X0.here hx rfl (D d24_5) rfl rfl ?_
   refine XS.iloadN X0.here hx rfl (D d24_6) rfl ?_
   refine XS.iinc X0.here hx rfl (D d24_7) rfl (l' := #[vr src, vi (sv + (1 : Int32)), vi nv, vr dst, vi dv, vi 1, .unset, .unset, .unset, .unset, .unset]) rfl ?_
   exact k
  obtain ⟨cl76, Ar76, q76, S76, M76, H76, G76⟩ := id V_s
  refine own_st (T' := s₁) (g' := (mkF m 370 #[vr src, vi ((sv + (1 : Int32)) + (1 : Int32)), vi nv, vr dst, vi dv, vi 1, vi x0, .unset, .unset, .unset, .unset] [(.int (sv + (1 : Int32))), (.ref src)])) (fun t k => ?_) ?_
  ·refine X0.baloadBytes hx (j := sv) (v := (.int x0)) (by rw [e0]; exact Ar76.1) (State.isArrayOf_alike hZ.alike Ar76.2.1) Ar76.2.2 (inb_of S76 ⟨own_ge0 hsv, sl0⟩) (Has.at H76 (inb_of S76 ⟨own_ge0 hsv, sl0⟩) ((own_lget sl (sv).toNatClampNeg).trans (congrArg Value.int (own_rdL hsv (hb1 0 (by simp)))))) (g := (mkF m 10 #[vr src, vi (sv + (1 : Int32)), vi nv, vr dst, vi dv, vi 1, .unset, .unset, .unset, .unset, .unset] [(.int sv), (.ref src)])) rfl rfl (D d24_10) _ ?_
   refine XS.istore X0.here hx rfl (D d24_11) rfl (l' := #[vr src, vi (sv + (1 : Int32)), vi nv, vr dst, vi dv, vi 1, vi x0, .unset, .unset, .unset, .unset]) rfl ?_
   refine XS.iload X0.here hx rfl (D d24_13) rfl ?_
   refine XS.ifYes X0.here hx rfl (pc0 := 15) (pc' := 33) rfl (D d24_15) rfl ((if0 _ _).trans (tlt h2k.1).1) (by decide) (by decide) ?_
   refine XS.iload X0.here hx rfl (D d24_33) rfl ?_
   refine XS.iconst X0.here hx rfl (D d24_35) ?_
   refine XS.ishr X0.here hx rfl (D d24_36) rfl ?_
   refine XS.bipush X0.here hx rfl (D d24_37) ?_
   refine XS.icmpYes X0.here hx rfl (pc0 := 39) (pc' := 143) rfl (D d24_39) rfl (feq h2k.2.2.1).2 (by decide) (by decide) ?_
   refine XS.iload X0.here hx rfl (D d24_143) rfl ?_
   refine XS.iconst X0.here hx rfl (D d24_145) ?_
   refine XS.ishr X0.here hx rfl (D d24_146) rfl ?_
   refine XS.bipush X0.here hx rfl (D d24_147) ?_
   refine XS.icmpYes X0.here hx rfl (pc0 := 149) (pc' := 349) rfl (D d24_149) rfl (feq h2k.2.2.2.1).2 (by decide) (by decide) ?_
   refine XS.iload X0.here hx rfl (D d24_349) rfl ?_
   refine XS.iconst X0.here hx rfl (D d24_351) ?_
   refine XS.ishr X0.here hx rfl (D d24_352) rfl ?_
   refine XS.bipush X0.here hx rfl (D d24_353) ?_
   refine XS.icmpNo X0.here hx rfl (D d24_355) rfl (teq h2k.2.2.2.2.1).2 ?_
   refine XS.iloadN X0.here hx rfl (D d24_358) rfl ?_
   refine XS.iconst X0.here hx rfl (D d24_359) ?_
   refine XS.iadd X0.here hx rfl (D d24_360) rfl ?_
   refine XS.iloadN X0.here hx rfl (D d24_361) rfl ?_
   refine XS.icmpNo X0.here hx rfl (D d24_362) rfl (tlt ((own_ltN (own_add sp1 (show (2 : Int32).toInt = ((2 : Nat) : Int) from rfl) (by omega)) hnv).mpr (by omega))).2.1 ?_
   refine XS.aloadN X0.here hx rfl (D d24_365) rfl rfl ?_
   refine XS.iloadN X0.here hx rfl (D d24_366) rfl ?_
   refine XS.iinc X0.here hx rfl (D d24_367) rfl (l' := #[vr src, vi ((sv + (1 : Int32)) + (1 : Int32)), vi nv, vr dst, vi dv, vi 1, vi x0, .unset, .unset, .unset, .unset]) rfl ?_
   exact k
  obtain ⟨cl77, Ar77, q77, S77, M77, H77, G77⟩ := id V_s
  refine own_st (T' := s₁) (g' := (mkF m 378 #[vr src, vi (((sv + (1 : Int32)) + (1 : Int32)) + (1 : Int32)), vi nv, vr dst, vi dv, vi 1, vi x0, vi x1, .unset, .unset, .unset] [(.int ((sv + (1 : Int32)) + (1 : Int32))), (.ref src)])) (fun t k => ?_) ?_
  ·refine X0.baloadBytes hx (j := (sv + (1 : Int32))) (v := (.int x1)) (by rw [e0]; exact Ar77.1) (State.isArrayOf_alike hZ.alike Ar77.2.1) Ar77.2.2 (inb_of S77 ⟨own_ge0 sp1, sl1⟩) (Has.at H77 (inb_of S77 ⟨own_ge0 sp1, sl1⟩) ((own_lget sl ((sv + (1 : Int32))).toNatClampNeg).trans (congrArg Value.int (own_rdL sp1 (hb1 1 (by simp)))))) (g := (mkF m 370 #[vr src, vi ((sv + (1 : Int32)) + (1 : Int32)), vi nv, vr dst, vi dv, vi 1, vi x0, .unset, .unset, .unset, .unset] [(.int (sv + (1 : Int32))), (.ref src)])) rfl rfl (D d24_370) _ ?_
   refine XS.istore X0.here hx rfl (D d24_371) rfl (l' := #[vr src, vi ((sv + (1 : Int32)) + (1 : Int32)), vi nv, vr dst, vi dv, vi 1, vi x0, vi x1, .unset, .unset, .unset]) rfl ?_
   refine XS.aloadN X0.here hx rfl (D d24_373) rfl rfl ?_
   refine XS.iloadN X0.here hx rfl (D d24_374) rfl ?_
   refine XS.iinc X0.here hx rfl (D d24_375) rfl (l' := #[vr src, vi (((sv + (1 : Int32)) + (1 : Int32)) + (1 : Int32)), vi nv, vr dst, vi dv, vi 1, vi x0, vi x1, .unset, .unset, .unset]) rfl ?_
   exact k
  obtain ⟨cl78, Ar78, q78, S78, M78, H78, G78⟩ := id V_s
  refine own_st (T' := s₁) (g' := (mkF m 386 #[vr src, .val (.int ((((sv + (1 : Int32)) + (1 : Int32)) + (1 : Int32)) + (1 : Int32))), vi nv, vr dst, vi dv, vi 1, vi x0, vi x1, vi x2, .unset, .unset] [(.int (((sv + (1 : Int32)) + (1 : Int32)) + (1 : Int32))), (.ref src)])) (fun t k => ?_) ?_
  ·refine X0.baloadBytes hx (j := ((sv + (1 : Int32)) + (1 : Int32))) (v := (.int x2)) (by rw [e0]; exact Ar78.1) (State.isArrayOf_alike hZ.alike Ar78.2.1) Ar78.2.2 (inb_of S78 ⟨own_ge0 sp2, sl2⟩) (Has.at H78 (inb_of S78 ⟨own_ge0 sp2, sl2⟩) ((own_lget sl (((sv + (1 : Int32)) + (1 : Int32))).toNatClampNeg).trans (congrArg Value.int (own_rdL sp2 (hb1 2 (by simp)))))) (g := (mkF m 378 #[vr src, vi (((sv + (1 : Int32)) + (1 : Int32)) + (1 : Int32)), vi nv, vr dst, vi dv, vi 1, vi x0, vi x1, .unset, .unset, .unset] [(.int ((sv + (1 : Int32)) + (1 : Int32))), (.ref src)])) rfl rfl (D d24_378) _ ?_
   refine XS.istore X0.here hx rfl (D d24_379) rfl (l' := #[vr src, vi (((sv + (1 : Int32)) + (1 : Int32)) + (1 : Int32)), vi nv, vr dst, vi dv, vi 1, vi x0, vi x1, vi x2, .unset, .unset]) rfl ?_
   refine XS.aloadN X0.here hx rfl (D d24_381) rfl rfl ?_
   refine XS.iloadN X0.here hx rfl (D d24_382) rfl ?_
   refine XS.iinc X0.here hx rfl (D d24_383) rfl (l' := #[vr src, .val (.int ((((sv + (1 : Int32)) + (1 : Int32)) + (1 : Int32)) + (1 : Int32))), vi nv, vr dst, vi dv, vi 1, vi x0, vi x1, vi x2, .unset, .unset]) rfl ?_
   exact k
  obtain ⟨cl79, Ar79, q79, S79, M79, H79, G79⟩ := id V_s
  refine own_st (T' := s₁) (g' := (mkF m 397 #[vr src, .val (.int ((((sv + (1 : Int32)) + (1 : Int32)) + (1 : Int32)) + (1 : Int32))), vi nv, vr dst, vi dv, vi 1, vi x0, vi x1, vi x2, vi x3, .unset] [(.int x3), (.int x2), (.int x1), (.int x0)])) (fun t k => ?_) ?_
  ·refine X0.baloadBytes hx (j := (((sv + (1 : Int32)) + (1 : Int32)) + (1 : Int32))) (v := (.int x3)) (by rw [e0]; exact Ar79.1) (State.isArrayOf_alike hZ.alike Ar79.2.1) Ar79.2.2 (inb_of S79 ⟨own_ge0 sp3, sl3⟩) (Has.at H79 (inb_of S79 ⟨own_ge0 sp3, sl3⟩) ((own_lget sl ((((sv + (1 : Int32)) + (1 : Int32)) + (1 : Int32))).toNatClampNeg).trans (congrArg Value.int (own_rdL sp3 (hb1 3 (by simp)))))) (g := (mkF m 386 #[vr src, .val (.int ((((sv + (1 : Int32)) + (1 : Int32)) + (1 : Int32)) + (1 : Int32))), vi nv, vr dst, vi dv, vi 1, vi x0, vi x1, vi x2, .unset, .unset] [(.int (((sv + (1 : Int32)) + (1 : Int32)) + (1 : Int32))), (.ref src)])) rfl rfl (D d24_386) _ ?_
   refine XS.istore X0.here hx rfl (D d24_387) rfl (l' := #[vr src, .val (.int ((((sv + (1 : Int32)) + (1 : Int32)) + (1 : Int32)) + (1 : Int32))), vi nv, vr dst, vi dv, vi 1, vi x0, vi x1, vi x2, vi x3, .unset]) rfl ?_
   refine XS.iload X0.here hx rfl (D d24_389) rfl ?_
   refine XS.iload X0.here hx rfl (D d24_391) rfl ?_
   refine XS.iload X0.here hx rfl (D d24_393) rfl ?_
   refine XS.iload X0.here hx rfl (D d24_395) rfl ?_
   exact k
  obtain ⟨_, _, ⟨T80, L80, c80, n80⟩, -, X80, ⟨Lc80, hQ80, l80, y80, z80⟩, st80⟩ := Jvm.LawKit.callS X0 hx (y := own_y20) hown (om hZ hw 188 rfl) (om hZ hw 189 rfl) (om hZ hw 42 rfl) (om hZ hw 190 rfl) (by decide) (backOf (W := 0) (own_rm38 l Z a0 hw x0 x1 x2 x3 cs fm u8 h0 n0 Z0 O0 HB) hZ (own_w hw 190 rfl) (own_w hw 42 rfl) (by decide) (by decide)) (g := (mkF m 397 #[vr src, .val (.int ((((sv + (1 : Int32)) + (1 : Int32)) + (1 : Int32)) + (1 : Int32))), vi nv, vr dst, vi dv, vi 1, vi x0, vi x1, vi x2, vi x3, .unset] [(.int x3), (.int x2), (.int x1), (.int x0)])) rfl (by rw [hml]; rfl) (argsL := [(.int x0), (.int x1), (.int x2), (.int x3)]) (rest := []) (lenOf own_pd16 rfl) rfl own_w0 (D d24_397) (fun _ _ => ⟨rfl, e0, (by decide : 0 + 0 ≤ _), (by decide : 0 + 0 ≤ _)⟩)
  dsimp only [Pt.U, Pt.locs, Pt.cells, Pt.slots] at X80 l80 y80 z80 st80 hQ80
  subst l80 y80 z80
  obtain ⟨rfl, N80q, e80⟩ := hQ80
  have N80 := Fr.app N0 N80q
  refine own_st (g' := (mkF m 400 #[vr src, .val (.int ((((sv + (1 : Int32)) + (1 : Int32)) + (1 : Int32)) + (1 : Int32))), vi nv, vr dst, vi dv, vi 1, vi x0, vi x1, vi x2, vi x3, .unset] [(.int (own_d4 x0 x1 x2 x3))])) st80 ?_
  refine own_st (T' := T80) (g' := (mkF m 408 #[vr src, .val (.int ((((sv + (1 : Int32)) + (1 : Int32)) + (1 : Int32)) + (1 : Int32))), vi nv, vr dst, vi dv, vi 1, vi x0, vi x1, vi x2, vi x3, vi (own_d4 x0 x1 x2 x3)] [(.int x3), (.int x2), (.int x1)])) (fun t k => ?_) ?_
  ·refine XS.istore X80.here hx rfl (D d24_400) rfl (l' := #[vr src, .val (.int ((((sv + (1 : Int32)) + (1 : Int32)) + (1 : Int32)) + (1 : Int32))), vi nv, vr dst, vi dv, vi 1, vi x0, vi x1, vi x2, vi x3, vi (own_d4 x0 x1 x2 x3)]) rfl ?_
   refine XS.iload X80.here hx rfl (D d24_402) rfl ?_
   refine XS.iload X80.here hx rfl (D d24_404) rfl ?_
   refine XS.iload X80.here hx rfl (D d24_406) rfl ?_
   exact k
  obtain ⟨_, _, ⟨T81, L81, c81, n81⟩, -, X81, ⟨Lc81, hQ81, l81, y81, z81⟩, st81⟩ := Jvm.LawKit.callS X80 hx (y := own_y23) hown (om hZ hw 192 rfl) (om hZ hw 193 rfl) (om hZ hw 42 rfl) (om hZ hw 194 rfl) (by decide) (backOf (W := 0) (own_rm39 l Z a0 hw x1 x2 x3 cs fm u8 h0 n0 Z0 O0 h2k.2.2.2.2.2.1 h2k.2.2.2.2.2.2.1 h2k.2.2.2.2.2.2.2.1 HB) hZ (own_w hw 194 rfl) (own_w hw 42 rfl) (by decide) (by decide)) (g := (mkF m 408 #[vr src, .val (.int ((((sv + (1 : Int32)) + (1 : Int32)) + (1 : Int32)) + (1 : Int32))), vi nv, vr dst, vi dv, vi 1, vi x0, vi x1, vi x2, vi x3, vi (own_d4 x0 x1 x2 x3)] [(.int x3), (.int x2), (.int x1)])) rfl (by rw [hml]; rfl) (argsL := [(.int x1), (.int x2), (.int x3)]) (rest := []) (lenOf own_pd13 rfl) rfl own_w0 (D d24_408) (fun _ _ => ⟨rfl, e80, (by decide : 0 + 0 ≤ _), (by decide : 0 + 0 ≤ _)⟩)
  dsimp only [Pt.U, Pt.locs, Pt.cells, Pt.slots] at X81 l81 y81 z81 st81 hQ81
  subst l81 y81 z81
  obtain ⟨rfl, N81q, e81⟩ := hQ81
  have N81 := Fr.app N80 N81q
  refine own_st (g' := (mkF m 411 #[vr src, .val (.int ((((sv + (1 : Int32)) + (1 : Int32)) + (1 : Int32)) + (1 : Int32))), vi nv, vr dst, vi dv, vi 1, vi x0, vi x1, vi x2, vi x3, vi (own_d4 x0 x1 x2 x3)] [(.int 0)])) st81 ?_
  refine own_st (T' := T81) (g' := (mkF m 416 #[vr src, .val (.int ((((sv + (1 : Int32)) + (1 : Int32)) + (1 : Int32)) + (1 : Int32))), vi nv, vr dst, vi dv, vi 1, vi x0, vi x1, vi x2, vi x3, vi (own_d4 x0 x1 x2 x3)] [(.int (own_d4 x0 x1 x2 x3))])) (fun t k => ?_) ?_
  ·refine XS.ifNo X81.here hx rfl (D d24_411) rfl ((if0 _ _).trans (teq (rfl : (0 : Int32) = (0 : Int32))).2) ?_
   refine XS.iload X81.here hx rfl (D d24_414) rfl ?_
   exact k
  obtain ⟨_, _, ⟨T82, L82, c82, n82⟩, -, X82, ⟨Lc82, hQ82, l82, y82, z82⟩, st82⟩ := Jvm.LawKit.callS X81 hx (y := own_y25) hown (om hZ hw 195 rfl) (om hZ hw 196 rfl) (om hZ hw 135 rfl) (om hZ hw 197 rfl) (by decide) (backOf (W := 0) (own_rm40 l Z a0 hw (own_d4 x0 x1 x2 x3) cs fm u8 h0 n0 Z0 O0 h2k.2.2.2.2.2.2.2.2.1 h2k.2.2.2.2.2.2.2.2.2 HB) hZ (own_w hw 197 rfl) (own_w hw 135 rfl) (by decide) (by decide)) (g := (mkF m 416 #[vr src, .val (.int ((((sv + (1 : Int32)) + (1 : Int32)) + (1 : Int32)) + (1 : Int32))), vi nv, vr dst, vi dv, vi 1, vi x0, vi x1, vi x2, vi x3, vi (own_d4 x0 x1 x2 x3)] [(.int (own_d4 x0 x1 x2 x3))])) rfl (by rw [hml]; rfl) (argsL := [(.int (own_d4 x0 x1 x2 x3))]) (rest := []) (lenOf own_pd11 rfl) rfl own_w0 (D d24_416) (fun _ _ => ⟨rfl, e81, (by decide : 0 + 0 ≤ _), (by decide : 0 + 0 ≤ _)⟩)
  dsimp only [Pt.U, Pt.locs, Pt.cells, Pt.slots] at X82 l82 y82 z82 st82 hQ82
  subst l82 y82 z82
  obtain ⟨rfl, N82q, e82⟩ := hQ82
  have N82 := Fr.app N81 N82q
  refine own_st (g' := (mkF m 419 #[vr src, .val (.int ((((sv + (1 : Int32)) + (1 : Int32)) + (1 : Int32)) + (1 : Int32))), vi nv, vr dst, vi dv, vi 1, vi x0, vi x1, vi x2, vi x3, vi (own_d4 x0 x1 x2 x3)] [(.int 1)])) st82 ?_
  refine own_st (T' := T82) (g' := (mkF m 467 #[vr src, .val (.int ((((sv + (1 : Int32)) + (1 : Int32)) + (1 : Int32)) + (1 : Int32))), vi nv, vr dst, vi (dv + (1 : Int32)), vi 1, vi x0, vi x1, vi x2, vi x3, vi (own_d4 x0 x1 x2 x3)] [(.int (own_d4 x0 x1 x2 x3)), (.int dv), (.ref dst)])) (fun t k => ?_) ?_
  ·refine XS.ifYes X82.here hx rfl (pc0 := 419) (pc' := 459) rfl (D d24_419) rfl ((if0 _ _).trans (feq (by decide : ¬ ((1 : Int32) = (0 : Int32)))).2) (by decide) (by decide) ?_
   refine XS.aloadN X82.here hx rfl (D d24_459) rfl rfl ?_
   refine XS.iload X82.here hx rfl (D d24_460) rfl ?_
   refine XS.iinc X82.here hx rfl (D d24_462) rfl (l' := #[vr src, .val (.int ((((sv + (1 : Int32)) + (1 : Int32)) + (1 : Int32)) + (1 : Int32))), vi nv, vr dst, vi (dv + (1 : Int32)), vi 1, vi x0, vi x1, vi x2, vi x3, vi (own_d4 x0 x1 x2 x3)]) rfl ?_
   refine XS.iload X82.here hx rfl (D d24_465) rfl ?_
   exact k
  obtain ⟨_, _, ⟨T83, L83, c83, n83⟩, -, X83, ⟨Lc83, hQ83, l83, y83, z83⟩, st83⟩ := Jvm.LawKit.callS X82 hx (y := own_y26) hown (om hZ hw 200 rfl) (om hZ hw 201 rfl) (om hZ hw 135 rfl) (om hZ hw 202 rfl) (by decide) (backOf (W := 2) (own_rm41 l Z a0 hw (own_d4 x0 x1 x2 x3) cs fm u8 h0 n0 Z0 O0 HB) hZ (own_w hw 202 rfl) (own_w hw 135 rfl) (by decide) (by decide)) (g := (mkF m 467 #[vr src, .val (.int ((((sv + (1 : Int32)) + (1 : Int32)) + (1 : Int32)) + (1 : Int32))), vi nv, vr dst, vi (dv + (1 : Int32)), vi 1, vi x0, vi x1, vi x2, vi x3, vi (own_d4 x0 x1 x2 x3)] [(.int (own_d4 x0 x1 x2 x3)), (.int dv), (.ref dst)])) rfl (by rw [hml]; rfl) (argsL := [(.int (own_d4 x0 x1 x2 x3))]) (rest := [(.int dv), (.ref dst)]) (lenOf own_pd17 rfl) rfl own_w0 (D d24_467) (fun _ _ => ⟨rfl, e82, (by decide : 0 + 0 ≤ _), (by decide : 0 + 0 ≤ _)⟩)
  dsimp only [Pt.U, Pt.locs, Pt.cells, Pt.slots] at X83 l83 y83 z83 st83 hQ83
  subst l83 y83 z83
  obtain ⟨rfl, N83q, e83⟩ := hQ83
  have N83 := Fr.app N82 N83q
  refine own_st (g' := (mkF m 470 #[vr src, .val (.int ((((sv + (1 : Int32)) + (1 : Int32)) + (1 : Int32)) + (1 : Int32))), vi nv, vr dst, vi (dv + (1 : Int32)), vi 1, vi x0, vi x1, vi x2, vi x3, vi (own_d4 x0 x1 x2 x3)] [(.int (own_hs (own_d4 x0 x1 x2 x3))), (.int dv), (.ref dst)])) st83 ?_
  obtain ⟨_, _, ⟨T84, L84, c84, n84⟩, -, X84, ⟨Lc84, hQ84, l84, y84, z84⟩, st84⟩ := Jvm.LawKit.callS X83 hx (y := own_y14) hown (om hZ hw 139 rfl) (om hZ hw 118 rfl) (om hZ hw 97 rfl) (om hZ hw 119 rfl) (by decide) (backOf (W := 0) (own_rm23 l Z a0 hw dst kd dl zz zn dv (own_hs (own_d4 x0 x1 x2 x3)) dn cs fm u8 h0 n0 Z0 O0 V_d hzz hdl g_d hdv (by omega) hz16 HB) hZ (own_w hw 119 rfl) (own_w hw 97 rfl) (by decide) (by decide)) (g := (mkF m 470 #[vr src, .val (.int ((((sv + (1 : Int32)) + (1 : Int32)) + (1 : Int32)) + (1 : Int32))), vi nv, vr dst, vi (dv + (1 : Int32)), vi 1, vi x0, vi x1, vi x2, vi x3, vi (own_d4 x0 x1 x2 x3)] [(.int (own_hs (own_d4 x0 x1 x2 x3))), (.int dv), (.ref dst)])) rfl (by rw [hml]; rfl) (argsL := [(.ref dst), (.int dv), (.int (own_hs (own_d4 x0 x1 x2 x3)))]) (rest := []) (lenOf own_pd9 rfl) rfl own_w0 (D d24_470) (fun _ _ => ⟨rfl, e83, (by decide : 0 + 0 ≤ _), (by decide : 0 + 0 ≤ _)⟩)
  dsimp only [Pt.U, Pt.locs, Pt.cells, Pt.slots] at X84 l84 y84 z84 st84 hQ84
  subst l84 y84 z84
  obtain ⟨h84, e84⟩ : ∃ z, T84.heap = z := ⟨_, rfl⟩
  rw [e84] at hQ84
  obtain ⟨rfl, N84q, Kc84, Vc84⟩ := hQ84
  have N84 := Fr.app N83 N84q
  have K84 : Keep h0 h84 [dst] := (Keep.refl h0 [dst]).trans Kc84 (allS (Or.inl (List.mem_of_getElem? (i := 0) rfl)) all0)
  have Z84 : n0 ≤ h84.size := Nat.le_trans Z0 Kc84.1
  have O84 := O0.keep Kc84 (allS g_d all0)
  refine own_st (g' := (mkF m 473 #[vr src, .val (.int ((((sv + (1 : Int32)) + (1 : Int32)) + (1 : Int32)) + (1 : Int32))), vi nv, vr dst, vi (dv + (1 : Int32)), vi 1, vi x0, vi x1, vi x2, vi x3, vi (own_d4 x0 x1 x2 x3)] [])) st84 ?_
  refine own_st (T' := T84) (g' := (mkF m 481 #[vr src, .val (.int ((((sv + (1 : Int32)) + (1 : Int32)) + (1 : Int32)) + (1 : Int32))), vi nv, vr dst, vi ((dv + (1 : Int32)) + (1 : Int32)), vi 1, vi x0, vi x1, vi x2, vi x3, vi (own_d4 x0 x1 x2 x3)] [(.int (own_d4 x0 x1 x2 x3)), (.int (dv + (1 : Int32))), (.ref dst)])) (fun t k => ?_) ?_
  ·refine XS.aloadN X84.here hx rfl (D d24_473) rfl rfl ?_
   refine XS.iload X84.here hx rfl (D d24_474) rfl ?_
   refine XS.iinc X84.here hx rfl (D d24_476) rfl (l' := #[vr src, .val (.int ((((sv + (1 : Int32)) + (1 : Int32)) + (1 : Int32)) + (1 : Int32))), vi nv, vr dst, vi ((dv + (1 : Int32)) + (1 : Int32)), vi 1, vi x0, vi x1, vi x2, vi x3, vi (own_d4 x0 x1 x2 x3)]) rfl ?_
   refine XS.iload X84.here hx rfl (D d24_479) rfl ?_
   exact k
  obtain ⟨_, _, ⟨T85, L85, c85, n85⟩, -, X85, ⟨Lc85, hQ85, l85, y85, z85⟩, st85⟩ := Jvm.LawKit.callS X84 hx (y := own_y27) hown (om hZ hw 204 rfl) (om hZ hw 205 rfl) (om hZ hw 135 rfl) (om hZ hw 206 rfl) (by decide) (backOf (W := 2) (own_rm42 l Z a0 hw (own_d4 x0 x1 x2 x3) cs fm u8 h84 n0 Z84 O84 HB) hZ (own_w hw 206 rfl) (own_w hw 135 rfl) (by decide) (by decide)) (g := (mkF m 481 #[vr src, .val (.int ((((sv + (1 : Int32)) + (1 : Int32)) + (1 : Int32)) + (1 : Int32))), vi nv, vr dst, vi ((dv + (1 : Int32)) + (1 : Int32)), vi 1, vi x0, vi x1, vi x2, vi x3, vi (own_d4 x0 x1 x2 x3)] [(.int (own_d4 x0 x1 x2 x3)), (.int (dv + (1 : Int32))), (.ref dst)])) rfl (by rw [hml]; rfl) (argsL := [(.int (own_d4 x0 x1 x2 x3))]) (rest := [(.int (dv + (1 : Int32))), (.ref dst)]) (lenOf own_pd17 rfl) rfl own_w0 (D d24_481) (fun _ _ => ⟨rfl, e84, (by decide : 0 + 0 ≤ _), (by decide : 0 + 0 ≤ _)⟩)
  dsimp only [Pt.U, Pt.locs, Pt.cells, Pt.slots] at X85 l85 y85 z85 st85 hQ85
  subst l85 y85 z85
  obtain ⟨rfl, N85q, e85⟩ := hQ85
  have N85 := Fr.app N84 N85q
  refine own_st (g' := (mkF m 484 #[vr src, .val (.int ((((sv + (1 : Int32)) + (1 : Int32)) + (1 : Int32)) + (1 : Int32))), vi nv, vr dst, vi ((dv + (1 : Int32)) + (1 : Int32)), vi 1, vi x0, vi x1, vi x2, vi x3, vi (own_d4 x0 x1 x2 x3)] [(.int (own_ls (own_d4 x0 x1 x2 x3))), (.int (dv + (1 : Int32))), (.ref dst)])) st85 ?_
  obtain ⟨_, _, ⟨T86, L86, c86, n86⟩, -, X86, ⟨Lc86, hQ86, l86, y86, z86⟩, st86⟩ := Jvm.LawKit.callS X85 hx (y := own_y14) hown (om hZ hw 139 rfl) (om hZ hw 118 rfl) (om hZ hw 97 rfl) (om hZ hw 119 rfl) (by decide) (backOf (W := 0) (own_rm23 l Z a0 hw dst kd (own_wrl dl (2 * dn) [own_LO (own_hs (own_d4 x0 x1 x2 x3)), own_HI (own_hs (own_d4 x0 x1 x2 x3))]) zz zn (dv + (1 : Int32)) (own_ls (own_d4 x0 x1 x2 x3)) (dn + 1) cs fm u8 h84 n0 Z84 O84 Vc84 hzz (by rw [own_wrl_len]; exact hdl) g_d dp1 (by omega) hz16 HB) hZ (own_w hw 119 rfl) (own_w hw 97 rfl) (by decide) (by decide)) (g := (mkF m 484 #[vr src, .val (.int ((((sv + (1 : Int32)) + (1 : Int32)) + (1 : Int32)) + (1 : Int32))), vi nv, vr dst, vi ((dv + (1 : Int32)) + (1 : Int32)), vi 1, vi x0, vi x1, vi x2, vi x3, vi (own_d4 x0 x1 x2 x3)] [(.int (own_ls (own_d4 x0 x1 x2 x3))), (.int (dv + (1 : Int32))), (.ref dst)])) rfl (by rw [hml]; rfl) (argsL := [(.ref dst), (.int (dv + (1 : Int32))), (.int (own_ls (own_d4 x0 x1 x2 x3)))]) (rest := []) (lenOf own_pd9 rfl) rfl own_w0 (D d24_484) (fun _ _ => ⟨rfl, e85, (by decide : 0 + 0 ≤ _), (by decide : 0 + 0 ≤ _)⟩)
  dsimp only [Pt.U, Pt.locs, Pt.cells, Pt.slots] at X86 l86 y86 z86 st86 hQ86
  subst l86 y86 z86
  obtain ⟨h86, e86⟩ : ∃ z, T86.heap = z := ⟨_, rfl⟩
  rw [e86] at hQ86
  obtain ⟨rfl, N86q, Kc86, Vc86⟩ := hQ86
  have N86 := Fr.app N85 N86q
  have K86 : Keep h0 h86 [dst] := K84.trans Kc86 (allS (Or.inl (List.mem_of_getElem? (i := 0) rfl)) all0)
  have Z86 : n0 ≤ h86.size := Nat.le_trans Z84 Kc86.1
  have O86 := O84.keep Kc86 (allS g_d all0)
  refine own_st (g' := (mkF m 487 #[vr src, .val (.int ((((sv + (1 : Int32)) + (1 : Int32)) + (1 : Int32)) + (1 : Int32))), vi nv, vr dst, vi ((dv + (1 : Int32)) + (1 : Int32)), vi 1, vi x0, vi x1, vi x2, vi x3, vi (own_d4 x0 x1 x2 x3)] [])) st86 ?_
  refine own_st (T' := T86) (g' := (mkF m 0 #[vr src, .val (.int ((((sv + (1 : Int32)) + (1 : Int32)) + (1 : Int32)) + (1 : Int32))), vi nv, vr dst, vi ((dv + (1 : Int32)) + (1 : Int32)), vi 1, vi x0, vi x1, vi x2, vi x3, vi (own_d4 x0 x1 x2 x3)] [])) (fun t k => ?_) ?_
  ·refine XS.goto X86.here hx rfl (pc0 := 487) (pc' := 0) rfl (D d24_487) (by decide) (by decide) ?_
   exact k
  rcases ht2 with ⟨rfl, rfl⟩ | ho2
  ·have hnn2 : sn + 4 = nn := hnn
   refine own_st (T' := T86) (g' := (mkF m 623 #[vr src, .val (.int ((((sv + (1 : Int32)) + (1 : Int32)) + (1 : Int32)) + (1 : Int32))), vi nv, vr dst, vi ((dv + (1 : Int32)) + (1 : Int32)), vi 1, vi x0, vi x1, vi x2, vi x3, vi (own_d4 x0 x1 x2 x3)] [(.int ((dv + (1 : Int32)) + (1 : Int32)))])) (fun t k => ?_) ?_
   ·refine XS.iloadN X86.here hx rfl (D d24_0) rfl ?_
    refine XS.iloadN X86.here hx rfl (D d24_1) rfl ?_
    refine XS.icmpYes X86.here hx rfl (pc0 := 2) (pc' := 621) rfl (D d24_2) rfl (flt (fun q => absurd ((own_ltN sp4 hnv).mp q) (by omega))).2.1 (by decide) (by decide) ?_
    refine XS.iload X86.here hx rfl (D d24_621) rfl ?_
    exact k
   exact own_retI X86 hx Bd (D d24_623) e86 (⟨congrArg (fun z => some (Value.int z)) (own_ofN (n := dn + 1 + 1) dp2), N86, K86, (own_wf Vc86)⟩) (by decide) (by decide)
  ·have f87 := (V_s.keep Kc84 (ninS nsd nin0)).keep Kc86 (ninS nsd nin0)
   exact J x0 x1 ((((sv + (1 : Int32)) + (1 : Int32)) + (1 : Int32)) + (1 : Int32)) ((dv + (1 : Int32)) + (1 : Int32)) (vi x2) (vi x3) (vi (own_d4 x0 x1 x2 x3)) (sn + 4) (dn + 2) b2 h2 _ _ (Or.inr (Or.inr ⟨_, _, _, rfl, rfl, rfl⟩)) (by have q := sp4; exact q) (by have q := dp2; exact q) hb2 (by omega) (by omega) ho2 (by rw [own_wrl_len, own_wrl_len]; exact hdl) f87 Vc86 K86 O86 Z86 (own_wcat2 _ _ _ _ _) (by simp only [List.length_append, List.length_cons, List.length_nil]; omega) T86 _ X86 N86 e86
def own_r11 : Room := { frames := 5, cells := 3, slots := 32, locals := 76 }
def own_Q11 (Z : State) (b : Addr) (arr : Addr) (ka : ClassId) (bl sg : List Int32) (st : Int32) (pn : Nat) (ch : List Int32) (ln : Int32) (cs : Int32) (fm : Value) (u8 : Addr) (h0 : Heap) (n0 : Nat) : Option Value → Heap → List Loc → Prop := fun v h L => own_SQ Z b ch h0 n0 v h L
theorem own_rm11 (l : Launch) (Z : State) (a0 : Array Value) (hw : own_W a0 Z) (b : Addr) (arr : Addr) (ka : ClassId) (bl sg : List Int32) (st : Int32) (pn : Nat) (ch : List Int32) (ln : Int32) (cs : Int32) (fm : Value) (u8 : Addr) (h0 : Heap) (n0 : Nat) (Z0 : n0 ≤ h0.size) (O0 : Old Z n0 h0) (E_b : Exa Z h0 b "java/lang/String") (F_v : Fld Z h0 b "java/lang/String" "value" "[B" .null) (F_c : Fld Z h0 b "java/lang/String" "coder" "B" (.int 0)) (g_b : n0 ≤ b) (V_a : Arv Z h0 arr ka .byte (16 : Int32) (bl.map Value.int) (.int 0)) (hst : st.toInt = (pn : Int)) (hsg : own_seg bl pn sg) (hln : ln.toInt = (sg.length : Int)) (nba : b ≠ arr) (hrl : own_rel sg ch) (HB : own_BB Z cs fm u8) :
  own_MF l Z own_y29 (Jvm.Cond.codeWith own_y29 jdk_42_method_11_code 11 none [((800 : Nat), (813 : Nat), (816 : Nat), (202 : Nat))]) [] own_r11 #[(.ref b), (.ref u8), (.ref arr), (.int st), (.int ln)] h0 (own_Q11 Z b arr ka bl sg st pn ch ln cs fm u8 h0 n0) := by
 refine own_open (plainFor_of_name own_pn1) hisWith (Ls := #[vr b, vr u8, vr arr, vi st, vi ln, .unset, .unset, .unset, .unset, .unset, .unset]) ?_
 intro p e s m below meth c s₁ Bd hZ hx hby hml hown X0 e0
 obtain ⟨hcs, -, S_cs, -, -, -, -, -, S_ui, E_u8⟩ := id HB
 have N0 := Fr.nil n0
 have D := @hb _ _ hby
 have hnm := (name_of_methodNamed Bd.named Bd.method).1
 have hg8 := hsg.2.2.1
 have hg1 := (own_rel_l hrl).1
 have hch := (own_rel_l hrl).2.2.2
 refine own_st (T' := s₁) (g' := (mkF m 1 #[vr b, vr u8, vr arr, vi st, vi ln, .unset, .unset, .unset, .unset, .unset, .unset] [(.ref b)])) (fun t k => ?_) ?_
 ·refine XS.aloadN X0.here hx rfl (D d11_0) rfl rfl ?_
  exact k
 obtain ⟨T1, X1, e1, st1⟩ := initO X0 hx hZ hown (own_w hw 69 rfl) (own_w hw 21 rfl) (own_w hw 22 rfl) e0 (g := (mkF m 1 #[vr b, vr u8, vr arr, vi st, vi ln, .unset, .unset, .unset, .unset, .unset, .unset] [(.ref b)])) rfl (by rw [hml]; rfl) rfl (D d11_1) (by decide) (W := 0) own_w0 (by decide)
 refine own_st (g' := (mkF m 4 #[vr b, vr u8, vr arr, vi st, vi ln, .unset, .unset, .unset, .unset, .unset, .unset] [])) st1 ?_
 refine own_st (T' := T1) (g' := (mkF m 31 #[vr b, vr u8, vr arr, vi st, vi ln, .unset, .unset, .unset, .unset, .unset, .unset] [(.ref u8)])) (fun t k => ?_) ?_
 ·refine XS.iload X1.here hx rfl (D d11_4) rfl ?_
  refine XS.ifYes X1.here hx rfl (pc0 := 6) (pc' := 30) rfl (D d11_6) rfl ((if0 _ _).trans (feq (own_neN hln (show (0 : Int32).toInt = ((0 : Nat) : Int) from rfl) (by omega))).2) (by decide) (by decide) ?_
  refine XS.aloadN X1.here hx rfl (D d11_30) rfl rfl ?_
  exact k
 have f2 := S_ui.ext O0.2
 obtain ⟨T3, X3, e3, st3⟩ := getS2 X1 hx hZ hown (host := "") (Or.inl (own_w hw 70 rfl)) Via.refl e1 f2 (g := (mkF m 31 #[vr b, vr u8, vr arr, vi st, vi ln, .unset, .unset, .unset, .unset, .unset, .unset] [(.ref u8)])) rfl (D d11_31)
 refine own_st (g' := (mkF m 34 #[vr b, vr u8, vr arr, vi st, vi ln, .unset, .unset, .unset, .unset, .unset, .unset] [(.ref u8), (.ref u8)])) st3 ?_
 refine own_st (T' := T3) (g' := (mkF m 37 #[vr b, vr u8, vr arr, vi st, vi ln, .unset, .unset, .unset, .unset, .unset, .unset] [])) (fun t k => ?_) ?_
 ·refine Jvm.RoadKit.acmp (g := (mkF m 34 #[vr b, vr u8, vr arr, vi st, vi ln, .unset, .unset, .unset, .unset, .unset, .unset] [(.ref u8), (.ref u8)])) X3 hx rfl rfl rfl (pc0 := 34) (pc' := 37) (same := true) rfl (D d11_34) rfl (decide_eq_true (congrArg Value.ref (rfl : u8 = u8))) (by decide) (by decide) ?_
  exact k
 have f4 := S_cs.ext O0.2
 obtain ⟨T5, X5, e5, st5⟩ := getS2 X3 hx hZ hown (host := "") (Or.inl (own_w hw 72 rfl)) Via.refl e3 f4 (g := (mkF m 37 #[vr b, vr u8, vr arr, vi st, vi ln, .unset, .unset, .unset, .unset, .unset, .unset] [])) rfl (D d11_37)
 refine own_st (g' := (mkF m 40 #[vr b, vr u8, vr arr, vi st, vi ln, .unset, .unset, .unset, .unset, .unset, .unset] [(.int cs)])) st5 ?_
 refine own_st (T' := T5) (g' := (mkF m 47 #[vr b, vr u8, vr arr, vi st, vi ln, .unset, .unset, .unset, .unset, .unset, .unset] [(.int ln), (.int st), (.ref arr)])) (fun t k => ?_) ?_
 ·refine XS.ifNo X5.here hx rfl (D d11_40) rfl ((if0 _ _).trans (feq hcs).1) ?_
  refine XS.aloadN X5.here hx rfl (D d11_43) rfl rfl ?_
  refine XS.iloadN X5.here hx rfl (D d11_44) rfl ?_
  refine XS.iload X5.here hx rfl (D d11_45) rfl ?_
  exact k
 rcases own_11 hrl with ⟨x0, hk0, rfl, rfl⟩ | ⟨x0, x1, hk0, hk1, rfl, rfl⟩ | ⟨x0, x1, hk0, hl0, rfl, rfl⟩ | ⟨x0, x1, x2, hk0, hk1, hl1, rfl, rfl⟩ | ⟨x0, x1, x2, hk0, hl0, hk2, rfl, rfl⟩ | ⟨x0, x1, x2, x3, hk0, hl0, hk2, hl2, rfl, rfl⟩ | ⟨x0, rr, hx0, hnl, hu, rfl⟩ | ⟨x0, x1, rr, hc, hk0, hx0, hnl, hu, rfl, rfl⟩ | ⟨x0, x1, x2, rr, hc, hk0, hl0, hx0, hnl, hu, rfl, rfl⟩
 ·obtain rfl : ln = (1 : Int32) := own_ofN hln
  obtain ⟨_, _, ⟨T6, L6, c6, n6⟩, -, X6, ⟨Lc6, hQ6, l6, y6, z6⟩, st6⟩ := Jvm.LawKit.callS X5 hx (y := own_y6) hown (om hZ hw 73 rfl) (om hZ hw 74 rfl) (om hZ hw 75 rfl) (om hZ hw 76 rfl) (by decide) (backOf (W := 0) (own_rm12a1 l Z a0 hw arr ka bl [x0] st pn cs fm u8 h0 n0 Z0 O0 V_a hst hsg rfl (own_asc_n hk0) HB) hZ (own_w hw 76 rfl) (own_w hw 75 rfl) (by decide) (by decide)) (g := (mkF m 47 #[vr b, vr u8, vr arr, vi st, vi 1, .unset, .unset, .unset, .unset, .unset, .unset] [(.int 1), (.int st), (.ref arr)])) rfl (by rw [hml]; rfl) (argsL := [(.ref arr), (.int st), (.int 1)]) (rest := []) (lenOf own_pd18 rfl) rfl own_w0 (D d11_47) (fun _ _ => ⟨rfl, e5, (by decide : 0 + 0 ≤ _), (by decide : 0 + 0 ≤ _)⟩)
  dsimp only [Pt.U, Pt.locs, Pt.cells, Pt.slots] at X6 l6 y6 z6 st6 hQ6
  subst l6 y6 z6
  obtain ⟨rfl, N6q, e6⟩ := hQ6
  have N6 := Fr.app N0 N6q
  refine own_st (g' := (mkF m 50 #[vr b, vr u8, vr arr, vi st, vi 1, .unset, .unset, .unset, .unset, .unset, .unset] [(.int 1)])) st6 ?_
  refine own_st (T' := T6) (g' := (mkF m 66 #[vr b, vr u8, vr arr, vi st, vi 1, vi 1, .unset, .unset, .unset, .unset, .unset] [(.int (st + (1 : Int32))), (.int st), (.ref arr), (.ref b)])) (fun t k => ?_) ?_
  ·refine XS.istore X6.here hx rfl (D d11_50) rfl (l' := #[vr b, vr u8, vr arr, vi st, vi 1, vi 1, .unset, .unset, .unset, .unset, .unset]) rfl ?_
   refine XS.iload X6.here hx rfl (D d11_52) rfl ?_
   refine XS.iload X6.here hx rfl (D d11_54) rfl ?_
   refine XS.icmpNo X6.here hx rfl (D d11_56) rfl (teq (rfl : (1 : Int32) = (1 : Int32))).2 ?_
   refine XS.aloadN X6.here hx rfl (D d11_59) rfl rfl ?_
   refine XS.aloadN X6.here hx rfl (D d11_60) rfl rfl ?_
   refine XS.iloadN X6.here hx rfl (D d11_61) rfl ?_
   refine XS.iloadN X6.here hx rfl (D d11_62) rfl ?_
   refine XS.iload X6.here hx rfl (D d11_63) rfl ?_
   refine XS.iadd X6.here hx rfl (D d11_65) rfl ?_
   exact k
  obtain ⟨_, _, ⟨T7, L7, c7, n7⟩, -, X7, ⟨Lc7, hQ7, l7, y7, z7⟩, st7⟩ := Jvm.LawKit.callS X6 hx (y := own_y9) hown (om hZ hw 77 rfl) (om hZ hw 78 rfl) (om hZ hw 79 rfl) (om hZ hw 80 rfl) (by decide) (backOf (W := 1) (own_rm13 l Z a0 hw arr ka bl [x0] st pn (1 : Int32) cs fm u8 h0 n0 Z0 O0 V_a hst hsg rfl HB) hZ (own_w hw 80 rfl) (own_w hw 79 rfl) (by decide) (by decide)) (g := (mkF m 66 #[vr b, vr u8, vr arr, vi st, vi 1, vi 1, .unset, .unset, .unset, .unset, .unset] [(.int (st + (1 : Int32))), (.int st), (.ref arr), (.ref b)])) rfl (by rw [hml]; rfl) (argsL := [(.ref arr), (.int st), (.int (st + (1 : Int32)))]) (rest := [(.ref b)]) (lenOf own_pd4 rfl) rfl own_w0 (D d11_66) (fun _ _ => ⟨rfl, e6, (by decide : 0 + 1 ≤ _), (by decide : 0 + 8 ≤ _)⟩)
  dsimp only [Pt.U, Pt.locs, Pt.cells, Pt.slots] at X7 l7 y7 z7 st7 hQ7
  subst l7 y7 z7
  obtain ⟨h7, e7⟩ : ∃ z, T7.heap = z := ⟨_, rfl⟩
  rw [e7] at hQ7
  obtain ⟨r7, k7, rfl, N7q, Kc7, g7, hz7, Vc7⟩ := hQ7
  have N7 := Fr.app N6 N7q
  have ne_b_r7 : b ≠ r7 := Nat.ne_of_lt (Nat.lt_of_lt_of_le E_b.lt hz7)
  have ne_arr_r7 : arr ≠ r7 := Nat.ne_of_lt (Nat.lt_of_lt_of_le V_a.lt hz7)
  have f8 := E_u8.ext O0.2
  have ne_u8_r7 : u8 ≠ r7 := Nat.ne_of_lt (Nat.lt_of_lt_of_le f8.lt hz7)
  have hwr7 : h0.size ≤ r7 := Nat.le_trans (Keep.refl h0 [b]).1 hz7
  have K7 : Keep h0 h7 [b] := (Keep.refl h0 [b]).trans Kc7 all0
  have Z7 : n0 ≤ h7.size := Nat.le_trans Z0 Kc7.1
  have O7 := O0.keep Kc7 all0
  have Vq7 : Arv Z h7 r7 k7 .byte (1 : Int32) [(.int x0)] (.int 0) := Vc7
  refine own_st (g' := (mkF m 69 #[vr b, vr u8, vr arr, vi st, vi 1, vi 1, .unset, .unset, .unset, .unset, .unset] [(.ref r7), (.ref b)])) st7 ?_
  have f9 := F_v.keep Kc7 nin0
  have f10 := E_b.keep Kc7
  obtain ⟨T11, h11, X11, e11, W11, st11⟩ := putF X7 hx hZ hown (host := "") (Or.inl (own_w hw 143 rfl)) Via.refl e7 f9 f10 (Or.inr ⟨(own_w hw 144 rfl), rfl, hnm⟩) (own_w hw 41 rfl) (ty := (.array .byte)) (by decide) rfl rfl (g := (mkF m 69 #[vr b, vr u8, vr arr, vi st, vi 1, vi 1, .unset, .unset, .unset, .unset, .unset] [(.ref r7), (.ref b)])) rfl rfl (D d11_69)
  have N11 := Fr.snoc X11 N7 g_b
  have K11 : Keep h0 h11 [b] := K7.wr W11 (Or.inl (List.mem_of_getElem? (i := 0) rfl))
  have Z11 : n0 ≤ h11.size := Nat.le_trans Z7 (Keep.of_wr W11).1
  have O11 := O7.wr W11 g_b
  have fw11 := (f9.same W11)
  refine own_st (g' := (mkF m 72 #[vr b, vr u8, vr arr, vi st, vi 1, vi 1, .unset, .unset, .unset, .unset, .unset] [])) st11 ?_
  refine own_st (T' := T11) (g' := (mkF m 74 #[vr b, vr u8, vr arr, vi st, vi 1, vi 1, .unset, .unset, .unset, .unset, .unset] [(.int 0), (.ref b)])) (fun t k => ?_) ?_
  ·refine XS.aloadN X11.here hx rfl (D d11_72) rfl rfl ?_
   refine XS.iconst X11.here hx rfl (D d11_73) ?_
   exact k
  have f12 := (F_c.keep Kc7 nin0).other W11 (Or.inr (slot_ne (Or.inr (own_w hw 146 rfl)) (Or.inr (own_w hw 144 rfl)) (by decide) (t := .byte) (t' := (.array .byte)) (by decide) (by decide)))
  have f13 := f10.wr W11
  obtain ⟨T14, h14, X14, e14, W14, st14⟩ := putFN X11 hx hZ hown (own_w hw 145 rfl) Via.refl e11 f12 f13 (Or.inr ⟨(own_w hw 146 rfl), rfl, hnm⟩) (own_w hw 41 rfl) (ty := .byte) (v' := (.int 0)) (by decide) rfl rfl (g := (mkF m 74 #[vr b, vr u8, vr arr, vi st, vi 1, vi 1, .unset, .unset, .unset, .unset, .unset] [(.int 0), (.ref b)])) rfl rfl (D d11_74)
  have N14 := Fr.snoc X14 N11 g_b
  have K14 : Keep h0 h14 [b] := K11.wr W14 (Or.inl (List.mem_of_getElem? (i := 0) rfl))
  have Z14 : n0 ≤ h14.size := Nat.le_trans Z11 (Keep.of_wr W14).1
  have O14 := O11.wr W14 g_b
  have fw14 := (f12.same W14)
  refine own_st (g' := (mkF m 77 #[vr b, vr u8, vr arr, vi st, vi 1, vi 1, .unset, .unset, .unset, .unset, .unset] [])) st14 ?_
  have f15 := fw11.other W14 (Or.inr (slot_ne (Or.inr (own_w hw 144 rfl)) (Or.inr (own_w hw 146 rfl)) (by decide) (t := (.array .byte)) (t' := .byte) (by decide) (by decide)))
  have f16 := (Vq7.other W11 (Ne.symm ne_b_r7)).other W14 (Ne.symm ne_b_r7)
  exact own_retV X14 hx Bd (D d11_77) e14 (⟨r7, k7, _, [x0], rfl, N14, K14, f15, fw14, f16, Or.inl ⟨rfl, by show _ = [(x0.toInt8.toInt32)]; rw [own_asc_id hk0], own_a1 (own_C_a hk0).2⟩⟩) (by decide) (by decide)
 ·obtain rfl : ln = (2 : Int32) := own_ofN hln
  obtain ⟨_, _, ⟨T17, L17, c17, n17⟩, -, X17, ⟨Lc17, hQ17, l17, y17, z17⟩, st17⟩ := Jvm.LawKit.callS X5 hx (y := own_y6) hown (om hZ hw 73 rfl) (om hZ hw 74 rfl) (om hZ hw 75 rfl) (om hZ hw 76 rfl) (by decide) (backOf (W := 0) (own_rm12a2 l Z a0 hw arr ka bl [x0, x1] st pn cs fm u8 h0 n0 Z0 O0 V_a hst hsg rfl (own_asc_n hk0) (own_asc_n hk1) HB) hZ (own_w hw 76 rfl) (own_w hw 75 rfl) (by decide) (by decide)) (g := (mkF m 47 #[vr b, vr u8, vr arr, vi st, vi 2, .unset, .unset, .unset, .unset, .unset, .unset] [(.int 2), (.int st), (.ref arr)])) rfl (by rw [hml]; rfl) (argsL := [(.ref arr), (.int st), (.int 2)]) (rest := []) (lenOf own_pd18 rfl) rfl own_w0 (D d11_47) (fun _ _ => ⟨rfl, e5, (by decide : 0 + 0 ≤ _), (by decide : 0 + 0 ≤ _)⟩)
  dsimp only [Pt.U, Pt.locs, Pt.cells, Pt.slots] at X17 l17 y17 z17 st17 hQ17
  subst l17 y17 z17
  obtain ⟨rfl, N17q, e17⟩ := hQ17
  have N17 := Fr.app N0 N17q
  refine own_st (g' := (mkF m 50 #[vr b, vr u8, vr arr, vi st, vi 2, .unset, .unset, .unset, .unset, .unset, .unset] [(.int 2)])) st17 ?_
  refine own_st (T' := T17) (g' := (mkF m 66 #[vr b, vr u8, vr arr, vi st, vi 2, vi 2, .unset, .unset, .unset, .unset, .unset] [(.int (st + (2 : Int32))), (.int st), (.ref arr), (.ref b)])) (fun t k => ?_) ?_
  ·refine XS.istore X17.here hx rfl (D d11_50) rfl (l' := #[vr b, vr u8, vr arr, vi st, vi 2, vi 2, .unset, .unset, .unset, .unset, .unset]) rfl ?_
   refine XS.iload X17.here hx rfl (D d11_52) rfl ?_
   refine XS.iload X17.here hx rfl (D d11_54) rfl ?_
   refine XS.icmpNo X17.here hx rfl (D d11_56) rfl (teq (rfl : (2 : Int32) = (2 : Int32))).2 ?_
   refine XS.aloadN X17.here hx rfl (D d11_59) rfl rfl ?_
   refine XS.aloadN X17.here hx rfl (D d11_60) rfl rfl ?_
   refine XS.iloadN X17.here hx rfl (D d11_61) rfl ?_
   refine XS.iloadN X17.here hx rfl (D d11_62) rfl ?_
   refine XS.iload X17.here hx rfl (D d11_63) rfl ?_
   refine XS.iadd X17.here hx rfl (D d11_65) rfl ?_
   exact k
  obtain ⟨_, _, ⟨T18, L18, c18, n18⟩, -, X18, ⟨Lc18, hQ18, l18, y18, z18⟩, st18⟩ := Jvm.LawKit.callS X17 hx (y := own_y9) hown (om hZ hw 77 rfl) (om hZ hw 78 rfl) (om hZ hw 79 rfl) (om hZ hw 80 rfl) (by decide) (backOf (W := 1) (own_rm13 l Z a0 hw arr ka bl [x0, x1] st pn (2 : Int32) cs fm u8 h0 n0 Z0 O0 V_a hst hsg rfl HB) hZ (own_w hw 80 rfl) (own_w hw 79 rfl) (by decide) (by decide)) (g := (mkF m 66 #[vr b, vr u8, vr arr, vi st, vi 2, vi 2, .unset, .unset, .unset, .unset, .unset] [(.int (st + (2 : Int32))), (.int st), (.ref arr), (.ref b)])) rfl (by rw [hml]; rfl) (argsL := [(.ref arr), (.int st), (.int (st + (2 : Int32)))]) (rest := [(.ref b)]) (lenOf own_pd4 rfl) rfl own_w0 (D d11_66) (fun _ _ => ⟨rfl, e17, (by decide : 0 + 1 ≤ _), (by decide : 0 + 8 ≤ _)⟩)
  dsimp only [Pt.U, Pt.locs, Pt.cells, Pt.slots] at X18 l18 y18 z18 st18 hQ18
  subst l18 y18 z18
  obtain ⟨h18, e18⟩ : ∃ z, T18.heap = z := ⟨_, rfl⟩
  rw [e18] at hQ18
  obtain ⟨r18, k18, rfl, N18q, Kc18, g18, hz18, Vc18⟩ := hQ18
  have N18 := Fr.app N17 N18q
  have ne_b_r18 : b ≠ r18 := Nat.ne_of_lt (Nat.lt_of_lt_of_le E_b.lt hz18)
  have ne_arr_r18 : arr ≠ r18 := Nat.ne_of_lt (Nat.lt_of_lt_of_le V_a.lt hz18)
  have f19 := E_u8.ext O0.2
  have ne_u8_r18 : u8 ≠ r18 := Nat.ne_of_lt (Nat.lt_of_lt_of_le f19.lt hz18)
  have hwr18 : h0.size ≤ r18 := Nat.le_trans (Keep.refl h0 [b]).1 hz18
  have K18 : Keep h0 h18 [b] := (Keep.refl h0 [b]).trans Kc18 all0
  have Z18 : n0 ≤ h18.size := Nat.le_trans Z0 Kc18.1
  have O18 := O0.keep Kc18 all0
  have Vq18 : Arv Z h18 r18 k18 .byte (2 : Int32) [(.int x0), (.int x1)] (.int 0) := Vc18
  refine own_st (g' := (mkF m 69 #[vr b, vr u8, vr arr, vi st, vi 2, vi 2, .unset, .unset, .unset, .unset, .unset] [(.ref r18), (.ref b)])) st18 ?_
  have f20 := F_v.keep Kc18 nin0
  have f21 := E_b.keep Kc18
  obtain ⟨T22, h22, X22, e22, W22, st22⟩ := putF X18 hx hZ hown (host := "") (Or.inl (own_w hw 143 rfl)) Via.refl e18 f20 f21 (Or.inr ⟨(own_w hw 144 rfl), rfl, hnm⟩) (own_w hw 41 rfl) (ty := (.array .byte)) (by decide) rfl rfl (g := (mkF m 69 #[vr b, vr u8, vr arr, vi st, vi 2, vi 2, .unset, .unset, .unset, .unset, .unset] [(.ref r18), (.ref b)])) rfl rfl (D d11_69)
  have N22 := Fr.snoc X22 N18 g_b
  have K22 : Keep h0 h22 [b] := K18.wr W22 (Or.inl (List.mem_of_getElem? (i := 0) rfl))
  have Z22 : n0 ≤ h22.size := Nat.le_trans Z18 (Keep.of_wr W22).1
  have O22 := O18.wr W22 g_b
  have fw22 := (f20.same W22)
  refine own_st (g' := (mkF m 72 #[vr b, vr u8, vr arr, vi st, vi 2, vi 2, .unset, .unset, .unset, .unset, .unset] [])) st22 ?_
  refine own_st (T' := T22) (g' := (mkF m 74 #[vr b, vr u8, vr arr, vi st, vi 2, vi 2, .unset, .unset, .unset, .unset, .unset] [(.int 0), (.ref b)])) (fun t k => ?_) ?_
  ·refine XS.aloadN X22.here hx rfl (D d11_72) rfl rfl ?_
   refine XS.iconst X22.here hx rfl (D d11_73) ?_
   exact k
  have f23 := (F_c.keep Kc18 nin0).other W22 (Or.inr (slot_ne (Or.inr (own_w hw 146 rfl)) (Or.inr (own_w hw 144 rfl)) (by decide) (t := .byte) (t' := (.array .byte)) (by decide) (by decide)))
  have f24 := f21.wr W22
  obtain ⟨T25, h25, X25, e25, W25, st25⟩ := putFN X22 hx hZ hown (own_w hw 145 rfl) Via.refl e22 f23 f24 (Or.inr ⟨(own_w hw 146 rfl), rfl, hnm⟩) (own_w hw 41 rfl) (ty := .byte) (v' := (.int 0)) (by decide) rfl rfl (g := (mkF m 74 #[vr b, vr u8, vr arr, vi st, vi 2, vi 2, .unset, .unset, .unset, .unset, .unset] [(.int 0), (.ref b)])) rfl rfl (D d11_74)
  have N25 := Fr.snoc X25 N22 g_b
  have K25 : Keep h0 h25 [b] := K22.wr W25 (Or.inl (List.mem_of_getElem? (i := 0) rfl))
  have Z25 : n0 ≤ h25.size := Nat.le_trans Z22 (Keep.of_wr W25).1
  have O25 := O22.wr W25 g_b
  have fw25 := (f23.same W25)
  refine own_st (g' := (mkF m 77 #[vr b, vr u8, vr arr, vi st, vi 2, vi 2, .unset, .unset, .unset, .unset, .unset] [])) st25 ?_
  have f26 := fw22.other W25 (Or.inr (slot_ne (Or.inr (own_w hw 144 rfl)) (Or.inr (own_w hw 146 rfl)) (by decide) (t := (.array .byte)) (t' := .byte) (by decide) (by decide)))
  have f27 := (Vq18.other W22 (Ne.symm ne_b_r18)).other W25 (Ne.symm ne_b_r18)
  exact own_retV X25 hx Bd (D d11_77) e25 (⟨r18, k18, _, [x0, x1], rfl, N25, K25, f26, fw25, f27, Or.inl ⟨rfl, by show _ = [(x0.toInt8.toInt32), (x1.toInt8.toInt32)]; rw [own_asc_id hk0, own_asc_id hk1], own_a2 (own_C_a hk0).2 (own_C_a hk1).2⟩⟩) (by decide) (by decide)
 ·obtain rfl : ln = (2 : Int32) := own_ofN hln
  obtain ⟨_, _, ⟨T28, L28, c28, n28⟩, -, X28, ⟨Lc28, hQ28, l28, y28, z28⟩, st28⟩ := Jvm.LawKit.callS X5 hx (y := own_y6) hown (om hZ hw 73 rfl) (om hZ hw 74 rfl) (om hZ hw 75 rfl) (om hZ hw 76 rfl) (by decide) (backOf (W := 0) (own_rm12z l Z a0 hw arr ka bl [x0, x1] st pn (2 : Int32) cs fm u8 h0 n0 Z0 O0 V_a hst hsg rfl (by simp) (own_lead_neg hk0.1) HB) hZ (own_w hw 76 rfl) (own_w hw 75 rfl) (by decide) (by decide)) (g := (mkF m 47 #[vr b, vr u8, vr arr, vi st, vi 2, .unset, .unset, .unset, .unset, .unset, .unset] [(.int 2), (.int st), (.ref arr)])) rfl (by rw [hml]; rfl) (argsL := [(.ref arr), (.int st), (.int 2)]) (rest := []) (lenOf own_pd18 rfl) rfl own_w0 (D d11_47) (fun _ _ => ⟨rfl, e5, (by decide : 0 + 0 ≤ _), (by decide : 0 + 0 ≤ _)⟩)
  dsimp only [Pt.U, Pt.locs, Pt.cells, Pt.slots] at X28 l28 y28 z28 st28 hQ28
  subst l28 y28 z28
  obtain ⟨rfl, N28q, e28⟩ := hQ28
  have N28 := Fr.app N0 N28q
  refine own_st (g' := (mkF m 50 #[vr b, vr u8, vr arr, vi st, vi 2, .unset, .unset, .unset, .unset, .unset, .unset] [(.int 0)])) st28 ?_
  refine own_st (T' := T28) (g' := (mkF m 84 #[vr b, vr u8, vr arr, vi st, vi 2, vi 0, .unset, .unset, .unset, .unset, .unset] [(.int (st + (2 : Int32))), (.int st), (.ref arr)])) (fun t k => ?_) ?_
  ·refine XS.istore X28.here hx rfl (D d11_50) rfl (l' := #[vr b, vr u8, vr arr, vi st, vi 2, vi 0, .unset, .unset, .unset, .unset, .unset]) rfl ?_
   refine XS.iload X28.here hx rfl (D d11_52) rfl ?_
   refine XS.iload X28.here hx rfl (D d11_54) rfl ?_
   refine XS.icmpYes X28.here hx rfl (pc0 := 56) (pc' := 78) rfl (D d11_56) rfl (feq (by decide : ¬ ((0 : Int32) = (2 : Int32)))).2 (by decide) (by decide) ?_
   refine XS.aloadN X28.here hx rfl (D d11_78) rfl rfl ?_
   refine XS.iloadN X28.here hx rfl (D d11_79) rfl ?_
   refine XS.iloadN X28.here hx rfl (D d11_80) rfl ?_
   refine XS.iload X28.here hx rfl (D d11_81) rfl ?_
   refine XS.iadd X28.here hx rfl (D d11_83) rfl ?_
   exact k
  obtain ⟨_, _, ⟨T29, L29, c29, n29⟩, -, X29, ⟨Lc29, hQ29, l29, y29, z29⟩, st29⟩ := Jvm.LawKit.callS X28 hx (y := own_y9) hown (om hZ hw 77 rfl) (om hZ hw 78 rfl) (om hZ hw 79 rfl) (om hZ hw 80 rfl) (by decide) (backOf (W := 0) (own_rm13 l Z a0 hw arr ka bl [x0, x1] st pn (2 : Int32) cs fm u8 h0 n0 Z0 O0 V_a hst hsg rfl HB) hZ (own_w hw 80 rfl) (own_w hw 79 rfl) (by decide) (by decide)) (g := (mkF m 84 #[vr b, vr u8, vr arr, vi st, vi 2, vi 0, .unset, .unset, .unset, .unset, .unset] [(.int (st + (2 : Int32))), (.int st), (.ref arr)])) rfl (by rw [hml]; rfl) (argsL := [(.ref arr), (.int st), (.int (st + (2 : Int32)))]) (rest := []) (lenOf own_pd4 rfl) rfl own_w0 (D d11_84) (fun _ _ => ⟨rfl, e28, (by decide : 0 + 1 ≤ _), (by decide : 0 + 8 ≤ _)⟩)
  dsimp only [Pt.U, Pt.locs, Pt.cells, Pt.slots] at X29 l29 y29 z29 st29 hQ29
  subst l29 y29 z29
  obtain ⟨h29, e29⟩ : ∃ z, T29.heap = z := ⟨_, rfl⟩
  rw [e29] at hQ29
  obtain ⟨r29, k29, rfl, N29q, Kc29, g29, hz29, Vc29⟩ := hQ29
  have N29 := Fr.app N28 N29q
  have ne_b_r29 : b ≠ r29 := Nat.ne_of_lt (Nat.lt_of_lt_of_le E_b.lt hz29)
  have ne_arr_r29 : arr ≠ r29 := Nat.ne_of_lt (Nat.lt_of_lt_of_le V_a.lt hz29)
  have f30 := E_u8.ext O0.2
  have ne_u8_r29 : u8 ≠ r29 := Nat.ne_of_lt (Nat.lt_of_lt_of_le f30.lt hz29)
  have hwr29 : h0.size ≤ r29 := Nat.le_trans (Keep.refl h0 [b]).1 hz29
  have K29 : Keep h0 h29 [b] := (Keep.refl h0 [b]).trans Kc29 all0
  have Z29 : n0 ≤ h29.size := Nat.le_trans Z0 Kc29.1
  have O29 := O0.keep Kc29 all0
  have Vq29 : Arv Z h29 r29 k29 .byte (2 : Int32) [(.int x0), (.int x1)] (.int 0) := Vc29
  refine own_st (g' := (mkF m 87 #[vr b, vr u8, vr arr, vi st, vi 2, vi 0, .unset, .unset, .unset, .unset, .unset] [(.ref r29)])) st29 ?_
  refine own_st (T' := T29) (g' := (mkF m 107 #[vr b, vr u8, vr arr, vi st, vi 2, vi 0, vr r29, vi 1, .unset, .unset, .unset] [(.int 0), (.ref r29)])) (fun t k => ?_) ?_
  ·refine XS.astore X29.here hx rfl (D d11_87) rfl rfl (l' := #[vr b, vr u8, vr arr, vi st, vi 2, vi 0, vr r29, .unset, .unset, .unset, .unset]) rfl ?_
   refine XS.iload X29.here hx rfl (D d11_89) rfl ?_
   refine XS.istore X29.here hx rfl (D d11_91) rfl (l' := #[vr b, vr u8, vr arr, vi st, vi 2, vi 0, vr r29, vi 0, .unset, .unset, .unset]) rfl ?_
   refine XS.iload X29.here hx rfl (D d11_93) rfl ?_
   refine XS.iload X29.here hx rfl (D d11_95) rfl ?_
   refine XS.icmpNo X29.here hx rfl (D d11_97) rfl (tlt (by decide : (0 : Int32) < (2 : Int32))).2.1 ?_
   refine XS.aload X29.here hx rfl (D d11_100) rfl rfl ?_
   refine XS.iload X29.here hx rfl (D d11_102) rfl ?_
   refine XS.iinc X29.here hx rfl (D d11_104) rfl (l' := #[vr b, vr u8, vr arr, vi st, vi 2, vi 0, vr r29, vi 1, .unset, .unset, .unset]) rfl ?_
   exact k
  obtain ⟨cl31, Ar31, q31, S31, M31, H31, G31⟩ := id Vq29
  refine own_st (T' := T29) (g' := (mkF m 152 #[vr b, vr u8, vr arr, vi st, vi 2, vi 0, vr r29, vi 1, vi x0, .unset, .unset] [(.int 1), (.ref r29)])) (fun t k => ?_) ?_
  ·refine X29.baloadBytes hx (j := (0 : Int32)) (v := (.int x0)) (by rw [e29]; exact Ar31.1) (State.isArrayOf_alike hZ.alike Ar31.2.1) Ar31.2.2 (inb_of S31 ⟨by decide, by decide⟩) (Has.at H31 (inb_of S31 ⟨by decide, by decide⟩) rfl) (g := (mkF m 107 #[vr b, vr u8, vr arr, vi st, vi 2, vi 0, vr r29, vi 1, .unset, .unset, .unset] [(.int 0), (.ref r29)])) rfl rfl (D d11_107) _ ?_
   refine XS.istore X29.here hx rfl (D d11_108) rfl (l' := #[vr b, vr u8, vr arr, vi st, vi 2, vi 0, vr r29, vi 1, vi x0, .unset, .unset]) rfl ?_
   refine XS.iload X29.here hx rfl (D d11_110) rfl ?_
   refine XS.ifYes X29.here hx rfl (pc0 := 112) (pc' := 129) rfl (D d11_112) rfl ((if0 _ _).trans (tlt (own_lead_neg hk0.1)).1) (by decide) (by decide) ?_
   refine XS.iload X29.here hx rfl (D d11_129) rfl ?_
   refine XS.sipush X29.here hx rfl (D d11_131) ?_
   refine XS.iand X29.here hx rfl (D d11_134) rfl ?_
   refine XS.sipush X29.here hx rfl (D d11_135) ?_
   refine XS.icmpNo X29.here hx rfl (D d11_138) rfl (teq hl0).2 ?_
   refine XS.iload X29.here hx rfl (D d11_141) rfl ?_
   refine XS.iload X29.here hx rfl (D d11_143) rfl ?_
   refine XS.icmpNo X29.here hx rfl (D d11_145) rfl (tlt (by decide : (1 : Int32) < (2 : Int32))).2.1 ?_
   refine XS.aload X29.here hx rfl (D d11_148) rfl rfl ?_
   refine XS.iload X29.here hx rfl (D d11_150) rfl ?_
   exact k
  obtain ⟨cl32, Ar32, q32, S32, M32, H32, G32⟩ := id Vq29
  refine own_st (T' := T29) (g' := (mkF m 173 #[vr b, vr u8, vr arr, vi st, vi 2, vi 1, vr r29, vi 1, vi x0, vi x1, .unset] [(.int x1), (.int x0), (.int 0), (.ref r29)])) (fun t k => ?_) ?_
  ·refine X29.baloadBytes hx (j := (1 : Int32)) (v := (.int x1)) (by rw [e29]; exact Ar32.1) (State.isArrayOf_alike hZ.alike Ar32.2.1) Ar32.2.2 (inb_of S32 ⟨by decide, by decide⟩) (Has.at H32 (inb_of S32 ⟨by decide, by decide⟩) rfl) (g := (mkF m 152 #[vr b, vr u8, vr arr, vi st, vi 2, vi 0, vr r29, vi 1, vi x0, .unset, .unset] [(.int 1), (.ref r29)])) rfl rfl (D d11_152) _ ?_
   refine XS.istore X29.here hx rfl (D d11_153) rfl (l' := #[vr b, vr u8, vr arr, vi st, vi 2, vi 0, vr r29, vi 1, vi x0, vi x1, .unset]) rfl ?_
   refine XS.iload X29.here hx rfl (D d11_155) rfl ?_
   refine XS.bipush X29.here hx rfl (D d11_157) ?_
   refine XS.icmpNo X29.here hx rfl (D d11_159) rfl (tlt (own_cont_64 hk0.2)).2.1 ?_
   refine XS.aload X29.here hx rfl (D d11_162) rfl rfl ?_
   refine XS.iload X29.here hx rfl (D d11_164) rfl ?_
   refine XS.iinc X29.here hx rfl (D d11_166) rfl (l' := #[vr b, vr u8, vr arr, vi st, vi 2, vi 1, vr r29, vi 1, vi x0, vi x1, .unset]) rfl ?_
   refine XS.iload X29.here hx rfl (D d11_169) rfl ?_
   refine XS.iload X29.here hx rfl (D d11_171) rfl ?_
   exact k
  obtain ⟨_, _, ⟨T33, L33, c33, n33⟩, -, X33, ⟨Lc33, hQ33, l33, y33, z33⟩, st33⟩ := Jvm.LawKit.callS X29 hx (y := own_y18) hown (om hZ hw 209 rfl) (om hZ hw 210 rfl) (om hZ hw 42 rfl) (om hZ hw 211 rfl) (by decide) (backOf (W := 2) (own_rm43 l Z a0 hw x0 x1 cs fm u8 h29 n0 Z29 O29 HB) hZ (own_w hw 211 rfl) (own_w hw 42 rfl) (by decide) (by decide)) (g := (mkF m 173 #[vr b, vr u8, vr arr, vi st, vi 2, vi 1, vr r29, vi 1, vi x0, vi x1, .unset] [(.int x1), (.int x0), (.int 0), (.ref r29)])) rfl (by rw [hml]; rfl) (argsL := [(.int x0), (.int x1)]) (rest := [(.int 0), (.ref r29)]) (lenOf own_pd12 rfl) rfl own_w0 (D d11_173) (fun _ _ => ⟨rfl, e29, (by decide : 1 + 0 ≤ _), (by decide : 8 + 0 ≤ _)⟩)
  dsimp only [Pt.U, Pt.locs, Pt.cells, Pt.slots] at X33 l33 y33 z33 st33 hQ33
  subst l33 y33 z33
  obtain ⟨rfl, N33q, e33⟩ := hQ33
  have N33 := Fr.app N29 N33q
  refine own_st (g' := (mkF m 176 #[vr b, vr u8, vr arr, vi st, vi 2, vi 1, vr r29, vi 1, vi x0, vi x1, .unset] [(.int (own_d2 x0 x1)), (.int 0), (.ref r29)])) st33 ?_
  refine own_st (T' := T33) (g' := (mkF m 177 #[vr b, vr u8, vr arr, vi st, vi 2, vi 1, vr r29, vi 1, vi x0, vi x1, .unset] [(.int ((own_d2 x0 x1).toInt8.toInt32)), (.int 0), (.ref r29)])) (fun t k => ?_) ?_
  ·refine XS.i2b X33.here hx rfl (D d11_176) rfl ?_
   exact k
  obtain ⟨cl34, Ar34, q34, S34, M34, H34, G34⟩ := id Vq29
  obtain ⟨T35, h35, X35, e35, W35, st35⟩ := stB X33 hx hZ e33 Ar34 (j := (0 : Int32)) (inb_of S34 ⟨by decide, by decide⟩) (g := (mkF m 177 #[vr b, vr u8, vr arr, vi st, vi 2, vi 1, vr r29, vi 1, vi x0, vi x1, .unset] [(.int ((own_d2 x0 x1).toInt8.toInt32)), (.int 0), (.ref r29)])) rfl rfl (D d11_177)
  have N35 := Fr.snoc X35 N33 g29
  have K35 : Keep h0 h35 [b] := K29.wr W35 (Or.inr hwr29)
  have Z35 : n0 ≤ h35.size := Nat.le_trans Z29 (Keep.of_wr W35).1
  have O35 := O29.wr W35 g29
  have fw35 := (show Arv Z h35 r29 k29 .byte (2 : Int32) [(.int ((own_d2 x0 x1).toInt8.toInt32)), (.int x1)] (.int 0) by have q : Arv Z h35 r29 k29 .byte (2 : Int32) [(.int (((own_d2 x0 x1).toInt8.toInt32).toInt8.toInt32)), (.int x1)] (.int 0) := Arv.set Ar34 q34 S34 M34 H34 G34 (fits_nar_byte _) W35 0 rfl (Nat.le_of_ble_eq_true rfl); rw [own_bb (own_d2 x0 x1)] at q; exact q)
  refine own_st (g' := (mkF m 178 #[vr b, vr u8, vr arr, vi st, vi 2, vi 1, vr r29, vi 1, vi x0, vi x1, .unset] [])) st35 ?_
  refine own_st (T' := T35) (g' := (mkF m 201 #[vr b, vr u8, vr arr, vi st, vi 2, vi 1, vr r29, vi 2, vi x0, vi x1, .unset] [(.ref r29), (.int 1)])) (fun t k => ?_) ?_
  ·refine XS.iinc X35.here hx rfl (D d11_178) rfl (l' := #[vr b, vr u8, vr arr, vi st, vi 2, vi 1, vr r29, vi 2, vi x0, vi x1, .unset]) rfl ?_
   refine XS.goto X35.here hx rfl (pc0 := 181) (pc' := 93) rfl (D d11_181) (by decide) (by decide) ?_
   refine XS.iload X35.here hx rfl (D d11_93) rfl ?_
   refine XS.iload X35.here hx rfl (D d11_95) rfl ?_
   refine XS.icmpYes X35.here hx rfl (pc0 := 97) (pc' := 190) rfl (D d11_97) rfl (flt Int32.lt_irrefl).2.1 (by decide) (by decide) ?_
   refine XS.iload X35.here hx rfl (D d11_190) rfl ?_
   refine XS.iload X35.here hx rfl (D d11_192) rfl ?_
   refine XS.icmpNo X35.here hx rfl (D d11_194) rfl (teq (rfl : (2 : Int32) = (2 : Int32))).2 ?_
   refine XS.iload X35.here hx rfl (D d11_197) rfl ?_
   refine XS.aload X35.here hx rfl (D d11_199) rfl rfl ?_
   exact k
  obtain ⟨cl36, Ar36, q36, S36, M36, H36, G36⟩ := id fw35
  refine own_st (T' := T35) (g' := (mkF m 209 #[vr b, vr u8, vr arr, vi st, vi 2, vi 1, vr r29, vi 2, vi x0, vi x1, .unset] [(.int 1), (.ref r29)])) (fun t k => ?_) ?_
  ·refine X35.arraylength hx (by rw [e35]; exact Ar36.1) (State.isArrayOf_alike hZ.alike Ar36.2.1) (g := (mkF m 201 #[vr b, vr u8, vr arr, vi st, vi 2, vi 1, vr r29, vi 2, vi x0, vi x1, .unset] [(.ref r29), (.int 1)])) rfl rfl (D d11_201) _ ?_
   rw [len_of S36 M36]
   refine XS.icmpNo X35.here hx rfl (D d11_202) rfl (feq (by decide : ¬ ((1 : Int32) = (2 : Int32)))).1 ?_
   refine XS.aload X35.here hx rfl (D d11_205) rfl rfl ?_
   refine XS.iload X35.here hx rfl (D d11_207) rfl ?_
   exact k
  obtain ⟨_, _, ⟨T37, L37, c37, n37⟩, -, X37, ⟨Lc37, hQ37, l37, y37, z37⟩, st37⟩ := Jvm.LawKit.callS X35 hx (y := own_y10) hown (om hZ hw 140 rfl) (om hZ hw 141 rfl) (om hZ hw 79 rfl) (om hZ hw 142 rfl) (by decide) (backOf (W := 0) (own_rm28 l Z a0 hw r29 k29 [((own_d2 x0 x1).toInt8.toInt32), x1] (2 : Int32) (1 : Int32) 2 1 cs fm u8 h35 n0 Z35 O35 fw35 rfl rfl (by decide) rfl (by decide) HB) hZ (own_w hw 142 rfl) (own_w hw 79 rfl) (by decide) (by decide)) (g := (mkF m 209 #[vr b, vr u8, vr arr, vi st, vi 2, vi 1, vr r29, vi 2, vi x0, vi x1, .unset] [(.int 1), (.ref r29)])) rfl (by rw [hml]; rfl) (argsL := [(.ref r29), (.int 1)]) (rest := []) (lenOf own_pd19 rfl) rfl own_w0 (D d11_209) (fun _ _ => ⟨rfl, e35, (by decide : 1 + 1 ≤ _), (by decide : 8 + 8 ≤ _)⟩)
  dsimp only [Pt.U, Pt.locs, Pt.cells, Pt.slots] at X37 l37 y37 z37 st37 hQ37
  subst l37 y37 z37
  obtain ⟨h37, e37⟩ : ∃ z, T37.heap = z := ⟨_, rfl⟩
  rw [e37] at hQ37
  obtain ⟨r37, k37, rfl, N37q, Kc37, g37, hz37, Vc37⟩ := hQ37
  have N37 := Fr.app N35 N37q
  have f38 := (E_b.keep Kc29).wr W35
  have ne_b_r37 : b ≠ r37 := Nat.ne_of_lt (Nat.lt_of_lt_of_le f38.lt hz37)
  have f39 := (V_a.keep Kc29 nin0).other W35 ne_arr_r29
  have ne_arr_r37 : arr ≠ r37 := Nat.ne_of_lt (Nat.lt_of_lt_of_le f39.lt hz37)
  have f40 := E_u8.ext O35.2
  have ne_u8_r37 : u8 ≠ r37 := Nat.ne_of_lt (Nat.lt_of_lt_of_le f40.lt hz37)
  have ne_r29_r37 : r29 ≠ r37 := Nat.ne_of_lt (Nat.lt_of_lt_of_le fw35.lt hz37)
  have hwr37 : h0.size ≤ r37 := Nat.le_trans K35.1 hz37
  have K37 : Keep h0 h37 [b] := K35.trans Kc37 all0
  have Z37 : n0 ≤ h37.size := Nat.le_trans Z35 Kc37.1
  have O37 := O35.keep Kc37 all0
  have Vq37 : Arv Z h37 r37 k37 .byte (1 : Int32) [(.int ((own_d2 x0 x1).toInt8.toInt32))] (.int 0) := Vc37
  refine own_st (g' := (mkF m 212 #[vr b, vr u8, vr arr, vi st, vi 2, vi 1, vr r29, vi 2, vi x0, vi x1, .unset] [(.ref r37)])) st37 ?_
  refine own_st (T' := T37) (g' := (mkF m 217 #[vr b, vr u8, vr arr, vi st, vi 2, vi 1, vr r37, vi 2, vi x0, vi x1, .unset] [(.ref r37), (.ref b)])) (fun t k => ?_) ?_
  ·refine XS.astore X37.here hx rfl (D d11_212) rfl rfl (l' := #[vr b, vr u8, vr arr, vi st, vi 2, vi 1, vr r37, vi 2, vi x0, vi x1, .unset]) rfl ?_
   refine XS.aloadN X37.here hx rfl (D d11_214) rfl rfl ?_
   refine XS.aload X37.here hx rfl (D d11_215) rfl rfl ?_
   exact k
  have f41 := ((F_v.keep Kc29 nin0).other W35 (Or.inl ne_b_r29)).keep Kc37 nin0
  have f42 := f38.keep Kc37
  obtain ⟨T43, h43, X43, e43, W43, st43⟩ := putF X37 hx hZ hown (host := "") (Or.inl (own_w hw 143 rfl)) Via.refl e37 f41 f42 (Or.inr ⟨(own_w hw 144 rfl), rfl, hnm⟩) (own_w hw 41 rfl) (ty := (.array .byte)) (by decide) rfl rfl (g := (mkF m 217 #[vr b, vr u8, vr arr, vi st, vi 2, vi 1, vr r37, vi 2, vi x0, vi x1, .unset] [(.ref r37), (.ref b)])) rfl rfl (D d11_217)
  have N43 := Fr.snoc X43 N37 g_b
  have K43 : Keep h0 h43 [b] := K37.wr W43 (Or.inl (List.mem_of_getElem? (i := 0) rfl))
  have Z43 : n0 ≤ h43.size := Nat.le_trans Z37 (Keep.of_wr W43).1
  have O43 := O37.wr W43 g_b
  have fw43 := (f41.same W43)
  refine own_st (g' := (mkF m 220 #[vr b, vr u8, vr arr, vi st, vi 2, vi 1, vr r37, vi 2, vi x0, vi x1, .unset] [])) st43 ?_
  refine own_st (T' := T43) (g' := (mkF m 222 #[vr b, vr u8, vr arr, vi st, vi 2, vi 1, vr r37, vi 2, vi x0, vi x1, .unset] [(.int 0), (.ref b)])) (fun t k => ?_) ?_
  ·refine XS.aloadN X43.here hx rfl (D d11_220) rfl rfl ?_
   refine XS.iconst X43.here hx rfl (D d11_221) ?_
   exact k
  have f44 := (((F_c.keep Kc29 nin0).other W35 (Or.inl ne_b_r29)).keep Kc37 nin0).other W43 (Or.inr (slot_ne (Or.inr (own_w hw 146 rfl)) (Or.inr (own_w hw 144 rfl)) (by decide) (t := .byte) (t' := (.array .byte)) (by decide) (by decide)))
  have f45 := f42.wr W43
  obtain ⟨T46, h46, X46, e46, W46, st46⟩ := putFN X43 hx hZ hown (own_w hw 145 rfl) Via.refl e43 f44 f45 (Or.inr ⟨(own_w hw 146 rfl), rfl, hnm⟩) (own_w hw 41 rfl) (ty := .byte) (v' := (.int 0)) (by decide) rfl rfl (g := (mkF m 222 #[vr b, vr u8, vr arr, vi st, vi 2, vi 1, vr r37, vi 2, vi x0, vi x1, .unset] [(.int 0), (.ref b)])) rfl rfl (D d11_222)
  have N46 := Fr.snoc X46 N43 g_b
  have K46 : Keep h0 h46 [b] := K43.wr W46 (Or.inl (List.mem_of_getElem? (i := 0) rfl))
  have Z46 : n0 ≤ h46.size := Nat.le_trans Z43 (Keep.of_wr W46).1
  have O46 := O43.wr W46 g_b
  have fw46 := (f44.same W46)
  refine own_st (g' := (mkF m 225 #[vr b, vr u8, vr arr, vi st, vi 2, vi 1, vr r37, vi 2, vi x0, vi x1, .unset] [])) st46 ?_
  have f47 := fw43.other W46 (Or.inr (slot_ne (Or.inr (own_w hw 144 rfl)) (Or.inr (own_w hw 146 rfl)) (by decide) (t := (.array .byte)) (t' := .byte) (by decide) (by decide)))
  have f48 := (Vq37.other W43 (Ne.symm ne_b_r37)).other W46 (Ne.symm ne_b_r37)
  exact own_retV X46 hx Bd (D d11_225) e46 (⟨r37, k37, _, [((own_d2 x0 x1).toInt8.toInt32)], rfl, N46, K46, f47, fw46, f48, Or.inl ⟨rfl, rfl, own_a1 (own_lat_255 hk0 hl0)⟩⟩) (by decide) (by decide)
 ·obtain rfl : ln = (3 : Int32) := own_ofN hln
  obtain ⟨_, _, ⟨T49, L49, c49, n49⟩, -, X49, ⟨Lc49, hQ49, l49, y49, z49⟩, st49⟩ := Jvm.LawKit.callS X5 hx (y := own_y6) hown (om hZ hw 73 rfl) (om hZ hw 74 rfl) (om hZ hw 75 rfl) (om hZ hw 76 rfl) (by decide) (backOf (W := 0) (own_rm12o l Z a0 hw arr ka bl [x0, x1, x2] st pn (3 : Int32) cs fm u8 h0 n0 Z0 O0 V_a hst hsg rfl (by simp) (own_asc_n hk0) (own_lead_neg hk1.1) HB) hZ (own_w hw 76 rfl) (own_w hw 75 rfl) (by decide) (by decide)) (g := (mkF m 47 #[vr b, vr u8, vr arr, vi st, vi 3, .unset, .unset, .unset, .unset, .unset, .unset] [(.int 3), (.int st), (.ref arr)])) rfl (by rw [hml]; rfl) (argsL := [(.ref arr), (.int st), (.int 3)]) (rest := []) (lenOf own_pd18 rfl) rfl own_w0 (D d11_47) (fun _ _ => ⟨rfl, e5, (by decide : 0 + 0 ≤ _), (by decide : 0 + 0 ≤ _)⟩)
  dsimp only [Pt.U, Pt.locs, Pt.cells, Pt.slots] at X49 l49 y49 z49 st49 hQ49
  subst l49 y49 z49
  obtain ⟨rfl, N49q, e49⟩ := hQ49
  have N49 := Fr.app N0 N49q
  refine own_st (g' := (mkF m 50 #[vr b, vr u8, vr arr, vi st, vi 3, .unset, .unset, .unset, .unset, .unset, .unset] [(.int 1)])) st49 ?_
  refine own_st (T' := T49) (g' := (mkF m 84 #[vr b, vr u8, vr arr, vi st, vi 3, vi 1, .unset, .unset, .unset, .unset, .unset] [(.int (st + (3 : Int32))), (.int st), (.ref arr)])) (fun t k => ?_) ?_
  ·refine XS.istore X49.here hx rfl (D d11_50) rfl (l' := #[vr b, vr u8, vr arr, vi st, vi 3, vi 1, .unset, .unset, .unset, .unset, .unset]) rfl ?_
   refine XS.iload X49.here hx rfl (D d11_52) rfl ?_
   refine XS.iload X49.here hx rfl (D d11_54) rfl ?_
   refine XS.icmpYes X49.here hx rfl (pc0 := 56) (pc' := 78) rfl (D d11_56) rfl (feq (by decide : ¬ ((1 : Int32) = (3 : Int32)))).2 (by decide) (by decide) ?_
   refine XS.aloadN X49.here hx rfl (D d11_78) rfl rfl ?_
   refine XS.iloadN X49.here hx rfl (D d11_79) rfl ?_
   refine XS.iloadN X49.here hx rfl (D d11_80) rfl ?_
   refine XS.iload X49.here hx rfl (D d11_81) rfl ?_
   refine XS.iadd X49.here hx rfl (D d11_83) rfl ?_
   exact k
  obtain ⟨_, _, ⟨T50, L50, c50, n50⟩, -, X50, ⟨Lc50, hQ50, l50, y50, z50⟩, st50⟩ := Jvm.LawKit.callS X49 hx (y := own_y9) hown (om hZ hw 77 rfl) (om hZ hw 78 rfl) (om hZ hw 79 rfl) (om hZ hw 80 rfl) (by decide) (backOf (W := 0) (own_rm13 l Z a0 hw arr ka bl [x0, x1, x2] st pn (3 : Int32) cs fm u8 h0 n0 Z0 O0 V_a hst hsg rfl HB) hZ (own_w hw 80 rfl) (own_w hw 79 rfl) (by decide) (by decide)) (g := (mkF m 84 #[vr b, vr u8, vr arr, vi st, vi 3, vi 1, .unset, .unset, .unset, .unset, .unset] [(.int (st + (3 : Int32))), (.int st), (.ref arr)])) rfl (by rw [hml]; rfl) (argsL := [(.ref arr), (.int st), (.int (st + (3 : Int32)))]) (rest := []) (lenOf own_pd4 rfl) rfl own_w0 (D d11_84) (fun _ _ => ⟨rfl, e49, (by decide : 0 + 1 ≤ _), (by decide : 0 + 8 ≤ _)⟩)
  dsimp only [Pt.U, Pt.locs, Pt.cells, Pt.slots] at X50 l50 y50 z50 st50 hQ50
  subst l50 y50 z50
  obtain ⟨h50, e50⟩ : ∃ z, T50.heap = z := ⟨_, rfl⟩
  rw [e50] at hQ50
  obtain ⟨r50, k50, rfl, N50q, Kc50, g50, hz50, Vc50⟩ := hQ50
  have N50 := Fr.app N49 N50q
  have ne_b_r50 : b ≠ r50 := Nat.ne_of_lt (Nat.lt_of_lt_of_le E_b.lt hz50)
  have ne_arr_r50 : arr ≠ r50 := Nat.ne_of_lt (Nat.lt_of_lt_of_le V_a.lt hz50)
  have f51 := E_u8.ext O0.2
  have ne_u8_r50 : u8 ≠ r50 := Nat.ne_of_lt (Nat.lt_of_lt_of_le f51.lt hz50)
  have hwr50 : h0.size ≤ r50 := Nat.le_trans (Keep.refl h0 [b]).1 hz50
  have K50 : Keep h0 h50 [b] := (Keep.refl h0 [b]).trans Kc50 all0
  have Z50 : n0 ≤ h50.size := Nat.le_trans Z0 Kc50.1
  have O50 := O0.keep Kc50 all0
  have Vq50 : Arv Z h50 r50 k50 .byte (3 : Int32) [(.int x0), (.int x1), (.int x2)] (.int 0) := Vc50
  refine own_st (g' := (mkF m 87 #[vr b, vr u8, vr arr, vi st, vi 3, vi 1, .unset, .unset, .unset, .unset, .unset] [(.ref r50)])) st50 ?_
  refine own_st (T' := T50) (g' := (mkF m 107 #[vr b, vr u8, vr arr, vi st, vi 3, vi 1, vr r50, vi 2, .unset, .unset, .unset] [(.int 1), (.ref r50)])) (fun t k => ?_) ?_
  ·refine XS.astore X50.here hx rfl (D d11_87) rfl rfl (l' := #[vr b, vr u8, vr arr, vi st, vi 3, vi 1, vr r50, .unset, .unset, .unset, .unset]) rfl ?_
   refine XS.iload X50.here hx rfl (D d11_89) rfl ?_
   refine XS.istore X50.here hx rfl (D d11_91) rfl (l' := #[vr b, vr u8, vr arr, vi st, vi 3, vi 1, vr r50, vi 1, .unset, .unset, .unset]) rfl ?_
   refine XS.iload X50.here hx rfl (D d11_93) rfl ?_
   refine XS.iload X50.here hx rfl (D d11_95) rfl ?_
   refine XS.icmpNo X50.here hx rfl (D d11_97) rfl (tlt (by decide : (1 : Int32) < (3 : Int32))).2.1 ?_
   refine XS.aload X50.here hx rfl (D d11_100) rfl rfl ?_
   refine XS.iload X50.here hx rfl (D d11_102) rfl ?_
   refine XS.iinc X50.here hx rfl (D d11_104) rfl (l' := #[vr b, vr u8, vr arr, vi st, vi 3, vi 1, vr r50, vi 2, .unset, .unset, .unset]) rfl ?_
   exact k
  obtain ⟨cl52, Ar52, q52, S52, M52, H52, G52⟩ := id Vq50
  refine own_st (T' := T50) (g' := (mkF m 152 #[vr b, vr u8, vr arr, vi st, vi 3, vi 1, vr r50, vi 2, vi x1, .unset, .unset] [(.int 2), (.ref r50)])) (fun t k => ?_) ?_
  ·refine X50.baloadBytes hx (j := (1 : Int32)) (v := (.int x1)) (by rw [e50]; exact Ar52.1) (State.isArrayOf_alike hZ.alike Ar52.2.1) Ar52.2.2 (inb_of S52 ⟨by decide, by decide⟩) (Has.at H52 (inb_of S52 ⟨by decide, by decide⟩) rfl) (g := (mkF m 107 #[vr b, vr u8, vr arr, vi st, vi 3, vi 1, vr r50, vi 2, .unset, .unset, .unset] [(.int 1), (.ref r50)])) rfl rfl (D d11_107) _ ?_
   refine XS.istore X50.here hx rfl (D d11_108) rfl (l' := #[vr b, vr u8, vr arr, vi st, vi 3, vi 1, vr r50, vi 2, vi x1, .unset, .unset]) rfl ?_
   refine XS.iload X50.here hx rfl (D d11_110) rfl ?_
   refine XS.ifYes X50.here hx rfl (pc0 := 112) (pc' := 129) rfl (D d11_112) rfl ((if0 _ _).trans (tlt (own_lead_neg hk1.1)).1) (by decide) (by decide) ?_
   refine XS.iload X50.here hx rfl (D d11_129) rfl ?_
   refine XS.sipush X50.here hx rfl (D d11_131) ?_
   refine XS.iand X50.here hx rfl (D d11_134) rfl ?_
   refine XS.sipush X50.here hx rfl (D d11_135) ?_
   refine XS.icmpNo X50.here hx rfl (D d11_138) rfl (teq hl1).2 ?_
   refine XS.iload X50.here hx rfl (D d11_141) rfl ?_
   refine XS.iload X50.here hx rfl (D d11_143) rfl ?_
   refine XS.icmpNo X50.here hx rfl (D d11_145) rfl (tlt (by decide : (2 : Int32) < (3 : Int32))).2.1 ?_
   refine XS.aload X50.here hx rfl (D d11_148) rfl rfl ?_
   refine XS.iload X50.here hx rfl (D d11_150) rfl ?_
   exact k
  obtain ⟨cl53, Ar53, q53, S53, M53, H53, G53⟩ := id Vq50
  refine own_st (T' := T50) (g' := (mkF m 173 #[vr b, vr u8, vr arr, vi st, vi 3, vi 2, vr r50, vi 2, vi x1, vi x2, .unset] [(.int x2), (.int x1), (.int 1), (.ref r50)])) (fun t k => ?_) ?_
  ·refine X50.baloadBytes hx (j := (2 : Int32)) (v := (.int x2)) (by rw [e50]; exact Ar53.1) (State.isArrayOf_alike hZ.alike Ar53.2.1) Ar53.2.2 (inb_of S53 ⟨by decide, by decide⟩) (Has.at H53 (inb_of S53 ⟨by decide, by decide⟩) rfl) (g := (mkF m 152 #[vr b, vr u8, vr arr, vi st, vi 3, vi 1, vr r50, vi 2, vi x1, .unset, .unset] [(.int 2), (.ref r50)])) rfl rfl (D d11_152) _ ?_
   refine XS.istore X50.here hx rfl (D d11_153) rfl (l' := #[vr b, vr u8, vr arr, vi st, vi 3, vi 1, vr r50, vi 2, vi x1, vi x2, .unset]) rfl ?_
   refine XS.iload X50.here hx rfl (D d11_155) rfl ?_
   refine XS.bipush X50.here hx rfl (D d11_157) ?_
   refine XS.icmpNo X50.here hx rfl (D d11_159) rfl (tlt (own_cont_64 hk1.2)).2.1 ?_
   refine XS.aload X50.here hx rfl (D d11_162) rfl rfl ?_
   refine XS.iload X50.here hx rfl (D d11_164) rfl ?_
   refine XS.iinc X50.here hx rfl (D d11_166) rfl (l' := #[vr b, vr u8, vr arr, vi st, vi 3, vi 2, vr r50, vi 2, vi x1, vi x2, .unset]) rfl ?_
   refine XS.iload X50.here hx rfl (D d11_169) rfl ?_
   refine XS.iload X50.here hx rfl (D d11_171) rfl ?_
   exact k
  obtain ⟨_, _, ⟨T54, L54, c54, n54⟩, -, X54, ⟨Lc54, hQ54, l54, y54, z54⟩, st54⟩ := Jvm.LawKit.callS X50 hx (y := own_y18) hown (om hZ hw 209 rfl) (om hZ hw 210 rfl) (om hZ hw 42 rfl) (om hZ hw 211 rfl) (by decide) (backOf (W := 2) (own_rm43 l Z a0 hw x1 x2 cs fm u8 h50 n0 Z50 O50 HB) hZ (own_w hw 211 rfl) (own_w hw 42 rfl) (by decide) (by decide)) (g := (mkF m 173 #[vr b, vr u8, vr arr, vi st, vi 3, vi 2, vr r50, vi 2, vi x1, vi x2, .unset] [(.int x2), (.int x1), (.int 1), (.ref r50)])) rfl (by rw [hml]; rfl) (argsL := [(.int x1), (.int x2)]) (rest := [(.int 1), (.ref r50)]) (lenOf own_pd12 rfl) rfl own_w0 (D d11_173) (fun _ _ => ⟨rfl, e50, (by decide : 1 + 0 ≤ _), (by decide : 8 + 0 ≤ _)⟩)
  dsimp only [Pt.U, Pt.locs, Pt.cells, Pt.slots] at X54 l54 y54 z54 st54 hQ54
  subst l54 y54 z54
  obtain ⟨rfl, N54q, e54⟩ := hQ54
  have N54 := Fr.app N50 N54q
  refine own_st (g' := (mkF m 176 #[vr b, vr u8, vr arr, vi st, vi 3, vi 2, vr r50, vi 2, vi x1, vi x2, .unset] [(.int (own_d2 x1 x2)), (.int 1), (.ref r50)])) st54 ?_
  refine own_st (T' := T54) (g' := (mkF m 177 #[vr b, vr u8, vr arr, vi st, vi 3, vi 2, vr r50, vi 2, vi x1, vi x2, .unset] [(.int ((own_d2 x1 x2).toInt8.toInt32)), (.int 1), (.ref r50)])) (fun t k => ?_) ?_
  ·refine XS.i2b X54.here hx rfl (D d11_176) rfl ?_
   exact k
  obtain ⟨cl55, Ar55, q55, S55, M55, H55, G55⟩ := id Vq50
  obtain ⟨T56, h56, X56, e56, W56, st56⟩ := stB X54 hx hZ e54 Ar55 (j := (1 : Int32)) (inb_of S55 ⟨by decide, by decide⟩) (g := (mkF m 177 #[vr b, vr u8, vr arr, vi st, vi 3, vi 2, vr r50, vi 2, vi x1, vi x2, .unset] [(.int ((own_d2 x1 x2).toInt8.toInt32)), (.int 1), (.ref r50)])) rfl rfl (D d11_177)
  have N56 := Fr.snoc X56 N54 g50
  have K56 : Keep h0 h56 [b] := K50.wr W56 (Or.inr hwr50)
  have Z56 : n0 ≤ h56.size := Nat.le_trans Z50 (Keep.of_wr W56).1
  have O56 := O50.wr W56 g50
  have fw56 := (show Arv Z h56 r50 k50 .byte (3 : Int32) [(.int x0), (.int ((own_d2 x1 x2).toInt8.toInt32)), (.int x2)] (.int 0) by have q : Arv Z h56 r50 k50 .byte (3 : Int32) [(.int x0), (.int (((own_d2 x1 x2).toInt8.toInt32).toInt8.toInt32)), (.int x2)] (.int 0) := Arv.set Ar55 q55 S55 M55 H55 G55 (fits_nar_byte _) W56 1 rfl (Nat.le_of_ble_eq_true rfl); rw [own_bb (own_d2 x1 x2)] at q; exact q)
  refine own_st (g' := (mkF m 178 #[vr b, vr u8, vr arr, vi st, vi 3, vi 2, vr r50, vi 2, vi x1, vi x2, .unset] [])) st56 ?_
  refine own_st (T' := T56) (g' := (mkF m 201 #[vr b, vr u8, vr arr, vi st, vi 3, vi 2, vr r50, vi 3, vi x1, vi x2, .unset] [(.ref r50), (.int 2)])) (fun t k => ?_) ?_
  ·refine XS.iinc X56.here hx rfl (D d11_178) rfl (l' := #[vr b, vr u8, vr arr, vi st, vi 3, vi 2, vr r50, vi 3, vi x1, vi x2, .unset]) rfl ?_
   refine XS.goto X56.here hx rfl (pc0 := 181) (pc' := 93) rfl (D d11_181) (by decide) (by decide) ?_
   refine XS.iload X56.here hx rfl (D d11_93) rfl ?_
   refine XS.iload X56.here hx rfl (D d11_95) rfl ?_
   refine XS.icmpYes X56.here hx rfl (pc0 := 97) (pc' := 190) rfl (D d11_97) rfl (flt Int32.lt_irrefl).2.1 (by decide) (by decide) ?_
   refine XS.iload X56.here hx rfl (D d11_190) rfl ?_
   refine XS.iload X56.here hx rfl (D d11_192) rfl ?_
   refine XS.icmpNo X56.here hx rfl (D d11_194) rfl (teq (rfl : (3 : Int32) = (3 : Int32))).2 ?_
   refine XS.iload X56.here hx rfl (D d11_197) rfl ?_
   refine XS.aload X56.here hx rfl (D d11_199) rfl rfl ?_
   exact k
  obtain ⟨cl57, Ar57, q57, S57, M57, H57, G57⟩ := id fw56
  refine own_st (T' := T56) (g' := (mkF m 209 #[vr b, vr u8, vr arr, vi st, vi 3, vi 2, vr r50, vi 3, vi x1, vi x2, .unset] [(.int 2), (.ref r50)])) (fun t k => ?_) ?_
  ·refine X56.arraylength hx (by rw [e56]; exact Ar57.1) (State.isArrayOf_alike hZ.alike Ar57.2.1) (g := (mkF m 201 #[vr b, vr u8, vr arr, vi st, vi 3, vi 2, vr r50, vi 3, vi x1, vi x2, .unset] [(.ref r50), (.int 2)])) rfl rfl (D d11_201) _ ?_
   rw [len_of S57 M57]
   refine XS.icmpNo X56.here hx rfl (D d11_202) rfl (feq (by decide : ¬ ((2 : Int32) = (3 : Int32)))).1 ?_
   refine XS.aload X56.here hx rfl (D d11_205) rfl rfl ?_
   refine XS.iload X56.here hx rfl (D d11_207) rfl ?_
   exact k
  obtain ⟨_, _, ⟨T58, L58, c58, n58⟩, -, X58, ⟨Lc58, hQ58, l58, y58, z58⟩, st58⟩ := Jvm.LawKit.callS X56 hx (y := own_y10) hown (om hZ hw 140 rfl) (om hZ hw 141 rfl) (om hZ hw 79 rfl) (om hZ hw 142 rfl) (by decide) (backOf (W := 0) (own_rm28 l Z a0 hw r50 k50 [x0, ((own_d2 x1 x2).toInt8.toInt32), x2] (3 : Int32) (2 : Int32) 3 2 cs fm u8 h56 n0 Z56 O56 fw56 rfl rfl (by decide) rfl (by decide) HB) hZ (own_w hw 142 rfl) (own_w hw 79 rfl) (by decide) (by decide)) (g := (mkF m 209 #[vr b, vr u8, vr arr, vi st, vi 3, vi 2, vr r50, vi 3, vi x1, vi x2, .unset] [(.int 2), (.ref r50)])) rfl (by rw [hml]; rfl) (argsL := [(.ref r50), (.int 2)]) (rest := []) (lenOf own_pd19 rfl) rfl own_w0 (D d11_209) (fun _ _ => ⟨rfl, e56, (by decide : 1 + 1 ≤ _), (by decide : 8 + 8 ≤ _)⟩)
  dsimp only [Pt.U, Pt.locs, Pt.cells, Pt.slots] at X58 l58 y58 z58 st58 hQ58
  subst l58 y58 z58
  obtain ⟨h58, e58⟩ : ∃ z, T58.heap = z := ⟨_, rfl⟩
  rw [e58] at hQ58
  obtain ⟨r58, k58, rfl, N58q, Kc58, g58, hz58, Vc58⟩ := hQ58
  have N58 := Fr.app N56 N58q
  have f59 := (E_b.keep Kc50).wr W56
  have ne_b_r58 : b ≠ r58 := Nat.ne_of_lt (Nat.lt_of_lt_of_le f59.lt hz58)
  have f60 := (V_a.keep Kc50 nin0).other W56 ne_arr_r50
  have ne_arr_r58 : arr ≠ r58 := Nat.ne_of_lt (Nat.lt_of_lt_of_le f60.lt hz58)
  have f61 := E_u8.ext O56.2
  have ne_u8_r58 : u8 ≠ r58 := Nat.ne_of_lt (Nat.lt_of_lt_of_le f61.lt hz58)
  have ne_r50_r58 : r50 ≠ r58 := Nat.ne_of_lt (Nat.lt_of_lt_of_le fw56.lt hz58)
  have hwr58 : h0.size ≤ r58 := Nat.le_trans K56.1 hz58
  have K58 : Keep h0 h58 [b] := K56.trans Kc58 all0
  have Z58 : n0 ≤ h58.size := Nat.le_trans Z56 Kc58.1
  have O58 := O56.keep Kc58 all0
  have Vq58 : Arv Z h58 r58 k58 .byte (2 : Int32) [(.int x0), (.int ((own_d2 x1 x2).toInt8.toInt32))] (.int 0) := Vc58
  refine own_st (g' := (mkF m 212 #[vr b, vr u8, vr arr, vi st, vi 3, vi 2, vr r50, vi 3, vi x1, vi x2, .unset] [(.ref r58)])) st58 ?_
  refine own_st (T' := T58) (g' := (mkF m 217 #[vr b, vr u8, vr arr, vi st, vi 3, vi 2, vr r58, vi 3, vi x1, vi x2, .unset] [(.ref r58), (.ref b)])) (fun t k => ?_) ?_
  ·refine XS.astore X58.here hx rfl (D d11_212) rfl rfl (l' := #[vr b, vr u8, vr arr, vi st, vi 3, vi 2, vr r58, vi 3, vi x1, vi x2, .unset]) rfl ?_
   refine XS.aloadN X58.here hx rfl (D d11_214) rfl rfl ?_
   refine XS.aload X58.here hx rfl (D d11_215) rfl rfl ?_
   exact k
  have f62 := ((F_v.keep Kc50 nin0).other W56 (Or.inl ne_b_r50)).keep Kc58 nin0
  have f63 := f59.keep Kc58
  obtain ⟨T64, h64, X64, e64, W64, st64⟩ := putF X58 hx hZ hown (host := "") (Or.inl (own_w hw 143 rfl)) Via.refl e58 f62 f63 (Or.inr ⟨(own_w hw 144 rfl), rfl, hnm⟩) (own_w hw 41 rfl) (ty := (.array .byte)) (by decide) rfl rfl (g := (mkF m 217 #[vr b, vr u8, vr arr, vi st, vi 3, vi 2, vr r58, vi 3, vi x1, vi x2, .unset] [(.ref r58), (.ref b)])) rfl rfl (D d11_217)
  have N64 := Fr.snoc X64 N58 g_b
  have K64 : Keep h0 h64 [b] := K58.wr W64 (Or.inl (List.mem_of_getElem? (i := 0) rfl))
  have Z64 : n0 ≤ h64.size := Nat.le_trans Z58 (Keep.of_wr W64).1
  have O64 := O58.wr W64 g_b
  have fw64 := (f62.same W64)
  refine own_st (g' := (mkF m 220 #[vr b, vr u8, vr arr, vi st, vi 3, vi 2, vr r58, vi 3, vi x1, vi x2, .unset] [])) st64 ?_
  refine own_st (T' := T64) (g' := (mkF m 222 #[vr b, vr u8, vr arr, vi st, vi 3, vi 2, vr r58, vi 3, vi x1, vi x2, .unset] [(.int 0), (.ref b)])) (fun t k => ?_) ?_
  ·refine XS.aloadN X64.here hx rfl (D d11_220) rfl rfl ?_
   refine XS.iconst X64.here hx rfl (D d11_221) ?_
   exact k
  have f65 := (((F_c.keep Kc50 nin0).other W56 (Or.inl ne_b_r50)).keep Kc58 nin0).other W64 (Or.inr (slot_ne (Or.inr (own_w hw 146 rfl)) (Or.inr (own_w hw 144 rfl)) (by decide) (t := .byte) (t' := (.array .byte)) (by decide) (by decide)))
  have f66 := f63.wr W64
  obtain ⟨T67, h67, X67, e67, W67, st67⟩ := putFN X64 hx hZ hown (own_w hw 145 rfl) Via.refl e64 f65 f66 (Or.inr ⟨(own_w hw 146 rfl), rfl, hnm⟩) (own_w hw 41 rfl) (ty := .byte) (v' := (.int 0)) (by decide) rfl rfl (g := (mkF m 222 #[vr b, vr u8, vr arr, vi st, vi 3, vi 2, vr r58, vi 3, vi x1, vi x2, .unset] [(.int 0), (.ref b)])) rfl rfl (D d11_222)
  have N67 := Fr.snoc X67 N64 g_b
  have K67 : Keep h0 h67 [b] := K64.wr W67 (Or.inl (List.mem_of_getElem? (i := 0) rfl))
  have Z67 : n0 ≤ h67.size := Nat.le_trans Z64 (Keep.of_wr W67).1
  have O67 := O64.wr W67 g_b
  have fw67 := (f65.same W67)
  refine own_st (g' := (mkF m 225 #[vr b, vr u8, vr arr, vi st, vi 3, vi 2, vr r58, vi 3, vi x1, vi x2, .unset] [])) st67 ?_
  have f68 := fw64.other W67 (Or.inr (slot_ne (Or.inr (own_w hw 144 rfl)) (Or.inr (own_w hw 146 rfl)) (by decide) (t := (.array .byte)) (t' := .byte) (by decide) (by decide)))
  have f69 := (Vq58.other W64 (Ne.symm ne_b_r58)).other W67 (Ne.symm ne_b_r58)
  exact own_retV X67 hx Bd (D d11_225) e67 (⟨r58, k58, _, [x0, ((own_d2 x1 x2).toInt8.toInt32)], rfl, N67, K67, f68, fw67, f69, Or.inl ⟨rfl, by show _ = [(x0.toInt8.toInt32), ((own_d2 x1 x2).toInt8.toInt32)]; rw [own_asc_id hk0], own_a2 (own_C_a hk0).2 (own_lat_255 hk1 hl1)⟩⟩) (by decide) (by decide)
 ·obtain rfl : ln = (3 : Int32) := own_ofN hln
  obtain ⟨_, _, ⟨T70, L70, c70, n70⟩, -, X70, ⟨Lc70, hQ70, l70, y70, z70⟩, st70⟩ := Jvm.LawKit.callS X5 hx (y := own_y6) hown (om hZ hw 73 rfl) (om hZ hw 74 rfl) (om hZ hw 75 rfl) (om hZ hw 76 rfl) (by decide) (backOf (W := 0) (own_rm12z l Z a0 hw arr ka bl [x0, x1, x2] st pn (3 : Int32) cs fm u8 h0 n0 Z0 O0 V_a hst hsg rfl (by simp) (own_lead_neg hk0.1) HB) hZ (own_w hw 76 rfl) (own_w hw 75 rfl) (by decide) (by decide)) (g := (mkF m 47 #[vr b, vr u8, vr arr, vi st, vi 3, .unset, .unset, .unset, .unset, .unset, .unset] [(.int 3), (.int st), (.ref arr)])) rfl (by rw [hml]; rfl) (argsL := [(.ref arr), (.int st), (.int 3)]) (rest := []) (lenOf own_pd18 rfl) rfl own_w0 (D d11_47) (fun _ _ => ⟨rfl, e5, (by decide : 0 + 0 ≤ _), (by decide : 0 + 0 ≤ _)⟩)
  dsimp only [Pt.U, Pt.locs, Pt.cells, Pt.slots] at X70 l70 y70 z70 st70 hQ70
  subst l70 y70 z70
  obtain ⟨rfl, N70q, e70⟩ := hQ70
  have N70 := Fr.app N0 N70q
  refine own_st (g' := (mkF m 50 #[vr b, vr u8, vr arr, vi st, vi 3, .unset, .unset, .unset, .unset, .unset, .unset] [(.int 0)])) st70 ?_
  refine own_st (T' := T70) (g' := (mkF m 84 #[vr b, vr u8, vr arr, vi st, vi 3, vi 0, .unset, .unset, .unset, .unset, .unset] [(.int (st + (3 : Int32))), (.int st), (.ref arr)])) (fun t k => ?_) ?_
  ·refine XS.istore X70.here hx rfl (D d11_50) rfl (l' := #[vr b, vr u8, vr arr, vi st, vi 3, vi 0, .unset, .unset, .unset, .unset, .unset]) rfl ?_
   refine XS.iload X70.here hx rfl (D d11_52) rfl ?_
   refine XS.iload X70.here hx rfl (D d11_54) rfl ?_
   refine XS.icmpYes X70.here hx rfl (pc0 := 56) (pc' := 78) rfl (D d11_56) rfl (feq (by decide : ¬ ((0 : Int32) = (3 : Int32)))).2 (by decide) (by decide) ?_
   refine XS.aloadN X70.here hx rfl (D d11_78) rfl rfl ?_
   refine XS.iloadN X70.here hx rfl (D d11_79) rfl ?_
   refine XS.iloadN X70.here hx rfl (D d11_80) rfl ?_
   refine XS.iload X70.here hx rfl (D d11_81) rfl ?_
   refine XS.iadd X70.here hx rfl (D d11_83) rfl ?_
   exact k
  obtain ⟨_, _, ⟨T71, L71, c71, n71⟩, -, X71, ⟨Lc71, hQ71, l71, y71, z71⟩, st71⟩ := Jvm.LawKit.callS X70 hx (y := own_y9) hown (om hZ hw 77 rfl) (om hZ hw 78 rfl) (om hZ hw 79 rfl) (om hZ hw 80 rfl) (by decide) (backOf (W := 0) (own_rm13 l Z a0 hw arr ka bl [x0, x1, x2] st pn (3 : Int32) cs fm u8 h0 n0 Z0 O0 V_a hst hsg rfl HB) hZ (own_w hw 80 rfl) (own_w hw 79 rfl) (by decide) (by decide)) (g := (mkF m 84 #[vr b, vr u8, vr arr, vi st, vi 3, vi 0, .unset, .unset, .unset, .unset, .unset] [(.int (st + (3 : Int32))), (.int st), (.ref arr)])) rfl (by rw [hml]; rfl) (argsL := [(.ref arr), (.int st), (.int (st + (3 : Int32)))]) (rest := []) (lenOf own_pd4 rfl) rfl own_w0 (D d11_84) (fun _ _ => ⟨rfl, e70, (by decide : 0 + 1 ≤ _), (by decide : 0 + 8 ≤ _)⟩)
  dsimp only [Pt.U, Pt.locs, Pt.cells, Pt.slots] at X71 l71 y71 z71 st71 hQ71
  subst l71 y71 z71
  obtain ⟨h71, e71⟩ : ∃ z, T71.heap = z := ⟨_, rfl⟩
  rw [e71] at hQ71
  obtain ⟨r71, k71, rfl, N71q, Kc71, g71, hz71, Vc71⟩ := hQ71
  have N71 := Fr.app N70 N71q
  have ne_b_r71 : b ≠ r71 := Nat.ne_of_lt (Nat.lt_of_lt_of_le E_b.lt hz71)
  have ne_arr_r71 : arr ≠ r71 := Nat.ne_of_lt (Nat.lt_of_lt_of_le V_a.lt hz71)
  have f72 := E_u8.ext O0.2
  have ne_u8_r71 : u8 ≠ r71 := Nat.ne_of_lt (Nat.lt_of_lt_of_le f72.lt hz71)
  have hwr71 : h0.size ≤ r71 := Nat.le_trans (Keep.refl h0 [b]).1 hz71
  have K71 : Keep h0 h71 [b] := (Keep.refl h0 [b]).trans Kc71 all0
  have Z71 : n0 ≤ h71.size := Nat.le_trans Z0 Kc71.1
  have O71 := O0.keep Kc71 all0
  have Vq71 : Arv Z h71 r71 k71 .byte (3 : Int32) [(.int x0), (.int x1), (.int x2)] (.int 0) := Vc71
  refine own_st (g' := (mkF m 87 #[vr b, vr u8, vr arr, vi st, vi 3, vi 0, .unset, .unset, .unset, .unset, .unset] [(.ref r71)])) st71 ?_
  refine own_st (T' := T71) (g' := (mkF m 107 #[vr b, vr u8, vr arr, vi st, vi 3, vi 0, vr r71, vi 1, .unset, .unset, .unset] [(.int 0), (.ref r71)])) (fun t k => ?_) ?_
  ·refine XS.astore X71.here hx rfl (D d11_87) rfl rfl (l' := #[vr b, vr u8, vr arr, vi st, vi 3, vi 0, vr r71, .unset, .unset, .unset, .unset]) rfl ?_
   refine XS.iload X71.here hx rfl (D d11_89) rfl ?_
   refine XS.istore X71.here hx rfl (D d11_91) rfl (l' := #[vr b, vr u8, vr arr, vi st, vi 3, vi 0, vr r71, vi 0, .unset, .unset, .unset]) rfl ?_
   refine XS.iload X71.here hx rfl (D d11_93) rfl ?_
   refine XS.iload X71.here hx rfl (D d11_95) rfl ?_
   refine XS.icmpNo X71.here hx rfl (D d11_97) rfl (tlt (by decide : (0 : Int32) < (3 : Int32))).2.1 ?_
   refine XS.aload X71.here hx rfl (D d11_100) rfl rfl ?_
   refine XS.iload X71.here hx rfl (D d11_102) rfl ?_
   refine XS.iinc X71.here hx rfl (D d11_104) rfl (l' := #[vr b, vr u8, vr arr, vi st, vi 3, vi 0, vr r71, vi 1, .unset, .unset, .unset]) rfl ?_
   exact k
  obtain ⟨cl73, Ar73, q73, S73, M73, H73, G73⟩ := id Vq71
  refine own_st (T' := T71) (g' := (mkF m 152 #[vr b, vr u8, vr arr, vi st, vi 3, vi 0, vr r71, vi 1, vi x0, .unset, .unset] [(.int 1), (.ref r71)])) (fun t k => ?_) ?_
  ·refine X71.baloadBytes hx (j := (0 : Int32)) (v := (.int x0)) (by rw [e71]; exact Ar73.1) (State.isArrayOf_alike hZ.alike Ar73.2.1) Ar73.2.2 (inb_of S73 ⟨by decide, by decide⟩) (Has.at H73 (inb_of S73 ⟨by decide, by decide⟩) rfl) (g := (mkF m 107 #[vr b, vr u8, vr arr, vi st, vi 3, vi 0, vr r71, vi 1, .unset, .unset, .unset] [(.int 0), (.ref r71)])) rfl rfl (D d11_107) _ ?_
   refine XS.istore X71.here hx rfl (D d11_108) rfl (l' := #[vr b, vr u8, vr arr, vi st, vi 3, vi 0, vr r71, vi 1, vi x0, .unset, .unset]) rfl ?_
   refine XS.iload X71.here hx rfl (D d11_110) rfl ?_
   refine XS.ifYes X71.here hx rfl (pc0 := 112) (pc' := 129) rfl (D d11_112) rfl ((if0 _ _).trans (tlt (own_lead_neg hk0.1)).1) (by decide) (by decide) ?_
   refine XS.iload X71.here hx rfl (D d11_129) rfl ?_
   refine XS.sipush X71.here hx rfl (D d11_131) ?_
   refine XS.iand X71.here hx rfl (D d11_134) rfl ?_
   refine XS.sipush X71.here hx rfl (D d11_135) ?_
   refine XS.icmpNo X71.here hx rfl (D d11_138) rfl (teq hl0).2 ?_
   refine XS.iload X71.here hx rfl (D d11_141) rfl ?_
   refine XS.iload X71.here hx rfl (D d11_143) rfl ?_
   refine XS.icmpNo X71.here hx rfl (D d11_145) rfl (tlt (by decide : (1 : Int32) < (3 : Int32))).2.1 ?_
   refine XS.aload X71.here hx rfl (D d11_148) rfl rfl ?_
   refine XS.iload X71.here hx rfl (D d11_150) rfl ?_
   exact k
  obtain ⟨cl74, Ar74, q74, S74, M74, H74, G74⟩ := id Vq71
  refine own_st (T' := T71) (g' := (mkF m 173 #[vr b, vr u8, vr arr, vi st, vi 3, vi 1, vr r71, vi 1, vi x0, vi x1, .unset] [(.int x1), (.int x0), (.int 0), (.ref r71)])) (fun t k => ?_) ?_
  ·refine X71.baloadBytes hx (j := (1 : Int32)) (v := (.int x1)) (by rw [e71]; exact Ar74.1) (State.isArrayOf_alike hZ.alike Ar74.2.1) Ar74.2.2 (inb_of S74 ⟨by decide, by decide⟩) (Has.at H74 (inb_of S74 ⟨by decide, by decide⟩) rfl) (g := (mkF m 152 #[vr b, vr u8, vr arr, vi st, vi 3, vi 0, vr r71, vi 1, vi x0, .unset, .unset] [(.int 1), (.ref r71)])) rfl rfl (D d11_152) _ ?_
   refine XS.istore X71.here hx rfl (D d11_153) rfl (l' := #[vr b, vr u8, vr arr, vi st, vi 3, vi 0, vr r71, vi 1, vi x0, vi x1, .unset]) rfl ?_
   refine XS.iload X71.here hx rfl (D d11_155) rfl ?_
   refine XS.bipush X71.here hx rfl (D d11_157) ?_
   refine XS.icmpNo X71.here hx rfl (D d11_159) rfl (tlt (own_cont_64 hk0.2)).2.1 ?_
   refine XS.aload X71.here hx rfl (D d11_162) rfl rfl ?_
   refine XS.iload X71.here hx rfl (D d11_164) rfl ?_
   refine XS.iinc X71.here hx rfl (D d11_166) rfl (l' := #[vr b, vr u8, vr arr, vi st, vi 3, vi 1, vr r71, vi 1, vi x0, vi x1, .unset]) rfl ?_
   refine XS.iload X71.here hx rfl (D d11_169) rfl ?_
   refine XS.iload X71.here hx rfl (D d11_171) rfl ?_
   exact k
  obtain ⟨_, _, ⟨T75, L75, c75, n75⟩, -, X75, ⟨Lc75, hQ75, l75, y75, z75⟩, st75⟩ := Jvm.LawKit.callS X71 hx (y := own_y18) hown (om hZ hw 209 rfl) (om hZ hw 210 rfl) (om hZ hw 42 rfl) (om hZ hw 211 rfl) (by decide) (backOf (W := 2) (own_rm43 l Z a0 hw x0 x1 cs fm u8 h71 n0 Z71 O71 HB) hZ (own_w hw 211 rfl) (own_w hw 42 rfl) (by decide) (by decide)) (g := (mkF m 173 #[vr b, vr u8, vr arr, vi st, vi 3, vi 1, vr r71, vi 1, vi x0, vi x1, .unset] [(.int x1), (.int x0), (.int 0), (.ref r71)])) rfl (by rw [hml]; rfl) (argsL := [(.int x0), (.int x1)]) (rest := [(.int 0), (.ref r71)]) (lenOf own_pd12 rfl) rfl own_w0 (D d11_173) (fun _ _ => ⟨rfl, e71, (by decide : 1 + 0 ≤ _), (by decide : 8 + 0 ≤ _)⟩)
  dsimp only [Pt.U, Pt.locs, Pt.cells, Pt.slots] at X75 l75 y75 z75 st75 hQ75
  subst l75 y75 z75
  obtain ⟨rfl, N75q, e75⟩ := hQ75
  have N75 := Fr.app N71 N75q
  refine own_st (g' := (mkF m 176 #[vr b, vr u8, vr arr, vi st, vi 3, vi 1, vr r71, vi 1, vi x0, vi x1, .unset] [(.int (own_d2 x0 x1)), (.int 0), (.ref r71)])) st75 ?_
  refine own_st (T' := T75) (g' := (mkF m 177 #[vr b, vr u8, vr arr, vi st, vi 3, vi 1, vr r71, vi 1, vi x0, vi x1, .unset] [(.int ((own_d2 x0 x1).toInt8.toInt32)), (.int 0), (.ref r71)])) (fun t k => ?_) ?_
  ·refine XS.i2b X75.here hx rfl (D d11_176) rfl ?_
   exact k
  obtain ⟨cl76, Ar76, q76, S76, M76, H76, G76⟩ := id Vq71
  obtain ⟨T77, h77, X77, e77, W77, st77⟩ := stB X75 hx hZ e75 Ar76 (j := (0 : Int32)) (inb_of S76 ⟨by decide, by decide⟩) (g := (mkF m 177 #[vr b, vr u8, vr arr, vi st, vi 3, vi 1, vr r71, vi 1, vi x0, vi x1, .unset] [(.int ((own_d2 x0 x1).toInt8.toInt32)), (.int 0), (.ref r71)])) rfl rfl (D d11_177)
  have N77 := Fr.snoc X77 N75 g71
  have K77 : Keep h0 h77 [b] := K71.wr W77 (Or.inr hwr71)
  have Z77 : n0 ≤ h77.size := Nat.le_trans Z71 (Keep.of_wr W77).1
  have O77 := O71.wr W77 g71
  have fw77 := (show Arv Z h77 r71 k71 .byte (3 : Int32) [(.int ((own_d2 x0 x1).toInt8.toInt32)), (.int x1), (.int x2)] (.int 0) by have q : Arv Z h77 r71 k71 .byte (3 : Int32) [(.int (((own_d2 x0 x1).toInt8.toInt32).toInt8.toInt32)), (.int x1), (.int x2)] (.int 0) := Arv.set Ar76 q76 S76 M76 H76 G76 (fits_nar_byte _) W77 0 rfl (Nat.le_of_ble_eq_true rfl); rw [own_bb (own_d2 x0 x1)] at q; exact q)
  refine own_st (g' := (mkF m 178 #[vr b, vr u8, vr arr, vi st, vi 3, vi 1, vr r71, vi 1, vi x0, vi x1, .unset] [])) st77 ?_
  refine own_st (T' := T77) (g' := (mkF m 107 #[vr b, vr u8, vr arr, vi st, vi 3, vi 1, vr r71, vi 3, vi x0, vi x1, .unset] [(.int 2), (.ref r71)])) (fun t k => ?_) ?_
  ·refine XS.iinc X77.here hx rfl (D d11_178) rfl (l' := #[vr b, vr u8, vr arr, vi st, vi 3, vi 1, vr r71, vi 2, vi x0, vi x1, .unset]) rfl ?_
   refine XS.goto X77.here hx rfl (pc0 := 181) (pc' := 93) rfl (D d11_181) (by decide) (by decide) ?_
   refine XS.iload X77.here hx rfl (D d11_93) rfl ?_
   refine XS.iload X77.here hx rfl (D d11_95) rfl ?_
   refine XS.icmpNo X77.here hx rfl (D d11_97) rfl (tlt (by decide : (2 : Int32) < (3 : Int32))).2.1 ?_
   refine XS.aload X77.here hx rfl (D d11_100) rfl rfl ?_
   refine XS.iload X77.here hx rfl (D d11_102) rfl ?_
   refine XS.iinc X77.here hx rfl (D d11_104) rfl (l' := #[vr b, vr u8, vr arr, vi st, vi 3, vi 1, vr r71, vi 3, vi x0, vi x1, .unset]) rfl ?_
   exact k
  obtain ⟨cl78, Ar78, q78, S78, M78, H78, G78⟩ := id fw77
  refine own_st (T' := T77) (g' := (mkF m 125 #[vr b, vr u8, vr arr, vi st, vi 3, vi 2, vr r71, vi 3, vi x2, vi x1, .unset] [(.int (x2.toInt8.toInt32)), (.int 1), (.ref r71)])) (fun t k => ?_) ?_
  ·refine X77.baloadBytes hx (j := (2 : Int32)) (v := (.int x2)) (by rw [e77]; exact Ar78.1) (State.isArrayOf_alike hZ.alike Ar78.2.1) Ar78.2.2 (inb_of S78 ⟨by decide, by decide⟩) (Has.at H78 (inb_of S78 ⟨by decide, by decide⟩) rfl) (g := (mkF m 107 #[vr b, vr u8, vr arr, vi st, vi 3, vi 1, vr r71, vi 3, vi x0, vi x1, .unset] [(.int 2), (.ref r71)])) rfl rfl (D d11_107) _ ?_
   refine XS.istore X77.here hx rfl (D d11_108) rfl (l' := #[vr b, vr u8, vr arr, vi st, vi 3, vi 1, vr r71, vi 3, vi x2, vi x1, .unset]) rfl ?_
   refine XS.iload X77.here hx rfl (D d11_110) rfl ?_
   refine XS.ifNo X77.here hx rfl (D d11_112) rfl ((if0 _ _).trans (flt (own_asc_n hk2)).1) ?_
   refine XS.aload X77.here hx rfl (D d11_115) rfl rfl ?_
   refine XS.iload X77.here hx rfl (D d11_117) rfl ?_
   refine XS.iinc X77.here hx rfl (D d11_119) rfl (l' := #[vr b, vr u8, vr arr, vi st, vi 3, vi 2, vr r71, vi 3, vi x2, vi x1, .unset]) rfl ?_
   refine XS.iload X77.here hx rfl (D d11_122) rfl ?_
   refine XS.i2b X77.here hx rfl (D d11_124) rfl ?_
   exact k
  obtain ⟨cl79, Ar79, q79, S79, M79, H79, G79⟩ := id fw77
  obtain ⟨T80, h80, X80, e80, W80, st80⟩ := stB X77 hx hZ e77 Ar79 (j := (1 : Int32)) (inb_of S79 ⟨by decide, by decide⟩) (g := (mkF m 125 #[vr b, vr u8, vr arr, vi st, vi 3, vi 2, vr r71, vi 3, vi x2, vi x1, .unset] [(.int (x2.toInt8.toInt32)), (.int 1), (.ref r71)])) rfl rfl (D d11_125)
  have N80 := Fr.snoc X80 N77 g71
  have K80 : Keep h0 h80 [b] := K77.wr W80 (Or.inr hwr71)
  have Z80 : n0 ≤ h80.size := Nat.le_trans Z77 (Keep.of_wr W80).1
  have O80 := O77.wr W80 g71
  have fw80 := (show Arv Z h80 r71 k71 .byte (3 : Int32) [(.int ((own_d2 x0 x1).toInt8.toInt32)), (.int (x2.toInt8.toInt32)), (.int x2)] (.int 0) by have q : Arv Z h80 r71 k71 .byte (3 : Int32) [(.int ((own_d2 x0 x1).toInt8.toInt32)), (.int ((x2.toInt8.toInt32).toInt8.toInt32)), (.int x2)] (.int 0) := Arv.set Ar79 q79 S79 M79 H79 G79 (fits_nar_byte _) W80 1 rfl (Nat.le_of_ble_eq_true rfl); rw [own_bb x2] at q; exact q)
  refine own_st (g' := (mkF m 126 #[vr b, vr u8, vr arr, vi st, vi 3, vi 2, vr r71, vi 3, vi x2, vi x1, .unset] [])) st80 ?_
  refine own_st (T' := T80) (g' := (mkF m 201 #[vr b, vr u8, vr arr, vi st, vi 3, vi 2, vr r71, vi 3, vi x2, vi x1, .unset] [(.ref r71), (.int 2)])) (fun t k => ?_) ?_
  ·refine XS.goto X80.here hx rfl (pc0 := 126) (pc' := 93) rfl (D d11_126) (by decide) (by decide) ?_
   refine XS.iload X80.here hx rfl (D d11_93) rfl ?_
   refine XS.iload X80.here hx rfl (D d11_95) rfl ?_
   refine XS.icmpYes X80.here hx rfl (pc0 := 97) (pc' := 190) rfl (D d11_97) rfl (flt Int32.lt_irrefl).2.1 (by decide) (by decide) ?_
   refine XS.iload X80.here hx rfl (D d11_190) rfl ?_
   refine XS.iload X80.here hx rfl (D d11_192) rfl ?_
   refine XS.icmpNo X80.here hx rfl (D d11_194) rfl (teq (rfl : (3 : Int32) = (3 : Int32))).2 ?_
   refine XS.iload X80.here hx rfl (D d11_197) rfl ?_
   refine XS.aload X80.here hx rfl (D d11_199) rfl rfl ?_
   exact k
  obtain ⟨cl81, Ar81, q81, S81, M81, H81, G81⟩ := id fw80
  refine own_st (T' := T80) (g' := (mkF m 209 #[vr b, vr u8, vr arr, vi st, vi 3, vi 2, vr r71, vi 3, vi x2, vi x1, .unset] [(.int 2), (.ref r71)])) (fun t k => ?_) ?_
  ·refine X80.arraylength hx (by rw [e80]; exact Ar81.1) (State.isArrayOf_alike hZ.alike Ar81.2.1) (g := (mkF m 201 #[vr b, vr u8, vr arr, vi st, vi 3, vi 2, vr r71, vi 3, vi x2, vi x1, .unset] [(.ref r71), (.int 2)])) rfl rfl (D d11_201) _ ?_
   rw [len_of S81 M81]
   refine XS.icmpNo X80.here hx rfl (D d11_202) rfl (feq (by decide : ¬ ((2 : Int32) = (3 : Int32)))).1 ?_
   refine XS.aload X80.here hx rfl (D d11_205) rfl rfl ?_
   refine XS.iload X80.here hx rfl (D d11_207) rfl ?_
   exact k
  obtain ⟨_, _, ⟨T82, L82, c82, n82⟩, -, X82, ⟨Lc82, hQ82, l82, y82, z82⟩, st82⟩ := Jvm.LawKit.callS X80 hx (y := own_y10) hown (om hZ hw 140 rfl) (om hZ hw 141 rfl) (om hZ hw 79 rfl) (om hZ hw 142 rfl) (by decide) (backOf (W := 0) (own_rm28 l Z a0 hw r71 k71 [((own_d2 x0 x1).toInt8.toInt32), (x2.toInt8.toInt32), x2] (3 : Int32) (2 : Int32) 3 2 cs fm u8 h80 n0 Z80 O80 fw80 rfl rfl (by decide) rfl (by decide) HB) hZ (own_w hw 142 rfl) (own_w hw 79 rfl) (by decide) (by decide)) (g := (mkF m 209 #[vr b, vr u8, vr arr, vi st, vi 3, vi 2, vr r71, vi 3, vi x2, vi x1, .unset] [(.int 2), (.ref r71)])) rfl (by rw [hml]; rfl) (argsL := [(.ref r71), (.int 2)]) (rest := []) (lenOf own_pd19 rfl) rfl own_w0 (D d11_209) (fun _ _ => ⟨rfl, e80, (by decide : 1 + 1 ≤ _), (by decide : 8 + 8 ≤ _)⟩)
  dsimp only [Pt.U, Pt.locs, Pt.cells, Pt.slots] at X82 l82 y82 z82 st82 hQ82
  subst l82 y82 z82
  obtain ⟨h82, e82⟩ : ∃ z, T82.heap = z := ⟨_, rfl⟩
  rw [e82] at hQ82
  obtain ⟨r82, k82, rfl, N82q, Kc82, g82, hz82, Vc82⟩ := hQ82
  have N82 := Fr.app N80 N82q
  have f83 := ((E_b.keep Kc71).wr W77).wr W80
  have ne_b_r82 : b ≠ r82 := Nat.ne_of_lt (Nat.lt_of_lt_of_le f83.lt hz82)
  have f84 := ((V_a.keep Kc71 nin0).other W77 ne_arr_r71).other W80 ne_arr_r71
  have ne_arr_r82 : arr ≠ r82 := Nat.ne_of_lt (Nat.lt_of_lt_of_le f84.lt hz82)
  have f85 := E_u8.ext O80.2
  have ne_u8_r82 : u8 ≠ r82 := Nat.ne_of_lt (Nat.lt_of_lt_of_le f85.lt hz82)
  have ne_r71_r82 : r71 ≠ r82 := Nat.ne_of_lt (Nat.lt_of_lt_of_le fw80.lt hz82)
  have hwr82 : h0.size ≤ r82 := Nat.le_trans K80.1 hz82
  have K82 : Keep h0 h82 [b] := K80.trans Kc82 all0
  have Z82 : n0 ≤ h82.size := Nat.le_trans Z80 Kc82.1
  have O82 := O80.keep Kc82 all0
  have Vq82 : Arv Z h82 r82 k82 .byte (2 : Int32) [(.int ((own_d2 x0 x1).toInt8.toInt32)), (.int (x2.toInt8.toInt32))] (.int 0) := Vc82
  refine own_st (g' := (mkF m 212 #[vr b, vr u8, vr arr, vi st, vi 3, vi 2, vr r71, vi 3, vi x2, vi x1, .unset] [(.ref r82)])) st82 ?_
  refine own_st (T' := T82) (g' := (mkF m 217 #[vr b, vr u8, vr arr, vi st, vi 3, vi 2, vr r82, vi 3, vi x2, vi x1, .unset] [(.ref r82), (.ref b)])) (fun t k => ?_) ?_
  ·refine XS.astore X82.here hx rfl (D d11_212) rfl rfl (l' := #[vr b, vr u8, vr arr, vi st, vi 3, vi 2, vr r82, vi 3, vi x2, vi x1, .unset]) rfl ?_
   refine XS.aloadN X82.here hx rfl (D d11_214) rfl rfl ?_
   refine XS.aload X82.here hx rfl (D d11_215) rfl rfl ?_
   exact k
  have f86 := (((F_v.keep Kc71 nin0).other W77 (Or.inl ne_b_r71)).other W80 (Or.inl ne_b_r71)).keep Kc82 nin0
  have f87 := f83.keep Kc82
  obtain ⟨T88, h88, X88, e88, W88, st88⟩ := putF X82 hx hZ hown (host := "") (Or.inl (own_w hw 143 rfl)) Via.refl e82 f86 f87 (Or.inr ⟨(own_w hw 144 rfl), rfl, hnm⟩) (own_w hw 41 rfl) (ty := (.array .byte)) (by decide) rfl rfl (g := (mkF m 217 #[vr b, vr u8, vr arr, vi st, vi 3, vi 2, vr r82, vi 3, vi x2, vi x1, .unset] [(.ref r82), (.ref b)])) rfl rfl (D d11_217)
  have N88 := Fr.snoc X88 N82 g_b
  have K88 : Keep h0 h88 [b] := K82.wr W88 (Or.inl (List.mem_of_getElem? (i := 0) rfl))
  have Z88 : n0 ≤ h88.size := Nat.le_trans Z82 (Keep.of_wr W88).1
  have O88 := O82.wr W88 g_b
  have fw88 := (f86.same W88)
  refine own_st (g' := (mkF m 220 #[vr b, vr u8, vr arr, vi st, vi 3, vi 2, vr r82, vi 3, vi x2, vi x1, .unset] [])) st88 ?_
  refine own_st (T' := T88) (g' := (mkF m 222 #[vr b, vr u8, vr arr, vi st, vi 3, vi 2, vr r82, vi 3, vi x2, vi x1, .unset] [(.int 0), (.ref b)])) (fun t k => ?_) ?_
  ·refine XS.aloadN X88.here hx rfl (D d11_220) rfl rfl ?_
   refine XS.iconst X88.here hx rfl (D d11_221) ?_
   exact k
  have f89 := ((((F_c.keep Kc71 nin0).other W77 (Or.inl ne_b_r71)).other W80 (Or.inl ne_b_r71)).keep Kc82 nin0).other W88 (Or.inr (slot_ne (Or.inr (own_w hw 146 rfl)) (Or.inr (own_w hw 144 rfl)) (by decide) (t := .byte) (t' := (.array .byte)) (by decide) (by decide)))
  have f90 := f87.wr W88
  obtain ⟨T91, h91, X91, e91, W91, st91⟩ := putFN X88 hx hZ hown (own_w hw 145 rfl) Via.refl e88 f89 f90 (Or.inr ⟨(own_w hw 146 rfl), rfl, hnm⟩) (own_w hw 41 rfl) (ty := .byte) (v' := (.int 0)) (by decide) rfl rfl (g := (mkF m 222 #[vr b, vr u8, vr arr, vi st, vi 3, vi 2, vr r82, vi 3, vi x2, vi x1, .unset] [(.int 0), (.ref b)])) rfl rfl (D d11_222)
  have N91 := Fr.snoc X91 N88 g_b
  have K91 : Keep h0 h91 [b] := K88.wr W91 (Or.inl (List.mem_of_getElem? (i := 0) rfl))
  have Z91 : n0 ≤ h91.size := Nat.le_trans Z88 (Keep.of_wr W91).1
  have O91 := O88.wr W91 g_b
  have fw91 := (f89.same W91)
  refine own_st (g' := (mkF m 225 #[vr b, vr u8, vr arr, vi st, vi 3, vi 2, vr r82, vi 3, vi x2, vi x1, .unset] [])) st91 ?_
  have f92 := fw88.other W91 (Or.inr (slot_ne (Or.inr (own_w hw 144 rfl)) (Or.inr (own_w hw 146 rfl)) (by decide) (t := (.array .byte)) (t' := .byte) (by decide) (by decide)))
  have f93 := (Vq82.other W88 (Ne.symm ne_b_r82)).other W91 (Ne.symm ne_b_r82)
  exact own_retV X91 hx Bd (D d11_225) e91 (⟨r82, k82, _, [((own_d2 x0 x1).toInt8.toInt32), (x2.toInt8.toInt32)], rfl, N91, K91, f92, fw91, f93, Or.inl ⟨rfl, rfl, own_a2 (own_lat_255 hk0 hl0) (own_C_a hk2).2⟩⟩) (by decide) (by decide)
 ·obtain rfl : ln = (4 : Int32) := own_ofN hln
  obtain ⟨_, _, ⟨T94, L94, c94, n94⟩, -, X94, ⟨Lc94, hQ94, l94, y94, z94⟩, st94⟩ := Jvm.LawKit.callS X5 hx (y := own_y6) hown (om hZ hw 73 rfl) (om hZ hw 74 rfl) (om hZ hw 75 rfl) (om hZ hw 76 rfl) (by decide) (backOf (W := 0) (own_rm12z l Z a0 hw arr ka bl [x0, x1, x2, x3] st pn (4 : Int32) cs fm u8 h0 n0 Z0 O0 V_a hst hsg rfl (by simp) (own_lead_neg hk0.1) HB) hZ (own_w hw 76 rfl) (own_w hw 75 rfl) (by decide) (by decide)) (g := (mkF m 47 #[vr b, vr u8, vr arr, vi st, vi 4, .unset, .unset, .unset, .unset, .unset, .unset] [(.int 4), (.int st), (.ref arr)])) rfl (by rw [hml]; rfl) (argsL := [(.ref arr), (.int st), (.int 4)]) (rest := []) (lenOf own_pd18 rfl) rfl own_w0 (D d11_47) (fun _ _ => ⟨rfl, e5, (by decide : 0 + 0 ≤ _), (by decide : 0 + 0 ≤ _)⟩)
  dsimp only [Pt.U, Pt.locs, Pt.cells, Pt.slots] at X94 l94 y94 z94 st94 hQ94
  subst l94 y94 z94
  obtain ⟨rfl, N94q, e94⟩ := hQ94
  have N94 := Fr.app N0 N94q
  refine own_st (g' := (mkF m 50 #[vr b, vr u8, vr arr, vi st, vi 4, .unset, .unset, .unset, .unset, .unset, .unset] [(.int 0)])) st94 ?_
  refine own_st (T' := T94) (g' := (mkF m 84 #[vr b, vr u8, vr arr, vi st, vi 4, vi 0, .unset, .unset, .unset, .unset, .unset] [(.int (st + (4 : Int32))), (.int st), (.ref arr)])) (fun t k => ?_) ?_
  ·refine XS.istore X94.here hx rfl (D d11_50) rfl (l' := #[vr b, vr u8, vr arr, vi st, vi 4, vi 0, .unset, .unset, .unset, .unset, .unset]) rfl ?_
   refine XS.iload X94.here hx rfl (D d11_52) rfl ?_
   refine XS.iload X94.here hx rfl (D d11_54) rfl ?_
   refine XS.icmpYes X94.here hx rfl (pc0 := 56) (pc' := 78) rfl (D d11_56) rfl (feq (by decide : ¬ ((0 : Int32) = (4 : Int32)))).2 (by decide) (by decide) ?_
   refine XS.aloadN X94.here hx rfl (D d11_78) rfl rfl ?_
   refine XS.iloadN X94.here hx rfl (D d11_79) rfl ?_
   refine XS.iloadN X94.here hx rfl (D d11_80) rfl ?_
   refine XS.iload X94.here hx rfl (D d11_81) rfl ?_
   refine XS.iadd X94.here hx rfl (D d11_83) rfl ?_
   exact k
  obtain ⟨_, _, ⟨T95, L95, c95, n95⟩, -, X95, ⟨Lc95, hQ95, l95, y95, z95⟩, st95⟩ := Jvm.LawKit.callS X94 hx (y := own_y9) hown (om hZ hw 77 rfl) (om hZ hw 78 rfl) (om hZ hw 79 rfl) (om hZ hw 80 rfl) (by decide) (backOf (W := 0) (own_rm13 l Z a0 hw arr ka bl [x0, x1, x2, x3] st pn (4 : Int32) cs fm u8 h0 n0 Z0 O0 V_a hst hsg rfl HB) hZ (own_w hw 80 rfl) (own_w hw 79 rfl) (by decide) (by decide)) (g := (mkF m 84 #[vr b, vr u8, vr arr, vi st, vi 4, vi 0, .unset, .unset, .unset, .unset, .unset] [(.int (st + (4 : Int32))), (.int st), (.ref arr)])) rfl (by rw [hml]; rfl) (argsL := [(.ref arr), (.int st), (.int (st + (4 : Int32)))]) (rest := []) (lenOf own_pd4 rfl) rfl own_w0 (D d11_84) (fun _ _ => ⟨rfl, e94, (by decide : 0 + 1 ≤ _), (by decide : 0 + 8 ≤ _)⟩)
  dsimp only [Pt.U, Pt.locs, Pt.cells, Pt.slots] at X95 l95 y95 z95 st95 hQ95
  subst l95 y95 z95
  obtain ⟨h95, e95⟩ : ∃ z, T95.heap = z := ⟨_, rfl⟩
  rw [e95] at hQ95
  obtain ⟨r95, k95, rfl, N95q, Kc95, g95, hz95, Vc95⟩ := hQ95
  have N95 := Fr.app N94 N95q
  have ne_b_r95 : b ≠ r95 := Nat.ne_of_lt (Nat.lt_of_lt_of_le E_b.lt hz95)
  have ne_arr_r95 : arr ≠ r95 := Nat.ne_of_lt (Nat.lt_of_lt_of_le V_a.lt hz95)
  have f96 := E_u8.ext O0.2
  have ne_u8_r95 : u8 ≠ r95 := Nat.ne_of_lt (Nat.lt_of_lt_of_le f96.lt hz95)
  have hwr95 : h0.size ≤ r95 := Nat.le_trans (Keep.refl h0 [b]).1 hz95
  have K95 : Keep h0 h95 [b] := (Keep.refl h0 [b]).trans Kc95 all0
  have Z95 : n0 ≤ h95.size := Nat.le_trans Z0 Kc95.1
  have O95 := O0.keep Kc95 all0
  have Vq95 : Arv Z h95 r95 k95 .byte (4 : Int32) [(.int x0), (.int x1), (.int x2), (.int x3)] (.int 0) := Vc95
  refine own_st (g' := (mkF m 87 #[vr b, vr u8, vr arr, vi st, vi 4, vi 0, .unset, .unset, .unset, .unset, .unset] [(.ref r95)])) st95 ?_
  refine own_st (T' := T95) (g' := (mkF m 107 #[vr b, vr u8, vr arr, vi st, vi 4, vi 0, vr r95, vi 1, .unset, .unset, .unset] [(.int 0), (.ref r95)])) (fun t k => ?_) ?_
  ·refine XS.astore X95.here hx rfl (D d11_87) rfl rfl (l' := #[vr b, vr u8, vr arr, vi st, vi 4, vi 0, vr r95, .unset, .unset, .unset, .unset]) rfl ?_
   refine XS.iload X95.here hx rfl (D d11_89) rfl ?_
   refine XS.istore X95.here hx rfl (D d11_91) rfl (l' := #[vr b, vr u8, vr arr, vi st, vi 4, vi 0, vr r95, vi 0, .unset, .unset, .unset]) rfl ?_
   refine XS.iload X95.here hx rfl (D d11_93) rfl ?_
   refine XS.iload X95.here hx rfl (D d11_95) rfl ?_
   refine XS.icmpNo X95.here hx rfl (D d11_97) rfl (tlt (by decide : (0 : Int32) < (4 : Int32))).2.1 ?_
   refine XS.aload X95.here hx rfl (D d11_100) rfl rfl ?_
   refine XS.iload X95.here hx rfl (D d11_102) rfl ?_
   refine XS.iinc X95.here hx rfl (D d11_104) rfl (l' := #[vr b, vr u8, vr arr, vi st, vi 4, vi 0, vr r95, vi 1, .unset, .unset, .unset]) rfl ?_
   exact k
  obtain ⟨cl97, Ar97, q97, S97, M97, H97, G97⟩ := id Vq95
  refine own_st (T' := T95) (g' := (mkF m 152 #[vr b, vr u8, vr arr, vi st, vi 4, vi 0, vr r95, vi 1, vi x0, .unset, .unset] [(.int 1), (.ref r95)])) (fun t k => ?_) ?_
  ·refine X95.baloadBytes hx (j := (0 : Int32)) (v := (.int x0)) (by rw [e95]; exact Ar97.1) (State.isArrayOf_alike hZ.alike Ar97.2.1) Ar97.2.2 (inb_of S97 ⟨by decide, by decide⟩) (Has.at H97 (inb_of S97 ⟨by decide, by decide⟩) rfl) (g := (mkF m 107 #[vr b, vr u8, vr arr, vi st, vi 4, vi 0, vr r95, vi 1, .unset, .unset, .unset] [(.int 0), (.ref r95)])) rfl rfl (D d11_107) _ ?_
   refine XS.istore X95.here hx rfl (D d11_108) rfl (l' := #[vr b, vr u8, vr arr, vi st, vi 4, vi 0, vr r95, vi 1, vi x0, .unset, .unset]) rfl ?_
   refine XS.iload X95.here hx rfl (D d11_110) rfl ?_
   refine XS.ifYes X95.here hx rfl (pc0 := 112) (pc' := 129) rfl (D d11_112) rfl ((if0 _ _).trans (tlt (own_lead_neg hk0.1)).1) (by decide) (by decide) ?_
   refine XS.iload X95.here hx rfl (D d11_129) rfl ?_
   refine XS.sipush X95.here hx rfl (D d11_131) ?_
   refine XS.iand X95.here hx rfl (D d11_134) rfl ?_
   refine XS.sipush X95.here hx rfl (D d11_135) ?_
   refine XS.icmpNo X95.here hx rfl (D d11_138) rfl (teq hl0).2 ?_
   refine XS.iload X95.here hx rfl (D d11_141) rfl ?_
   refine XS.iload X95.here hx rfl (D d11_143) rfl ?_
   refine XS.icmpNo X95.here hx rfl (D d11_145) rfl (tlt (by decide : (1 : Int32) < (4 : Int32))).2.1 ?_
   refine XS.aload X95.here hx rfl (D d11_148) rfl rfl ?_
   refine XS.iload X95.here hx rfl (D d11_150) rfl ?_
   exact k
  obtain ⟨cl98, Ar98, q98, S98, M98, H98, G98⟩ := id Vq95
  refine own_st (T' := T95) (g' := (mkF m 173 #[vr b, vr u8, vr arr, vi st, vi 4, vi 1, vr r95, vi 1, vi x0, vi x1, .unset] [(.int x1), (.int x0), (.int 0), (.ref r95)])) (fun t k => ?_) ?_
  ·refine X95.baloadBytes hx (j := (1 : Int32)) (v := (.int x1)) (by rw [e95]; exact Ar98.1) (State.isArrayOf_alike hZ.alike Ar98.2.1) Ar98.2.2 (inb_of S98 ⟨by decide, by decide⟩) (Has.at H98 (inb_of S98 ⟨by decide, by decide⟩) rfl) (g := (mkF m 152 #[vr b, vr u8, vr arr, vi st, vi 4, vi 0, vr r95, vi 1, vi x0, .unset, .unset] [(.int 1), (.ref r95)])) rfl rfl (D d11_152) _ ?_
   refine XS.istore X95.here hx rfl (D d11_153) rfl (l' := #[vr b, vr u8, vr arr, vi st, vi 4, vi 0, vr r95, vi 1, vi x0, vi x1, .unset]) rfl ?_
   refine XS.iload X95.here hx rfl (D d11_155) rfl ?_
   refine XS.bipush X95.here hx rfl (D d11_157) ?_
   refine XS.icmpNo X95.here hx rfl (D d11_159) rfl (tlt (own_cont_64 hk0.2)).2.1 ?_
   refine XS.aload X95.here hx rfl (D d11_162) rfl rfl ?_
   refine XS.iload X95.here hx rfl (D d11_164) rfl ?_
   refine XS.iinc X95.here hx rfl (D d11_166) rfl (l' := #[vr b, vr u8, vr arr, vi st, vi 4, vi 1, vr r95, vi 1, vi x0, vi x1, .unset]) rfl ?_
   refine XS.iload X95.here hx rfl (D d11_169) rfl ?_
   refine XS.iload X95.here hx rfl (D d11_171) rfl ?_
   exact k
  obtain ⟨_, _, ⟨T99, L99, c99, n99⟩, -, X99, ⟨Lc99, hQ99, l99, y99, z99⟩, st99⟩ := Jvm.LawKit.callS X95 hx (y := own_y18) hown (om hZ hw 209 rfl) (om hZ hw 210 rfl) (om hZ hw 42 rfl) (om hZ hw 211 rfl) (by decide) (backOf (W := 2) (own_rm43 l Z a0 hw x0 x1 cs fm u8 h95 n0 Z95 O95 HB) hZ (own_w hw 211 rfl) (own_w hw 42 rfl) (by decide) (by decide)) (g := (mkF m 173 #[vr b, vr u8, vr arr, vi st, vi 4, vi 1, vr r95, vi 1, vi x0, vi x1, .unset] [(.int x1), (.int x0), (.int 0), (.ref r95)])) rfl (by rw [hml]; rfl) (argsL := [(.int x0), (.int x1)]) (rest := [(.int 0), (.ref r95)]) (lenOf own_pd12 rfl) rfl own_w0 (D d11_173) (fun _ _ => ⟨rfl, e95, (by decide : 1 + 0 ≤ _), (by decide : 8 + 0 ≤ _)⟩)
  dsimp only [Pt.U, Pt.locs, Pt.cells, Pt.slots] at X99 l99 y99 z99 st99 hQ99
  subst l99 y99 z99
  obtain ⟨rfl, N99q, e99⟩ := hQ99
  have N99 := Fr.app N95 N99q
  refine own_st (g' := (mkF m 176 #[vr b, vr u8, vr arr, vi st, vi 4, vi 1, vr r95, vi 1, vi x0, vi x1, .unset] [(.int (own_d2 x0 x1)), (.int 0), (.ref r95)])) st99 ?_
  refine own_st (T' := T99) (g' := (mkF m 177 #[vr b, vr u8, vr arr, vi st, vi 4, vi 1, vr r95, vi 1, vi x0, vi x1, .unset] [(.int ((own_d2 x0 x1).toInt8.toInt32)), (.int 0), (.ref r95)])) (fun t k => ?_) ?_
  ·refine XS.i2b X99.here hx rfl (D d11_176) rfl ?_
   exact k
  obtain ⟨cl100, Ar100, q100, S100, M100, H100, G100⟩ := id Vq95
  obtain ⟨T101, h101, X101, e101, W101, st101⟩ := stB X99 hx hZ e99 Ar100 (j := (0 : Int32)) (inb_of S100 ⟨by decide, by decide⟩) (g := (mkF m 177 #[vr b, vr u8, vr arr, vi st, vi 4, vi 1, vr r95, vi 1, vi x0, vi x1, .unset] [(.int ((own_d2 x0 x1).toInt8.toInt32)), (.int 0), (.ref r95)])) rfl rfl (D d11_177)
  have N101 := Fr.snoc X101 N99 g95
  have K101 : Keep h0 h101 [b] := K95.wr W101 (Or.inr hwr95)
  have Z101 : n0 ≤ h101.size := Nat.le_trans Z95 (Keep.of_wr W101).1
  have O101 := O95.wr W101 g95
  have fw101 := (show Arv Z h101 r95 k95 .byte (4 : Int32) [(.int ((own_d2 x0 x1).toInt8.toInt32)), (.int x1), (.int x2), (.int x3)] (.int 0) by have q : Arv Z h101 r95 k95 .byte (4 : Int32) [(.int (((own_d2 x0 x1).toInt8.toInt32).toInt8.toInt32)), (.int x1), (.int x2), (.int x3)] (.int 0) := Arv.set Ar100 q100 S100 M100 H100 G100 (fits_nar_byte _) W101 0 rfl (Nat.le_of_ble_eq_true rfl); rw [own_bb (own_d2 x0 x1)] at q; exact q)
  refine own_st (g' := (mkF m 178 #[vr b, vr u8, vr arr, vi st, vi 4, vi 1, vr r95, vi 1, vi x0, vi x1, .unset] [])) st101 ?_
  refine own_st (T' := T101) (g' := (mkF m 107 #[vr b, vr u8, vr arr, vi st, vi 4, vi 1, vr r95, vi 3, vi x0, vi x1, .unset] [(.int 2), (.ref r95)])) (fun t k => ?_) ?_
  ·refine XS.iinc X101.here hx rfl (D d11_178) rfl (l' := #[vr b, vr u8, vr arr, vi st, vi 4, vi 1, vr r95, vi 2, vi x0, vi x1, .unset]) rfl ?_
   refine XS.goto X101.here hx rfl (pc0 := 181) (pc' := 93) rfl (D d11_181) (by decide) (by decide) ?_
   refine XS.iload X101.here hx rfl (D d11_93) rfl ?_
   refine XS.iload X101.here hx rfl (D d11_95) rfl ?_
   refine XS.icmpNo X101.here hx rfl (D d11_97) rfl (tlt (by decide : (2 : Int32) < (4 : Int32))).2.1 ?_
   refine XS.aload X101.here hx rfl (D d11_100) rfl rfl ?_
   refine XS.iload X101.here hx rfl (D d11_102) rfl ?_
   refine XS.iinc X101.here hx rfl (D d11_104) rfl (l' := #[vr b, vr u8, vr arr, vi st, vi 4, vi 1, vr r95, vi 3, vi x0, vi x1, .unset]) rfl ?_
   exact k
  obtain ⟨cl102, Ar102, q102, S102, M102, H102, G102⟩ := id fw101
  refine own_st (T' := T101) (g' := (mkF m 152 #[vr b, vr u8, vr arr, vi st, vi 4, vi 1, vr r95, vi 3, vi x2, vi x1, .unset] [(.int 3), (.ref r95)])) (fun t k => ?_) ?_
  ·refine X101.baloadBytes hx (j := (2 : Int32)) (v := (.int x2)) (by rw [e101]; exact Ar102.1) (State.isArrayOf_alike hZ.alike Ar102.2.1) Ar102.2.2 (inb_of S102 ⟨by decide, by decide⟩) (Has.at H102 (inb_of S102 ⟨by decide, by decide⟩) rfl) (g := (mkF m 107 #[vr b, vr u8, vr arr, vi st, vi 4, vi 1, vr r95, vi 3, vi x0, vi x1, .unset] [(.int 2), (.ref r95)])) rfl rfl (D d11_107) _ ?_
   refine XS.istore X101.here hx rfl (D d11_108) rfl (l' := #[vr b, vr u8, vr arr, vi st, vi 4, vi 1, vr r95, vi 3, vi x2, vi x1, .unset]) rfl ?_
   refine XS.iload X101.here hx rfl (D d11_110) rfl ?_
   refine XS.ifYes X101.here hx rfl (pc0 := 112) (pc' := 129) rfl (D d11_112) rfl ((if0 _ _).trans (tlt (own_lead_neg hk2.1)).1) (by decide) (by decide) ?_
   refine XS.iload X101.here hx rfl (D d11_129) rfl ?_
   refine XS.sipush X101.here hx rfl (D d11_131) ?_
   refine XS.iand X101.here hx rfl (D d11_134) rfl ?_
   refine XS.sipush X101.here hx rfl (D d11_135) ?_
   refine XS.icmpNo X101.here hx rfl (D d11_138) rfl (teq hl2).2 ?_
   refine XS.iload X101.here hx rfl (D d11_141) rfl ?_
   refine XS.iload X101.here hx rfl (D d11_143) rfl ?_
   refine XS.icmpNo X101.here hx rfl (D d11_145) rfl (tlt (by decide : (3 : Int32) < (4 : Int32))).2.1 ?_
   refine XS.aload X101.here hx rfl (D d11_148) rfl rfl ?_
   refine XS.iload X101.here hx rfl (D d11_150) rfl ?_
   exact k
  obtain ⟨cl103, Ar103, q103, S103, M103, H103, G103⟩ := id fw101
  refine own_st (T' := T101) (g' := (mkF m 173 #[vr b, vr u8, vr arr, vi st, vi 4, vi 2, vr r95, vi 3, vi x2, vi x3, .unset] [(.int x3), (.int x2), (.int 1), (.ref r95)])) (fun t k => ?_) ?_
  ·refine X101.baloadBytes hx (j := (3 : Int32)) (v := (.int x3)) (by rw [e101]; exact Ar103.1) (State.isArrayOf_alike hZ.alike Ar103.2.1) Ar103.2.2 (inb_of S103 ⟨by decide, by decide⟩) (Has.at H103 (inb_of S103 ⟨by decide, by decide⟩) rfl) (g := (mkF m 152 #[vr b, vr u8, vr arr, vi st, vi 4, vi 1, vr r95, vi 3, vi x2, vi x1, .unset] [(.int 3), (.ref r95)])) rfl rfl (D d11_152) _ ?_
   refine XS.istore X101.here hx rfl (D d11_153) rfl (l' := #[vr b, vr u8, vr arr, vi st, vi 4, vi 1, vr r95, vi 3, vi x2, vi x3, .unset]) rfl ?_
   refine XS.iload X101.here hx rfl (D d11_155) rfl ?_
   refine XS.bipush X101.here hx rfl (D d11_157) ?_
   refine XS.icmpNo X101.here hx rfl (D d11_159) rfl (tlt (own_cont_64 hk2.2)).2.1 ?_
   refine XS.aload X101.here hx rfl (D d11_162) rfl rfl ?_
   refine XS.iload X101.here hx rfl (D d11_164) rfl ?_
   refine XS.iinc X101.here hx rfl (D d11_166) rfl (l' := #[vr b, vr u8, vr arr, vi st, vi 4, vi 2, vr r95, vi 3, vi x2, vi x3, .unset]) rfl ?_
   refine XS.iload X101.here hx rfl (D d11_169) rfl ?_
   refine XS.iload X101.here hx rfl (D d11_171) rfl ?_
   exact k
  obtain ⟨_, _, ⟨T104, L104, c104, n104⟩, -, X104, ⟨Lc104, hQ104, l104, y104, z104⟩, st104⟩ := Jvm.LawKit.callS X101 hx (y := own_y18) hown (om hZ hw 209 rfl) (om hZ hw 210 rfl) (om hZ hw 42 rfl) (om hZ hw 211 rfl) (by decide) (backOf (W := 2) (own_rm43 l Z a0 hw x2 x3 cs fm u8 h101 n0 Z101 O101 HB) hZ (own_w hw 211 rfl) (own_w hw 42 rfl) (by decide) (by decide)) (g := (mkF m 173 #[vr b, vr u8, vr arr, vi st, vi 4, vi 2, vr r95, vi 3, vi x2, vi x3, .unset] [(.int x3), (.int x2), (.int 1), (.ref r95)])) rfl (by rw [hml]; rfl) (argsL := [(.int x2), (.int x3)]) (rest := [(.int 1), (.ref r95)]) (lenOf own_pd12 rfl) rfl own_w0 (D d11_173) (fun _ _ => ⟨rfl, e101, (by decide : 1 + 0 ≤ _), (by decide : 8 + 0 ≤ _)⟩)
  dsimp only [Pt.U, Pt.locs, Pt.cells, Pt.slots] at X104 l104 y104 z104 st104 hQ104
  subst l104 y104 z104
  obtain ⟨rfl, N104q, e104⟩ := hQ104
  have N104 := Fr.app N101 N104q
  refine own_st (g' := (mkF m 176 #[vr b, vr u8, vr arr, vi st, vi 4, vi 2, vr r95, vi 3, vi x2, vi x3, .unset] [(.int (own_d2 x2 x3)), (.int 1), (.ref r95)])) st104 ?_
  refine own_st (T' := T104) (g' := (mkF m 177 #[vr b, vr u8, vr arr, vi st, vi 4, vi 2, vr r95, vi 3, vi x2, vi x3, .unset] [(.int ((own_d2 x2 x3).toInt8.toInt32)), (.int 1), (.ref r95)])) (fun t k => ?_) ?_
  ·refine XS.i2b X104.here hx rfl (D d11_176) rfl ?_
   exact k
  obtain ⟨cl105, Ar105, q105, S105, M105, H105, G105⟩ := id fw101
  obtain ⟨T106, h106, X106, e106, W106, st106⟩ := stB X104 hx hZ e104 Ar105 (j := (1 : Int32)) (inb_of S105 ⟨by decide, by decide⟩) (g := (mkF m 177 #[vr b, vr u8, vr arr, vi st, vi 4, vi 2, vr r95, vi 3, vi x2, vi x3, .unset] [(.int ((own_d2 x2 x3).toInt8.toInt32)), (.int 1), (.ref r95)])) rfl rfl (D d11_177)
  have N106 := Fr.snoc X106 N104 g95
  have K106 : Keep h0 h106 [b] := K101.wr W106 (Or.inr hwr95)
  have Z106 : n0 ≤ h106.size := Nat.le_trans Z101 (Keep.of_wr W106).1
  have O106 := O101.wr W106 g95
  have fw106 := (show Arv Z h106 r95 k95 .byte (4 : Int32) [(.int ((own_d2 x0 x1).toInt8.toInt32)), (.int ((own_d2 x2 x3).toInt8.toInt32)), (.int x2), (.int x3)] (.int 0) by have q : Arv Z h106 r95 k95 .byte (4 : Int32) [(.int ((own_d2 x0 x1).toInt8.toInt32)), (.int (((own_d2 x2 x3).toInt8.toInt32).toInt8.toInt32)), (.int x2), (.int x3)] (.int 0) := Arv.set Ar105 q105 S105 M105 H105 G105 (fits_nar_byte _) W106 1 rfl (Nat.le_of_ble_eq_true rfl); rw [own_bb (own_d2 x2 x3)] at q; exact q)
  refine own_st (g' := (mkF m 178 #[vr b, vr u8, vr arr, vi st, vi 4, vi 2, vr r95, vi 3, vi x2, vi x3, .unset] [])) st106 ?_
  refine own_st (T' := T106) (g' := (mkF m 201 #[vr b, vr u8, vr arr, vi st, vi 4, vi 2, vr r95, vi 4, vi x2, vi x3, .unset] [(.ref r95), (.int 2)])) (fun t k => ?_) ?_
  ·refine XS.iinc X106.here hx rfl (D d11_178) rfl (l' := #[vr b, vr u8, vr arr, vi st, vi 4, vi 2, vr r95, vi 4, vi x2, vi x3, .unset]) rfl ?_
   refine XS.goto X106.here hx rfl (pc0 := 181) (pc' := 93) rfl (D d11_181) (by decide) (by decide) ?_
   refine XS.iload X106.here hx rfl (D d11_93) rfl ?_
   refine XS.iload X106.here hx rfl (D d11_95) rfl ?_
   refine XS.icmpYes X106.here hx rfl (pc0 := 97) (pc' := 190) rfl (D d11_97) rfl (flt Int32.lt_irrefl).2.1 (by decide) (by decide) ?_
   refine XS.iload X106.here hx rfl (D d11_190) rfl ?_
   refine XS.iload X106.here hx rfl (D d11_192) rfl ?_
   refine XS.icmpNo X106.here hx rfl (D d11_194) rfl (teq (rfl : (4 : Int32) = (4 : Int32))).2 ?_
   refine XS.iload X106.here hx rfl (D d11_197) rfl ?_
   refine XS.aload X106.here hx rfl (D d11_199) rfl rfl ?_
   exact k
  obtain ⟨cl107, Ar107, q107, S107, M107, H107, G107⟩ := id fw106
  refine own_st (T' := T106) (g' := (mkF m 209 #[vr b, vr u8, vr arr, vi st, vi 4, vi 2, vr r95, vi 4, vi x2, vi x3, .unset] [(.int 2), (.ref r95)])) (fun t k => ?_) ?_
  ·refine X106.arraylength hx (by rw [e106]; exact Ar107.1) (State.isArrayOf_alike hZ.alike Ar107.2.1) (g := (mkF m 201 #[vr b, vr u8, vr arr, vi st, vi 4, vi 2, vr r95, vi 4, vi x2, vi x3, .unset] [(.ref r95), (.int 2)])) rfl rfl (D d11_201) _ ?_
   rw [len_of S107 M107]
   refine XS.icmpNo X106.here hx rfl (D d11_202) rfl (feq (by decide : ¬ ((2 : Int32) = (4 : Int32)))).1 ?_
   refine XS.aload X106.here hx rfl (D d11_205) rfl rfl ?_
   refine XS.iload X106.here hx rfl (D d11_207) rfl ?_
   exact k
  obtain ⟨_, _, ⟨T108, L108, c108, n108⟩, -, X108, ⟨Lc108, hQ108, l108, y108, z108⟩, st108⟩ := Jvm.LawKit.callS X106 hx (y := own_y10) hown (om hZ hw 140 rfl) (om hZ hw 141 rfl) (om hZ hw 79 rfl) (om hZ hw 142 rfl) (by decide) (backOf (W := 0) (own_rm28 l Z a0 hw r95 k95 [((own_d2 x0 x1).toInt8.toInt32), ((own_d2 x2 x3).toInt8.toInt32), x2, x3] (4 : Int32) (2 : Int32) 4 2 cs fm u8 h106 n0 Z106 O106 fw106 rfl rfl (by decide) rfl (by decide) HB) hZ (own_w hw 142 rfl) (own_w hw 79 rfl) (by decide) (by decide)) (g := (mkF m 209 #[vr b, vr u8, vr arr, vi st, vi 4, vi 2, vr r95, vi 4, vi x2, vi x3, .unset] [(.int 2), (.ref r95)])) rfl (by rw [hml]; rfl) (argsL := [(.ref r95), (.int 2)]) (rest := []) (lenOf own_pd19 rfl) rfl own_w0 (D d11_209) (fun _ _ => ⟨rfl, e106, (by decide : 1 + 1 ≤ _), (by decide : 8 + 8 ≤ _)⟩)
  dsimp only [Pt.U, Pt.locs, Pt.cells, Pt.slots] at X108 l108 y108 z108 st108 hQ108
  subst l108 y108 z108
  obtain ⟨h108, e108⟩ : ∃ z, T108.heap = z := ⟨_, rfl⟩
  rw [e108] at hQ108
  obtain ⟨r108, k108, rfl, N108q, Kc108, g108, hz108, Vc108⟩ := hQ108
  have N108 := Fr.app N106 N108q
  have f109 := ((E_b.keep Kc95).wr W101).wr W106
  have ne_b_r108 : b ≠ r108 := Nat.ne_of_lt (Nat.lt_of_lt_of_le f109.lt hz108)
  have f110 := ((V_a.keep Kc95 nin0).other W101 ne_arr_r95).other W106 ne_arr_r95
  have ne_arr_r108 : arr ≠ r108 := Nat.ne_of_lt (Nat.lt_of_lt_of_le f110.lt hz108)
  have f111 := E_u8.ext O106.2
  have ne_u8_r108 : u8 ≠ r108 := Nat.ne_of_lt (Nat.lt_of_lt_of_le f111.lt hz108)
  have ne_r95_r108 : r95 ≠ r108 := Nat.ne_of_lt (Nat.lt_of_lt_of_le fw106.lt hz108)
  have hwr108 : h0.size ≤ r108 := Nat.le_trans K106.1 hz108
  have K108 : Keep h0 h108 [b] := K106.trans Kc108 all0
  have Z108 : n0 ≤ h108.size := Nat.le_trans Z106 Kc108.1
  have O108 := O106.keep Kc108 all0
  have Vq108 : Arv Z h108 r108 k108 .byte (2 : Int32) [(.int ((own_d2 x0 x1).toInt8.toInt32)), (.int ((own_d2 x2 x3).toInt8.toInt32))] (.int 0) := Vc108
  refine own_st (g' := (mkF m 212 #[vr b, vr u8, vr arr, vi st, vi 4, vi 2, vr r95, vi 4, vi x2, vi x3, .unset] [(.ref r108)])) st108 ?_
  refine own_st (T' := T108) (g' := (mkF m 217 #[vr b, vr u8, vr arr, vi st, vi 4, vi 2, vr r108, vi 4, vi x2, vi x3, .unset] [(.ref r108), (.ref b)])) (fun t k => ?_) ?_
  ·refine XS.astore X108.here hx rfl (D d11_212) rfl rfl (l' := #[vr b, vr u8, vr arr, vi st, vi 4, vi 2, vr r108, vi 4, vi x2, vi x3, .unset]) rfl ?_
   refine XS.aloadN X108.here hx rfl (D d11_214) rfl rfl ?_
   refine XS.aload X108.here hx rfl (D d11_215) rfl rfl ?_
   exact k
  have f112 := (((F_v.keep Kc95 nin0).other W101 (Or.inl ne_b_r95)).other W106 (Or.inl ne_b_r95)).keep Kc108 nin0
  have f113 := f109.keep Kc108
  obtain ⟨T114, h114, X114, e114, W114, st114⟩ := putF X108 hx hZ hown (host := "") (Or.inl (own_w hw 143 rfl)) Via.refl e108 f112 f113 (Or.inr ⟨(own_w hw 144 rfl), rfl, hnm⟩) (own_w hw 41 rfl) (ty := (.array .byte)) (by decide) rfl rfl (g := (mkF m 217 #[vr b, vr u8, vr arr, vi st, vi 4, vi 2, vr r108, vi 4, vi x2, vi x3, .unset] [(.ref r108), (.ref b)])) rfl rfl (D d11_217)
  have N114 := Fr.snoc X114 N108 g_b
  have K114 : Keep h0 h114 [b] := K108.wr W114 (Or.inl (List.mem_of_getElem? (i := 0) rfl))
  have Z114 : n0 ≤ h114.size := Nat.le_trans Z108 (Keep.of_wr W114).1
  have O114 := O108.wr W114 g_b
  have fw114 := (f112.same W114)
  refine own_st (g' := (mkF m 220 #[vr b, vr u8, vr arr, vi st, vi 4, vi 2, vr r108, vi 4, vi x2, vi x3, .unset] [])) st114 ?_
  refine own_st (T' := T114) (g' := (mkF m 222 #[vr b, vr u8, vr arr, vi st, vi 4, vi 2, vr r108, vi 4, vi x2, vi x3, .unset] [(.int 0), (.ref b)])) (fun t k => ?_) ?_
  ·refine XS.aloadN X114.here hx rfl (D d11_220) rfl rfl ?_
   refine XS.iconst X114.here hx rfl (D d11_221) ?_
   exact k
  have f115 := ((((F_c.keep Kc95 nin0).other W101 (Or.inl ne_b_r95)).other W106 (Or.inl ne_b_r95)).keep Kc108 nin0).other W114 (Or.inr (slot_ne (Or.inr (own_w hw 146 rfl)) (Or.inr (own_w hw 144 rfl)) (by decide) (t := .byte) (t' := (.array .byte)) (by decide) (by decide)))
  have f116 := f113.wr W114
  obtain ⟨T117, h117, X117, e117, W117, st117⟩ := putFN X114 hx hZ hown (own_w hw 145 rfl) Via.refl e114 f115 f116 (Or.inr ⟨(own_w hw 146 rfl), rfl, hnm⟩) (own_w hw 41 rfl) (ty := .byte) (v' := (.int 0)) (by decide) rfl rfl (g := (mkF m 222 #[vr b, vr u8, vr arr, vi st, vi 4, vi 2, vr r108, vi 4, vi x2, vi x3, .unset] [(.int 0), (.ref b)])) rfl rfl (D d11_222)
  have N117 := Fr.snoc X117 N114 g_b
  have K117 : Keep h0 h117 [b] := K114.wr W117 (Or.inl (List.mem_of_getElem? (i := 0) rfl))
  have Z117 : n0 ≤ h117.size := Nat.le_trans Z114 (Keep.of_wr W117).1
  have O117 := O114.wr W117 g_b
  have fw117 := (f115.same W117)
  refine own_st (g' := (mkF m 225 #[vr b, vr u8, vr arr, vi st, vi 4, vi 2, vr r108, vi 4, vi x2, vi x3, .unset] [])) st117 ?_
  have f118 := fw114.other W117 (Or.inr (slot_ne (Or.inr (own_w hw 144 rfl)) (Or.inr (own_w hw 146 rfl)) (by decide) (t := (.array .byte)) (t' := .byte) (by decide) (by decide)))
  have f119 := (Vq108.other W114 (Ne.symm ne_b_r108)).other W117 (Ne.symm ne_b_r108)
  exact own_retV X117 hx Bd (D d11_225) e117 (⟨r108, k108, _, [((own_d2 x0 x1).toInt8.toInt32), ((own_d2 x2 x3).toInt8.toInt32)], rfl, N117, K117, f118, fw117, f119, Or.inl ⟨rfl, rfl, own_a2 (own_lat_255 hk0 hl0) (own_lat_255 hk2 hl2)⟩⟩) (by decide) (by decide)
 ·have hul := own_rlU_l hu
  have hc3 : 0 + ch.length ≤ 4 := by omega
  have hn8 : ((x0 :: rr)).length ≤ 8 := hg8
  have hNN : ((x0 :: rr)).length = 1 + rr.length := by simp only [List.length_cons]; omega
  have hRR : ((x0 :: rr)).length = rr.length + 1 := List.length_cons
  obtain ⟨_, _, ⟨T120, L120, c120, n120⟩, -, X120, ⟨Lc120, hQ120, l120, y120, z120⟩, st120⟩ := Jvm.LawKit.callS X5 hx (y := own_y6) hown (om hZ hw 73 rfl) (om hZ hw 74 rfl) (om hZ hw 75 rfl) (om hZ hw 76 rfl) (by decide) (backOf (W := 0) (own_rm12z l Z a0 hw arr ka bl (x0 :: rr) st pn ln cs fm u8 h0 n0 Z0 O0 V_a hst hsg hln hg1 hx0 HB) hZ (own_w hw 76 rfl) (own_w hw 75 rfl) (by decide) (by decide)) (g := (mkF m 47 #[vr b, vr u8, vr arr, vi st, vi ln, .unset, .unset, .unset, .unset, .unset, .unset] [(.int ln), (.int st), (.ref arr)])) rfl (by rw [hml]; rfl) (argsL := [(.ref arr), (.int st), (.int ln)]) (rest := []) (lenOf own_pd18 rfl) rfl own_w0 (D d11_47) (fun _ _ => ⟨rfl, e5, (by decide : 0 + 0 ≤ _), (by decide : 0 + 0 ≤ _)⟩)
  dsimp only [Pt.U, Pt.locs, Pt.cells, Pt.slots] at X120 l120 y120 z120 st120 hQ120
  subst l120 y120 z120
  obtain ⟨rfl, N120q, e120⟩ := hQ120
  have N120 := Fr.app N0 N120q
  refine own_st (g' := (mkF m 50 #[vr b, vr u8, vr arr, vi st, vi ln, .unset, .unset, .unset, .unset, .unset, .unset] [(.int 0)])) st120 ?_
  refine own_st (T' := T120) (g' := (mkF m 84 #[vr b, vr u8, vr arr, vi st, vi ln, vi 0, .unset, .unset, .unset, .unset, .unset] [(.int (st + ln)), (.int st), (.ref arr)])) (fun t k => ?_) ?_
  ·refine XS.istore X120.here hx rfl (D d11_50) rfl (l' := #[vr b, vr u8, vr arr, vi st, vi ln, vi 0, .unset, .unset, .unset, .unset, .unset]) rfl ?_
   refine XS.iload X120.here hx rfl (D d11_52) rfl ?_
   refine XS.iload X120.here hx rfl (D d11_54) rfl ?_
   refine XS.icmpYes X120.here hx rfl (pc0 := 56) (pc' := 78) rfl (D d11_56) rfl (feq (own_neN (show (0 : Int32).toInt = ((0 : Nat) : Int) from rfl) hln (by omega))).2 (by decide) (by decide) ?_
   refine XS.aloadN X120.here hx rfl (D d11_78) rfl rfl ?_
   refine XS.iloadN X120.here hx rfl (D d11_79) rfl ?_
   refine XS.iloadN X120.here hx rfl (D d11_80) rfl ?_
   refine XS.iload X120.here hx rfl (D d11_81) rfl ?_
   refine XS.iadd X120.here hx rfl (D d11_83) rfl ?_
   exact k
  obtain ⟨_, _, ⟨T121, L121, c121, n121⟩, -, X121, ⟨Lc121, hQ121, l121, y121, z121⟩, st121⟩ := Jvm.LawKit.callS X120 hx (y := own_y9) hown (om hZ hw 77 rfl) (om hZ hw 78 rfl) (om hZ hw 79 rfl) (om hZ hw 80 rfl) (by decide) (backOf (W := 0) (own_rm13 l Z a0 hw arr ka bl (x0 :: rr) st pn ln cs fm u8 h0 n0 Z0 O0 V_a hst hsg hln HB) hZ (own_w hw 80 rfl) (own_w hw 79 rfl) (by decide) (by decide)) (g := (mkF m 84 #[vr b, vr u8, vr arr, vi st, vi ln, vi 0, .unset, .unset, .unset, .unset, .unset] [(.int (st + ln)), (.int st), (.ref arr)])) rfl (by rw [hml]; rfl) (argsL := [(.ref arr), (.int st), (.int (st + ln))]) (rest := []) (lenOf own_pd4 rfl) rfl own_w0 (D d11_84) (fun _ _ => ⟨rfl, e120, (by decide : 0 + 1 ≤ _), (by decide : 0 + 8 ≤ _)⟩)
  dsimp only [Pt.U, Pt.locs, Pt.cells, Pt.slots] at X121 l121 y121 z121 st121 hQ121
  subst l121 y121 z121
  obtain ⟨h121, e121⟩ : ∃ z, T121.heap = z := ⟨_, rfl⟩
  rw [e121] at hQ121
  obtain ⟨r121, k121, rfl, N121q, Kc121, g121, hz121, Vc121⟩ := hQ121
  have N121 := Fr.app N120 N121q
  have ne_b_r121 : b ≠ r121 := Nat.ne_of_lt (Nat.lt_of_lt_of_le E_b.lt hz121)
  have ne_arr_r121 : arr ≠ r121 := Nat.ne_of_lt (Nat.lt_of_lt_of_le V_a.lt hz121)
  have f122 := E_u8.ext O0.2
  have ne_u8_r121 : u8 ≠ r121 := Nat.ne_of_lt (Nat.lt_of_lt_of_le f122.lt hz121)
  have hwr121 : h0.size ≤ r121 := Nat.le_trans (Keep.refl h0 [b]).1 hz121
  have K121 : Keep h0 h121 [b] := (Keep.refl h0 [b]).trans Kc121 all0
  have Z121 : n0 ≤ h121.size := Nat.le_trans Z0 Kc121.1
  have O121 := O0.keep Kc121 all0
  refine own_st (g' := (mkF m 87 #[vr b, vr u8, vr arr, vi st, vi ln, vi 0, .unset, .unset, .unset, .unset, .unset] [(.ref r121)])) st121 ?_
  refine own_st (T' := T121) (g' := (mkF m 107 #[vr b, vr u8, vr arr, vi st, vi ln, vi 0, vr r121, vi 1, .unset, .unset, .unset] [(.int 0), (.ref r121)])) (fun t k => ?_) ?_
  ·refine XS.astore X121.here hx rfl (D d11_87) rfl rfl (l' := #[vr b, vr u8, vr arr, vi st, vi ln, vi 0, vr r121, .unset, .unset, .unset, .unset]) rfl ?_
   refine XS.iload X121.here hx rfl (D d11_89) rfl ?_
   refine XS.istore X121.here hx rfl (D d11_91) rfl (l' := #[vr b, vr u8, vr arr, vi st, vi ln, vi 0, vr r121, vi 0, .unset, .unset, .unset]) rfl ?_
   refine XS.iload X121.here hx rfl (D d11_93) rfl ?_
   refine XS.iload X121.here hx rfl (D d11_95) rfl ?_
   refine XS.icmpNo X121.here hx rfl (D d11_97) rfl (tlt ((own_ltN (show (0 : Int32).toInt = ((0 : Nat) : Int) from rfl) hln).mpr (by omega))).2.1 ?_
   refine XS.aload X121.here hx rfl (D d11_100) rfl rfl ?_
   refine XS.iload X121.here hx rfl (D d11_102) rfl ?_
   refine XS.iinc X121.here hx rfl (D d11_104) rfl (l' := #[vr b, vr u8, vr arr, vi st, vi ln, vi 0, vr r121, vi 1, .unset, .unset, .unset]) rfl ?_
   exact k
  obtain ⟨cl123, Ar123, q123, S123, M123, H123, G123⟩ := id Vc121
  refine own_st (T' := T121) (g' := (mkF m 228 #[vr b, vr u8, vr arr, vi st, vi ln, vi 0, vr r121, vi 0, vi x0, .unset, .unset] [(.int ln)])) (fun t k => ?_) ?_
  ·refine X121.baloadBytes hx (j := (0 : Int32)) (v := (.int x0)) (by rw [e121]; exact Ar123.1) (State.isArrayOf_alike hZ.alike Ar123.2.1) Ar123.2.2 (inb_of S123 ⟨by decide, (own_ltN (show (0 : Int32).toInt = ((0 : Nat) : Int) from rfl) hln).mpr (by omega)⟩) (Has.at H123 (inb_of S123 ⟨by decide, (own_ltN (show (0 : Int32).toInt = ((0 : Nat) : Int) from rfl) hln).mpr (by omega)⟩) ((own_lget (x0 :: rr) ((0 : Int32)).toNatClampNeg).trans (congrArg Value.int rfl))) (g := (mkF m 107 #[vr b, vr u8, vr arr, vi st, vi ln, vi 0, vr r121, vi 1, .unset, .unset, .unset] [(.int 0), (.ref r121)])) rfl rfl (D d11_107) _ ?_
   refine XS.istore X121.here hx rfl (D d11_108) rfl (l' := #[vr b, vr u8, vr arr, vi st, vi ln, vi 0, vr r121, vi 1, vi x0, .unset, .unset]) rfl ?_
   refine XS.iload X121.here hx rfl (D d11_110) rfl ?_
   refine XS.ifYes X121.here hx rfl (pc0 := 112) (pc' := 129) rfl (D d11_112) rfl ((if0 _ _).trans (tlt hx0).1) (by decide) (by decide) ?_
   refine XS.iload X121.here hx rfl (D d11_129) rfl ?_
   refine XS.sipush X121.here hx rfl (D d11_131) ?_
   refine XS.iand X121.here hx rfl (D d11_134) rfl ?_
   refine XS.sipush X121.here hx rfl (D d11_135) ?_
   refine XS.icmpYes X121.here hx rfl (pc0 := 138) (pc' := 184) rfl (D d11_138) rfl (feq hnl).2 (by decide) (by decide) ?_
   refine XS.iinc X121.here hx rfl (D d11_184) rfl (l' := #[vr b, vr u8, vr arr, vi st, vi ln, vi 0, vr r121, vi 0, vi x0, .unset, .unset]) rfl ?_
   refine XS.goto X121.here hx rfl (pc0 := 187) (pc' := 190) rfl (D d11_187) (by decide) (by decide) ?_
   refine XS.iload X121.here hx rfl (D d11_190) rfl ?_
   refine XS.iload X121.here hx rfl (D d11_192) rfl ?_
   refine XS.icmpYes X121.here hx rfl (pc0 := 194) (pc' := 226) rfl (D d11_194) rfl (feq (own_neN (show (0 : Int32).toInt = ((0 : Nat) : Int) from rfl) hln (by omega))).2 (by decide) (by decide) ?_
   refine XS.iload X121.here hx rfl (D d11_226) rfl ?_
   exact k
  obtain ⟨_, _, ⟨T124, L124, c124, n124⟩, -, X124, ⟨Lc124, hQ124, l124, y124, z124⟩, st124⟩ := Jvm.LawKit.callS X121 hx (y := own_y13) hown (om hZ hw 95 rfl) (om hZ hw 96 rfl) (om hZ hw 97 rfl) (om hZ hw 98 rfl) (by decide) (backOf (W := 0) (own_rm17 l Z a0 hw ln ((x0 :: rr)).length cs fm u8 h121 n0 Z121 O121 hln hn8 HB) hZ (own_w hw 98 rfl) (own_w hw 97 rfl) (by decide) (by decide)) (g := (mkF m 228 #[vr b, vr u8, vr arr, vi st, vi ln, vi 0, vr r121, vi 0, vi x0, .unset, .unset] [(.int ln)])) rfl (by rw [hml]; rfl) (argsL := [(.int ln)]) (rest := []) (lenOf own_pd20 rfl) rfl own_w0 (D d11_228) (fun _ _ => ⟨rfl, e121, (by decide : 1 + 1 ≤ _), (by decide : 8 + 16 ≤ _)⟩)
  dsimp only [Pt.U, Pt.locs, Pt.cells, Pt.slots] at X124 l124 y124 z124 st124 hQ124
  subst l124 y124 z124
  obtain ⟨h124, e124⟩ : ∃ z, T124.heap = z := ⟨_, rfl⟩
  rw [e124] at hQ124
  obtain ⟨r124, k124, rfl, N124q, Kc124, g124, hz124, Vc124⟩ := hQ124
  have N124 := Fr.app N121 N124q
  have f125 := E_b.keep Kc121
  have ne_b_r124 : b ≠ r124 := Nat.ne_of_lt (Nat.lt_of_lt_of_le f125.lt hz124)
  have f126 := V_a.keep Kc121 nin0
  have ne_arr_r124 : arr ≠ r124 := Nat.ne_of_lt (Nat.lt_of_lt_of_le f126.lt hz124)
  have f127 := E_u8.ext O121.2
  have ne_u8_r124 : u8 ≠ r124 := Nat.ne_of_lt (Nat.lt_of_lt_of_le f127.lt hz124)
  have ne_r121_r124 : r121 ≠ r124 := Nat.ne_of_lt (Nat.lt_of_lt_of_le Vc121.lt hz124)
  have hwr124 : h0.size ≤ r124 := Nat.le_trans K121.1 hz124
  have K124 : Keep h0 h124 [b] := K121.trans Kc124 all0
  have Z124 : n0 ≤ h124.size := Nat.le_trans Z121 Kc124.1
  have O124 := O121.keep Kc124 all0
  refine own_st (g' := (mkF m 231 #[vr b, vr u8, vr arr, vi st, vi ln, vi 0, vr r121, vi 0, vi x0, .unset, .unset] [(.ref r124)])) st124 ?_
  refine own_st (T' := T124) (g' := (mkF m 241 #[vr b, vr u8, vr arr, vi st, vi ln, vi 0, vr r121, vi 0, vr r124, .unset, .unset] [(.int 0), (.int 0), (.ref r124), (.int 0), (.ref r121)])) (fun t k => ?_) ?_
  ·refine XS.astore X124.here hx rfl (D d11_231) rfl rfl (l' := #[vr b, vr u8, vr arr, vi st, vi ln, vi 0, vr r121, vi 0, vr r124, .unset, .unset]) rfl ?_
   refine XS.aload X124.here hx rfl (D d11_233) rfl rfl ?_
   refine XS.iconst X124.here hx rfl (D d11_235) ?_
   refine XS.aload X124.here hx rfl (D d11_236) rfl rfl ?_
   refine XS.iconst X124.here hx rfl (D d11_238) ?_
   refine XS.iload X124.here hx rfl (D d11_239) rfl ?_
   exact k
  have f128 := Vc121.keep Kc124 nin0
  obtain ⟨_, _, ⟨T129, L129, c129, n129⟩, -, X129, ⟨Lc129, hQ129, l129, y129, z129⟩, st129⟩ := Jvm.LawKit.callS X124 hx (y := own_y17) hown (om hZ hw 103 rfl) (om hZ hw 104 rfl) (om hZ hw 105 rfl) (om hZ hw 106 rfl) (by decide) (backOf (W := 0) (own_rm19_0 l Z a0 hw r121 r124 k121 k124 (x0 :: rr) (List.replicate (2 * ((x0 :: rr)).length) (0 : Int32)) ln (ln <<< ((1 : Int32) &&& 31)) (2 * ((x0 :: rr)).length) x0 cs fm u8 h124 n0 Z124 O124 f128 Vc124 (own_shl hln hn8) List.length_replicate (by omega) (by omega) g124 ne_r121_r124 rfl ((own_ltN (show (0 : Int32).toInt = ((0 : Nat) : Int) from rfl) hln).mpr (by omega)) HB) hZ (own_w hw 106 rfl) (own_w hw 105 rfl) (by decide) (by decide)) (g := (mkF m 241 #[vr b, vr u8, vr arr, vi st, vi ln, vi 0, vr r121, vi 0, vr r124, .unset, .unset] [(.int 0), (.int 0), (.ref r124), (.int 0), (.ref r121)])) rfl (by rw [hml]; rfl) (argsL := [(.ref r121), (.int 0), (.ref r124), (.int 0), (.int 0)]) (rest := []) (lenOf own_pd10 rfl) rfl own_w0 (D d11_241) (fun _ _ => ⟨rfl, e124, (by decide : 2 + 0 ≤ _), (by decide : 24 + 0 ≤ _)⟩)
  dsimp only [Pt.U, Pt.locs, Pt.cells, Pt.slots] at X129 l129 y129 z129 st129 hQ129
  subst l129 y129 z129
  obtain ⟨h129, e129⟩ : ∃ z, T129.heap = z := ⟨_, rfl⟩
  rw [e129] at hQ129
  obtain ⟨rfl, N129q, Kc129, Vc129⟩ := hQ129
  have N129 := Fr.app N124 N129q
  have K129 : Keep h0 h129 [b] := K124.trans Kc129 (allS (Or.inr hwr124) all0)
  have Z129 : n0 ≤ h129.size := Nat.le_trans Z124 Kc129.1
  have O129 := O124.keep Kc129 (allS g124 all0)
  refine own_st (g' := (mkF m 244 #[vr b, vr u8, vr arr, vi st, vi ln, vi 0, vr r121, vi 0, vr r124, .unset, .unset] [])) st129 ?_
  refine own_st (T' := T129) (g' := (mkF m 255 #[vr b, vr u8, vr arr, vi st, vi ln, vi 0, vr r121, vi 0, vr r124, .unset, .unset] [(.int 1), (.int 0), (.ref r124), (.int ln), (.int 0), (.ref r121)])) (fun t k => ?_) ?_
  ·refine XS.aload X129.here hx rfl (D d11_244) rfl rfl ?_
   refine XS.iload X129.here hx rfl (D d11_246) rfl ?_
   refine XS.iload X129.here hx rfl (D d11_248) rfl ?_
   refine XS.aload X129.here hx rfl (D d11_250) rfl rfl ?_
   refine XS.iload X129.here hx rfl (D d11_252) rfl ?_
   refine XS.iconst X129.here hx rfl (D d11_254) ?_
   exact k
  have f130 := f128.keep Kc129 (ninS ne_r121_r124 nin0)
  obtain ⟨_, _, ⟨T131, L131, c131, n131⟩, -, X131, ⟨Lc131, hQ131, l131, y131, z131⟩, st131⟩ := Jvm.LawKit.callS X129 hx (y := own_y28) hown (om hZ hw 123 rfl) (om hZ hw 124 rfl) (om hZ hw 42 rfl) (om hZ hw 125 rfl) (by decide) (backOf (W := 0) (own_rm24 l Z a0 hw r121 r124 k121 k124 (x0 :: rr) (List.replicate (2 * ((x0 :: rr)).length) (0 : Int32)) (x0 :: rr) ch (0 : Int32) ln (ln <<< ((1 : Int32) &&& 31)) (0 : Int32) 0 ((x0 :: rr)).length (2 * ((x0 :: rr)).length) 0 cs fm u8 h129 n0 Z129 O129 f130 Vc129 g124 ne_r121_r124 rfl hln (own_shl hln hn8) rfl List.length_replicate (by omega) rfl (own_rb0 _) (by simp only [List.length_cons] at *; omega) hu (by simp only [List.length_cons] at *; omega) HB) hZ (own_w hw 125 rfl) (own_w hw 42 rfl) (by decide) (by decide)) (g := (mkF m 255 #[vr b, vr u8, vr arr, vi st, vi ln, vi 0, vr r121, vi 0, vr r124, .unset, .unset] [(.int 1), (.int 0), (.ref r124), (.int ln), (.int 0), (.ref r121)])) rfl (by rw [hml]; rfl) (argsL := [(.ref r121), (.int 0), (.int ln), (.ref r124), (.int 0), (.int 1)]) (rest := []) (lenOf own_pd21 rfl) rfl own_w0 (D d11_255) (fun _ _ => ⟨rfl, e129, (by decide : 2 + 0 ≤ _), (by decide : 24 + 0 ≤ _)⟩)
  dsimp only [Pt.U, Pt.locs, Pt.cells, Pt.slots] at X131 l131 y131 z131 st131 hQ131
  subst l131 y131 z131
  obtain ⟨h131, e131⟩ : ∃ z, T131.heap = z := ⟨_, rfl⟩
  rw [e131] at hQ131
  obtain ⟨rfl, N131q, Kc131, Vc131⟩ := hQ131
  have N131 := Fr.app N129 N131q
  have K131 : Keep h0 h131 [b] := K129.trans Kc131 (allS (Or.inr hwr124) all0)
  have Z131 : n0 ≤ h131.size := Nat.le_trans Z129 Kc131.1
  have O131 := O129.keep Kc131 (allS g124 all0)
  refine own_st (g' := (mkF m 258 #[vr b, vr u8, vr arr, vi st, vi ln, vi 0, vr r121, vi 0, vr r124, .unset, .unset] [(.int (Int32.ofNat (0 + ch.length)))])) st131 ?_
  refine own_st (T' := T131) (g' := (mkF m 273 #[vr b, vr u8, vr arr, vi st, vi ln, vi (Int32.ofNat (0 + ch.length)), vr r121, vi 0, vr r124, .unset, .unset] [(.int ((Int32.ofNat (0 + ch.length)) <<< ((1 : Int32) &&& 31))), (.ref r124)])) (fun t k => ?_) ?_
  ·refine XS.istore X131.here hx rfl (D d11_258) rfl (l' := #[vr b, vr u8, vr arr, vi st, vi ln, vi (Int32.ofNat (0 + ch.length)), vr r121, vi 0, vr r124, .unset, .unset]) rfl ?_
   refine XS.iload X131.here hx rfl (D d11_260) rfl ?_
   refine XS.iload X131.here hx rfl (D d11_262) rfl ?_
   refine XS.icmpNo X131.here hx rfl (D d11_264) rfl (feq (own_neN (own_ofi (show 0 + ch.length < 2147483648 by omega)) hln (by omega))).1 ?_
   refine XS.aload X131.here hx rfl (D d11_267) rfl rfl ?_
   refine XS.iload X131.here hx rfl (D d11_269) rfl ?_
   refine XS.iconst X131.here hx rfl (D d11_271) ?_
   refine XS.ishl X131.here hx rfl (D d11_272) rfl ?_
   exact k
  obtain ⟨_, _, ⟨T132, L132, c132, n132⟩, -, X132, ⟨Lc132, hQ132, l132, y132, z132⟩, st132⟩ := Jvm.LawKit.callS X131 hx (y := own_y10) hown (om hZ hw 140 rfl) (om hZ hw 141 rfl) (om hZ hw 79 rfl) (om hZ hw 142 rfl) (by decide) (backOf (W := 0) (own_rm28 l Z a0 hw r124 k124 (own_wrl (List.replicate (2 * ((x0 :: rr)).length) (0 : Int32)) (2 * 0) (own_wide ch)) (ln <<< ((1 : Int32) &&& 31)) ((Int32.ofNat (0 + ch.length)) <<< ((1 : Int32) &&& 31)) (2 * ((x0 :: rr)).length) (2 * (0 + ch.length)) cs fm u8 h131 n0 Z131 O131 Vc131 (own_shl hln hn8) (own_shl (own_ofi (show 0 + ch.length < 2147483648 by omega)) (by omega)) (by omega) (by rw [own_wrl_len]; exact List.length_replicate) (by omega) HB) hZ (own_w hw 142 rfl) (own_w hw 79 rfl) (by decide) (by decide)) (g := (mkF m 273 #[vr b, vr u8, vr arr, vi st, vi ln, vi (Int32.ofNat (0 + ch.length)), vr r121, vi 0, vr r124, .unset, .unset] [(.int ((Int32.ofNat (0 + ch.length)) <<< ((1 : Int32) &&& 31))), (.ref r124)])) rfl (by rw [hml]; rfl) (argsL := [(.ref r124), (.int ((Int32.ofNat (0 + ch.length)) <<< ((1 : Int32) &&& 31)))]) (rest := []) (lenOf own_pd19 rfl) rfl own_w0 (D d11_273) (fun _ _ => ⟨rfl, e131, (by decide : 2 + 1 ≤ _), (by decide : 24 + 8 ≤ _)⟩)
  dsimp only [Pt.U, Pt.locs, Pt.cells, Pt.slots] at X132 l132 y132 z132 st132 hQ132
  subst l132 y132 z132
  obtain ⟨h132, e132⟩ : ∃ z, T132.heap = z := ⟨_, rfl⟩
  rw [e132] at hQ132
  obtain ⟨r132, k132, rfl, N132q, Kc132, g132, hz132, Vc132⟩ := hQ132
  have N132 := Fr.app N131 N132q
  have f133 := ((f125.keep Kc124).keep Kc129).keep Kc131
  have ne_b_r132 : b ≠ r132 := Nat.ne_of_lt (Nat.lt_of_lt_of_le f133.lt hz132)
  have f134 := ((f126.keep Kc124 nin0).keep Kc129 (ninS ne_arr_r124 nin0)).keep Kc131 (ninS ne_arr_r124 nin0)
  have ne_arr_r132 : arr ≠ r132 := Nat.ne_of_lt (Nat.lt_of_lt_of_le f134.lt hz132)
  have f135 := E_u8.ext O131.2
  have ne_u8_r132 : u8 ≠ r132 := Nat.ne_of_lt (Nat.lt_of_lt_of_le f135.lt hz132)
  have f136 := f130.keep Kc131 (ninS ne_r121_r124 nin0)
  have ne_r121_r132 : r121 ≠ r132 := Nat.ne_of_lt (Nat.lt_of_lt_of_le f136.lt hz132)
  have ne_r124_r132 : r124 ≠ r132 := Nat.ne_of_lt (Nat.lt_of_lt_of_le Vc131.lt hz132)
  have hwr132 : h0.size ≤ r132 := Nat.le_trans K131.1 hz132
  have K132 : Keep h0 h132 [b] := K131.trans Kc132 all0
  have Z132 : n0 ≤ h132.size := Nat.le_trans Z131 Kc132.1
  have O132 := O131.keep Kc132 all0
  refine own_st (g' := (mkF m 276 #[vr b, vr u8, vr arr, vi st, vi ln, vi (Int32.ofNat (0 + ch.length)), vr r121, vi 0, vr r124, .unset, .unset] [(.ref r132)])) st132 ?_
  refine own_st (T' := T132) (g' := (mkF m 281 #[vr b, vr u8, vr arr, vi st, vi ln, vi (Int32.ofNat (0 + ch.length)), vr r121, vi 0, vr r132, .unset, .unset] [(.ref r132), (.ref b)])) (fun t k => ?_) ?_
  ·refine XS.astore X132.here hx rfl (D d11_276) rfl rfl (l' := #[vr b, vr u8, vr arr, vi st, vi ln, vi (Int32.ofNat (0 + ch.length)), vr r121, vi 0, vr r132, .unset, .unset]) rfl ?_
   refine XS.aloadN X132.here hx rfl (D d11_278) rfl rfl ?_
   refine XS.aload X132.here hx rfl (D d11_279) rfl rfl ?_
   exact k
  have f137 := ((((F_v.keep Kc121 nin0).keep Kc124 nin0).keep Kc129 (ninS ne_b_r124 nin0)).keep Kc131 (ninS ne_b_r124 nin0)).keep Kc132 nin0
  have f138 := f133.keep Kc132
  obtain ⟨T139, h139, X139, e139, W139, st139⟩ := putF X132 hx hZ hown (host := "") (Or.inl (own_w hw 143 rfl)) Via.refl e132 f137 f138 (Or.inr ⟨(own_w hw 144 rfl), rfl, hnm⟩) (own_w hw 41 rfl) (ty := (.array .byte)) (by decide) rfl rfl (g := (mkF m 281 #[vr b, vr u8, vr arr, vi st, vi ln, vi (Int32.ofNat (0 + ch.length)), vr r121, vi 0, vr r132, .unset, .unset] [(.ref r132), (.ref b)])) rfl rfl (D d11_281)
  have N139 := Fr.snoc X139 N132 g_b
  have K139 : Keep h0 h139 [b] := K132.wr W139 (Or.inl (List.mem_of_getElem? (i := 0) rfl))
  have Z139 : n0 ≤ h139.size := Nat.le_trans Z132 (Keep.of_wr W139).1
  have O139 := O132.wr W139 g_b
  have fw139 := (f137.same W139)
  refine own_st (g' := (mkF m 284 #[vr b, vr u8, vr arr, vi st, vi ln, vi (Int32.ofNat (0 + ch.length)), vr r121, vi 0, vr r132, .unset, .unset] [])) st139 ?_
  refine own_st (T' := T139) (g' := (mkF m 286 #[vr b, vr u8, vr arr, vi st, vi ln, vi (Int32.ofNat (0 + ch.length)), vr r121, vi 0, vr r132, .unset, .unset] [(.int 1), (.ref b)])) (fun t k => ?_) ?_
  ·refine XS.aloadN X139.here hx rfl (D d11_284) rfl rfl ?_
   refine XS.iconst X139.here hx rfl (D d11_285) ?_
   exact k
  have f140 := (((((F_c.keep Kc121 nin0).keep Kc124 nin0).keep Kc129 (ninS ne_b_r124 nin0)).keep Kc131 (ninS ne_b_r124 nin0)).keep Kc132 nin0).other W139 (Or.inr (slot_ne (Or.inr (own_w hw 146 rfl)) (Or.inr (own_w hw 144 rfl)) (by decide) (t := .byte) (t' := (.array .byte)) (by decide) (by decide)))
  have f141 := f138.wr W139
  obtain ⟨T142, h142, X142, e142, W142, st142⟩ := putFN X139 hx hZ hown (own_w hw 145 rfl) Via.refl e139 f140 f141 (Or.inr ⟨(own_w hw 146 rfl), rfl, hnm⟩) (own_w hw 41 rfl) (ty := .byte) (v' := (.int 1)) (by decide) rfl rfl (g := (mkF m 286 #[vr b, vr u8, vr arr, vi st, vi ln, vi (Int32.ofNat (0 + ch.length)), vr r121, vi 0, vr r132, .unset, .unset] [(.int 1), (.ref b)])) rfl rfl (D d11_286)
  have N142 := Fr.snoc X142 N139 g_b
  have K142 : Keep h0 h142 [b] := K139.wr W142 (Or.inl (List.mem_of_getElem? (i := 0) rfl))
  have Z142 : n0 ≤ h142.size := Nat.le_trans Z139 (Keep.of_wr W142).1
  have O142 := O139.wr W142 g_b
  have fw142 := (f140.same W142)
  refine own_st (g' := (mkF m 289 #[vr b, vr u8, vr arr, vi st, vi ln, vi (Int32.ofNat (0 + ch.length)), vr r121, vi 0, vr r132, .unset, .unset] [])) st142 ?_
  have f143 := fw139.other W142 (Or.inr (slot_ne (Or.inr (own_w hw 144 rfl)) (Or.inr (own_w hw 146 rfl)) (by decide) (t := (.array .byte)) (t' := .byte) (by decide) (by decide)))
  have f144 := (Vc132.other W139 (Ne.symm ne_b_r132)).other W142 (Ne.symm ne_b_r132)
  refine own_st (T' := T142) (g' := (mkF m 879 #[vr b, vr u8, vr arr, vi st, vi ln, vi (Int32.ofNat (0 + ch.length)), vr r121, vi 0, vr r132, .unset, .unset] [])) (fun t k => ?_) ?_
  ·refine XS.goto X142.here hx rfl (pc0 := 289) (pc' := 879) rfl (D d11_289) (by decide) (by decide) ?_
   exact k
  exact own_retV X142 hx Bd (D d11_879) e142 (⟨r132, k132, _, (own_wide ch), rfl, N142, K142, f143, fw142, (by have q := f144; exact own_fin1 (N := 2 * ((x0 :: rr)).length) (ch := ch) (own_shl (own_ofi (show 0 + ch.length < 2147483648 by omega)) (by omega)) (by (try simp only [List.length_cons]); omega) (by simp only [List.length_cons] at *; omega) q), Or.inr ⟨rfl, rfl⟩⟩) (by decide) (by decide)
 ·have hul := own_rlU_l hu
  have hc3 : 1 + hc.length ≤ 4 := by have q := hch; rw [List.length_cons] at q; omega
  have hn8 : ((x0 :: x1 :: rr)).length ≤ 8 := hg8
  have hNN : ((x0 :: x1 :: rr)).length = 2 + rr.length := by simp only [List.length_cons]; omega
  have hRR : ((x1 :: rr)).length = rr.length + 1 := List.length_cons
  obtain ⟨_, _, ⟨T145, L145, c145, n145⟩, -, X145, ⟨Lc145, hQ145, l145, y145, z145⟩, st145⟩ := Jvm.LawKit.callS X5 hx (y := own_y6) hown (om hZ hw 73 rfl) (om hZ hw 74 rfl) (om hZ hw 75 rfl) (om hZ hw 76 rfl) (by decide) (backOf (W := 0) (own_rm12o l Z a0 hw arr ka bl (x0 :: x1 :: rr) st pn ln cs fm u8 h0 n0 Z0 O0 V_a hst hsg hln (by omega) (own_asc_n hk0) hx0 HB) hZ (own_w hw 76 rfl) (own_w hw 75 rfl) (by decide) (by decide)) (g := (mkF m 47 #[vr b, vr u8, vr arr, vi st, vi ln, .unset, .unset, .unset, .unset, .unset, .unset] [(.int ln), (.int st), (.ref arr)])) rfl (by rw [hml]; rfl) (argsL := [(.ref arr), (.int st), (.int ln)]) (rest := []) (lenOf own_pd18 rfl) rfl own_w0 (D d11_47) (fun _ _ => ⟨rfl, e5, (by decide : 0 + 0 ≤ _), (by decide : 0 + 0 ≤ _)⟩)
  dsimp only [Pt.U, Pt.locs, Pt.cells, Pt.slots] at X145 l145 y145 z145 st145 hQ145
  subst l145 y145 z145
  obtain ⟨rfl, N145q, e145⟩ := hQ145
  have N145 := Fr.app N0 N145q
  refine own_st (g' := (mkF m 50 #[vr b, vr u8, vr arr, vi st, vi ln, .unset, .unset, .unset, .unset, .unset, .unset] [(.int 1)])) st145 ?_
  refine own_st (T' := T145) (g' := (mkF m 84 #[vr b, vr u8, vr arr, vi st, vi ln, vi 1, .unset, .unset, .unset, .unset, .unset] [(.int (st + ln)), (.int st), (.ref arr)])) (fun t k => ?_) ?_
  ·refine XS.istore X145.here hx rfl (D d11_50) rfl (l' := #[vr b, vr u8, vr arr, vi st, vi ln, vi 1, .unset, .unset, .unset, .unset, .unset]) rfl ?_
   refine XS.iload X145.here hx rfl (D d11_52) rfl ?_
   refine XS.iload X145.here hx rfl (D d11_54) rfl ?_
   refine XS.icmpYes X145.here hx rfl (pc0 := 56) (pc' := 78) rfl (D d11_56) rfl (feq (own_neN (show (1 : Int32).toInt = ((1 : Nat) : Int) from rfl) hln (by omega))).2 (by decide) (by decide) ?_
   refine XS.aloadN X145.here hx rfl (D d11_78) rfl rfl ?_
   refine XS.iloadN X145.here hx rfl (D d11_79) rfl ?_
   refine XS.iloadN X145.here hx rfl (D d11_80) rfl ?_
   refine XS.iload X145.here hx rfl (D d11_81) rfl ?_
   refine XS.iadd X145.here hx rfl (D d11_83) rfl ?_
   exact k
  obtain ⟨_, _, ⟨T146, L146, c146, n146⟩, -, X146, ⟨Lc146, hQ146, l146, y146, z146⟩, st146⟩ := Jvm.LawKit.callS X145 hx (y := own_y9) hown (om hZ hw 77 rfl) (om hZ hw 78 rfl) (om hZ hw 79 rfl) (om hZ hw 80 rfl) (by decide) (backOf (W := 0) (own_rm13 l Z a0 hw arr ka bl (x0 :: x1 :: rr) st pn ln cs fm u8 h0 n0 Z0 O0 V_a hst hsg hln HB) hZ (own_w hw 80 rfl) (own_w hw 79 rfl) (by decide) (by decide)) (g := (mkF m 84 #[vr b, vr u8, vr arr, vi st, vi ln, vi 1, .unset, .unset, .unset, .unset, .unset] [(.int (st + ln)), (.int st), (.ref arr)])) rfl (by rw [hml]; rfl) (argsL := [(.ref arr), (.int st), (.int (st + ln))]) (rest := []) (lenOf own_pd4 rfl) rfl own_w0 (D d11_84) (fun _ _ => ⟨rfl, e145, (by decide : 0 + 1 ≤ _), (by decide : 0 + 8 ≤ _)⟩)
  dsimp only [Pt.U, Pt.locs, Pt.cells, Pt.slots] at X146 l146 y146 z146 st146 hQ146
  subst l146 y146 z146
  obtain ⟨h146, e146⟩ : ∃ z, T146.heap = z := ⟨_, rfl⟩
  rw [e146] at hQ146
  obtain ⟨r146, k146, rfl, N146q, Kc146, g146, hz146, Vc146⟩ := hQ146
  have N146 := Fr.app N145 N146q
  have ne_b_r146 : b ≠ r146 := Nat.ne_of_lt (Nat.lt_of_lt_of_le E_b.lt hz146)
  have ne_arr_r146 : arr ≠ r146 := Nat.ne_of_lt (Nat.lt_of_lt_of_le V_a.lt hz146)
  have f147 := E_u8.ext O0.2
  have ne_u8_r146 : u8 ≠ r146 := Nat.ne_of_lt (Nat.lt_of_lt_of_le f147.lt hz146)
  have hwr146 : h0.size ≤ r146 := Nat.le_trans (Keep.refl h0 [b]).1 hz146
  have K146 : Keep h0 h146 [b] := (Keep.refl h0 [b]).trans Kc146 all0
  have Z146 : n0 ≤ h146.size := Nat.le_trans Z0 Kc146.1
  have O146 := O0.keep Kc146 all0
  refine own_st (g' := (mkF m 87 #[vr b, vr u8, vr arr, vi st, vi ln, vi 1, .unset, .unset, .unset, .unset, .unset] [(.ref r146)])) st146 ?_
  refine own_st (T' := T146) (g' := (mkF m 107 #[vr b, vr u8, vr arr, vi st, vi ln, vi 1, vr r146, vi 2, .unset, .unset, .unset] [(.int 1), (.ref r146)])) (fun t k => ?_) ?_
  ·refine XS.astore X146.here hx rfl (D d11_87) rfl rfl (l' := #[vr b, vr u8, vr arr, vi st, vi ln, vi 1, vr r146, .unset, .unset, .unset, .unset]) rfl ?_
   refine XS.iload X146.here hx rfl (D d11_89) rfl ?_
   refine XS.istore X146.here hx rfl (D d11_91) rfl (l' := #[vr b, vr u8, vr arr, vi st, vi ln, vi 1, vr r146, vi 1, .unset, .unset, .unset]) rfl ?_
   refine XS.iload X146.here hx rfl (D d11_93) rfl ?_
   refine XS.iload X146.here hx rfl (D d11_95) rfl ?_
   refine XS.icmpNo X146.here hx rfl (D d11_97) rfl (tlt ((own_ltN (show (1 : Int32).toInt = ((1 : Nat) : Int) from rfl) hln).mpr (by omega))).2.1 ?_
   refine XS.aload X146.here hx rfl (D d11_100) rfl rfl ?_
   refine XS.iload X146.here hx rfl (D d11_102) rfl ?_
   refine XS.iinc X146.here hx rfl (D d11_104) rfl (l' := #[vr b, vr u8, vr arr, vi st, vi ln, vi 1, vr r146, vi 2, .unset, .unset, .unset]) rfl ?_
   exact k
  obtain ⟨cl148, Ar148, q148, S148, M148, H148, G148⟩ := id Vc146
  refine own_st (T' := T146) (g' := (mkF m 228 #[vr b, vr u8, vr arr, vi st, vi ln, vi 1, vr r146, vi 1, vi x1, .unset, .unset] [(.int ln)])) (fun t k => ?_) ?_
  ·refine X146.baloadBytes hx (j := (1 : Int32)) (v := (.int x1)) (by rw [e146]; exact Ar148.1) (State.isArrayOf_alike hZ.alike Ar148.2.1) Ar148.2.2 (inb_of S148 ⟨by decide, (own_ltN (show (1 : Int32).toInt = ((1 : Nat) : Int) from rfl) hln).mpr (by omega)⟩) (Has.at H148 (inb_of S148 ⟨by decide, (own_ltN (show (1 : Int32).toInt = ((1 : Nat) : Int) from rfl) hln).mpr (by omega)⟩) ((own_lget (x0 :: x1 :: rr) ((1 : Int32)).toNatClampNeg).trans (congrArg Value.int rfl))) (g := (mkF m 107 #[vr b, vr u8, vr arr, vi st, vi ln, vi 1, vr r146, vi 2, .unset, .unset, .unset] [(.int 1), (.ref r146)])) rfl rfl (D d11_107) _ ?_
   refine XS.istore X146.here hx rfl (D d11_108) rfl (l' := #[vr b, vr u8, vr arr, vi st, vi ln, vi 1, vr r146, vi 2, vi x1, .unset, .unset]) rfl ?_
   refine XS.iload X146.here hx rfl (D d11_110) rfl ?_
   refine XS.ifYes X146.here hx rfl (pc0 := 112) (pc' := 129) rfl (D d11_112) rfl ((if0 _ _).trans (tlt hx0).1) (by decide) (by decide) ?_
   refine XS.iload X146.here hx rfl (D d11_129) rfl ?_
   refine XS.sipush X146.here hx rfl (D d11_131) ?_
   refine XS.iand X146.here hx rfl (D d11_134) rfl ?_
   refine XS.sipush X146.here hx rfl (D d11_135) ?_
   refine XS.icmpYes X146.here hx rfl (pc0 := 138) (pc' := 184) rfl (D d11_138) rfl (feq hnl).2 (by decide) (by decide) ?_
   refine XS.iinc X146.here hx rfl (D d11_184) rfl (l' := #[vr b, vr u8, vr arr, vi st, vi ln, vi 1, vr r146, vi 1, vi x1, .unset, .unset]) rfl ?_
   refine XS.goto X146.here hx rfl (pc0 := 187) (pc' := 190) rfl (D d11_187) (by decide) (by decide) ?_
   refine XS.iload X146.here hx rfl (D d11_190) rfl ?_
   refine XS.iload X146.here hx rfl (D d11_192) rfl ?_
   refine XS.icmpYes X146.here hx rfl (pc0 := 194) (pc' := 226) rfl (D d11_194) rfl (feq (own_neN (show (1 : Int32).toInt = ((1 : Nat) : Int) from rfl) hln (by omega))).2 (by decide) (by decide) ?_
   refine XS.iload X146.here hx rfl (D d11_226) rfl ?_
   exact k
  obtain ⟨_, _, ⟨T149, L149, c149, n149⟩, -, X149, ⟨Lc149, hQ149, l149, y149, z149⟩, st149⟩ := Jvm.LawKit.callS X146 hx (y := own_y13) hown (om hZ hw 95 rfl) (om hZ hw 96 rfl) (om hZ hw 97 rfl) (om hZ hw 98 rfl) (by decide) (backOf (W := 0) (own_rm17 l Z a0 hw ln ((x0 :: x1 :: rr)).length cs fm u8 h146 n0 Z146 O146 hln hn8 HB) hZ (own_w hw 98 rfl) (own_w hw 97 rfl) (by decide) (by decide)) (g := (mkF m 228 #[vr b, vr u8, vr arr, vi st, vi ln, vi 1, vr r146, vi 1, vi x1, .unset, .unset] [(.int ln)])) rfl (by rw [hml]; rfl) (argsL := [(.int ln)]) (rest := []) (lenOf own_pd20 rfl) rfl own_w0 (D d11_228) (fun _ _ => ⟨rfl, e146, (by decide : 1 + 1 ≤ _), (by decide : 8 + 16 ≤ _)⟩)
  dsimp only [Pt.U, Pt.locs, Pt.cells, Pt.slots] at X149 l149 y149 z149 st149 hQ149
  subst l149 y149 z149
  obtain ⟨h149, e149⟩ : ∃ z, T149.heap = z := ⟨_, rfl⟩
  rw [e149] at hQ149
  obtain ⟨r149, k149, rfl, N149q, Kc149, g149, hz149, Vc149⟩ := hQ149
  have N149 := Fr.app N146 N149q
  have f150 := E_b.keep Kc146
  have ne_b_r149 : b ≠ r149 := Nat.ne_of_lt (Nat.lt_of_lt_of_le f150.lt hz149)
  have f151 := V_a.keep Kc146 nin0
  have ne_arr_r149 : arr ≠ r149 := Nat.ne_of_lt (Nat.lt_of_lt_of_le f151.lt hz149)
  have f152 := E_u8.ext O146.2
  have ne_u8_r149 : u8 ≠ r149 := Nat.ne_of_lt (Nat.lt_of_lt_of_le f152.lt hz149)
  have ne_r146_r149 : r146 ≠ r149 := Nat.ne_of_lt (Nat.lt_of_lt_of_le Vc146.lt hz149)
  have hwr149 : h0.size ≤ r149 := Nat.le_trans K146.1 hz149
  have K149 : Keep h0 h149 [b] := K146.trans Kc149 all0
  have Z149 : n0 ≤ h149.size := Nat.le_trans Z146 Kc149.1
  have O149 := O146.keep Kc149 all0
  refine own_st (g' := (mkF m 231 #[vr b, vr u8, vr arr, vi st, vi ln, vi 1, vr r146, vi 1, vi x1, .unset, .unset] [(.ref r149)])) st149 ?_
  refine own_st (T' := T149) (g' := (mkF m 241 #[vr b, vr u8, vr arr, vi st, vi ln, vi 1, vr r146, vi 1, vr r149, .unset, .unset] [(.int 1), (.int 0), (.ref r149), (.int 0), (.ref r146)])) (fun t k => ?_) ?_
  ·refine XS.astore X149.here hx rfl (D d11_231) rfl rfl (l' := #[vr b, vr u8, vr arr, vi st, vi ln, vi 1, vr r146, vi 1, vr r149, .unset, .unset]) rfl ?_
   refine XS.aload X149.here hx rfl (D d11_233) rfl rfl ?_
   refine XS.iconst X149.here hx rfl (D d11_235) ?_
   refine XS.aload X149.here hx rfl (D d11_236) rfl rfl ?_
   refine XS.iconst X149.here hx rfl (D d11_238) ?_
   refine XS.iload X149.here hx rfl (D d11_239) rfl ?_
   exact k
  have f153 := Vc146.keep Kc149 nin0
  obtain ⟨_, _, ⟨T154, L154, c154, n154⟩, -, X154, ⟨Lc154, hQ154, l154, y154, z154⟩, st154⟩ := Jvm.LawKit.callS X149 hx (y := own_y17) hown (om hZ hw 103 rfl) (om hZ hw 104 rfl) (om hZ hw 105 rfl) (om hZ hw 106 rfl) (by decide) (backOf (W := 0) (own_rm19_1 l Z a0 hw r146 r149 k146 k149 (x0 :: x1 :: rr) (List.replicate (2 * ((x0 :: x1 :: rr)).length) (0 : Int32)) ln (ln <<< ((1 : Int32) &&& 31)) (2 * ((x0 :: x1 :: rr)).length) x0 cs fm u8 h149 n0 Z149 O149 f153 Vc149 (own_shl hln hn8) List.length_replicate (by omega) (by omega) g149 ne_r146_r149 rfl ((own_ltN (show (0 : Int32).toInt = ((0 : Nat) : Int) from rfl) hln).mpr (by omega)) HB) hZ (own_w hw 106 rfl) (own_w hw 105 rfl) (by decide) (by decide)) (g := (mkF m 241 #[vr b, vr u8, vr arr, vi st, vi ln, vi 1, vr r146, vi 1, vr r149, .unset, .unset] [(.int 1), (.int 0), (.ref r149), (.int 0), (.ref r146)])) rfl (by rw [hml]; rfl) (argsL := [(.ref r146), (.int 0), (.ref r149), (.int 0), (.int 1)]) (rest := []) (lenOf own_pd10 rfl) rfl own_w0 (D d11_241) (fun _ _ => ⟨rfl, e149, (by decide : 2 + 0 ≤ _), (by decide : 24 + 0 ≤ _)⟩)
  dsimp only [Pt.U, Pt.locs, Pt.cells, Pt.slots] at X154 l154 y154 z154 st154 hQ154
  subst l154 y154 z154
  obtain ⟨h154, e154⟩ : ∃ z, T154.heap = z := ⟨_, rfl⟩
  rw [e154] at hQ154
  obtain ⟨rfl, N154q, Kc154, Vc154⟩ := hQ154
  have N154 := Fr.app N149 N154q
  have K154 : Keep h0 h154 [b] := K149.trans Kc154 (allS (Or.inr hwr149) all0)
  have Z154 : n0 ≤ h154.size := Nat.le_trans Z149 Kc154.1
  have O154 := O149.keep Kc154 (allS g149 all0)
  refine own_st (g' := (mkF m 244 #[vr b, vr u8, vr arr, vi st, vi ln, vi 1, vr r146, vi 1, vr r149, .unset, .unset] [])) st154 ?_
  refine own_st (T' := T154) (g' := (mkF m 255 #[vr b, vr u8, vr arr, vi st, vi ln, vi 1, vr r146, vi 1, vr r149, .unset, .unset] [(.int 1), (.int 1), (.ref r149), (.int ln), (.int 1), (.ref r146)])) (fun t k => ?_) ?_
  ·refine XS.aload X154.here hx rfl (D d11_244) rfl rfl ?_
   refine XS.iload X154.here hx rfl (D d11_246) rfl ?_
   refine XS.iload X154.here hx rfl (D d11_248) rfl ?_
   refine XS.aload X154.here hx rfl (D d11_250) rfl rfl ?_
   refine XS.iload X154.here hx rfl (D d11_252) rfl ?_
   refine XS.iconst X154.here hx rfl (D d11_254) ?_
   exact k
  have f155 := f153.keep Kc154 (ninS ne_r146_r149 nin0)
  obtain ⟨_, _, ⟨T156, L156, c156, n156⟩, -, X156, ⟨Lc156, hQ156, l156, y156, z156⟩, st156⟩ := Jvm.LawKit.callS X154 hx (y := own_y28) hown (om hZ hw 123 rfl) (om hZ hw 124 rfl) (om hZ hw 42 rfl) (om hZ hw 125 rfl) (by decide) (backOf (W := 0) (own_rm24 l Z a0 hw r146 r149 k146 k149 (x0 :: x1 :: rr) (own_wrl (List.replicate (2 * ((x0 :: x1 :: rr)).length) (0 : Int32)) (2 * 0) [own_LO (x0 &&& (255 : Int32)), own_HI (x0 &&& (255 : Int32))]) (x1 :: rr) hc (1 : Int32) ln (ln <<< ((1 : Int32) &&& 31)) (1 : Int32) 1 ((x0 :: x1 :: rr)).length (2 * ((x0 :: x1 :: rr)).length) 1 cs fm u8 h154 n0 Z154 O154 f155 Vc154 g149 ne_r146_r149 rfl hln (own_shl hln hn8) rfl (by rw [own_wrl_len]; exact List.length_replicate) (by omega) rfl (own_rb1 _ _) (by simp only [List.length_cons] at *; omega) hu (by simp only [List.length_cons] at *; omega) HB) hZ (own_w hw 125 rfl) (own_w hw 42 rfl) (by decide) (by decide)) (g := (mkF m 255 #[vr b, vr u8, vr arr, vi st, vi ln, vi 1, vr r146, vi 1, vr r149, .unset, .unset] [(.int 1), (.int 1), (.ref r149), (.int ln), (.int 1), (.ref r146)])) rfl (by rw [hml]; rfl) (argsL := [(.ref r146), (.int 1), (.int ln), (.ref r149), (.int 1), (.int 1)]) (rest := []) (lenOf own_pd21 rfl) rfl own_w0 (D d11_255) (fun _ _ => ⟨rfl, e154, (by decide : 2 + 0 ≤ _), (by decide : 24 + 0 ≤ _)⟩)
  dsimp only [Pt.U, Pt.locs, Pt.cells, Pt.slots] at X156 l156 y156 z156 st156 hQ156
  subst l156 y156 z156
  obtain ⟨h156, e156⟩ : ∃ z, T156.heap = z := ⟨_, rfl⟩
  rw [e156] at hQ156
  obtain ⟨rfl, N156q, Kc156, Vc156⟩ := hQ156
  have N156 := Fr.app N154 N156q
  have K156 : Keep h0 h156 [b] := K154.trans Kc156 (allS (Or.inr hwr149) all0)
  have Z156 : n0 ≤ h156.size := Nat.le_trans Z154 Kc156.1
  have O156 := O154.keep Kc156 (allS g149 all0)
  refine own_st (g' := (mkF m 258 #[vr b, vr u8, vr arr, vi st, vi ln, vi 1, vr r146, vi 1, vr r149, .unset, .unset] [(.int (Int32.ofNat (1 + hc.length)))])) st156 ?_
  refine own_st (T' := T156) (g' := (mkF m 273 #[vr b, vr u8, vr arr, vi st, vi ln, vi (Int32.ofNat (1 + hc.length)), vr r146, vi 1, vr r149, .unset, .unset] [(.int ((Int32.ofNat (1 + hc.length)) <<< ((1 : Int32) &&& 31))), (.ref r149)])) (fun t k => ?_) ?_
  ·refine XS.istore X156.here hx rfl (D d11_258) rfl (l' := #[vr b, vr u8, vr arr, vi st, vi ln, vi (Int32.ofNat (1 + hc.length)), vr r146, vi 1, vr r149, .unset, .unset]) rfl ?_
   refine XS.iload X156.here hx rfl (D d11_260) rfl ?_
   refine XS.iload X156.here hx rfl (D d11_262) rfl ?_
   refine XS.icmpNo X156.here hx rfl (D d11_264) rfl (feq (own_neN (own_ofi (show 1 + hc.length < 2147483648 by omega)) hln (by omega))).1 ?_
   refine XS.aload X156.here hx rfl (D d11_267) rfl rfl ?_
   refine XS.iload X156.here hx rfl (D d11_269) rfl ?_
   refine XS.iconst X156.here hx rfl (D d11_271) ?_
   refine XS.ishl X156.here hx rfl (D d11_272) rfl ?_
   exact k
  obtain ⟨_, _, ⟨T157, L157, c157, n157⟩, -, X157, ⟨Lc157, hQ157, l157, y157, z157⟩, st157⟩ := Jvm.LawKit.callS X156 hx (y := own_y10) hown (om hZ hw 140 rfl) (om hZ hw 141 rfl) (om hZ hw 79 rfl) (om hZ hw 142 rfl) (by decide) (backOf (W := 0) (own_rm28 l Z a0 hw r149 k149 (own_wrl (own_wrl (List.replicate (2 * ((x0 :: x1 :: rr)).length) (0 : Int32)) (2 * 0) [own_LO (x0 &&& (255 : Int32)), own_HI (x0 &&& (255 : Int32))]) (2 * 1) (own_wide hc)) (ln <<< ((1 : Int32) &&& 31)) ((Int32.ofNat (1 + hc.length)) <<< ((1 : Int32) &&& 31)) (2 * ((x0 :: x1 :: rr)).length) (2 * (1 + hc.length)) cs fm u8 h156 n0 Z156 O156 Vc156 (own_shl hln hn8) (own_shl (own_ofi (show 1 + hc.length < 2147483648 by omega)) (by omega)) (by omega) (by rw [own_wrl_len, own_wrl_len]; exact List.length_replicate) (by omega) HB) hZ (own_w hw 142 rfl) (own_w hw 79 rfl) (by decide) (by decide)) (g := (mkF m 273 #[vr b, vr u8, vr arr, vi st, vi ln, vi (Int32.ofNat (1 + hc.length)), vr r146, vi 1, vr r149, .unset, .unset] [(.int ((Int32.ofNat (1 + hc.length)) <<< ((1 : Int32) &&& 31))), (.ref r149)])) rfl (by rw [hml]; rfl) (argsL := [(.ref r149), (.int ((Int32.ofNat (1 + hc.length)) <<< ((1 : Int32) &&& 31)))]) (rest := []) (lenOf own_pd19 rfl) rfl own_w0 (D d11_273) (fun _ _ => ⟨rfl, e156, (by decide : 2 + 1 ≤ _), (by decide : 24 + 8 ≤ _)⟩)
  dsimp only [Pt.U, Pt.locs, Pt.cells, Pt.slots] at X157 l157 y157 z157 st157 hQ157
  subst l157 y157 z157
  obtain ⟨h157, e157⟩ : ∃ z, T157.heap = z := ⟨_, rfl⟩
  rw [e157] at hQ157
  obtain ⟨r157, k157, rfl, N157q, Kc157, g157, hz157, Vc157⟩ := hQ157
  have N157 := Fr.app N156 N157q
  have f158 := ((f150.keep Kc149).keep Kc154).keep Kc156
  have ne_b_r157 : b ≠ r157 := Nat.ne_of_lt (Nat.lt_of_lt_of_le f158.lt hz157)
  have f159 := ((f151.keep Kc149 nin0).keep Kc154 (ninS ne_arr_r149 nin0)).keep Kc156 (ninS ne_arr_r149 nin0)
  have ne_arr_r157 : arr ≠ r157 := Nat.ne_of_lt (Nat.lt_of_lt_of_le f159.lt hz157)
  have f160 := E_u8.ext O156.2
  have ne_u8_r157 : u8 ≠ r157 := Nat.ne_of_lt (Nat.lt_of_lt_of_le f160.lt hz157)
  have f161 := f155.keep Kc156 (ninS ne_r146_r149 nin0)
  have ne_r146_r157 : r146 ≠ r157 := Nat.ne_of_lt (Nat.lt_of_lt_of_le f161.lt hz157)
  have ne_r149_r157 : r149 ≠ r157 := Nat.ne_of_lt (Nat.lt_of_lt_of_le Vc156.lt hz157)
  have hwr157 : h0.size ≤ r157 := Nat.le_trans K156.1 hz157
  have K157 : Keep h0 h157 [b] := K156.trans Kc157 all0
  have Z157 : n0 ≤ h157.size := Nat.le_trans Z156 Kc157.1
  have O157 := O156.keep Kc157 all0
  refine own_st (g' := (mkF m 276 #[vr b, vr u8, vr arr, vi st, vi ln, vi (Int32.ofNat (1 + hc.length)), vr r146, vi 1, vr r149, .unset, .unset] [(.ref r157)])) st157 ?_
  refine own_st (T' := T157) (g' := (mkF m 281 #[vr b, vr u8, vr arr, vi st, vi ln, vi (Int32.ofNat (1 + hc.length)), vr r146, vi 1, vr r157, .unset, .unset] [(.ref r157), (.ref b)])) (fun t k => ?_) ?_
  ·refine XS.astore X157.here hx rfl (D d11_276) rfl rfl (l' := #[vr b, vr u8, vr arr, vi st, vi ln, vi (Int32.ofNat (1 + hc.length)), vr r146, vi 1, vr r157, .unset, .unset]) rfl ?_
   refine XS.aloadN X157.here hx rfl (D d11_278) rfl rfl ?_
   refine XS.aload X157.here hx rfl (D d11_279) rfl rfl ?_
   exact k
  have f162 := ((((F_v.keep Kc146 nin0).keep Kc149 nin0).keep Kc154 (ninS ne_b_r149 nin0)).keep Kc156 (ninS ne_b_r149 nin0)).keep Kc157 nin0
  have f163 := f158.keep Kc157
  obtain ⟨T164, h164, X164, e164, W164, st164⟩ := putF X157 hx hZ hown (host := "") (Or.inl (own_w hw 143 rfl)) Via.refl e157 f162 f163 (Or.inr ⟨(own_w hw 144 rfl), rfl, hnm⟩) (own_w hw 41 rfl) (ty := (.array .byte)) (by decide) rfl rfl (g := (mkF m 281 #[vr b, vr u8, vr arr, vi st, vi ln, vi (Int32.ofNat (1 + hc.length)), vr r146, vi 1, vr r157, .unset, .unset] [(.ref r157), (.ref b)])) rfl rfl (D d11_281)
  have N164 := Fr.snoc X164 N157 g_b
  have K164 : Keep h0 h164 [b] := K157.wr W164 (Or.inl (List.mem_of_getElem? (i := 0) rfl))
  have Z164 : n0 ≤ h164.size := Nat.le_trans Z157 (Keep.of_wr W164).1
  have O164 := O157.wr W164 g_b
  have fw164 := (f162.same W164)
  refine own_st (g' := (mkF m 284 #[vr b, vr u8, vr arr, vi st, vi ln, vi (Int32.ofNat (1 + hc.length)), vr r146, vi 1, vr r157, .unset, .unset] [])) st164 ?_
  refine own_st (T' := T164) (g' := (mkF m 286 #[vr b, vr u8, vr arr, vi st, vi ln, vi (Int32.ofNat (1 + hc.length)), vr r146, vi 1, vr r157, .unset, .unset] [(.int 1), (.ref b)])) (fun t k => ?_) ?_
  ·refine XS.aloadN X164.here hx rfl (D d11_284) rfl rfl ?_
   refine XS.iconst X164.here hx rfl (D d11_285) ?_
   exact k
  have f165 := (((((F_c.keep Kc146 nin0).keep Kc149 nin0).keep Kc154 (ninS ne_b_r149 nin0)).keep Kc156 (ninS ne_b_r149 nin0)).keep Kc157 nin0).other W164 (Or.inr (slot_ne (Or.inr (own_w hw 146 rfl)) (Or.inr (own_w hw 144 rfl)) (by decide) (t := .byte) (t' := (.array .byte)) (by decide) (by decide)))
  have f166 := f163.wr W164
  obtain ⟨T167, h167, X167, e167, W167, st167⟩ := putFN X164 hx hZ hown (own_w hw 145 rfl) Via.refl e164 f165 f166 (Or.inr ⟨(own_w hw 146 rfl), rfl, hnm⟩) (own_w hw 41 rfl) (ty := .byte) (v' := (.int 1)) (by decide) rfl rfl (g := (mkF m 286 #[vr b, vr u8, vr arr, vi st, vi ln, vi (Int32.ofNat (1 + hc.length)), vr r146, vi 1, vr r157, .unset, .unset] [(.int 1), (.ref b)])) rfl rfl (D d11_286)
  have N167 := Fr.snoc X167 N164 g_b
  have K167 : Keep h0 h167 [b] := K164.wr W167 (Or.inl (List.mem_of_getElem? (i := 0) rfl))
  have Z167 : n0 ≤ h167.size := Nat.le_trans Z164 (Keep.of_wr W167).1
  have O167 := O164.wr W167 g_b
  have fw167 := (f165.same W167)
  refine own_st (g' := (mkF m 289 #[vr b, vr u8, vr arr, vi st, vi ln, vi (Int32.ofNat (1 + hc.length)), vr r146, vi 1, vr r157, .unset, .unset] [])) st167 ?_
  have f168 := fw164.other W167 (Or.inr (slot_ne (Or.inr (own_w hw 144 rfl)) (Or.inr (own_w hw 146 rfl)) (by decide) (t := (.array .byte)) (t' := .byte) (by decide) (by decide)))
  have f169 := (Vc157.other W164 (Ne.symm ne_b_r157)).other W167 (Ne.symm ne_b_r157)
  refine own_st (T' := T167) (g' := (mkF m 879 #[vr b, vr u8, vr arr, vi st, vi ln, vi (Int32.ofNat (1 + hc.length)), vr r146, vi 1, vr r157, .unset, .unset] [])) (fun t k => ?_) ?_
  ·refine XS.goto X167.here hx rfl (pc0 := 289) (pc' := 879) rfl (D d11_289) (by decide) (by decide) ?_
   exact k
  exact own_retV X167 hx Bd (D d11_879) e167 (⟨r157, k157, _, (own_wide (x0 :: hc)), rfl, N167, K167, f168, fw167, (by have q := f169; rw [own_asc_255 hk0] at q; exact own_fin1 (N := 2 * ((x0 :: x1 :: rr)).length) (ch := (x0 :: hc)) (own_shl (own_ofi (show 1 + hc.length < 2147483648 by omega)) (by omega)) (by (try simp only [List.length_cons]); omega) (by simp only [List.length_cons] at *; omega) q), Or.inr ⟨rfl, rfl⟩⟩) (by decide) (by decide)
 ·have hul := own_rlU_l hu
  have hc3 : 1 + hc.length ≤ 4 := by have q := hch; rw [List.length_cons] at q; omega
  have hn8 : ((x0 :: x1 :: x2 :: rr)).length ≤ 8 := hg8
  have hNN : ((x0 :: x1 :: x2 :: rr)).length = 3 + rr.length := by simp only [List.length_cons]; omega
  have hRR : ((x2 :: rr)).length = rr.length + 1 := List.length_cons
  obtain ⟨_, _, ⟨T170, L170, c170, n170⟩, -, X170, ⟨Lc170, hQ170, l170, y170, z170⟩, st170⟩ := Jvm.LawKit.callS X5 hx (y := own_y6) hown (om hZ hw 73 rfl) (om hZ hw 74 rfl) (om hZ hw 75 rfl) (om hZ hw 76 rfl) (by decide) (backOf (W := 0) (own_rm12z l Z a0 hw arr ka bl (x0 :: x1 :: x2 :: rr) st pn ln cs fm u8 h0 n0 Z0 O0 V_a hst hsg hln hg1 (own_lead_neg hk0.1) HB) hZ (own_w hw 76 rfl) (own_w hw 75 rfl) (by decide) (by decide)) (g := (mkF m 47 #[vr b, vr u8, vr arr, vi st, vi ln, .unset, .unset, .unset, .unset, .unset, .unset] [(.int ln), (.int st), (.ref arr)])) rfl (by rw [hml]; rfl) (argsL := [(.ref arr), (.int st), (.int ln)]) (rest := []) (lenOf own_pd18 rfl) rfl own_w0 (D d11_47) (fun _ _ => ⟨rfl, e5, (by decide : 0 + 0 ≤ _), (by decide : 0 + 0 ≤ _)⟩)
  dsimp only [Pt.U, Pt.locs, Pt.cells, Pt.slots] at X170 l170 y170 z170 st170 hQ170
  subst l170 y170 z170
  obtain ⟨rfl, N170q, e170⟩ := hQ170
  have N170 := Fr.app N0 N170q
  refine own_st (g' := (mkF m 50 #[vr b, vr u8, vr arr, vi st, vi ln, .unset, .unset, .unset, .unset, .unset, .unset] [(.int 0)])) st170 ?_
  refine own_st (T' := T170) (g' := (mkF m 84 #[vr b, vr u8, vr arr, vi st, vi ln, vi 0, .unset, .unset, .unset, .unset, .unset] [(.int (st + ln)), (.int st), (.ref arr)])) (fun t k => ?_) ?_
  ·refine XS.istore X170.here hx rfl (D d11_50) rfl (l' := #[vr b, vr u8, vr arr, vi st, vi ln, vi 0, .unset, .unset, .unset, .unset, .unset]) rfl ?_
   refine XS.iload X170.here hx rfl (D d11_52) rfl ?_
   refine XS.iload X170.here hx rfl (D d11_54) rfl ?_
   refine XS.icmpYes X170.here hx rfl (pc0 := 56) (pc' := 78) rfl (D d11_56) rfl (feq (own_neN (show (0 : Int32).toInt = ((0 : Nat) : Int) from rfl) hln (by omega))).2 (by decide) (by decide) ?_
   refine XS.aloadN X170.here hx rfl (D d11_78) rfl rfl ?_
   refine XS.iloadN X170.here hx rfl (D d11_79) rfl ?_
   refine XS.iloadN X170.here hx rfl (D d11_80) rfl ?_
   refine XS.iload X170.here hx rfl (D d11_81) rfl ?_
   refine XS.iadd X170.here hx rfl (D d11_83) rfl ?_
   exact k
  obtain ⟨_, _, ⟨T171, L171, c171, n171⟩, -, X171, ⟨Lc171, hQ171, l171, y171, z171⟩, st171⟩ := Jvm.LawKit.callS X170 hx (y := own_y9) hown (om hZ hw 77 rfl) (om hZ hw 78 rfl) (om hZ hw 79 rfl) (om hZ hw 80 rfl) (by decide) (backOf (W := 0) (own_rm13 l Z a0 hw arr ka bl (x0 :: x1 :: x2 :: rr) st pn ln cs fm u8 h0 n0 Z0 O0 V_a hst hsg hln HB) hZ (own_w hw 80 rfl) (own_w hw 79 rfl) (by decide) (by decide)) (g := (mkF m 84 #[vr b, vr u8, vr arr, vi st, vi ln, vi 0, .unset, .unset, .unset, .unset, .unset] [(.int (st + ln)), (.int st), (.ref arr)])) rfl (by rw [hml]; rfl) (argsL := [(.ref arr), (.int st), (.int (st + ln))]) (rest := []) (lenOf own_pd4 rfl) rfl own_w0 (D d11_84) (fun _ _ => ⟨rfl, e170, (by decide : 0 + 1 ≤ _), (by decide : 0 + 8 ≤ _)⟩)
  dsimp only [Pt.U, Pt.locs, Pt.cells, Pt.slots] at X171 l171 y171 z171 st171 hQ171
  subst l171 y171 z171
  obtain ⟨h171, e171⟩ : ∃ z, T171.heap = z := ⟨_, rfl⟩
  rw [e171] at hQ171
  obtain ⟨r171, k171, rfl, N171q, Kc171, g171, hz171, Vc171⟩ := hQ171
  have N171 := Fr.app N170 N171q
  have ne_b_r171 : b ≠ r171 := Nat.ne_of_lt (Nat.lt_of_lt_of_le E_b.lt hz171)
  have ne_arr_r171 : arr ≠ r171 := Nat.ne_of_lt (Nat.lt_of_lt_of_le V_a.lt hz171)
  have f172 := E_u8.ext O0.2
  have ne_u8_r171 : u8 ≠ r171 := Nat.ne_of_lt (Nat.lt_of_lt_of_le f172.lt hz171)
  have hwr171 : h0.size ≤ r171 := Nat.le_trans (Keep.refl h0 [b]).1 hz171
  have K171 : Keep h0 h171 [b] := (Keep.refl h0 [b]).trans Kc171 all0
  have Z171 : n0 ≤ h171.size := Nat.le_trans Z0 Kc171.1
  have O171 := O0.keep Kc171 all0
  refine own_st (g' := (mkF m 87 #[vr b, vr u8, vr arr, vi st, vi ln, vi 0, .unset, .unset, .unset, .unset, .unset] [(.ref r171)])) st171 ?_
  refine own_st (T' := T171) (g' := (mkF m 107 #[vr b, vr u8, vr arr, vi st, vi ln, vi 0, vr r171, vi 1, .unset, .unset, .unset] [(.int 0), (.ref r171)])) (fun t k => ?_) ?_
  ·refine XS.astore X171.here hx rfl (D d11_87) rfl rfl (l' := #[vr b, vr u8, vr arr, vi st, vi ln, vi 0, vr r171, .unset, .unset, .unset, .unset]) rfl ?_
   refine XS.iload X171.here hx rfl (D d11_89) rfl ?_
   refine XS.istore X171.here hx rfl (D d11_91) rfl (l' := #[vr b, vr u8, vr arr, vi st, vi ln, vi 0, vr r171, vi 0, .unset, .unset, .unset]) rfl ?_
   refine XS.iload X171.here hx rfl (D d11_93) rfl ?_
   refine XS.iload X171.here hx rfl (D d11_95) rfl ?_
   refine XS.icmpNo X171.here hx rfl (D d11_97) rfl (tlt ((own_ltN (show (0 : Int32).toInt = ((0 : Nat) : Int) from rfl) hln).mpr (by omega))).2.1 ?_
   refine XS.aload X171.here hx rfl (D d11_100) rfl rfl ?_
   refine XS.iload X171.here hx rfl (D d11_102) rfl ?_
   refine XS.iinc X171.here hx rfl (D d11_104) rfl (l' := #[vr b, vr u8, vr arr, vi st, vi ln, vi 0, vr r171, vi 1, .unset, .unset, .unset]) rfl ?_
   exact k
  obtain ⟨cl173, Ar173, q173, S173, M173, H173, G173⟩ := id Vc171
  refine own_st (T' := T171) (g' := (mkF m 152 #[vr b, vr u8, vr arr, vi st, vi ln, vi 0, vr r171, vi 1, vi x0, .unset, .unset] [(.int 1), (.ref r171)])) (fun t k => ?_) ?_
  ·refine X171.baloadBytes hx (j := (0 : Int32)) (v := (.int x0)) (by rw [e171]; exact Ar173.1) (State.isArrayOf_alike hZ.alike Ar173.2.1) Ar173.2.2 (inb_of S173 ⟨by decide, (own_ltN (show (0 : Int32).toInt = ((0 : Nat) : Int) from rfl) hln).mpr (by omega)⟩) (Has.at H173 (inb_of S173 ⟨by decide, (own_ltN (show (0 : Int32).toInt = ((0 : Nat) : Int) from rfl) hln).mpr (by omega)⟩) ((own_lget (x0 :: x1 :: x2 :: rr) ((0 : Int32)).toNatClampNeg).trans (congrArg Value.int rfl))) (g := (mkF m 107 #[vr b, vr u8, vr arr, vi st, vi ln, vi 0, vr r171, vi 1, .unset, .unset, .unset] [(.int 0), (.ref r171)])) rfl rfl (D d11_107) _ ?_
   refine XS.istore X171.here hx rfl (D d11_108) rfl (l' := #[vr b, vr u8, vr arr, vi st, vi ln, vi 0, vr r171, vi 1, vi x0, .unset, .unset]) rfl ?_
   refine XS.iload X171.here hx rfl (D d11_110) rfl ?_
   refine XS.ifYes X171.here hx rfl (pc0 := 112) (pc' := 129) rfl (D d11_112) rfl ((if0 _ _).trans (tlt (own_lead_neg hk0.1)).1) (by decide) (by decide) ?_
   refine XS.iload X171.here hx rfl (D d11_129) rfl ?_
   refine XS.sipush X171.here hx rfl (D d11_131) ?_
   refine XS.iand X171.here hx rfl (D d11_134) rfl ?_
   refine XS.sipush X171.here hx rfl (D d11_135) ?_
   refine XS.icmpNo X171.here hx rfl (D d11_138) rfl (teq hl0).2 ?_
   refine XS.iload X171.here hx rfl (D d11_141) rfl ?_
   refine XS.iload X171.here hx rfl (D d11_143) rfl ?_
   refine XS.icmpNo X171.here hx rfl (D d11_145) rfl (tlt ((own_ltN (show (1 : Int32).toInt = ((1 : Nat) : Int) from rfl) hln).mpr (by omega))).2.1 ?_
   refine XS.aload X171.here hx rfl (D d11_148) rfl rfl ?_
   refine XS.iload X171.here hx rfl (D d11_150) rfl ?_
   exact k
  obtain ⟨cl174, Ar174, q174, S174, M174, H174, G174⟩ := id Vc171
  refine own_st (T' := T171) (g' := (mkF m 173 #[vr b, vr u8, vr arr, vi st, vi ln, vi 1, vr r171, vi 1, vi x0, vi x1, .unset] [(.int x1), (.int x0), (.int 0), (.ref r171)])) (fun t k => ?_) ?_
  ·refine X171.baloadBytes hx (j := (1 : Int32)) (v := (.int x1)) (by rw [e171]; exact Ar174.1) (State.isArrayOf_alike hZ.alike Ar174.2.1) Ar174.2.2 (inb_of S174 ⟨by decide, (own_ltN (show (1 : Int32).toInt = ((1 : Nat) : Int) from rfl) hln).mpr (by omega)⟩) (Has.at H174 (inb_of S174 ⟨by decide, (own_ltN (show (1 : Int32).toInt = ((1 : Nat) : Int) from rfl) hln).mpr (by omega)⟩) ((own_lget (x0 :: x1 :: x2 :: rr) ((1 : Int32)).toNatClampNeg).trans (congrArg Value.int rfl))) (g := (mkF m 152 #[vr b, vr u8, vr arr, vi st, vi ln, vi 0, vr r171, vi 1, vi x0, .unset, .unset] [(.int 1), (.ref r171)])) rfl rfl (D d11_152) _ ?_
   refine XS.istore X171.here hx rfl (D d11_153) rfl (l' := #[vr b, vr u8, vr arr, vi st, vi ln, vi 0, vr r171, vi 1, vi x0, vi x1, .unset]) rfl ?_
   refine XS.iload X171.here hx rfl (D d11_155) rfl ?_
   refine XS.bipush X171.here hx rfl (D d11_157) ?_
   refine XS.icmpNo X171.here hx rfl (D d11_159) rfl (tlt (own_cont_64 hk0.2)).2.1 ?_
   refine XS.aload X171.here hx rfl (D d11_162) rfl rfl ?_
   refine XS.iload X171.here hx rfl (D d11_164) rfl ?_
   refine XS.iinc X171.here hx rfl (D d11_166) rfl (l' := #[vr b, vr u8, vr arr, vi st, vi ln, vi 1, vr r171, vi 1, vi x0, vi x1, .unset]) rfl ?_
   refine XS.iload X171.here hx rfl (D d11_169) rfl ?_
   refine XS.iload X171.here hx rfl (D d11_171) rfl ?_
   exact k
  obtain ⟨_, _, ⟨T175, L175, c175, n175⟩, -, X175, ⟨Lc175, hQ175, l175, y175, z175⟩, st175⟩ := Jvm.LawKit.callS X171 hx (y := own_y18) hown (om hZ hw 209 rfl) (om hZ hw 210 rfl) (om hZ hw 42 rfl) (om hZ hw 211 rfl) (by decide) (backOf (W := 2) (own_rm43 l Z a0 hw x0 x1 cs fm u8 h171 n0 Z171 O171 HB) hZ (own_w hw 211 rfl) (own_w hw 42 rfl) (by decide) (by decide)) (g := (mkF m 173 #[vr b, vr u8, vr arr, vi st, vi ln, vi 1, vr r171, vi 1, vi x0, vi x1, .unset] [(.int x1), (.int x0), (.int 0), (.ref r171)])) rfl (by rw [hml]; rfl) (argsL := [(.int x0), (.int x1)]) (rest := [(.int 0), (.ref r171)]) (lenOf own_pd12 rfl) rfl own_w0 (D d11_173) (fun _ _ => ⟨rfl, e171, (by decide : 1 + 0 ≤ _), (by decide : 8 + 0 ≤ _)⟩)
  dsimp only [Pt.U, Pt.locs, Pt.cells, Pt.slots] at X175 l175 y175 z175 st175 hQ175
  subst l175 y175 z175
  obtain ⟨rfl, N175q, e175⟩ := hQ175
  have N175 := Fr.app N171 N175q
  refine own_st (g' := (mkF m 176 #[vr b, vr u8, vr arr, vi st, vi ln, vi 1, vr r171, vi 1, vi x0, vi x1, .unset] [(.int (own_d2 x0 x1)), (.int 0), (.ref r171)])) st175 ?_
  refine own_st (T' := T175) (g' := (mkF m 177 #[vr b, vr u8, vr arr, vi st, vi ln, vi 1, vr r171, vi 1, vi x0, vi x1, .unset] [(.int ((own_d2 x0 x1).toInt8.toInt32)), (.int 0), (.ref r171)])) (fun t k => ?_) ?_
  ·refine XS.i2b X175.here hx rfl (D d11_176) rfl ?_
   exact k
  obtain ⟨cl176, Ar176, q176, S176, M176, H176, G176⟩ := id Vc171
  obtain ⟨T177, h177, X177, e177, W177, st177⟩ := stB X175 hx hZ e175 Ar176 (j := (0 : Int32)) (inb_of S176 ⟨by decide, (own_ltN (show (0 : Int32).toInt = ((0 : Nat) : Int) from rfl) hln).mpr (by omega)⟩) (g := (mkF m 177 #[vr b, vr u8, vr arr, vi st, vi ln, vi 1, vr r171, vi 1, vi x0, vi x1, .unset] [(.int ((own_d2 x0 x1).toInt8.toInt32)), (.int 0), (.ref r171)])) rfl rfl (D d11_177)
  have N177 := Fr.snoc X177 N175 g171
  have K177 : Keep h0 h177 [b] := K171.wr W177 (Or.inr hwr171)
  have Z177 : n0 ≤ h177.size := Nat.le_trans Z171 (Keep.of_wr W177).1
  have O177 := O171.wr W177 g171
  have fw177 := (show Arv Z h177 r171 k171 .byte ln (((x0 :: x1 :: x2 :: rr).set ((0 : Int32)).toNatClampNeg ((own_d2 x0 x1).toInt8.toInt32)).map Value.int) (.int 0) by have q := Arv.set Ar176 q176 S176 M176 H176 G176 (fits_nar_byte _) W177 (((0 : Int32)).toNatClampNeg) rfl (by rw [List.length_map]; show 0 < _; omega); rw [own_lset, own_bb (own_d2 x0 x1)] at q; exact q)
  refine own_st (g' := (mkF m 178 #[vr b, vr u8, vr arr, vi st, vi ln, vi 1, vr r171, vi 1, vi x0, vi x1, .unset] [])) st177 ?_
  refine own_st (T' := T177) (g' := (mkF m 107 #[vr b, vr u8, vr arr, vi st, vi ln, vi 1, vr r171, vi 3, vi x0, vi x1, .unset] [(.int 2), (.ref r171)])) (fun t k => ?_) ?_
  ·refine XS.iinc X177.here hx rfl (D d11_178) rfl (l' := #[vr b, vr u8, vr arr, vi st, vi ln, vi 1, vr r171, vi 2, vi x0, vi x1, .unset]) rfl ?_
   refine XS.goto X177.here hx rfl (pc0 := 181) (pc' := 93) rfl (D d11_181) (by decide) (by decide) ?_
   refine XS.iload X177.here hx rfl (D d11_93) rfl ?_
   refine XS.iload X177.here hx rfl (D d11_95) rfl ?_
   refine XS.icmpNo X177.here hx rfl (D d11_97) rfl (tlt ((own_ltN (show (2 : Int32).toInt = ((2 : Nat) : Int) from rfl) hln).mpr (by omega))).2.1 ?_
   refine XS.aload X177.here hx rfl (D d11_100) rfl rfl ?_
   refine XS.iload X177.here hx rfl (D d11_102) rfl ?_
   refine XS.iinc X177.here hx rfl (D d11_104) rfl (l' := #[vr b, vr u8, vr arr, vi st, vi ln, vi 1, vr r171, vi 3, vi x0, vi x1, .unset]) rfl ?_
   exact k
  obtain ⟨cl178, Ar178, q178, S178, M178, H178, G178⟩ := id fw177
  refine own_st (T' := T177) (g' := (mkF m 228 #[vr b, vr u8, vr arr, vi st, vi ln, vi 1, vr r171, vi 2, vi x2, vi x1, .unset] [(.int ln)])) (fun t k => ?_) ?_
  ·refine X177.baloadBytes hx (j := (2 : Int32)) (v := (.int x2)) (by rw [e177]; exact Ar178.1) (State.isArrayOf_alike hZ.alike Ar178.2.1) Ar178.2.2 (inb_of S178 ⟨by decide, (own_ltN (show (2 : Int32).toInt = ((2 : Nat) : Int) from rfl) hln).mpr (by omega)⟩) (Has.at H178 (inb_of S178 ⟨by decide, (own_ltN (show (2 : Int32).toInt = ((2 : Nat) : Int) from rfl) hln).mpr (by omega)⟩) ((own_lget ((x0 :: x1 :: x2 :: rr).set 0 ((own_d2 x0 x1).toInt8.toInt32)) ((2 : Int32)).toNatClampNeg).trans (congrArg Value.int rfl))) (g := (mkF m 107 #[vr b, vr u8, vr arr, vi st, vi ln, vi 1, vr r171, vi 3, vi x0, vi x1, .unset] [(.int 2), (.ref r171)])) rfl rfl (D d11_107) _ ?_
   refine XS.istore X177.here hx rfl (D d11_108) rfl (l' := #[vr b, vr u8, vr arr, vi st, vi ln, vi 1, vr r171, vi 3, vi x2, vi x1, .unset]) rfl ?_
   refine XS.iload X177.here hx rfl (D d11_110) rfl ?_
   refine XS.ifYes X177.here hx rfl (pc0 := 112) (pc' := 129) rfl (D d11_112) rfl ((if0 _ _).trans (tlt hx0).1) (by decide) (by decide) ?_
   refine XS.iload X177.here hx rfl (D d11_129) rfl ?_
   refine XS.sipush X177.here hx rfl (D d11_131) ?_
   refine XS.iand X177.here hx rfl (D d11_134) rfl ?_
   refine XS.sipush X177.here hx rfl (D d11_135) ?_
   refine XS.icmpYes X177.here hx rfl (pc0 := 138) (pc' := 184) rfl (D d11_138) rfl (feq hnl).2 (by decide) (by decide) ?_
   refine XS.iinc X177.here hx rfl (D d11_184) rfl (l' := #[vr b, vr u8, vr arr, vi st, vi ln, vi 1, vr r171, vi 2, vi x2, vi x1, .unset]) rfl ?_
   refine XS.goto X177.here hx rfl (pc0 := 187) (pc' := 190) rfl (D d11_187) (by decide) (by decide) ?_
   refine XS.iload X177.here hx rfl (D d11_190) rfl ?_
   refine XS.iload X177.here hx rfl (D d11_192) rfl ?_
   refine XS.icmpYes X177.here hx rfl (pc0 := 194) (pc' := 226) rfl (D d11_194) rfl (feq (own_neN (show (2 : Int32).toInt = ((2 : Nat) : Int) from rfl) hln (by omega))).2 (by decide) (by decide) ?_
   refine XS.iload X177.here hx rfl (D d11_226) rfl ?_
   exact k
  obtain ⟨_, _, ⟨T179, L179, c179, n179⟩, -, X179, ⟨Lc179, hQ179, l179, y179, z179⟩, st179⟩ := Jvm.LawKit.callS X177 hx (y := own_y13) hown (om hZ hw 95 rfl) (om hZ hw 96 rfl) (om hZ hw 97 rfl) (om hZ hw 98 rfl) (by decide) (backOf (W := 0) (own_rm17 l Z a0 hw ln ((x0 :: x1 :: x2 :: rr)).length cs fm u8 h177 n0 Z177 O177 hln hn8 HB) hZ (own_w hw 98 rfl) (own_w hw 97 rfl) (by decide) (by decide)) (g := (mkF m 228 #[vr b, vr u8, vr arr, vi st, vi ln, vi 1, vr r171, vi 2, vi x2, vi x1, .unset] [(.int ln)])) rfl (by rw [hml]; rfl) (argsL := [(.int ln)]) (rest := []) (lenOf own_pd20 rfl) rfl own_w0 (D d11_228) (fun _ _ => ⟨rfl, e177, (by decide : 1 + 1 ≤ _), (by decide : 8 + 16 ≤ _)⟩)
  dsimp only [Pt.U, Pt.locs, Pt.cells, Pt.slots] at X179 l179 y179 z179 st179 hQ179
  subst l179 y179 z179
  obtain ⟨h179, e179⟩ : ∃ z, T179.heap = z := ⟨_, rfl⟩
  rw [e179] at hQ179
  obtain ⟨r179, k179, rfl, N179q, Kc179, g179, hz179, Vc179⟩ := hQ179
  have N179 := Fr.app N177 N179q
  have f180 := (E_b.keep Kc171).wr W177
  have ne_b_r179 : b ≠ r179 := Nat.ne_of_lt (Nat.lt_of_lt_of_le f180.lt hz179)
  have f181 := (V_a.keep Kc171 nin0).other W177 ne_arr_r171
  have ne_arr_r179 : arr ≠ r179 := Nat.ne_of_lt (Nat.lt_of_lt_of_le f181.lt hz179)
  have f182 := E_u8.ext O177.2
  have ne_u8_r179 : u8 ≠ r179 := Nat.ne_of_lt (Nat.lt_of_lt_of_le f182.lt hz179)
  have ne_r171_r179 : r171 ≠ r179 := Nat.ne_of_lt (Nat.lt_of_lt_of_le fw177.lt hz179)
  have hwr179 : h0.size ≤ r179 := Nat.le_trans K177.1 hz179
  have K179 : Keep h0 h179 [b] := K177.trans Kc179 all0
  have Z179 : n0 ≤ h179.size := Nat.le_trans Z177 Kc179.1
  have O179 := O177.keep Kc179 all0
  refine own_st (g' := (mkF m 231 #[vr b, vr u8, vr arr, vi st, vi ln, vi 1, vr r171, vi 2, vi x2, vi x1, .unset] [(.ref r179)])) st179 ?_
  refine own_st (T' := T179) (g' := (mkF m 241 #[vr b, vr u8, vr arr, vi st, vi ln, vi 1, vr r171, vi 2, vr r179, vi x1, .unset] [(.int 1), (.int 0), (.ref r179), (.int 0), (.ref r171)])) (fun t k => ?_) ?_
  ·refine XS.astore X179.here hx rfl (D d11_231) rfl rfl (l' := #[vr b, vr u8, vr arr, vi st, vi ln, vi 1, vr r171, vi 2, vr r179, vi x1, .unset]) rfl ?_
   refine XS.aload X179.here hx rfl (D d11_233) rfl rfl ?_
   refine XS.iconst X179.here hx rfl (D d11_235) ?_
   refine XS.aload X179.here hx rfl (D d11_236) rfl rfl ?_
   refine XS.iconst X179.here hx rfl (D d11_238) ?_
   refine XS.iload X179.here hx rfl (D d11_239) rfl ?_
   exact k
  have f183 := fw177.keep Kc179 nin0
  obtain ⟨_, _, ⟨T184, L184, c184, n184⟩, -, X184, ⟨Lc184, hQ184, l184, y184, z184⟩, st184⟩ := Jvm.LawKit.callS X179 hx (y := own_y17) hown (om hZ hw 103 rfl) (om hZ hw 104 rfl) (om hZ hw 105 rfl) (om hZ hw 106 rfl) (by decide) (backOf (W := 0) (own_rm19_1 l Z a0 hw r171 r179 k171 k179 ((x0 :: x1 :: x2 :: rr).set 0 ((own_d2 x0 x1).toInt8.toInt32)) (List.replicate (2 * ((x0 :: x1 :: x2 :: rr)).length) (0 : Int32)) ln (ln <<< ((1 : Int32) &&& 31)) (2 * ((x0 :: x1 :: x2 :: rr)).length) ((own_d2 x0 x1).toInt8.toInt32) cs fm u8 h179 n0 Z179 O179 f183 Vc179 (own_shl hln hn8) List.length_replicate (by omega) (by omega) g179 ne_r171_r179 rfl ((own_ltN (show (0 : Int32).toInt = ((0 : Nat) : Int) from rfl) hln).mpr (by omega)) HB) hZ (own_w hw 106 rfl) (own_w hw 105 rfl) (by decide) (by decide)) (g := (mkF m 241 #[vr b, vr u8, vr arr, vi st, vi ln, vi 1, vr r171, vi 2, vr r179, vi x1, .unset] [(.int 1), (.int 0), (.ref r179), (.int 0), (.ref r171)])) rfl (by rw [hml]; rfl) (argsL := [(.ref r171), (.int 0), (.ref r179), (.int 0), (.int 1)]) (rest := []) (lenOf own_pd10 rfl) rfl own_w0 (D d11_241) (fun _ _ => ⟨rfl, e179, (by decide : 2 + 0 ≤ _), (by decide : 24 + 0 ≤ _)⟩)
  dsimp only [Pt.U, Pt.locs, Pt.cells, Pt.slots] at X184 l184 y184 z184 st184 hQ184
  subst l184 y184 z184
  obtain ⟨h184, e184⟩ : ∃ z, T184.heap = z := ⟨_, rfl⟩
  rw [e184] at hQ184
  obtain ⟨rfl, N184q, Kc184, Vc184⟩ := hQ184
  have N184 := Fr.app N179 N184q
  have K184 : Keep h0 h184 [b] := K179.trans Kc184 (allS (Or.inr hwr179) all0)
  have Z184 : n0 ≤ h184.size := Nat.le_trans Z179 Kc184.1
  have O184 := O179.keep Kc184 (allS g179 all0)
  refine own_st (g' := (mkF m 244 #[vr b, vr u8, vr arr, vi st, vi ln, vi 1, vr r171, vi 2, vr r179, vi x1, .unset] [])) st184 ?_
  refine own_st (T' := T184) (g' := (mkF m 255 #[vr b, vr u8, vr arr, vi st, vi ln, vi 1, vr r171, vi 2, vr r179, vi x1, .unset] [(.int 1), (.int 1), (.ref r179), (.int ln), (.int 2), (.ref r171)])) (fun t k => ?_) ?_
  ·refine XS.aload X184.here hx rfl (D d11_244) rfl rfl ?_
   refine XS.iload X184.here hx rfl (D d11_246) rfl ?_
   refine XS.iload X184.here hx rfl (D d11_248) rfl ?_
   refine XS.aload X184.here hx rfl (D d11_250) rfl rfl ?_
   refine XS.iload X184.here hx rfl (D d11_252) rfl ?_
   refine XS.iconst X184.here hx rfl (D d11_254) ?_
   exact k
  have f185 := f183.keep Kc184 (ninS ne_r171_r179 nin0)
  obtain ⟨_, _, ⟨T186, L186, c186, n186⟩, -, X186, ⟨Lc186, hQ186, l186, y186, z186⟩, st186⟩ := Jvm.LawKit.callS X184 hx (y := own_y28) hown (om hZ hw 123 rfl) (om hZ hw 124 rfl) (om hZ hw 42 rfl) (om hZ hw 125 rfl) (by decide) (backOf (W := 0) (own_rm24 l Z a0 hw r171 r179 k171 k179 ((x0 :: x1 :: x2 :: rr).set 0 ((own_d2 x0 x1).toInt8.toInt32)) (own_wrl (List.replicate (2 * ((x0 :: x1 :: x2 :: rr)).length) (0 : Int32)) (2 * 0) [own_LO (((own_d2 x0 x1).toInt8.toInt32) &&& (255 : Int32)), own_HI (((own_d2 x0 x1).toInt8.toInt32) &&& (255 : Int32))]) (x2 :: rr) hc (2 : Int32) ln (ln <<< ((1 : Int32) &&& 31)) (1 : Int32) 2 ((x0 :: x1 :: x2 :: rr)).length (2 * ((x0 :: x1 :: x2 :: rr)).length) 1 cs fm u8 h184 n0 Z184 O184 f185 Vc184 g179 ne_r171_r179 rfl hln (own_shl hln hn8) rfl (by rw [own_wrl_len]; exact List.length_replicate) (by omega) rfl (own_rb2 _ _ _ _) (by simp only [List.length_cons] at *; omega) hu (by simp only [List.length_cons] at *; omega) HB) hZ (own_w hw 125 rfl) (own_w hw 42 rfl) (by decide) (by decide)) (g := (mkF m 255 #[vr b, vr u8, vr arr, vi st, vi ln, vi 1, vr r171, vi 2, vr r179, vi x1, .unset] [(.int 1), (.int 1), (.ref r179), (.int ln), (.int 2), (.ref r171)])) rfl (by rw [hml]; rfl) (argsL := [(.ref r171), (.int 2), (.int ln), (.ref r179), (.int 1), (.int 1)]) (rest := []) (lenOf own_pd21 rfl) rfl own_w0 (D d11_255) (fun _ _ => ⟨rfl, e184, (by decide : 2 + 0 ≤ _), (by decide : 24 + 0 ≤ _)⟩)
  dsimp only [Pt.U, Pt.locs, Pt.cells, Pt.slots] at X186 l186 y186 z186 st186 hQ186
  subst l186 y186 z186
  obtain ⟨h186, e186⟩ : ∃ z, T186.heap = z := ⟨_, rfl⟩
  rw [e186] at hQ186
  obtain ⟨rfl, N186q, Kc186, Vc186⟩ := hQ186
  have N186 := Fr.app N184 N186q
  have K186 : Keep h0 h186 [b] := K184.trans Kc186 (allS (Or.inr hwr179) all0)
  have Z186 : n0 ≤ h186.size := Nat.le_trans Z184 Kc186.1
  have O186 := O184.keep Kc186 (allS g179 all0)
  refine own_st (g' := (mkF m 258 #[vr b, vr u8, vr arr, vi st, vi ln, vi 1, vr r171, vi 2, vr r179, vi x1, .unset] [(.int (Int32.ofNat (1 + hc.length)))])) st186 ?_
  refine own_st (T' := T186) (g' := (mkF m 273 #[vr b, vr u8, vr arr, vi st, vi ln, vi (Int32.ofNat (1 + hc.length)), vr r171, vi 2, vr r179, vi x1, .unset] [(.int ((Int32.ofNat (1 + hc.length)) <<< ((1 : Int32) &&& 31))), (.ref r179)])) (fun t k => ?_) ?_
  ·refine XS.istore X186.here hx rfl (D d11_258) rfl (l' := #[vr b, vr u8, vr arr, vi st, vi ln, vi (Int32.ofNat (1 + hc.length)), vr r171, vi 2, vr r179, vi x1, .unset]) rfl ?_
   refine XS.iload X186.here hx rfl (D d11_260) rfl ?_
   refine XS.iload X186.here hx rfl (D d11_262) rfl ?_
   refine XS.icmpNo X186.here hx rfl (D d11_264) rfl (feq (own_neN (own_ofi (show 1 + hc.length < 2147483648 by omega)) hln (by omega))).1 ?_
   refine XS.aload X186.here hx rfl (D d11_267) rfl rfl ?_
   refine XS.iload X186.here hx rfl (D d11_269) rfl ?_
   refine XS.iconst X186.here hx rfl (D d11_271) ?_
   refine XS.ishl X186.here hx rfl (D d11_272) rfl ?_
   exact k
  obtain ⟨_, _, ⟨T187, L187, c187, n187⟩, -, X187, ⟨Lc187, hQ187, l187, y187, z187⟩, st187⟩ := Jvm.LawKit.callS X186 hx (y := own_y10) hown (om hZ hw 140 rfl) (om hZ hw 141 rfl) (om hZ hw 79 rfl) (om hZ hw 142 rfl) (by decide) (backOf (W := 0) (own_rm28 l Z a0 hw r179 k179 (own_wrl (own_wrl (List.replicate (2 * ((x0 :: x1 :: x2 :: rr)).length) (0 : Int32)) (2 * 0) [own_LO (((own_d2 x0 x1).toInt8.toInt32) &&& (255 : Int32)), own_HI (((own_d2 x0 x1).toInt8.toInt32) &&& (255 : Int32))]) (2 * 1) (own_wide hc)) (ln <<< ((1 : Int32) &&& 31)) ((Int32.ofNat (1 + hc.length)) <<< ((1 : Int32) &&& 31)) (2 * ((x0 :: x1 :: x2 :: rr)).length) (2 * (1 + hc.length)) cs fm u8 h186 n0 Z186 O186 Vc186 (own_shl hln hn8) (own_shl (own_ofi (show 1 + hc.length < 2147483648 by omega)) (by omega)) (by omega) (by rw [own_wrl_len, own_wrl_len]; exact List.length_replicate) (by omega) HB) hZ (own_w hw 142 rfl) (own_w hw 79 rfl) (by decide) (by decide)) (g := (mkF m 273 #[vr b, vr u8, vr arr, vi st, vi ln, vi (Int32.ofNat (1 + hc.length)), vr r171, vi 2, vr r179, vi x1, .unset] [(.int ((Int32.ofNat (1 + hc.length)) <<< ((1 : Int32) &&& 31))), (.ref r179)])) rfl (by rw [hml]; rfl) (argsL := [(.ref r179), (.int ((Int32.ofNat (1 + hc.length)) <<< ((1 : Int32) &&& 31)))]) (rest := []) (lenOf own_pd19 rfl) rfl own_w0 (D d11_273) (fun _ _ => ⟨rfl, e186, (by decide : 2 + 1 ≤ _), (by decide : 24 + 8 ≤ _)⟩)
  dsimp only [Pt.U, Pt.locs, Pt.cells, Pt.slots] at X187 l187 y187 z187 st187 hQ187
  subst l187 y187 z187
  obtain ⟨h187, e187⟩ : ∃ z, T187.heap = z := ⟨_, rfl⟩
  rw [e187] at hQ187
  obtain ⟨r187, k187, rfl, N187q, Kc187, g187, hz187, Vc187⟩ := hQ187
  have N187 := Fr.app N186 N187q
  have f188 := ((f180.keep Kc179).keep Kc184).keep Kc186
  have ne_b_r187 : b ≠ r187 := Nat.ne_of_lt (Nat.lt_of_lt_of_le f188.lt hz187)
  have f189 := ((f181.keep Kc179 nin0).keep Kc184 (ninS ne_arr_r179 nin0)).keep Kc186 (ninS ne_arr_r179 nin0)
  have ne_arr_r187 : arr ≠ r187 := Nat.ne_of_lt (Nat.lt_of_lt_of_le f189.lt hz187)
  have f190 := E_u8.ext O186.2
  have ne_u8_r187 : u8 ≠ r187 := Nat.ne_of_lt (Nat.lt_of_lt_of_le f190.lt hz187)
  have f191 := f185.keep Kc186 (ninS ne_r171_r179 nin0)
  have ne_r171_r187 : r171 ≠ r187 := Nat.ne_of_lt (Nat.lt_of_lt_of_le f191.lt hz187)
  have ne_r179_r187 : r179 ≠ r187 := Nat.ne_of_lt (Nat.lt_of_lt_of_le Vc186.lt hz187)
  have hwr187 : h0.size ≤ r187 := Nat.le_trans K186.1 hz187
  have K187 : Keep h0 h187 [b] := K186.trans Kc187 all0
  have Z187 : n0 ≤ h187.size := Nat.le_trans Z186 Kc187.1
  have O187 := O186.keep Kc187 all0
  refine own_st (g' := (mkF m 276 #[vr b, vr u8, vr arr, vi st, vi ln, vi (Int32.ofNat (1 + hc.length)), vr r171, vi 2, vr r179, vi x1, .unset] [(.ref r187)])) st187 ?_
  refine own_st (T' := T187) (g' := (mkF m 281 #[vr b, vr u8, vr arr, vi st, vi ln, vi (Int32.ofNat (1 + hc.length)), vr r171, vi 2, vr r187, vi x1, .unset] [(.ref r187), (.ref b)])) (fun t k => ?_) ?_
  ·refine XS.astore X187.here hx rfl (D d11_276) rfl rfl (l' := #[vr b, vr u8, vr arr, vi st, vi ln, vi (Int32.ofNat (1 + hc.length)), vr r171, vi 2, vr r187, vi x1, .unset]) rfl ?_
   refine XS.aloadN X187.here hx rfl (D d11_278) rfl rfl ?_
   refine XS.aload X187.here hx rfl (D d11_279) rfl rfl ?_
   exact k
  have f192 := (((((F_v.keep Kc171 nin0).other W177 (Or.inl ne_b_r171)).keep Kc179 nin0).keep Kc184 (ninS ne_b_r179 nin0)).keep Kc186 (ninS ne_b_r179 nin0)).keep Kc187 nin0
  have f193 := f188.keep Kc187
  obtain ⟨T194, h194, X194, e194, W194, st194⟩ := putF X187 hx hZ hown (host := "") (Or.inl (own_w hw 143 rfl)) Via.refl e187 f192 f193 (Or.inr ⟨(own_w hw 144 rfl), rfl, hnm⟩) (own_w hw 41 rfl) (ty := (.array .byte)) (by decide) rfl rfl (g := (mkF m 281 #[vr b, vr u8, vr arr, vi st, vi ln, vi (Int32.ofNat (1 + hc.length)), vr r171, vi 2, vr r187, vi x1, .unset] [(.ref r187), (.ref b)])) rfl rfl (D d11_281)
  have N194 := Fr.snoc X194 N187 g_b
  have K194 : Keep h0 h194 [b] := K187.wr W194 (Or.inl (List.mem_of_getElem? (i := 0) rfl))
  have Z194 : n0 ≤ h194.size := Nat.le_trans Z187 (Keep.of_wr W194).1
  have O194 := O187.wr W194 g_b
  have fw194 := (f192.same W194)
  refine own_st (g' := (mkF m 284 #[vr b, vr u8, vr arr, vi st, vi ln, vi (Int32.ofNat (1 + hc.length)), vr r171, vi 2, vr r187, vi x1, .unset] [])) st194 ?_
  refine own_st (T' := T194) (g' := (mkF m 286 #[vr b, vr u8, vr arr, vi st, vi ln, vi (Int32.ofNat (1 + hc.length)), vr r171, vi 2, vr r187, vi x1, .unset] [(.int 1), (.ref b)])) (fun t k => ?_) ?_
  ·refine XS.aloadN X194.here hx rfl (D d11_284) rfl rfl ?_
   refine XS.iconst X194.here hx rfl (D d11_285) ?_
   exact k
  have f195 := ((((((F_c.keep Kc171 nin0).other W177 (Or.inl ne_b_r171)).keep Kc179 nin0).keep Kc184 (ninS ne_b_r179 nin0)).keep Kc186 (ninS ne_b_r179 nin0)).keep Kc187 nin0).other W194 (Or.inr (slot_ne (Or.inr (own_w hw 146 rfl)) (Or.inr (own_w hw 144 rfl)) (by decide) (t := .byte) (t' := (.array .byte)) (by decide) (by decide)))
  have f196 := f193.wr W194
  obtain ⟨T197, h197, X197, e197, W197, st197⟩ := putFN X194 hx hZ hown (own_w hw 145 rfl) Via.refl e194 f195 f196 (Or.inr ⟨(own_w hw 146 rfl), rfl, hnm⟩) (own_w hw 41 rfl) (ty := .byte) (v' := (.int 1)) (by decide) rfl rfl (g := (mkF m 286 #[vr b, vr u8, vr arr, vi st, vi ln, vi (Int32.ofNat (1 + hc.length)), vr r171, vi 2, vr r187, vi x1, .unset] [(.int 1), (.ref b)])) rfl rfl (D d11_286)
  have N197 := Fr.snoc X197 N194 g_b
  have K197 : Keep h0 h197 [b] := K194.wr W197 (Or.inl (List.mem_of_getElem? (i := 0) rfl))
  have Z197 : n0 ≤ h197.size := Nat.le_trans Z194 (Keep.of_wr W197).1
  have O197 := O194.wr W197 g_b
  have fw197 := (f195.same W197)
  refine own_st (g' := (mkF m 289 #[vr b, vr u8, vr arr, vi st, vi ln, vi (Int32.ofNat (1 + hc.length)), vr r171, vi 2, vr r187, vi x1, .unset] [])) st197 ?_
  have f198 := fw194.other W197 (Or.inr (slot_ne (Or.inr (own_w hw 144 rfl)) (Or.inr (own_w hw 146 rfl)) (by decide) (t := (.array .byte)) (t' := .byte) (by decide) (by decide)))
  have f199 := (Vc187.other W194 (Ne.symm ne_b_r187)).other W197 (Ne.symm ne_b_r187)
  refine own_st (T' := T197) (g' := (mkF m 879 #[vr b, vr u8, vr arr, vi st, vi ln, vi (Int32.ofNat (1 + hc.length)), vr r171, vi 2, vr r187, vi x1, .unset] [])) (fun t k => ?_) ?_
  ·refine XS.goto X197.here hx rfl (pc0 := 289) (pc' := 879) rfl (D d11_289) (by decide) (by decide) ?_
   exact k
  exact own_retV X197 hx Bd (D d11_879) e197 (⟨r187, k187, _, (own_wide (own_d2 x0 x1 :: hc)), rfl, N197, K197, f198, fw197, (by have q := f199; rw [d2_255 hk0 hl0] at q; exact own_fin1 (N := 2 * ((x0 :: x1 :: x2 :: rr)).length) (ch := (own_d2 x0 x1 :: hc)) (own_shl (own_ofi (show 1 + hc.length < 2147483648 by omega)) (by omega)) (by (try simp only [List.length_cons]); omega) (by simp only [List.length_cons] at *; omega) q), Or.inr ⟨rfl, rfl⟩⟩) (by decide) (by decide)
def own_r7 : Room := { frames := 6, cells := 3, slots := 32, locals := 98 }
def own_Q7 (Z : State) (b : Addr) (arr : Addr) (ka : ClassId) (bl sg : List Int32) (st : Int32) (pn : Nat) (ch : List Int32) (ln : Int32) (cs : Int32) (fm : Value) (u8 : Addr) (h0 : Heap) (n0 : Nat) : Option Value → Heap → List Loc → Prop := fun v h L => own_SQ Z b ch h0 n0 v h L
theorem own_rm7 (l : Launch) (Z : State) (a0 : Array Value) (hw : own_W a0 Z) (b : Addr) (arr : Addr) (ka : ClassId) (bl sg : List Int32) (st : Int32) (pn : Nat) (ch : List Int32) (ln : Int32) (cs : Int32) (fm : Value) (u8 : Addr) (h0 : Heap) (n0 : Nat) (Z0 : n0 ≤ h0.size) (O0 : Old Z n0 h0) (E_b : Exa Z h0 b "java/lang/String") (F_v : Fld Z h0 b "java/lang/String" "value" "[B" .null) (F_c : Fld Z h0 b "java/lang/String" "coder" "B" (.int 0)) (g_b : n0 ≤ b) (V_a : Arv Z h0 arr ka .byte (16 : Int32) (bl.map Value.int) (.int 0)) (hst : st.toInt = (pn : Int)) (hsg : own_seg bl pn sg) (hln : ln.toInt = (sg.length : Int)) (nba : b ≠ arr) (hrl : own_rel sg ch) (HB : own_BB Z cs fm u8) :
  own_MF l Z own_y30 (Jvm.Cond.code own_y30 jdk_42_method_10_code 5 none) [] own_r7 #[(.ref b), (.ref arr), (.int st), (.int ln), (.ref u8)] h0 (own_Q7 Z b arr ka bl sg st pn ch ln cs fm u8 h0 n0) := by
 refine own_open (plainFor_of_name own_pn1) hisR (Ls := #[vr b, vr arr, vi st, vi ln, vr u8]) ?_
 intro p e s m below meth c s₁ Bd hZ hx hby hml hown X0 e0
 obtain ⟨-, -, -, -, -, -, -, -, -, E_u8⟩ := id HB
 have N0 := Fr.nil n0
 have D := @hb _ _ hby
 have hg8 := hsg.2.2.1
 have hp3 := hsg.2.1
 refine own_st (T' := s₁) (g' := (mkF m 3 #[vr b, vr arr, vi st, vi ln, vr u8] [(.ref u8), (.ref b)])) (fun t k => ?_) ?_
 ·refine XS.aloadN X0.here hx rfl (D d7_0) rfl rfl ?_
  refine XS.aload X0.here hx rfl (D d7_1) rfl rfl ?_
  exact k
 obtain ⟨_, _, ⟨T1, L1, c1, n1⟩, -, X1, ⟨Lc1, hQ1, l1, y1, z1⟩, st1⟩ := Jvm.LawKit.callS X0 hx (y := own_y2) hown (om hZ hw 51 rfl) (om hZ hw 52 rfl) (om hZ hw 53 rfl) (om hZ hw 54 rfl) (by decide) (backOf (W := 1) (own_rm8 l Z a0 hw u8 cs fm u8 h0 n0 Z0 O0 HB) hZ (own_w hw 54 rfl) (own_w hw 53 rfl) (by decide) (by decide)) (g := (mkF m 3 #[vr b, vr arr, vi st, vi ln, vr u8] [(.ref u8), (.ref b)])) rfl (by rw [hml]; rfl) (argsL := [(.ref u8)]) (rest := [(.ref b)]) (lenOf own_pd22 rfl) rfl own_w0 (D d7_3) (fun _ _ => ⟨rfl, e0, (by decide : 0 + 0 ≤ _), (by decide : 0 + 0 ≤ _)⟩)
 dsimp only [Pt.U, Pt.locs, Pt.cells, Pt.slots] at X1 l1 y1 z1 st1 hQ1
 subst l1 y1 z1
 obtain ⟨rfl, N1q, e1⟩ := hQ1
 have N1 := Fr.app N0 N1q
 refine own_st (g' := (mkF m 6 #[vr b, vr arr, vi st, vi ln, vr u8] [(.ref u8), (.ref b)])) st1 ?_
 have f2 := E_u8.ext O0.2
 obtain ⟨T3, X3, e3, st3⟩ := castY X1 hx hZ hown (own_w hw 55 rfl) e1 (Ins.of_exa f2 (own_w hw 56 rfl)) (g := (mkF m 6 #[vr b, vr arr, vi st, vi ln, vr u8] [(.ref u8), (.ref b)])) rfl rfl (D d7_6)
 refine own_st (g' := (mkF m 9 #[vr b, vr arr, vi st, vi ln, vr u8] [(.ref u8), (.ref b)])) st3 ?_
 refine own_st (T' := T3) (g' := (mkF m 13 #[vr b, vr arr, vi st, vi ln, vr u8] [(.ref arr), (.int ln), (.int st), (.ref arr), (.ref u8), (.ref b)])) (fun t k => ?_) ?_
 ·refine XS.aloadN X3.here hx rfl (D d7_9) rfl rfl ?_
  refine XS.iloadN X3.here hx rfl (D d7_10) rfl ?_
  refine XS.iloadN X3.here hx rfl (D d7_11) rfl ?_
  refine XS.aloadN X3.here hx rfl (D d7_12) rfl rfl ?_
  exact k
 obtain ⟨cl4, Ar4, q4, S4, M4, H4, G4⟩ := id V_a
 refine own_st (T' := T3) (g' := (mkF m 14 #[vr b, vr arr, vi st, vi ln, vr u8] [(.int 16), (.int ln), (.int st), (.ref arr), (.ref u8), (.ref b)])) (fun t k => ?_) ?_
 ·refine X3.arraylength hx (by rw [e3]; exact Ar4.1) (State.isArrayOf_alike hZ.alike Ar4.2.1) (g := (mkF m 13 #[vr b, vr arr, vi st, vi ln, vr u8] [(.ref arr), (.int ln), (.int st), (.ref arr), (.ref u8), (.ref b)])) rfl rfl (D d7_13) _ ?_
  rw [len_of S4 M4]
  exact k
 obtain ⟨_, _, ⟨T5, L5, c5, n5⟩, -, X5, ⟨Lc5, hQ5, l5, y5, z5⟩, st5⟩ := Jvm.LawKit.callS X3 hx (y := own_y4) hown (om hZ hw 57 rfl) (om hZ hw 58 rfl) (om hZ hw 42 rfl) (om hZ hw 59 rfl) (by decide) (backOf (W := 3) (own_rm9 l Z a0 hw st ln (16 : Int32) cs fm u8 h0 n0 Z0 O0 (own_hq1 (by decide) (own_nn hst) (own_nn hln)) (fun q => absurd ((own_ltN (own_subN own_i16 hst (by omega)) hln).mp q) (by omega)) HB) hZ (own_w hw 59 rfl) (own_w hw 42 rfl) (by decide) (by decide)) (g := (mkF m 14 #[vr b, vr arr, vi st, vi ln, vr u8] [(.int 16), (.int ln), (.int st), (.ref arr), (.ref u8), (.ref b)])) rfl (by rw [hml]; rfl) (argsL := [(.int st), (.int ln), (.int 16)]) (rest := [(.ref arr), (.ref u8), (.ref b)]) (lenOf own_pd7 rfl) rfl own_w0 (D d7_14) (fun _ _ => ⟨rfl, e3, (by decide : 0 + 0 ≤ _), (by decide : 0 + 0 ≤ _)⟩)
 dsimp only [Pt.U, Pt.locs, Pt.cells, Pt.slots] at X5 l5 y5 z5 st5 hQ5
 subst l5 y5 z5
 obtain ⟨rfl, N5q, e5⟩ := hQ5
 have N5 := Fr.app N1 N5q
 refine own_st (g' := (mkF m 17 #[vr b, vr arr, vi st, vi ln, vr u8] [(.int st), (.ref arr), (.ref u8), (.ref b)])) st5 ?_
 refine own_st (T' := T5) (g' := (mkF m 18 #[vr b, vr arr, vi st, vi ln, vr u8] [(.int ln), (.int st), (.ref arr), (.ref u8), (.ref b)])) (fun t k => ?_) ?_
 ·refine XS.iloadN X5.here hx rfl (D d7_17) rfl ?_
  exact k
 obtain ⟨_, _, ⟨T6, L6, c6, n6⟩, -, X6, ⟨Lc6, hQ6, l6, y6, z6⟩, st6⟩ := X5.specialBackH hx (y := own_y29) rfl hown (om hZ hw 65 rfl) (om hZ hw 66 rfl) (om hZ hw 68 rfl) (by decide) (backOfWith (W := 0) (own_rm11 l Z a0 hw b arr ka bl sg st pn ch ln cs fm u8 h0 n0 Z0 O0 E_b F_v F_c g_b V_a hst hsg hln nba hrl HB) hZ (own_w hw 68 rfl) (own_w hw 42 rfl) (by decide) (by decide)) (g := (mkF m 18 #[vr b, vr arr, vi st, vi ln, vr u8] [(.int ln), (.int st), (.ref arr), (.ref u8), (.ref b)])) rfl (by rw [hml]; rfl) (Steps.refl _) (a := b) (argsL := [(.ref u8), (.ref arr), (.int st), (.int ln)]) (rest := []) (lenOf own_pd23 rfl) rfl own_w0 (D d7_18) (fun _ _ => ⟨rfl, e5, (by decide : 0 + 3 ≤ _), (by decide : 0 + 32 ≤ _)⟩)
 dsimp only [Pt.U, Pt.locs, Pt.cells, Pt.slots] at X6 l6 y6 z6 st6 hQ6
 subst l6 y6 z6
 obtain ⟨h6, e6⟩ : ∃ z, T6.heap = z := ⟨_, rfl⟩
 rw [e6] at hQ6
 obtain ⟨t6, k6, cd6, vs6, rfl, N6q, Kc6, Fv6, Fo6, Vc6, hstr6⟩ := hQ6
 have N6 := Fr.app N5 N6q
 have K6 : Keep h0 h6 [b] := (Keep.refl h0 [b]).trans Kc6 (allS (Or.inl (List.mem_of_getElem? (i := 0) rfl)) all0)
 have Z6 : n0 ≤ h6.size := Nat.le_trans Z0 Kc6.1
 have O6 := O0.keep Kc6 (allS g_b all0)
 refine own_tr (g' := (mkF m 21 #[vr b, vr arr, vi st, vi ln, vr u8] [])) st6 ?_
 exact own_retV X6 hx Bd (D d7_21) e6 (⟨_, _, _, _, rfl, N6, K6, Fv6, Fo6, Vc6, hstr6⟩) (by decide) (by decide)
def own_r6 : Room := { frames := 7, cells := 4, slots := 36, locals := 115 }
def own_Q6 (Z : State) (rr : Addr) (arr : Addr) (ka : ClassId) (bl sg : List Int32) (st : Int32) (pn : Nat) (ch : List Int32) (en : Int32) (cs : Int32) (fm : Value) (u8 : Addr) (h0 : Heap) (n0 : Nat) : Option Value → Heap → List Loc → Prop := fun v h L => ∃ r t k cd vs, v = some (.ref r) ∧ Fr n0 L ∧ Keep h0 h [] ∧ Exa Z h r "java/lang/String" ∧ Fld Z h r "java/lang/String" "value" "[B" (.ref t) ∧ Fld Z h r "java/lang/String" "coder" "B" (.int cd) ∧ Arv Z h t k .byte (Int32.ofNat vs.length) (vs.map Value.int) (.int 0) ∧ own_str cd vs ch
theorem own_rm6 (l : Launch) (Z : State) (a0 : Array Value) (hw : own_W a0 Z) (rr : Addr) (arr : Addr) (ka : ClassId) (bl sg : List Int32) (st : Int32) (pn : Nat) (ch : List Int32) (en : Int32) (cs : Int32) (fm : Value) (u8 : Addr) (h0 : Heap) (n0 : Nat) (Z0 : n0 ≤ h0.size) (O0 : Old Z n0 h0) (E_r : Exa Z h0 rr "com/example/dyadloom/dyadloom/core/TripletReader$Triplet") (F_b : Fld Z h0 rr "com/example/dyadloom/dyadloom/core/TripletReader$Triplet" "bytes" "[B" (.ref arr)) (F_s : Fld Z h0 rr "com/example/dyadloom/dyadloom/core/TripletReader$Triplet" "rowStart" "I" (.int st)) (F_e : Fld Z h0 rr "com/example/dyadloom/dyadloom/core/TripletReader$Triplet" "rowEnd" "I" (.int en)) (V_a : Arv Z h0 arr ka .byte (16 : Int32) (bl.map Value.int) (.int 0)) (hst : st.toInt = (pn : Int)) (hsg : own_seg bl pn sg) (hen : en.toInt = ((pn + sg.length : Nat) : Int)) (hrl : own_rel sg ch) (HB : own_BB Z cs fm u8) :
  own_MF l Z own_y31 (Jvm.Cond.code own_y31 prog_33_method_2_code 1 (some (.object "java/lang/String"))) [] own_r6 #[(.ref rr)] h0 (own_Q6 Z rr arr ka bl sg st pn ch en cs fm u8 h0 n0) := by
 refine own_open (plainFor_of_name own_pn8) hisR (Ls := #[vr rr]) ?_
 intro p e s m below meth c s₁ Bd hZ hx hby hml hown X0 e0
 obtain ⟨-, -, -, -, -, -, -, S_u8, -, E_u8⟩ := id HB
 have N0 := Fr.nil n0
 have D := @hb _ _ hby
 obtain ⟨T1, h1, X1, e1, E1, A1, D1, U1, st1⟩ := newO X0 hx hZ hown (own_w hw 40 rfl) (own_w hw 41 rfl) (own_w hw 42 rfl) e0 (g := (mkF m 0 #[vr rr] [])) rfl (D d6_0) (by decide) (by decide)
 obtain ⟨b1, g1⟩ : ∃ z, z = h0.size := ⟨_, rfl⟩
 rw [← g1] at A1 D1 U1 st1
 have sz1 : h0.size ≤ b1 := Nat.le_of_eq g1.symm
 have ne_rr_b1 : rr ≠ b1 := Nat.ne_of_lt (Nat.lt_of_lt_of_le E_r.lt sz1)
 have ne_arr_b1 : arr ≠ b1 := Nat.ne_of_lt (Nat.lt_of_lt_of_le V_a.lt sz1)
 have f2 := E_u8.ext O0.2
 have ne_u8_b1 : u8 ≠ b1 := Nat.ne_of_lt (Nat.lt_of_lt_of_le f2.lt sz1)
 have g_b1 : n0 ≤ b1 := Nat.le_trans Z0 sz1
 have hz_b1 : h0.size ≤ b1 := Nat.le_trans (Keep.refl h0 []).1 sz1
 have K1 : Keep h0 h1 [] := (Keep.refl h0 []).ext E1
 have Z1 : n0 ≤ h1.size := Nat.le_trans Z0 E1.1
 have O1 := O0.ext E1
 refine own_st (g' := (mkF m 3 #[vr rr] [(.ref b1)])) st1 ?_
 refine own_st (T' := T1) (g' := (mkF m 5 #[vr rr] [(.ref rr), (.ref b1), (.ref b1)])) (fun t k => ?_) ?_
 ·refine XS.dup X1.here hx rfl (D d6_3) rfl rfl ?_
  refine XS.aloadN X1.here hx rfl (D d6_4) rfl rfl ?_
  exact k
 have f3 := F_b.ext E1
 obtain ⟨T4, X4, e4, st4⟩ := getF X1 hx hZ hown (host := "") (Or.inl (own_w hw 43 rfl)) Via.refl e1 f3 (g := (mkF m 5 #[vr rr] [(.ref rr), (.ref b1), (.ref b1)])) rfl rfl (D d6_5)
 refine own_st (g' := (mkF m 8 #[vr rr] [(.ref arr), (.ref b1), (.ref b1)])) st4 ?_
 refine own_st (T' := T4) (g' := (mkF m 9 #[vr rr] [(.ref rr), (.ref arr), (.ref b1), (.ref b1)])) (fun t k => ?_) ?_
 ·refine XS.aloadN X4.here hx rfl (D d6_8) rfl rfl ?_
  exact k
 have f5 := F_s.ext E1
 obtain ⟨T6, X6, e6, st6⟩ := getF X4 hx hZ hown (host := "") (Or.inl (own_w hw 44 rfl)) Via.refl e4 f5 (g := (mkF m 9 #[vr rr] [(.ref rr), (.ref arr), (.ref b1), (.ref b1)])) rfl rfl (D d6_9)
 refine own_st (g' := (mkF m 12 #[vr rr] [(.int st), (.ref arr), (.ref b1), (.ref b1)])) st6 ?_
 refine own_st (T' := T6) (g' := (mkF m 13 #[vr rr] [(.ref rr), (.int st), (.ref arr), (.ref b1), (.ref b1)])) (fun t k => ?_) ?_
 ·refine XS.aloadN X6.here hx rfl (D d6_12) rfl rfl ?_
  exact k
 have f7 := F_e.ext E1
 obtain ⟨T8, X8, e8, st8⟩ := getF X6 hx hZ hown (host := "") (Or.inl (own_w hw 45 rfl)) Via.refl e6 f7 (g := (mkF m 13 #[vr rr] [(.ref rr), (.int st), (.ref arr), (.ref b1), (.ref b1)])) rfl rfl (D d6_13)
 refine own_st (g' := (mkF m 16 #[vr rr] [(.int en), (.int st), (.ref arr), (.ref b1), (.ref b1)])) st8 ?_
 refine own_st (T' := T8) (g' := (mkF m 17 #[vr rr] [(.ref rr), (.int en), (.int st), (.ref arr), (.ref b1), (.ref b1)])) (fun t k => ?_) ?_
 ·refine XS.aloadN X8.here hx rfl (D d6_16) rfl rfl ?_
  exact k
 obtain ⟨T9, X9, e9, st9⟩ := getF X8 hx hZ hown (host := "") (Or.inl (own_w hw 44 rfl)) Via.refl e8 f5 (g := (mkF m 17 #[vr rr] [(.ref rr), (.int en), (.int st), (.ref arr), (.ref b1), (.ref b1)])) rfl rfl (D d6_17)
 refine own_st (g' := (mkF m 20 #[vr rr] [(.int st), (.int en), (.int st), (.ref arr), (.ref b1), (.ref b1)])) st9 ?_
 refine own_st (T' := T9) (g' := (mkF m 21 #[vr rr] [(.int (en - st)), (.int st), (.ref arr), (.ref b1), (.ref b1)])) (fun t k => ?_) ?_
 ·refine XS.isub X9.here hx rfl (D d6_20) rfl ?_
  exact k
 have f10 := S_u8.ext O1.2
 obtain ⟨T11, X11, e11, st11⟩ := getS2 X9 hx hZ hown (host := "") (Or.inl (own_w hw 46 rfl)) Via.refl e9 f10 (g := (mkF m 21 #[vr rr] [(.int (en - st)), (.int st), (.ref arr), (.ref b1), (.ref b1)])) rfl (D d6_21)
 refine own_st (g' := (mkF m 24 #[vr rr] [(.ref u8), (.int (en - st)), (.int st), (.ref arr), (.ref b1), (.ref b1)])) st11 ?_
 have f12 := V_a.ext E1
 obtain ⟨_, _, ⟨T13, L13, c13, n13⟩, -, X13, ⟨Lc13, hQ13, l13, y13, z13⟩, st13⟩ := X11.specialBack hx (y := own_y30) rfl hown (om hZ hw 48 rfl) (om hZ hw 49 rfl) (om hZ hw 50 rfl) (by decide) (backOf (W := 1) (own_rm7 l Z a0 hw b1 arr ka bl sg st pn ch (en - st) cs fm u8 h1 n0 Z1 O1 A1 (D1 (Or.inr (own_w hw 144 rfl)) (ty := (.array .byte)) (by decide) : Fld Z h1 b1 "java/lang/String" "value" "[B" .null) (D1 (Or.inr (own_w hw 146 rfl)) (ty := .byte) (by decide) : Fld Z h1 b1 "java/lang/String" "coder" "B" (.int 0)) g_b1 f12 hst hsg (own_eln hen hst) (Ne.symm ne_arr_b1) hrl HB) hZ (own_w hw 50 rfl) (own_w hw 42 rfl) (by decide) (by decide)) (g := (mkF m 24 #[vr rr] [(.ref u8), (.int (en - st)), (.int st), (.ref arr), (.ref b1), (.ref b1)])) rfl (by rw [hml]; rfl) (Steps.refl _) (a := b1) (argsL := [(.ref arr), (.int st), (.int (en - st)), (.ref u8)]) (rest := [(.ref b1)]) (lenOf own_pd24 rfl) rfl own_w0 (D d6_24) (fun _ _ => ⟨rfl, e11, (by decide : 1 + 3 ≤ _), (by decide : 4 + 32 ≤ _)⟩)
 dsimp only [Pt.U, Pt.locs, Pt.cells, Pt.slots] at X13 l13 y13 z13 st13 hQ13
 subst l13 y13 z13
 obtain ⟨h13, e13⟩ : ∃ z, T13.heap = z := ⟨_, rfl⟩
 rw [e13] at hQ13
 obtain ⟨t13, k13, cd13, vs13, rfl, N13q, Kc13, Fv13, Fo13, Vc13, hstr13⟩ := hQ13
 have N13 := Fr.app N0 N13q
 have K13 : Keep h0 h13 [] := K1.trans Kc13 (allS (Or.inr hz_b1) all0)
 have Z13 : n0 ≤ h13.size := Nat.le_trans Z1 Kc13.1
 have O13 := O1.keep Kc13 (allS g_b1 all0)
 refine own_tr (g' := (mkF m 27 #[vr rr] [(.ref b1)])) st13 ?_
 have f14 := A1.keep Kc13
 exact own_retA X13 hx Bd rfl rfl (D d6_27) e13 (⟨b1, _, _, _, _, rfl, N13, K13, f14, Fv13, Fo13, Vc13, hstr13⟩) (by decide) (by decide)
def own_r32_0 : Room := { frames := 0, cells := 0, slots := 0, locals := 0 }
theorem own_rm32_0 (l : Launch) (Z : State) (a0 : Array Value) (hw : own_W a0 Z) (r tt : Addr) (kk : ClassId) (bl : List Int32) (zz : Int32) (cs : Int32) (fm : Value) (u8 : Addr) (h0 : Heap) (n0 : Nat) (Z0 : n0 ≤ h0.size) (O0 : Old Z n0 h0) (E_r : Exa Z h0 r "java/lang/String") (F_v : Fld Z h0 r "java/lang/String" "value" "[B" (.ref tt)) (F_c : Fld Z h0 r "java/lang/String" "coder" "B" (.int 0)) (V_a : Arv Z h0 tt kk .byte zz (bl.map Value.int) (.int 0)) (HB : own_BB Z cs fm u8) :
  own_MF l Z own_y32 (Jvm.Cond.code own_y32 jdk_42_method_154_code 1 (some .boolean)) [] own_r32_0 #[(.ref r)] h0 (own_P h0 n0 (.int 1)) := by
 refine own_open (plainFor_of_name own_pn1) hisR (Ls := #[vr r]) ?_
 intro p e s m below meth c s₁ Bd hZ hx hby hml hown X0 e0
 obtain ⟨hcs, -, S_cs, -, -, -, -, -, -, -⟩ := id HB
 have N0 := Fr.nil n0
 have D := @hb _ _ hby
 have f1 := S_cs.ext O0.2
 obtain ⟨T2, X2, e2, st2⟩ := getS2 X0 hx hZ hown (host := "") (Or.inl (own_w hw 72 rfl)) Via.refl e0 f1 (g := (mkF m 0 #[vr r] [])) rfl (D d32_0)
 refine own_st (g' := (mkF m 3 #[vr r] [(.int cs)])) st2 ?_
 refine own_st (T' := T2) (g' := (mkF m 7 #[vr r] [(.ref r)])) (fun t k => ?_) ?_
 ·refine XS.ifNo X2.here hx rfl (D d32_3) rfl ((if0 _ _).trans (feq hcs).1) ?_
  refine XS.aloadN X2.here hx rfl (D d32_6) rfl rfl ?_
  exact k
 obtain ⟨T3, X3, e3, st3⟩ := getF X2 hx hZ hown (host := "") (Or.inl (own_w hw 145 rfl)) Via.refl e2 F_c (g := (mkF m 7 #[vr r] [(.ref r)])) rfl rfl (D d32_7)
 refine own_st (g' := (mkF m 10 #[vr r] [(.int 0)])) st3 ?_
 refine own_st (T' := T3) (g' := (mkF m 18 #[vr r] [(.int 1)])) (fun t k => ?_) ?_
 ·refine XS.ifNo X3.here hx rfl (D d32_10) rfl ((if0 _ _).trans (teq (rfl : (0 : Int32) = (0 : Int32))).2) ?_
  refine XS.iconst X3.here hx rfl (D d32_13) ?_
  refine XS.goto X3.here hx rfl (pc0 := 14) (pc' := 18) rfl (D d32_14) (by decide) (by decide) ?_
  exact k
 exact own_retN X3 hx Bd (t := .boolean) (by simp) rfl (D d32_18) e3 (⟨rfl, N0, rfl⟩) (by decide) (by decide)
def own_r32_1 : Room := { frames := 0, cells := 0, slots := 0, locals := 0 }
theorem own_rm32_1 (l : Launch) (Z : State) (a0 : Array Value) (hw : own_W a0 Z) (r tt : Addr) (kk : ClassId) (bl : List Int32) (zz : Int32) (cs : Int32) (fm : Value) (u8 : Addr) (h0 : Heap) (n0 : Nat) (Z0 : n0 ≤ h0.size) (O0 : Old Z n0 h0) (E_r : Exa Z h0 r "java/lang/String") (F_v : Fld Z h0 r "java/lang/String" "value" "[B" (.ref tt)) (F_c : Fld Z h0 r "java/lang/String" "coder" "B" (.int 1)) (V_a : Arv Z h0 tt kk .byte zz (bl.map Value.int) (.int 0)) (HB : own_BB Z cs fm u8) :
  own_MF l Z own_y32 (Jvm.Cond.code own_y32 jdk_42_method_154_code 1 (some .boolean)) [] own_r32_1 #[(.ref r)] h0 (own_P h0 n0 (.int 0)) := by
 refine own_open (plainFor_of_name own_pn1) hisR (Ls := #[vr r]) ?_
 intro p e s m below meth c s₁ Bd hZ hx hby hml hown X0 e0
 obtain ⟨hcs, -, S_cs, -, -, -, -, -, -, -⟩ := id HB
 have N0 := Fr.nil n0
 have D := @hb _ _ hby
 have f1 := S_cs.ext O0.2
 obtain ⟨T2, X2, e2, st2⟩ := getS2 X0 hx hZ hown (host := "") (Or.inl (own_w hw 72 rfl)) Via.refl e0 f1 (g := (mkF m 0 #[vr r] [])) rfl (D d32_0)
 refine own_st (g' := (mkF m 3 #[vr r] [(.int cs)])) st2 ?_
 refine own_st (T' := T2) (g' := (mkF m 7 #[vr r] [(.ref r)])) (fun t k => ?_) ?_
 ·refine XS.ifNo X2.here hx rfl (D d32_3) rfl ((if0 _ _).trans (feq hcs).1) ?_
  refine XS.aloadN X2.here hx rfl (D d32_6) rfl rfl ?_
  exact k
 obtain ⟨T3, X3, e3, st3⟩ := getF X2 hx hZ hown (host := "") (Or.inl (own_w hw 145 rfl)) Via.refl e2 F_c (g := (mkF m 7 #[vr r] [(.ref r)])) rfl rfl (D d32_7)
 refine own_st (g' := (mkF m 10 #[vr r] [(.int 1)])) st3 ?_
 refine own_st (T' := T3) (g' := (mkF m 18 #[vr r] [(.int 0)])) (fun t k => ?_) ?_
 ·refine XS.ifYes X3.here hx rfl (pc0 := 10) (pc' := 17) rfl (D d32_10) rfl ((if0 _ _).trans (feq (by decide : ¬ ((1 : Int32) = (0 : Int32)))).2) (by decide) (by decide) ?_
  refine XS.iconst X3.here hx rfl (D d32_17) ?_
  exact k
 exact own_retN X3 hx Bd (t := .boolean) (by simp) rfl (D d32_18) e3 (⟨rfl, N0, rfl⟩) (by decide) (by decide)
def own_r30_0 : Room := { frames := 0, cells := 0, slots := 0, locals := 0 }
theorem own_rm30_0 (l : Launch) (Z : State) (a0 : Array Value) (hw : own_W a0 Z) (r tt : Addr) (kk : ClassId) (bl : List Int32) (zz : Int32) (cs : Int32) (fm : Value) (u8 : Addr) (h0 : Heap) (n0 : Nat) (Z0 : n0 ≤ h0.size) (O0 : Old Z n0 h0) (E_r : Exa Z h0 r "java/lang/String") (F_v : Fld Z h0 r "java/lang/String" "value" "[B" (.ref tt)) (F_c : Fld Z h0 r "java/lang/String" "coder" "B" (.int 0)) (V_a : Arv Z h0 tt kk .byte zz (bl.map Value.int) (.int 0)) (HB : own_BB Z cs fm u8) :
  own_MF l Z own_y33 (Jvm.Cond.code own_y33 jdk_42_method_152_code 1 (some .byte)) [] own_r30_0 #[(.ref r)] h0 (own_P h0 n0 (.int 0)) := by
 refine own_open (plainFor_of_name own_pn1) hisR (Ls := #[vr r]) ?_
 intro p e s m below meth c s₁ Bd hZ hx hby hml hown X0 e0
 obtain ⟨hcs, -, S_cs, -, -, -, -, -, -, -⟩ := id HB
 have N0 := Fr.nil n0
 have D := @hb _ _ hby
 have f1 := S_cs.ext O0.2
 obtain ⟨T2, X2, e2, st2⟩ := getS2 X0 hx hZ hown (host := "") (Or.inl (own_w hw 72 rfl)) Via.refl e0 f1 (g := (mkF m 0 #[vr r] [])) rfl (D d30_0)
 refine own_st (g' := (mkF m 3 #[vr r] [(.int cs)])) st2 ?_
 refine own_st (T' := T2) (g' := (mkF m 7 #[vr r] [(.ref r)])) (fun t k => ?_) ?_
 ·refine XS.ifNo X2.here hx rfl (D d30_3) rfl ((if0 _ _).trans (feq hcs).1) ?_
  refine XS.aloadN X2.here hx rfl (D d30_6) rfl rfl ?_
  exact k
 obtain ⟨T3, X3, e3, st3⟩ := getF X2 hx hZ hown (host := "") (Or.inl (own_w hw 145 rfl)) Via.refl e2 F_c (g := (mkF m 7 #[vr r] [(.ref r)])) rfl rfl (D d30_7)
 refine own_st (g' := (mkF m 10 #[vr r] [(.int 0)])) st3 ?_
 refine own_st (T' := T3) (g' := (mkF m 14 #[vr r] [(.int 0)])) (fun t k => ?_) ?_
 ·refine XS.goto X3.here hx rfl (pc0 := 10) (pc' := 14) rfl (D d30_10) (by decide) (by decide) ?_
  exact k
 exact own_retN X3 hx Bd (t := .byte) (by simp) rfl (D d30_14) e3 (⟨rfl, N0, rfl⟩) (by decide) (by decide)
def own_r30_1 : Room := { frames := 0, cells := 0, slots := 0, locals := 0 }
theorem own_rm30_1 (l : Launch) (Z : State) (a0 : Array Value) (hw : own_W a0 Z) (r tt : Addr) (kk : ClassId) (bl : List Int32) (zz : Int32) (cs : Int32) (fm : Value) (u8 : Addr) (h0 : Heap) (n0 : Nat) (Z0 : n0 ≤ h0.size) (O0 : Old Z n0 h0) (E_r : Exa Z h0 r "java/lang/String") (F_v : Fld Z h0 r "java/lang/String" "value" "[B" (.ref tt)) (F_c : Fld Z h0 r "java/lang/String" "coder" "B" (.int 1)) (V_a : Arv Z h0 tt kk .byte zz (bl.map Value.int) (.int 0)) (HB : own_BB Z cs fm u8) :
  own_MF l Z own_y33 (Jvm.Cond.code own_y33 jdk_42_method_152_code 1 (some .byte)) [] own_r30_1 #[(.ref r)] h0 (own_P h0 n0 (.int 1)) := by
 refine own_open (plainFor_of_name own_pn1) hisR (Ls := #[vr r]) ?_
 intro p e s m below meth c s₁ Bd hZ hx hby hml hown X0 e0
 obtain ⟨hcs, -, S_cs, -, -, -, -, -, -, -⟩ := id HB
 have N0 := Fr.nil n0
 have D := @hb _ _ hby
 have f1 := S_cs.ext O0.2
 obtain ⟨T2, X2, e2, st2⟩ := getS2 X0 hx hZ hown (host := "") (Or.inl (own_w hw 72 rfl)) Via.refl e0 f1 (g := (mkF m 0 #[vr r] [])) rfl (D d30_0)
 refine own_st (g' := (mkF m 3 #[vr r] [(.int cs)])) st2 ?_
 refine own_st (T' := T2) (g' := (mkF m 7 #[vr r] [(.ref r)])) (fun t k => ?_) ?_
 ·refine XS.ifNo X2.here hx rfl (D d30_3) rfl ((if0 _ _).trans (feq hcs).1) ?_
  refine XS.aloadN X2.here hx rfl (D d30_6) rfl rfl ?_
  exact k
 obtain ⟨T3, X3, e3, st3⟩ := getF X2 hx hZ hown (host := "") (Or.inl (own_w hw 145 rfl)) Via.refl e2 F_c (g := (mkF m 7 #[vr r] [(.ref r)])) rfl rfl (D d30_7)
 refine own_st (g' := (mkF m 10 #[vr r] [(.int 1)])) st3 ?_
 refine own_st (T' := T3) (g' := (mkF m 14 #[vr r] [(.int 1)])) (fun t k => ?_) ?_
 ·refine XS.goto X3.here hx rfl (pc0 := 10) (pc' := 14) rfl (D d30_10) (by decide) (by decide) ?_
  exact k
 exact own_retN X3 hx Bd (t := .byte) (by simp) rfl (D d30_14) e3 (⟨rfl, N0, rfl⟩) (by decide) (by decide)
def own_r29_0 : Room := { frames := 1, cells := 0, slots := 0, locals := 13 }
theorem own_rm29_0 (l : Launch) (Z : State) (a0 : Array Value) (hw : own_W a0 Z) (r tt : Addr) (kk : ClassId) (bl : List Int32) (zz : Int32) (lz : Int32) (cs : Int32) (fm : Value) (u8 : Addr) (h0 : Heap) (n0 : Nat) (Z0 : n0 ≤ h0.size) (O0 : Old Z n0 h0) (E_r : Exa Z h0 r "java/lang/String") (F_v : Fld Z h0 r "java/lang/String" "value" "[B" (.ref tt)) (F_c : Fld Z h0 r "java/lang/String" "coder" "B" (.int 0)) (V_a : Arv Z h0 tt kk .byte zz (bl.map Value.int) (.int 0)) (hlz : (zz >>> ((0 : Int32) &&& 31)) = lz) (HB : own_BB Z cs fm u8) :
  own_MF l Z own_y34 (Jvm.Cond.code own_y34 jdk_42_method_54_code 1 (some .int)) [] own_r29_0 #[(.ref r)] h0 (own_P h0 n0 (.int lz)) := by
 refine own_open (plainFor_of_name own_pn1) hisR (Ls := #[vr r]) ?_
 intro p e s m below meth c s₁ Bd hZ hx hby hml hown X0 e0
 have N0 := Fr.nil n0
 have D := @hb _ _ hby
 refine own_st (T' := s₁) (g' := (mkF m 1 #[vr r] [(.ref r)])) (fun t k => ?_) ?_
 ·refine XS.aloadN X0.here hx rfl (D d29_0) rfl rfl ?_
  exact k
 obtain ⟨T1, X1, e1, st1⟩ := getF X0 hx hZ hown (host := "") (Or.inl (own_w hw 143 rfl)) Via.refl e0 F_v (g := (mkF m 1 #[vr r] [(.ref r)])) rfl rfl (D d29_1)
 refine own_st (g' := (mkF m 4 #[vr r] [(.ref tt)])) st1 ?_
 obtain ⟨cl2, Ar2, q2, S2, M2, H2, G2⟩ := id V_a
 refine own_st (T' := T1) (g' := (mkF m 6 #[vr r] [(.ref r), (.int zz)])) (fun t k => ?_) ?_
 ·refine X1.arraylength hx (by rw [e1]; exact Ar2.1) (State.isArrayOf_alike hZ.alike Ar2.2.1) (g := (mkF m 4 #[vr r] [(.ref tt)])) rfl rfl (D d29_4) _ ?_
  rw [len_of S2 M2]
  refine XS.aloadN X1.here hx rfl (D d29_5) rfl rfl ?_
  exact k
 obtain ⟨cq3, kq3, q3a, q3b, q3c⟩ := isOf hZ e1 E_r
 obtain ⟨_, _, ⟨T3, L3, c3, n3⟩, -, X3, ⟨Lc3, hQ3, l3, y3, z3⟩, st3⟩ := X1.virtualBack hx (y := own_y33) (z := own_y33) hown (om hZ hw 152 rfl) (om hZ hw 153 rfl) (notFace_of_selects (args := #[]) (om hZ hw 155 rfl)) (om hZ hw 155 rfl) (om hZ hw 154 rfl) (by decide) (backOf (W := 1) (own_rm30_0 l Z a0 hw r tt kk bl zz cs fm u8 h0 n0 Z0 O0 E_r F_v F_c V_a HB) hZ (own_w hw 156 rfl) (own_w hw 42 rfl) (by decide) (by decide)) q3a q3c (g := (mkF m 6 #[vr r] [(.ref r), (.int zz)])) rfl (by rw [hml]; rfl) (Steps.refl _) (argsL := []) (rest := [(.int zz)]) (lenOf own_pd25 rfl) rfl own_w0 (D d29_6) (fun _ _ => ⟨rfl, e1, (by decide : 0 + 0 ≤ _), (by decide : 0 + 0 ≤ _)⟩)
 dsimp only [Pt.U, Pt.locs, Pt.cells, Pt.slots] at X3 l3 y3 z3 st3 hQ3
 subst l3 y3 z3
 obtain ⟨rfl, N3q, e3⟩ := hQ3
 have N3 := Fr.app N0 N3q
 refine own_tr (g' := (mkF m 9 #[vr r] [(.int 0), (.int zz)])) st3 ?_
 refine own_st (T' := T3) (g' := (mkF m 10 #[vr r] [(.int (zz >>> ((0 : Int32) &&& 31)))])) (fun t k => ?_) ?_
 ·refine XS.ishr X3.here hx rfl (D d29_9) rfl ?_
  exact k
 rw [show (zz >>> ((0 : Int32) &&& 31)) = lz from hlz]
 exact own_retI X3 hx Bd (D d29_10) e3 (⟨rfl, N3, rfl⟩) (by decide) (by decide)
def own_r29_1 : Room := { frames := 1, cells := 0, slots := 0, locals := 13 }
theorem own_rm29_1 (l : Launch) (Z : State) (a0 : Array Value) (hw : own_W a0 Z) (r tt : Addr) (kk : ClassId) (bl : List Int32) (zz : Int32) (lz : Int32) (cs : Int32) (fm : Value) (u8 : Addr) (h0 : Heap) (n0 : Nat) (Z0 : n0 ≤ h0.size) (O0 : Old Z n0 h0) (E_r : Exa Z h0 r "java/lang/String") (F_v : Fld Z h0 r "java/lang/String" "value" "[B" (.ref tt)) (F_c : Fld Z h0 r "java/lang/String" "coder" "B" (.int 1)) (V_a : Arv Z h0 tt kk .byte zz (bl.map Value.int) (.int 0)) (hlz : (zz >>> ((1 : Int32) &&& 31)) = lz) (HB : own_BB Z cs fm u8) :
  own_MF l Z own_y34 (Jvm.Cond.code own_y34 jdk_42_method_54_code 1 (some .int)) [] own_r29_1 #[(.ref r)] h0 (own_P h0 n0 (.int lz)) := by
 refine own_open (plainFor_of_name own_pn1) hisR (Ls := #[vr r]) ?_
 intro p e s m below meth c s₁ Bd hZ hx hby hml hown X0 e0
 have N0 := Fr.nil n0
 have D := @hb _ _ hby
 refine own_st (T' := s₁) (g' := (mkF m 1 #[vr r] [(.ref r)])) (fun t k => ?_) ?_
 ·refine XS.aloadN X0.here hx rfl (D d29_0) rfl rfl ?_
  exact k
 obtain ⟨T1, X1, e1, st1⟩ := getF X0 hx hZ hown (host := "") (Or.inl (own_w hw 143 rfl)) Via.refl e0 F_v (g := (mkF m 1 #[vr r] [(.ref r)])) rfl rfl (D d29_1)
 refine own_st (g' := (mkF m 4 #[vr r] [(.ref tt)])) st1 ?_
 obtain ⟨cl2, Ar2, q2, S2, M2, H2, G2⟩ := id V_a
 refine own_st (T' := T1) (g' := (mkF m 6 #[vr r] [(.ref r), (.int zz)])) (fun t k => ?_) ?_
 ·refine X1.arraylength hx (by rw [e1]; exact Ar2.1) (State.isArrayOf_alike hZ.alike Ar2.2.1) (g := (mkF m 4 #[vr r] [(.ref tt)])) rfl rfl (D d29_4) _ ?_
  rw [len_of S2 M2]
  refine XS.aloadN X1.here hx rfl (D d29_5) rfl rfl ?_
  exact k
 obtain ⟨cq3, kq3, q3a, q3b, q3c⟩ := isOf hZ e1 E_r
 obtain ⟨_, _, ⟨T3, L3, c3, n3⟩, -, X3, ⟨Lc3, hQ3, l3, y3, z3⟩, st3⟩ := X1.virtualBack hx (y := own_y33) (z := own_y33) hown (om hZ hw 152 rfl) (om hZ hw 153 rfl) (notFace_of_selects (args := #[]) (om hZ hw 155 rfl)) (om hZ hw 155 rfl) (om hZ hw 154 rfl) (by decide) (backOf (W := 1) (own_rm30_1 l Z a0 hw r tt kk bl zz cs fm u8 h0 n0 Z0 O0 E_r F_v F_c V_a HB) hZ (own_w hw 156 rfl) (own_w hw 42 rfl) (by decide) (by decide)) q3a q3c (g := (mkF m 6 #[vr r] [(.ref r), (.int zz)])) rfl (by rw [hml]; rfl) (Steps.refl _) (argsL := []) (rest := [(.int zz)]) (lenOf own_pd25 rfl) rfl own_w0 (D d29_6) (fun _ _ => ⟨rfl, e1, (by decide : 0 + 0 ≤ _), (by decide : 0 + 0 ≤ _)⟩)
 dsimp only [Pt.U, Pt.locs, Pt.cells, Pt.slots] at X3 l3 y3 z3 st3 hQ3
 subst l3 y3 z3
 obtain ⟨rfl, N3q, e3⟩ := hQ3
 have N3 := Fr.app N0 N3q
 refine own_tr (g' := (mkF m 9 #[vr r] [(.int 1), (.int zz)])) st3 ?_
 refine own_st (T' := T3) (g' := (mkF m 10 #[vr r] [(.int (zz >>> ((1 : Int32) &&& 31)))])) (fun t k => ?_) ?_
 ·refine XS.ishr X3.here hx rfl (D d29_9) rfl ?_
  exact k
 rw [show (zz >>> ((1 : Int32) &&& 31)) = lz from hlz]
 exact own_retI X3 hx Bd (D d29_10) e3 (⟨rfl, N3, rfl⟩) (by decide) (by decide)
def own_r44 : Room := { frames := 2, cells := 0, slots := 0, locals := 27 }
theorem own_rm44 (l : Launch) (Z : State) (a0 : Array Value) (hw : own_W a0 Z) (arr : Addr) (ka : ClassId) (bl : List Int32) (zz ix : Int32) (bv : Int32) (cs : Int32) (fm : Value) (u8 : Addr) (h0 : Heap) (n0 : Nat) (Z0 : n0 ≤ h0.size) (O0 : Old Z n0 h0) (V_a : Arv Z h0 arr ka .byte zz (bl.map Value.int) (.int 0)) (hi0 : ¬ ix < (0 : Int32)) (hin : ix < zz) (hbv : bl.getD ix.toNatClampNeg 0 = bv) (HB : own_BB Z cs fm u8) :
  own_MF l Z own_y35 (Jvm.Cond.code own_y35 jdk_43_method_2_code 2 (some .char)) [] own_r44 #[(.ref arr), (.int ix)] h0 (own_P h0 n0 (.int (own_lc bv))) := by
 refine own_open (plainFor_of_name own_pn6) hisR (Ls := #[vr arr, vi ix]) ?_
 intro p e s m below meth c s₁ Bd hZ hx hby hml hown X0 e0
 have N0 := Fr.nil n0
 have D := @hb _ _ hby
 refine own_st (T' := s₁) (g' := (mkF m 2 #[vr arr, vi ix] [(.ref arr), (.int ix)])) (fun t k => ?_) ?_
 ·refine XS.iloadN X0.here hx rfl (D d44_0) rfl ?_
  refine XS.aloadN X0.here hx rfl (D d44_1) rfl rfl ?_
  exact k
 obtain ⟨cl1, Ar1, q1, S1, M1, H1, G1⟩ := id V_a
 refine own_st (T' := s₁) (g' := (mkF m 3 #[vr arr, vi ix] [(.int zz), (.int ix)])) (fun t k => ?_) ?_
 ·refine X0.arraylength hx (by rw [e0]; exact Ar1.1) (State.isArrayOf_alike hZ.alike Ar1.2.1) (g := (mkF m 2 #[vr arr, vi ix] [(.ref arr), (.int ix)])) rfl rfl (D d44_2) _ ?_
  rw [len_of S1 M1]
  exact k
 obtain ⟨_, _, ⟨T2, L2, c2, n2⟩, -, X2, ⟨Lc2, hQ2, l2, y2, z2⟩, st2⟩ := Jvm.LawKit.callS X0 hx (y := own_y1) hown (om hZ hw 215 rfl) (om hZ hw 174 rfl) (om hZ hw 42 rfl) (om hZ hw 175 rfl) (by decide) (backOf (W := 0) (own_rm35 l Z a0 hw ix zz cs fm u8 h0 n0 Z0 O0 hi0 hin HB) hZ (own_w hw 175 rfl) (own_w hw 42 rfl) (by decide) (by decide)) (g := (mkF m 3 #[vr arr, vi ix] [(.int zz), (.int ix)])) rfl (by rw [hml]; rfl) (argsL := [(.int ix), (.int zz)]) (rest := []) (lenOf own_pd2 rfl) rfl own_w0 (D d44_3) (fun _ _ => ⟨rfl, e0, (by decide : 0 + 0 ≤ _), (by decide : 0 + 0 ≤ _)⟩)
 dsimp only [Pt.U, Pt.locs, Pt.cells, Pt.slots] at X2 l2 y2 z2 st2 hQ2
 subst l2 y2 z2
 obtain ⟨rfl, N2q, e2⟩ := hQ2
 have N2 := Fr.app N0 N2q
 refine own_st (g' := (mkF m 6 #[vr arr, vi ix] [])) st2 ?_
 refine own_st (T' := T2) (g' := (mkF m 8 #[vr arr, vi ix] [(.int ix), (.ref arr)])) (fun t k => ?_) ?_
 ·refine XS.aloadN X2.here hx rfl (D d44_6) rfl rfl ?_
  refine XS.iloadN X2.here hx rfl (D d44_7) rfl ?_
  exact k
 obtain ⟨cl3, Ar3, q3, S3, M3, H3, G3⟩ := id V_a
 refine own_st (T' := T2) (g' := (mkF m 14 #[vr arr, vi ix] [(.int ((bv &&& (255 : Int32)).toUInt32.toUInt16.toUInt32.toInt32))])) (fun t k => ?_) ?_
 ·refine X2.baloadBytes hx (j := ix) (v := (.int bv)) (by rw [e2]; exact Ar3.1) (State.isArrayOf_alike hZ.alike Ar3.2.1) Ar3.2.2 (inb_of S3 ⟨hi0, hin⟩) (Has.at H3 (inb_of S3 ⟨hi0, hin⟩) ((own_lget bl (ix).toNatClampNeg).trans (congrArg Value.int hbv))) (g := (mkF m 8 #[vr arr, vi ix] [(.int ix), (.ref arr)])) rfl rfl (D d44_8) _ ?_
  refine XS.sipush X2.here hx rfl (D d44_9) ?_
  refine XS.iand X2.here hx rfl (D d44_12) rfl ?_
  refine XS.i2c X2.here hx rfl (D d44_13) rfl ?_
  exact k
 exact own_retN X2 hx Bd (t := .char) (by simp) (XT.narrow_c _) (D d44_14) e2 (⟨rfl, N2, rfl⟩) (by decide) (by decide)
def own_r34 : Room := { frames := 2, cells := 0, slots := 0, locals := 27 }
def own_Q34 (Z : State) (arr : Addr) (ka : ClassId) (bl : List Int32) (zz ix : Int32) (cs : Int32) (fm : Value) (u8 : Addr) (h0 : Heap) (n0 : Nat) : Option Value → Heap → List Loc → Prop := fun v h L => v = none ∧ Fr n0 L ∧ h = h0
theorem own_rm34 (l : Launch) (Z : State) (a0 : Array Value) (hw : own_W a0 Z) (arr : Addr) (ka : ClassId) (bl : List Int32) (zz ix : Int32) (cs : Int32) (fm : Value) (u8 : Addr) (h0 : Heap) (n0 : Nat) (Z0 : n0 ≤ h0.size) (O0 : Old Z n0 h0) (V_a : Arv Z h0 arr ka .byte zz (bl.map Value.int) (.int 0)) (hi0 : ¬ ix < (0 : Int32)) (hin : ix < (zz >>> ((1 : Int32) &&& 31))) (HB : own_BB Z cs fm u8) :
  own_MF l Z own_y36 (Jvm.Cond.code own_y36 jdk_52_method_91_code 2 none) [] own_r34 #[(.int ix), (.ref arr)] h0 (own_Q34 Z arr ka bl zz ix cs fm u8 h0 n0) := by
 refine own_open (plainFor_of_name own_pn5) hisR (Ls := #[vi ix, vr arr]) ?_
 intro p e s m below meth c s₁ Bd hZ hx hby hml hown X0 e0
 have N0 := Fr.nil n0
 have D := @hb _ _ hby
 refine own_st (T' := s₁) (g' := (mkF m 2 #[vi ix, vr arr] [(.ref arr), (.int ix)])) (fun t k => ?_) ?_
 ·refine XS.iloadN X0.here hx rfl (D d34_0) rfl ?_
  refine XS.aloadN X0.here hx rfl (D d34_1) rfl rfl ?_
  exact k
 obtain ⟨_, _, ⟨T1, L1, c1, n1⟩, -, X1, ⟨Lc1, hQ1, l1, y1, z1⟩, st1⟩ := Jvm.LawKit.callS X0 hx (y := own_y11) hown (om hZ hw 113 rfl) (om hZ hw 114 rfl) (om hZ hw 97 rfl) (om hZ hw 115 rfl) (by decide) (backOf (W := 1) (own_rm22 l Z a0 hw arr ka bl zz cs fm u8 h0 n0 Z0 O0 V_a HB) hZ (own_w hw 115 rfl) (own_w hw 97 rfl) (by decide) (by decide)) (g := (mkF m 2 #[vi ix, vr arr] [(.ref arr), (.int ix)])) rfl (by rw [hml]; rfl) (argsL := [(.ref arr)]) (rest := [(.int ix)]) (lenOf own_pd6 rfl) rfl own_w0 (D d34_2) (fun _ _ => ⟨rfl, e0, (by decide : 0 + 0 ≤ _), (by decide : 0 + 0 ≤ _)⟩)
 dsimp only [Pt.U, Pt.locs, Pt.cells, Pt.slots] at X1 l1 y1 z1 st1 hQ1
 subst l1 y1 z1
 obtain ⟨rfl, N1q, e1⟩ := hQ1
 have N1 := Fr.app N0 N1q
 refine own_st (g' := (mkF m 5 #[vi ix, vr arr] [(.int (zz >>> ((1 : Int32) &&& 31))), (.int ix)])) st1 ?_
 obtain ⟨_, _, ⟨T2, L2, c2, n2⟩, -, X2, ⟨Lc2, hQ2, l2, y2, z2⟩, st2⟩ := Jvm.LawKit.callS X1 hx (y := own_y1) hown (om hZ hw 173 rfl) (om hZ hw 174 rfl) (om hZ hw 42 rfl) (om hZ hw 175 rfl) (by decide) (backOf (W := 0) (own_rm35 l Z a0 hw ix (zz >>> ((1 : Int32) &&& 31)) cs fm u8 h0 n0 Z0 O0 hi0 hin HB) hZ (own_w hw 175 rfl) (own_w hw 42 rfl) (by decide) (by decide)) (g := (mkF m 5 #[vi ix, vr arr] [(.int (zz >>> ((1 : Int32) &&& 31))), (.int ix)])) rfl (by rw [hml]; rfl) (argsL := [(.int ix), (.int (zz >>> ((1 : Int32) &&& 31)))]) (rest := []) (lenOf own_pd2 rfl) rfl own_w0 (D d34_5) (fun _ _ => ⟨rfl, e1, (by decide : 0 + 0 ≤ _), (by decide : 0 + 0 ≤ _)⟩)
 dsimp only [Pt.U, Pt.locs, Pt.cells, Pt.slots] at X2 l2 y2 z2 st2 hQ2
 subst l2 y2 z2
 obtain ⟨rfl, N2q, e2⟩ := hQ2
 have N2 := Fr.app N1 N2q
 refine own_st (g' := (mkF m 8 #[vi ix, vr arr] [])) st2 ?_
 exact own_retV X2 hx Bd (D d34_8) e2 (⟨rfl, N2, rfl⟩) (by decide) (by decide)
def own_r37 : Room := { frames := 0, cells := 0, slots := 0, locals := 0 }
theorem own_rm37 (l : Launch) (Z : State) (a0 : Array Value) (hw : own_W a0 Z) (arr : Addr) (ka : ClassId) (bl : List Int32) (zz ix : Int32) (bv bw : Int32) (cs : Int32) (fm : Value) (u8 : Addr) (h0 : Heap) (n0 : Nat) (Z0 : n0 ≤ h0.size) (O0 : Old Z n0 h0) (V_a : Arv Z h0 arr ka .byte zz (bl.map Value.int) (.int 0)) (hg0 : ¬ (ix <<< ((1 : Int32) &&& 31)) < (0 : Int32) ∧ (ix <<< ((1 : Int32) &&& 31)) < zz) (hg1 : ¬ ((ix <<< ((1 : Int32) &&& 31)) + (1 : Int32)) < (0 : Int32) ∧ ((ix <<< ((1 : Int32) &&& 31)) + (1 : Int32)) < zz) (hbv : bl.getD ((ix <<< ((1 : Int32) &&& 31))).toNatClampNeg 0 = bv) (hbw : bl.getD (((ix <<< ((1 : Int32) &&& 31)) + (1 : Int32))).toNatClampNeg 0 = bw) (HB : own_BB Z cs fm u8) :
  own_MF l Z own_y37 (Jvm.Cond.code own_y37 jdk_52_method_5_code 2 (some .char)) [] own_r37 #[(.ref arr), (.int ix)] h0 (own_P h0 n0 (.int (own_gc bv bw))) := by
 refine own_open (plainFor_of_name own_pn5) hisR (Ls := #[vr arr, vi ix]) ?_
 intro p e s m below meth c s₁ Bd hZ hx hby hml hown X0 e0
 obtain ⟨-, -, -, -, S_ad, S_hb, S_lb, -, -, -⟩ := id HB
 have N0 := Fr.nil n0
 have D := @hb _ _ hby
 have f1 := S_ad.ext O0.2
 obtain ⟨T2, X2, e2, st2⟩ := getS2 X0 hx hZ hown (host := "") (Or.inl (own_w hw 120 rfl)) Via.refl e0 f1 (g := (mkF m 0 #[vr arr, vi ix] [])) rfl (D d37_0)
 refine own_st (g' := (mkF m 3 #[vr arr, vi ix] [(.int 1)])) st2 ?_
 refine own_st (T' := T2) (g' := (mkF m 37 #[vr arr, vi ((ix <<< ((1 : Int32) &&& 31)) + (1 : Int32))] [(.int (ix <<< ((1 : Int32) &&& 31))), (.ref arr)])) (fun t k => ?_) ?_
 ·refine XS.ifYes X2.here hx rfl (pc0 := 3) (pc' := 28) rfl (D d37_3) rfl ((if0 _ _).trans (feq (by decide : ¬ ((1 : Int32) = (0 : Int32)))).2) (by decide) (by decide) ?_
  refine XS.iloadN X2.here hx rfl (D d37_28) rfl ?_
  refine XS.iconst X2.here hx rfl (D d37_29) ?_
  refine XS.ishl X2.here hx rfl (D d37_30) rfl ?_
  refine XS.istoreN X2.here hx rfl (D d37_31) rfl (l' := #[vr arr, vi (ix <<< ((1 : Int32) &&& 31))]) rfl ?_
  refine XS.aloadN X2.here hx rfl (D d37_32) rfl rfl ?_
  refine XS.iloadN X2.here hx rfl (D d37_33) rfl ?_
  refine XS.iinc X2.here hx rfl (D d37_34) rfl (l' := #[vr arr, vi ((ix <<< ((1 : Int32) &&& 31)) + (1 : Int32))]) rfl ?_
  exact k
 obtain ⟨cl3, Ar3, q3, S3, M3, H3, G3⟩ := id V_a
 refine own_st (T' := T2) (g' := (mkF m 42 #[vr arr, vi ((ix <<< ((1 : Int32) &&& 31)) + (1 : Int32))] [(.int (bv &&& (255 : Int32)))])) (fun t k => ?_) ?_
 ·refine X2.baloadBytes hx (j := (ix <<< ((1 : Int32) &&& 31))) (v := (.int bv)) (by rw [e2]; exact Ar3.1) (State.isArrayOf_alike hZ.alike Ar3.2.1) Ar3.2.2 (inb_of S3 hg0) (Has.at H3 (inb_of S3 hg0) ((own_lget bl ((ix <<< ((1 : Int32) &&& 31))).toNatClampNeg).trans (congrArg Value.int hbv))) (g := (mkF m 37 #[vr arr, vi ((ix <<< ((1 : Int32) &&& 31)) + (1 : Int32))] [(.int (ix <<< ((1 : Int32) &&& 31))), (.ref arr)])) rfl rfl (D d37_37) _ ?_
  refine XS.sipush X2.here hx rfl (D d37_38) ?_
  refine XS.iand X2.here hx rfl (D d37_41) rfl ?_
  exact k
 have f4 := S_hb.ext O0.2
 obtain ⟨T5, X5, e5, st5⟩ := getS2 X2 hx hZ hown (host := "") (Or.inl (own_w hw 121 rfl)) Via.refl e2 f4 (g := (mkF m 42 #[vr arr, vi ((ix <<< ((1 : Int32) &&& 31)) + (1 : Int32))] [(.int (bv &&& (255 : Int32)))])) rfl (D d37_42)
 refine own_st (g' := (mkF m 45 #[vr arr, vi ((ix <<< ((1 : Int32) &&& 31)) + (1 : Int32))] [(.int 0), (.int (bv &&& (255 : Int32)))])) st5 ?_
 refine own_st (T' := T5) (g' := (mkF m 48 #[vr arr, vi ((ix <<< ((1 : Int32) &&& 31)) + (1 : Int32))] [(.int ((ix <<< ((1 : Int32) &&& 31)) + (1 : Int32))), (.ref arr), (.int ((bv &&& (255 : Int32)) <<< ((0 : Int32) &&& 31)))])) (fun t k => ?_) ?_
 ·refine XS.ishl X5.here hx rfl (D d37_45) rfl ?_
  refine XS.aloadN X5.here hx rfl (D d37_46) rfl rfl ?_
  refine XS.iloadN X5.here hx rfl (D d37_47) rfl ?_
  exact k
 obtain ⟨cl6, Ar6, q6, S6, M6, H6, G6⟩ := id V_a
 refine own_st (T' := T5) (g' := (mkF m 53 #[vr arr, vi ((ix <<< ((1 : Int32) &&& 31)) + (1 : Int32))] [(.int (bw &&& (255 : Int32))), (.int ((bv &&& (255 : Int32)) <<< ((0 : Int32) &&& 31)))])) (fun t k => ?_) ?_
 ·refine X5.baloadBytes hx (j := ((ix <<< ((1 : Int32) &&& 31)) + (1 : Int32))) (v := (.int bw)) (by rw [e5]; exact Ar6.1) (State.isArrayOf_alike hZ.alike Ar6.2.1) Ar6.2.2 (inb_of S6 hg1) (Has.at H6 (inb_of S6 hg1) ((own_lget bl (((ix <<< ((1 : Int32) &&& 31)) + (1 : Int32))).toNatClampNeg).trans (congrArg Value.int hbw))) (g := (mkF m 48 #[vr arr, vi ((ix <<< ((1 : Int32) &&& 31)) + (1 : Int32))] [(.int ((ix <<< ((1 : Int32) &&& 31)) + (1 : Int32))), (.ref arr), (.int ((bv &&& (255 : Int32)) <<< ((0 : Int32) &&& 31)))])) rfl rfl (D d37_48) _ ?_
  refine XS.sipush X5.here hx rfl (D d37_49) ?_
  refine XS.iand X5.here hx rfl (D d37_52) rfl ?_
  exact k
 have f7 := S_lb.ext O0.2
 obtain ⟨T8, X8, e8, st8⟩ := getS2 X5 hx hZ hown (host := "") (Or.inl (own_w hw 122 rfl)) Via.refl e5 f7 (g := (mkF m 53 #[vr arr, vi ((ix <<< ((1 : Int32) &&& 31)) + (1 : Int32))] [(.int (bw &&& (255 : Int32))), (.int ((bv &&& (255 : Int32)) <<< ((0 : Int32) &&& 31)))])) rfl (D d37_53)
 refine own_st (g' := (mkF m 56 #[vr arr, vi ((ix <<< ((1 : Int32) &&& 31)) + (1 : Int32))] [(.int 8), (.int (bw &&& (255 : Int32))), (.int ((bv &&& (255 : Int32)) <<< ((0 : Int32) &&& 31)))])) st8 ?_
 refine own_st (T' := T8) (g' := (mkF m 59 #[vr arr, vi ((ix <<< ((1 : Int32) &&& 31)) + (1 : Int32))] [(.int ((((bv &&& (255 : Int32)) <<< ((0 : Int32) &&& 31)) ||| ((bw &&& (255 : Int32)) <<< ((8 : Int32) &&& 31))).toUInt32.toUInt16.toUInt32.toInt32))])) (fun t k => ?_) ?_
 ·refine XS.ishl X8.here hx rfl (D d37_56) rfl ?_
  refine XS.ior X8.here hx rfl (D d37_57) rfl ?_
  refine XS.i2c X8.here hx rfl (D d37_58) rfl ?_
  exact k
 exact own_retN X8 hx Bd (t := .char) (by simp) (XT.narrow_c _) (D d37_59) e8 (⟨rfl, N0, rfl⟩) (by decide) (by decide)
def own_r33 : Room := { frames := 3, cells := 0, slots := 0, locals := 40 }
theorem own_rm33 (l : Launch) (Z : State) (a0 : Array Value) (hw : own_W a0 Z) (arr : Addr) (ka : ClassId) (bl : List Int32) (zz ix : Int32) (bv bw : Int32) (cs : Int32) (fm : Value) (u8 : Addr) (h0 : Heap) (n0 : Nat) (Z0 : n0 ≤ h0.size) (O0 : Old Z n0 h0) (V_a : Arv Z h0 arr ka .byte zz (bl.map Value.int) (.int 0)) (hi0 : ¬ ix < (0 : Int32)) (hin : ix < (zz >>> ((1 : Int32) &&& 31))) (hg0 : ¬ (ix <<< ((1 : Int32) &&& 31)) < (0 : Int32) ∧ (ix <<< ((1 : Int32) &&& 31)) < zz) (hg1 : ¬ ((ix <<< ((1 : Int32) &&& 31)) + (1 : Int32)) < (0 : Int32) ∧ ((ix <<< ((1 : Int32) &&& 31)) + (1 : Int32)) < zz) (hbv : bl.getD ((ix <<< ((1 : Int32) &&& 31))).toNatClampNeg 0 = bv) (hbw : bl.getD (((ix <<< ((1 : Int32) &&& 31)) + (1 : Int32))).toNatClampNeg 0 = bw) (HB : own_BB Z cs fm u8) :
  own_MF l Z own_y38 (Jvm.Cond.code own_y38 jdk_52_method_83_code 2 (some .char)) [] own_r33 #[(.ref arr), (.int ix)] h0 (own_P h0 n0 (.int (own_gc bv bw))) := by
 refine own_open (plainFor_of_name own_pn5) hisR (Ls := #[vr arr, vi ix]) ?_
 intro p e s m below meth c s₁ Bd hZ hx hby hml hown X0 e0
 have N0 := Fr.nil n0
 have D := @hb _ _ hby
 refine own_st (T' := s₁) (g' := (mkF m 2 #[vr arr, vi ix] [(.ref arr), (.int ix)])) (fun t k => ?_) ?_
 ·refine XS.iloadN X0.here hx rfl (D d33_0) rfl ?_
  refine XS.aloadN X0.here hx rfl (D d33_1) rfl rfl ?_
  exact k
 obtain ⟨_, _, ⟨T1, L1, c1, n1⟩, -, X1, ⟨Lc1, hQ1, l1, y1, z1⟩, st1⟩ := Jvm.LawKit.callS X0 hx (y := own_y36) hown (om hZ hw 170 rfl) (om hZ hw 171 rfl) (om hZ hw 97 rfl) (om hZ hw 172 rfl) (by decide) (backOf (W := 0) (own_rm34 l Z a0 hw arr ka bl zz ix cs fm u8 h0 n0 Z0 O0 V_a hi0 hin HB) hZ (own_w hw 172 rfl) (own_w hw 97 rfl) (by decide) (by decide)) (g := (mkF m 2 #[vr arr, vi ix] [(.ref arr), (.int ix)])) rfl (by rw [hml]; rfl) (argsL := [(.int ix), (.ref arr)]) (rest := []) (lenOf own_pd26 rfl) rfl own_w0 (D d33_2) (fun _ _ => ⟨rfl, e0, (by decide : 0 + 0 ≤ _), (by decide : 0 + 0 ≤ _)⟩)
 dsimp only [Pt.U, Pt.locs, Pt.cells, Pt.slots] at X1 l1 y1 z1 st1 hQ1
 subst l1 y1 z1
 obtain ⟨rfl, N1q, e1⟩ := hQ1
 have N1 := Fr.app N0 N1q
 refine own_st (g' := (mkF m 5 #[vr arr, vi ix] [])) st1 ?_
 refine own_st (T' := T1) (g' := (mkF m 7 #[vr arr, vi ix] [(.int ix), (.ref arr)])) (fun t k => ?_) ?_
 ·refine XS.aloadN X1.here hx rfl (D d33_5) rfl rfl ?_
  refine XS.iloadN X1.here hx rfl (D d33_6) rfl ?_
  exact k
 obtain ⟨_, _, ⟨T2, L2, c2, n2⟩, -, X2, ⟨Lc2, hQ2, l2, y2, z2⟩, st2⟩ := Jvm.LawKit.callS X1 hx (y := own_y37) hown (om hZ hw 179 rfl) (om hZ hw 180 rfl) (om hZ hw 97 rfl) (om hZ hw 181 rfl) (by decide) (backOf (W := 0) (own_rm37 l Z a0 hw arr ka bl zz ix bv bw cs fm u8 h0 n0 Z0 O0 V_a hg0 hg1 hbv hbw HB) hZ (own_w hw 181 rfl) (own_w hw 97 rfl) (by decide) (by decide)) (g := (mkF m 7 #[vr arr, vi ix] [(.int ix), (.ref arr)])) rfl (by rw [hml]; rfl) (argsL := [(.ref arr), (.int ix)]) (rest := []) (lenOf own_pd27 rfl) rfl own_w0 (D d33_7) (fun _ _ => ⟨rfl, e1, (by decide : 0 + 0 ≤ _), (by decide : 0 + 0 ≤ _)⟩)
 dsimp only [Pt.U, Pt.locs, Pt.cells, Pt.slots] at X2 l2 y2 z2 st2 hQ2
 subst l2 y2 z2
 obtain ⟨rfl, N2q, e2⟩ := hQ2
 have N2 := Fr.app N1 N2q
 refine own_st (g' := (mkF m 10 #[vr arr, vi ix] [(.int (own_gc bv bw))])) st2 ?_
 exact own_retN X2 hx Bd (t := .char) (by simp) (XT.narrow_c _) (D d33_10) e2 (⟨rfl, N2, rfl⟩) (by decide) (by decide)
def own_r31_0 : Room := { frames := 3, cells := 0, slots := 0, locals := 40 }
theorem own_rm31_0 (l : Launch) (Z : State) (a0 : Array Value) (hw : own_W a0 Z) (r tt : Addr) (kk : ClassId) (bl : List Int32) (zz : Int32) (ix bv : Int32) (cs : Int32) (fm : Value) (u8 : Addr) (h0 : Heap) (n0 : Nat) (Z0 : n0 ≤ h0.size) (O0 : Old Z n0 h0) (E_r : Exa Z h0 r "java/lang/String") (F_v : Fld Z h0 r "java/lang/String" "value" "[B" (.ref tt)) (F_c : Fld Z h0 r "java/lang/String" "coder" "B" (.int 0)) (V_a : Arv Z h0 tt kk .byte zz (bl.map Value.int) (.int 0)) (hi0 : ¬ ix < (0 : Int32)) (hin : ix < zz) (hbv : bl.getD ix.toNatClampNeg 0 = bv) (HB : own_BB Z cs fm u8) :
  own_MF l Z own_y39 (Jvm.Cond.code own_y39 jdk_42_method_56_code 2 (some .char)) [] own_r31_0 #[(.ref r), (.int ix)] h0 (own_P h0 n0 (.int (own_lc bv))) := by
 refine own_open (plainFor_of_name own_pn1) hisR (Ls := #[vr r, vi ix]) ?_
 intro p e s m below meth c s₁ Bd hZ hx hby hml hown X0 e0
 have N0 := Fr.nil n0
 have D := @hb _ _ hby
 refine own_st (T' := s₁) (g' := (mkF m 1 #[vr r, vi ix] [(.ref r)])) (fun t k => ?_) ?_
 ·refine XS.aloadN X0.here hx rfl (D d31_0) rfl rfl ?_
  exact k
 obtain ⟨cq1, kq1, q1a, q1b, q1c⟩ := isOf hZ e0 E_r
 obtain ⟨_, _, ⟨T1, L1, c1, n1⟩, -, X1, ⟨Lc1, hQ1, l1, y1, z1⟩, st1⟩ := X0.virtualBack hx (y := own_y32) (z := own_y32) hown (om hZ hw 162 rfl) (om hZ hw 163 rfl) (notFace_of_selects (args := #[]) (om hZ hw 165 rfl)) (om hZ hw 165 rfl) (om hZ hw 164 rfl) (by decide) (backOf (W := 0) (own_rm32_0 l Z a0 hw r tt kk bl zz cs fm u8 h0 n0 Z0 O0 E_r F_v F_c V_a HB) hZ (own_w hw 166 rfl) (own_w hw 42 rfl) (by decide) (by decide)) q1a q1c (g := (mkF m 1 #[vr r, vi ix] [(.ref r)])) rfl (by rw [hml]; rfl) (Steps.refl _) (argsL := []) (rest := []) (lenOf own_pd28 rfl) rfl own_w0 (D d31_1) (fun _ _ => ⟨rfl, e0, (by decide : 0 + 0 ≤ _), (by decide : 0 + 0 ≤ _)⟩)
 dsimp only [Pt.U, Pt.locs, Pt.cells, Pt.slots] at X1 l1 y1 z1 st1 hQ1
 subst l1 y1 z1
 obtain ⟨rfl, N1q, e1⟩ := hQ1
 have N1 := Fr.app N0 N1q
 refine own_tr (g' := (mkF m 4 #[vr r, vi ix] [(.int 1)])) st1 ?_
 refine own_st (T' := T1) (g' := (mkF m 8 #[vr r, vi ix] [(.ref r)])) (fun t k => ?_) ?_
 ·refine XS.ifNo X1.here hx rfl (D d31_4) rfl ((if0 _ _).trans (feq (by decide : ¬ ((1 : Int32) = (0 : Int32)))).1) ?_
  refine XS.aloadN X1.here hx rfl (D d31_7) rfl rfl ?_
  exact k
 obtain ⟨T2, X2, e2, st2⟩ := getF X1 hx hZ hown (host := "") (Or.inl (own_w hw 143 rfl)) Via.refl e1 F_v (g := (mkF m 8 #[vr r, vi ix] [(.ref r)])) rfl rfl (D d31_8)
 refine own_st (g' := (mkF m 11 #[vr r, vi ix] [(.ref tt)])) st2 ?_
 refine own_st (T' := T2) (g' := (mkF m 12 #[vr r, vi ix] [(.int ix), (.ref tt)])) (fun t k => ?_) ?_
 ·refine XS.iloadN X2.here hx rfl (D d31_11) rfl ?_
  exact k
 obtain ⟨_, _, ⟨T3, L3, c3, n3⟩, -, X3, ⟨Lc3, hQ3, l3, y3, z3⟩, st3⟩ := Jvm.LawKit.callS X2 hx (y := own_y35) hown (om hZ hw 212 rfl) (om hZ hw 213 rfl) (om hZ hw 105 rfl) (om hZ hw 214 rfl) (by decide) (backOf (W := 0) (own_rm44 l Z a0 hw tt kk bl zz ix bv cs fm u8 h0 n0 Z0 O0 V_a hi0 hin hbv HB) hZ (own_w hw 214 rfl) (own_w hw 105 rfl) (by decide) (by decide)) (g := (mkF m 12 #[vr r, vi ix] [(.int ix), (.ref tt)])) rfl (by rw [hml]; rfl) (argsL := [(.ref tt), (.int ix)]) (rest := []) (lenOf own_pd27 rfl) rfl own_w0 (D d31_12) (fun _ _ => ⟨rfl, e2, (by decide : 0 + 0 ≤ _), (by decide : 0 + 0 ≤ _)⟩)
 dsimp only [Pt.U, Pt.locs, Pt.cells, Pt.slots] at X3 l3 y3 z3 st3 hQ3
 subst l3 y3 z3
 obtain ⟨rfl, N3q, e3⟩ := hQ3
 have N3 := Fr.app N1 N3q
 refine own_st (g' := (mkF m 15 #[vr r, vi ix] [(.int (own_lc bv))])) st3 ?_
 exact own_retN X3 hx Bd (t := .char) (by simp) (XT.narrow_c _) (D d31_15) e3 (⟨rfl, N3, rfl⟩) (by decide) (by decide)
def own_r31_1 : Room := { frames := 4, cells := 0, slots := 0, locals := 53 }
theorem own_rm31_1 (l : Launch) (Z : State) (a0 : Array Value) (hw : own_W a0 Z) (r tt : Addr) (kk : ClassId) (bl : List Int32) (zz : Int32) (ix bv bw : Int32) (cs : Int32) (fm : Value) (u8 : Addr) (h0 : Heap) (n0 : Nat) (Z0 : n0 ≤ h0.size) (O0 : Old Z n0 h0) (E_r : Exa Z h0 r "java/lang/String") (F_v : Fld Z h0 r "java/lang/String" "value" "[B" (.ref tt)) (F_c : Fld Z h0 r "java/lang/String" "coder" "B" (.int 1)) (V_a : Arv Z h0 tt kk .byte zz (bl.map Value.int) (.int 0)) (hi0 : ¬ ix < (0 : Int32)) (hin : ix < (zz >>> ((1 : Int32) &&& 31))) (hg0 : ¬ (ix <<< ((1 : Int32) &&& 31)) < (0 : Int32) ∧ (ix <<< ((1 : Int32) &&& 31)) < zz) (hg1 : ¬ ((ix <<< ((1 : Int32) &&& 31)) + (1 : Int32)) < (0 : Int32) ∧ ((ix <<< ((1 : Int32) &&& 31)) + (1 : Int32)) < zz) (hbv : bl.getD ((ix <<< ((1 : Int32) &&& 31))).toNatClampNeg 0 = bv) (hbw : bl.getD (((ix <<< ((1 : Int32) &&& 31)) + (1 : Int32))).toNatClampNeg 0 = bw) (HB : own_BB Z cs fm u8) :
  own_MF l Z own_y39 (Jvm.Cond.code own_y39 jdk_42_method_56_code 2 (some .char)) [] own_r31_1 #[(.ref r), (.int ix)] h0 (own_P h0 n0 (.int (own_gc bv bw))) := by
 refine own_open (plainFor_of_name own_pn1) hisR (Ls := #[vr r, vi ix]) ?_
 intro p e s m below meth c s₁ Bd hZ hx hby hml hown X0 e0
 have N0 := Fr.nil n0
 have D := @hb _ _ hby
 refine own_st (T' := s₁) (g' := (mkF m 1 #[vr r, vi ix] [(.ref r)])) (fun t k => ?_) ?_
 ·refine XS.aloadN X0.here hx rfl (D d31_0) rfl rfl ?_
  exact k
 obtain ⟨cq1, kq1, q1a, q1b, q1c⟩ := isOf hZ e0 E_r
 obtain ⟨_, _, ⟨T1, L1, c1, n1⟩, -, X1, ⟨Lc1, hQ1, l1, y1, z1⟩, st1⟩ := X0.virtualBack hx (y := own_y32) (z := own_y32) hown (om hZ hw 162 rfl) (om hZ hw 163 rfl) (notFace_of_selects (args := #[]) (om hZ hw 165 rfl)) (om hZ hw 165 rfl) (om hZ hw 164 rfl) (by decide) (backOf (W := 0) (own_rm32_1 l Z a0 hw r tt kk bl zz cs fm u8 h0 n0 Z0 O0 E_r F_v F_c V_a HB) hZ (own_w hw 166 rfl) (own_w hw 42 rfl) (by decide) (by decide)) q1a q1c (g := (mkF m 1 #[vr r, vi ix] [(.ref r)])) rfl (by rw [hml]; rfl) (Steps.refl _) (argsL := []) (rest := []) (lenOf own_pd28 rfl) rfl own_w0 (D d31_1) (fun _ _ => ⟨rfl, e0, (by decide : 0 + 0 ≤ _), (by decide : 0 + 0 ≤ _)⟩)
 dsimp only [Pt.U, Pt.locs, Pt.cells, Pt.slots] at X1 l1 y1 z1 st1 hQ1
 subst l1 y1 z1
 obtain ⟨rfl, N1q, e1⟩ := hQ1
 have N1 := Fr.app N0 N1q
 refine own_tr (g' := (mkF m 4 #[vr r, vi ix] [(.int 0)])) st1 ?_
 refine own_st (T' := T1) (g' := (mkF m 17 #[vr r, vi ix] [(.ref r)])) (fun t k => ?_) ?_
 ·refine XS.ifYes X1.here hx rfl (pc0 := 4) (pc' := 16) rfl (D d31_4) rfl ((if0 _ _).trans (teq (rfl : (0 : Int32) = (0 : Int32))).1) (by decide) (by decide) ?_
  refine XS.aloadN X1.here hx rfl (D d31_16) rfl rfl ?_
  exact k
 obtain ⟨T2, X2, e2, st2⟩ := getF X1 hx hZ hown (host := "") (Or.inl (own_w hw 143 rfl)) Via.refl e1 F_v (g := (mkF m 17 #[vr r, vi ix] [(.ref r)])) rfl rfl (D d31_17)
 refine own_st (g' := (mkF m 20 #[vr r, vi ix] [(.ref tt)])) st2 ?_
 refine own_st (T' := T2) (g' := (mkF m 21 #[vr r, vi ix] [(.int ix), (.ref tt)])) (fun t k => ?_) ?_
 ·refine XS.iloadN X2.here hx rfl (D d31_20) rfl ?_
  exact k
 obtain ⟨_, _, ⟨T3, L3, c3, n3⟩, -, X3, ⟨Lc3, hQ3, l3, y3, z3⟩, st3⟩ := Jvm.LawKit.callS X2 hx (y := own_y38) hown (om hZ hw 167 rfl) (om hZ hw 168 rfl) (om hZ hw 97 rfl) (om hZ hw 169 rfl) (by decide) (backOf (W := 0) (own_rm33 l Z a0 hw tt kk bl zz ix bv bw cs fm u8 h0 n0 Z0 O0 V_a hi0 hin hg0 hg1 hbv hbw HB) hZ (own_w hw 169 rfl) (own_w hw 97 rfl) (by decide) (by decide)) (g := (mkF m 21 #[vr r, vi ix] [(.int ix), (.ref tt)])) rfl (by rw [hml]; rfl) (argsL := [(.ref tt), (.int ix)]) (rest := []) (lenOf own_pd27 rfl) rfl own_w0 (D d31_21) (fun _ _ => ⟨rfl, e2, (by decide : 0 + 0 ≤ _), (by decide : 0 + 0 ≤ _)⟩)
 dsimp only [Pt.U, Pt.locs, Pt.cells, Pt.slots] at X3 l3 y3 z3 st3 hQ3
 subst l3 y3 z3
 obtain ⟨rfl, N3q, e3⟩ := hQ3
 have N3 := Fr.app N1 N3q
 refine own_st (g' := (mkF m 24 #[vr r, vi ix] [(.int (own_gc bv bw))])) st3 ?_
 exact own_retN X3 hx Bd (t := .char) (by simp) (XT.narrow_c _) (D d31_24) e3 (⟨rfl, N3, rfl⟩) (by decide) (by decide)
def own_r1 : Room := { frames := 0, cells := 0, slots := 0, locals := 0 }
def own_Q1 (Z : State) (cv : Int32) (h0 : Heap) (n0 : Nat) : Option Value → Heap → List Loc → Prop := fun v h L => ∃ z : Int32, v = some (.int z) ∧ Fr n0 L ∧ own_cp z ∧ h = h0
theorem own_rm1 (l : Launch) (Z : State) (a0 : Array Value) (hw : own_W a0 Z) (cv : Int32) (h0 : Heap) (n0 : Nat) (Z0 : n0 ≤ h0.size) :
  own_MF l Z own_y40 (Jvm.Cond.code own_y40 method_3_code 3 (some .int)) [] own_r1 #[(.int cv)] h0 (own_Q1 Z cv h0 n0) := by
 refine own_open (plainFor_of_name own_pn9) hisR (Ls := #[vi cv, .unset, .unset]) ?_
 intro p e s m below meth c s₁ Bd hZ hx hby hml hown X0 e0
 have N0 := Fr.nil n0
 have D := @hb _ _ hby
 refine own_st (T' := s₁) (g' := (mkF m 12 #[vi cv, vi ((cv.toUInt32 >>> ((3 : Int32) &&& 31).toUInt32).toInt32), vi ((cv &&& (7 : Int32)) % (5 : Int32))] [(.int ((cv &&& (7 : Int32)) % (5 : Int32)))])) (fun t k => ?_) ?_
 ·refine XS.iloadN X0.here hx rfl (D d1_0) rfl ?_
  refine XS.iconst X0.here hx rfl (D d1_1) ?_
  refine XS.iushr X0.here hx rfl (D d1_2) rfl ?_
  refine XS.istoreN X0.here hx rfl (D d1_3) rfl (l' := #[vi cv, vi ((cv.toUInt32 >>> ((3 : Int32) &&& 31).toUInt32).toInt32), .unset]) rfl ?_
  refine XS.iloadN X0.here hx rfl (D d1_4) rfl ?_
  refine XS.bipush X0.here hx rfl (D d1_5) ?_
  refine XS.iand X0.here hx rfl (D d1_7) rfl ?_
  refine XS.iconst X0.here hx rfl (D d1_8) ?_
  refine iremM X0 hx rfl (D d1_9) rfl (by decide) ?_
  refine XS.istoreN X0.here hx rfl (D d1_10) rfl (l' := #[vi cv, vi ((cv.toUInt32 >>> ((3 : Int32) &&& 31).toUInt32).toInt32), vi ((cv &&& (7 : Int32)) % (5 : Int32))]) rfl ?_
  refine XS.iloadN X0.here hx rfl (D d1_11) rfl ?_
  exact k
 by_cases hc1 : ((cv &&& (7 : Int32)) % (5 : Int32)) = (0 : Int32)
 ·refine own_st (T' := s₁) (g' := (mkF m 19 #[vi cv, vi ((cv.toUInt32 >>> ((3 : Int32) &&& 31).toUInt32).toInt32), vi ((cv &&& (7 : Int32)) % (5 : Int32))] [(.int (((cv.toUInt32 >>> ((3 : Int32) &&& 31).toUInt32).toInt32) &&& (127 : Int32)))])) (fun t k => ?_) ?_
  ·refine XS.ifNo X0.here hx rfl (D d1_12) rfl ((if0 _ _).trans (teq hc1).2) ?_
   refine XS.iloadN X0.here hx rfl (D d1_15) rfl ?_
   refine XS.bipush X0.here hx rfl (D d1_16) ?_
   refine XS.iand X0.here hx rfl (D d1_18) rfl ?_
   exact k
  exact own_retI X0 hx Bd (D d1_19) e0 (⟨_, rfl, N0, own_cp0 cv, rfl⟩) (by decide) (by decide)
 ·refine own_st (T' := s₁) (g' := (mkF m 22 #[vi cv, vi ((cv.toUInt32 >>> ((3 : Int32) &&& 31).toUInt32).toInt32), vi ((cv &&& (7 : Int32)) % (5 : Int32))] [(.int 1), (.int ((cv &&& (7 : Int32)) % (5 : Int32)))])) (fun t k => ?_) ?_
  ·refine XS.ifYes X0.here hx rfl (pc0 := 12) (pc' := 20) rfl (D d1_12) rfl ((if0 _ _).trans (feq hc1).2) (by decide) (by decide) ?_
   refine XS.iloadN X0.here hx rfl (D d1_20) rfl ?_
   refine XS.iconst X0.here hx rfl (D d1_21) ?_
   exact k
  by_cases hc2 : ((cv &&& (7 : Int32)) % (5 : Int32)) = (1 : Int32)
  ·refine own_st (T' := s₁) (g' := (mkF m 34 #[vi cv, vi ((cv.toUInt32 >>> ((3 : Int32) &&& 31).toUInt32).toInt32), vi ((cv &&& (7 : Int32)) % (5 : Int32))] [(.int ((128 : Int32) + (((cv.toUInt32 >>> ((3 : Int32) &&& 31).toUInt32).toInt32) % (1920 : Int32))))])) (fun t k => ?_) ?_
   ·refine XS.icmpNo X0.here hx rfl (D d1_22) rfl (teq hc2).2 ?_
    refine XS.sipush X0.here hx rfl (D d1_25) ?_
    refine XS.iloadN X0.here hx rfl (D d1_28) rfl ?_
    refine XS.sipush X0.here hx rfl (D d1_29) ?_
    refine iremM X0 hx rfl (D d1_32) rfl (by decide) ?_
    refine XS.iadd X0.here hx rfl (D d1_33) rfl ?_
    exact k
   exact own_retI X0 hx Bd (D d1_34) e0 (⟨_, rfl, N0, own_cpk cv 128 1920 (show (128 : Int32).toInt = ((128 : Nat) : Int) from rfl) (show (1920 : Int32).toInt = ((1920 : Nat) : Int) from rfl) (by decide) (by decide) (by decide), rfl⟩) (by decide) (by decide)
  ·refine own_st (T' := s₁) (g' := (mkF m 37 #[vi cv, vi ((cv.toUInt32 >>> ((3 : Int32) &&& 31).toUInt32).toInt32), vi ((cv &&& (7 : Int32)) % (5 : Int32))] [(.int 2), (.int ((cv &&& (7 : Int32)) % (5 : Int32)))])) (fun t k => ?_) ?_
   ·refine XS.icmpYes X0.here hx rfl (pc0 := 22) (pc' := 35) rfl (D d1_22) rfl (feq hc2).2 (by decide) (by decide) ?_
    refine XS.iloadN X0.here hx rfl (D d1_35) rfl ?_
    refine XS.iconst X0.here hx rfl (D d1_36) ?_
    exact k
   by_cases hc3 : ((cv &&& (7 : Int32)) % (5 : Int32)) = (2 : Int32)
   ·refine own_st (T' := s₁) (g' := (mkF m 48 #[vi cv, vi ((cv.toUInt32 >>> ((3 : Int32) &&& 31).toUInt32).toInt32), vi ((cv &&& (7 : Int32)) % (5 : Int32))] [(.int ((2048 : Int32) + (((cv.toUInt32 >>> ((3 : Int32) &&& 31).toUInt32).toInt32) % (53248 : Int32))))])) (fun t k => ?_) ?_
    ·refine XS.icmpNo X0.here hx rfl (D d1_37) rfl (teq hc3).2 ?_
     refine XS.sipush X0.here hx rfl (D d1_40) ?_
     refine XS.iloadN X0.here hx rfl (D d1_43) rfl ?_
     refine X0.ldcInt hx hown (om hZ hw 208 rfl) (g := (mkF m 44 #[vi cv, vi ((cv.toUInt32 >>> ((3 : Int32) &&& 31).toUInt32).toInt32), vi ((cv &&& (7 : Int32)) % (5 : Int32))] [(.int ((cv.toUInt32 >>> ((3 : Int32) &&& 31).toUInt32).toInt32)), (.int 2048)])) rfl (D d1_44) _ ?_
     refine iremM X0 hx rfl (D d1_46) rfl (by decide) ?_
     refine XS.iadd X0.here hx rfl (D d1_47) rfl ?_
     exact k
    exact own_retI X0 hx Bd (D d1_48) e0 (⟨_, rfl, N0, own_cpk cv 2048 53248 (show (2048 : Int32).toInt = ((2048 : Nat) : Int) from rfl) (show (53248 : Int32).toInt = ((53248 : Nat) : Int) from rfl) (by decide) (by decide) (by decide), rfl⟩) (by decide) (by decide)
   ·refine own_st (T' := s₁) (g' := (mkF m 51 #[vi cv, vi ((cv.toUInt32 >>> ((3 : Int32) &&& 31).toUInt32).toInt32), vi ((cv &&& (7 : Int32)) % (5 : Int32))] [(.int 3), (.int ((cv &&& (7 : Int32)) % (5 : Int32)))])) (fun t k => ?_) ?_
    ·refine XS.icmpYes X0.here hx rfl (pc0 := 37) (pc' := 49) rfl (D d1_37) rfl (feq hc3).2 (by decide) (by decide) ?_
     refine XS.iloadN X0.here hx rfl (D d1_49) rfl ?_
     refine XS.iconst X0.here hx rfl (D d1_50) ?_
     exact k
    by_cases hc4 : ((cv &&& (7 : Int32)) % (5 : Int32)) = (3 : Int32)
    ·refine own_st (T' := s₁) (g' := (mkF m 62 #[vi cv, vi ((cv.toUInt32 >>> ((3 : Int32) &&& 31).toUInt32).toInt32), vi ((cv &&& (7 : Int32)) % (5 : Int32))] [(.int ((57344 : Int32) + (((cv.toUInt32 >>> ((3 : Int32) &&& 31).toUInt32).toInt32) % (8192 : Int32))))])) (fun t k => ?_) ?_
     ·refine XS.icmpNo X0.here hx rfl (D d1_51) rfl (teq hc4).2 ?_
      refine X0.ldcInt hx hown (om hZ hw 13 rfl) (g := (mkF m 54 #[vi cv, vi ((cv.toUInt32 >>> ((3 : Int32) &&& 31).toUInt32).toInt32), vi ((cv &&& (7 : Int32)) % (5 : Int32))] [])) rfl (D d1_54) _ ?_
      refine XS.iloadN X0.here hx rfl (D d1_56) rfl ?_
      refine XS.sipush X0.here hx rfl (D d1_57) ?_
      refine iremM X0 hx rfl (D d1_60) rfl (by decide) ?_
      refine XS.iadd X0.here hx rfl (D d1_61) rfl ?_
      exact k
     exact own_retI X0 hx Bd (D d1_62) e0 (⟨_, rfl, N0, own_cpk cv 57344 8192 (show (57344 : Int32).toInt = ((57344 : Nat) : Int) from rfl) (show (8192 : Int32).toInt = ((8192 : Nat) : Int) from rfl) (by decide) (by decide) (by decide), rfl⟩) (by decide) (by decide)
    ·refine own_st (T' := s₁) (g' := (mkF m 70 #[vi cv, vi ((cv.toUInt32 >>> ((3 : Int32) &&& 31).toUInt32).toInt32), vi ((cv &&& (7 : Int32)) % (5 : Int32))] [(.int ((65536 : Int32) + (((cv.toUInt32 >>> ((3 : Int32) &&& 31).toUInt32).toInt32) % (1048576 : Int32))))])) (fun t k => ?_) ?_
     ·refine XS.icmpYes X0.here hx rfl (pc0 := 51) (pc' := 63) rfl (D d1_51) rfl (feq hc4).2 (by decide) (by decide) ?_
      refine X0.ldcInt hx hown (om hZ hw 12 rfl) (g := (mkF m 63 #[vi cv, vi ((cv.toUInt32 >>> ((3 : Int32) &&& 31).toUInt32).toInt32), vi ((cv &&& (7 : Int32)) % (5 : Int32))] [])) rfl (D d1_63) _ ?_
      refine XS.iloadN X0.here hx rfl (D d1_65) rfl ?_
      refine X0.ldcInt hx hown (om hZ hw 185 rfl) (g := (mkF m 66 #[vi cv, vi ((cv.toUInt32 >>> ((3 : Int32) &&& 31).toUInt32).toInt32), vi ((cv &&& (7 : Int32)) % (5 : Int32))] [(.int ((cv.toUInt32 >>> ((3 : Int32) &&& 31).toUInt32).toInt32)), (.int 65536)])) rfl (D d1_66) _ ?_
      refine iremM X0 hx rfl (D d1_68) rfl (by decide) ?_
      refine XS.iadd X0.here hx rfl (D d1_69) rfl ?_
      exact k
     exact own_retI X0 hx Bd (D d1_70) e0 (⟨_, rfl, N0, own_cpk cv 65536 1048576 (show (65536 : Int32).toInt = ((65536 : Nat) : Int) from rfl) (show (1048576 : Int32).toInt = ((1048576 : Nat) : Int) from rfl) (by decide) (by decide) (by decide), rfl⟩) (by decide) (by decide)
def own_r2 : Room := { frames := 0, cells := 0, slots := 0, locals := 0 }
def own_Q2 (Z : State) (ba : Addr) (kb : ClassId) (bl : List Int32) (av cv : Int32) (an : Nat) (h0 : Heap) (n0 : Nat) : Option Value → Heap → List Loc → Prop := fun v h L => v = some (.int (Int32.ofNat (own_enc cv).length)) ∧ Fr n0 L ∧ Keep h0 h [ba] ∧ Arv Z h ba kb .byte (16 : Int32) ((own_wrl bl an (own_enc cv)).map Value.int) (.int 0)
theorem own_rm2 (l : Launch) (Z : State) (a0 : Array Value) (hw : own_W a0 Z) (ba : Addr) (kb : ClassId) (bl : List Int32) (av cv : Int32) (an : Nat) (h0 : Heap) (n0 : Nat) (Z0 : n0 ≤ h0.size) (V_b : Arv Z h0 ba kb .byte (16 : Int32) (bl.map Value.int) (.int 0)) (g_b : n0 ≤ ba) (hbl : bl.length = 16) (hav : av.toInt = (an : Int)) (han : an + 4 ≤ 16) :
  own_MF l Z own_y41 (Jvm.Cond.code own_y41 method_4_code 3 (some .int)) [] own_r2 #[(.ref ba), (.int av), (.int cv)] h0 (own_Q2 Z ba kb bl av cv an h0 n0) := by
 refine own_open (plainFor_of_name own_pn9) hisR (Ls := #[vr ba, vi av, vi cv]) ?_
 intro p e s m below meth c s₁ Bd hZ hx hby hml hown X0 e0
 have N0 := Fr.nil n0
 have D := @hb _ _ hby
 refine own_st (T' := s₁) (g' := (mkF m 4 #[vr ba, vi av, vi cv] [(.int 128), (.int cv)])) (fun t k => ?_) ?_
 ·refine XS.iloadN X0.here hx rfl (D d2_0) rfl ?_
  refine XS.sipush X0.here hx rfl (D d2_1) ?_
  exact k
 by_cases h1 : cv < (128 : Int32)
 ·refine own_st (T' := s₁) (g' := (mkF m 11 #[vr ba, vi av, vi cv] [(.int (cv.toInt8.toInt32)), (.int av), (.ref ba)])) (fun t k => ?_) ?_
  ·refine XS.icmpNo X0.here hx rfl (D d2_4) rfl (tlt h1).2.1 ?_
   refine XS.aloadN X0.here hx rfl (D d2_7) rfl rfl ?_
   refine XS.iloadN X0.here hx rfl (D d2_8) rfl ?_
   refine XS.iloadN X0.here hx rfl (D d2_9) rfl ?_
   refine XS.i2b X0.here hx rfl (D d2_10) rfl ?_
   exact k
  obtain ⟨cl1, Ar1, q1, S1, M1, H1, G1⟩ := id V_b
  obtain ⟨T2, h2, X2, e2, W2, st2⟩ := stB X0 hx hZ e0 Ar1 (j := av) (inb_of S1 (own_inN hav own_i16 (by omega))) (g := (mkF m 11 #[vr ba, vi av, vi cv] [(.int (cv.toInt8.toInt32)), (.int av), (.ref ba)])) rfl rfl (D d2_11)
  have N2 := Fr.snoc X2 N0 g_b
  have K2 : Keep h0 h2 [ba] := (Keep.refl h0 [ba]).wr W2 (Or.inl (List.mem_of_getElem? (i := 0) rfl))
  have Z2 : n0 ≤ h2.size := Nat.le_trans Z0 (Keep.of_wr W2).1
  have fw2 := (show Arv Z h2 ba kb .byte (16 : Int32) ((bl.set (av).toNatClampNeg (cv.toInt8.toInt32)).map Value.int) (.int 0) by have q := Arv.set Ar1 q1 S1 M1 H1 G1 (fits_nar_byte _) W2 ((av).toNatClampNeg) rfl (by rw [List.length_map, own_clamp hav]; (try simp only [List.length_set]); omega); rw [own_lset, own_bb cv] at q; exact q)
  refine own_st (g' := (mkF m 12 #[vr ba, vi av, vi cv] [])) st2 ?_
  refine own_st (T' := T2) (g' := (mkF m 13 #[vr ba, vi av, vi cv] [(.int 1)])) (fun t k => ?_) ?_
  ·refine XS.iconst X2.here hx rfl (D d2_12) ?_
   exact k
  exact own_retI X2 hx Bd (D d2_13) e2 (⟨by rw [own_enc, if_pos h1]; rfl, N2, K2, by have q := fw2; rw [own_clamp hav] at q; rw [own_enc, if_pos h1]; exact q⟩) (by decide) (by decide)
 ·refine own_st (T' := s₁) (g' := (mkF m 18 #[vr ba, vi av, vi cv] [(.int 2048), (.int cv)])) (fun t k => ?_) ?_
  ·refine XS.icmpYes X0.here hx rfl (pc0 := 4) (pc' := 14) rfl (D d2_4) rfl (flt h1).2.1 (by decide) (by decide) ?_
   refine XS.iloadN X0.here hx rfl (D d2_14) rfl ?_
   refine XS.sipush X0.here hx rfl (D d2_15) ?_
   exact k
  by_cases h2 : cv < (2048 : Int32)
  ·refine own_st (T' := s₁) (g' := (mkF m 32 #[vr ba, vi av, vi cv] [(.int (((192 : Int32) ||| (cv >>> ((6 : Int32) &&& 31))).toInt8.toInt32)), (.int av), (.ref ba)])) (fun t k => ?_) ?_
   ·refine XS.icmpNo X0.here hx rfl (D d2_18) rfl (tlt h2).2.1 ?_
    refine XS.aloadN X0.here hx rfl (D d2_21) rfl rfl ?_
    refine XS.iloadN X0.here hx rfl (D d2_22) rfl ?_
    refine XS.sipush X0.here hx rfl (D d2_23) ?_
    refine XS.iloadN X0.here hx rfl (D d2_26) rfl ?_
    refine XS.bipush X0.here hx rfl (D d2_27) ?_
    refine XS.ishr X0.here hx rfl (D d2_29) rfl ?_
    refine XS.ior X0.here hx rfl (D d2_30) rfl ?_
    refine XS.i2b X0.here hx rfl (D d2_31) rfl ?_
    exact k
   obtain ⟨cl3, Ar3, q3, S3, M3, H3, G3⟩ := id V_b
   obtain ⟨T4, h4, X4, e4, W4, st4⟩ := stB X0 hx hZ e0 Ar3 (j := av) (inb_of S3 (own_inN hav own_i16 (by omega))) (g := (mkF m 32 #[vr ba, vi av, vi cv] [(.int (((192 : Int32) ||| (cv >>> ((6 : Int32) &&& 31))).toInt8.toInt32)), (.int av), (.ref ba)])) rfl rfl (D d2_32)
   have N4 := Fr.snoc X4 N0 g_b
   have K4 : Keep h0 h4 [ba] := (Keep.refl h0 [ba]).wr W4 (Or.inl (List.mem_of_getElem? (i := 0) rfl))
   have Z4 : n0 ≤ h4.size := Nat.le_trans Z0 (Keep.of_wr W4).1
   have fw4 := (show Arv Z h4 ba kb .byte (16 : Int32) ((bl.set (av).toNatClampNeg (((192 : Int32) ||| (cv >>> ((6 : Int32) &&& 31))).toInt8.toInt32)).map Value.int) (.int 0) by have q := Arv.set Ar3 q3 S3 M3 H3 G3 (fits_nar_byte _) W4 ((av).toNatClampNeg) rfl (by rw [List.length_map, own_clamp hav]; (try simp only [List.length_set]); omega); rw [own_lset, own_bb ((192 : Int32) ||| (cv >>> ((6 : Int32) &&& 31)))] at q; exact q)
   refine own_st (g' := (mkF m 33 #[vr ba, vi av, vi cv] [])) st4 ?_
   refine own_st (T' := T4) (g' := (mkF m 46 #[vr ba, vi av, vi cv] [(.int (((128 : Int32) ||| (cv &&& (63 : Int32))).toInt8.toInt32)), (.int (av + (1 : Int32))), (.ref ba)])) (fun t k => ?_) ?_
   ·refine XS.aloadN X4.here hx rfl (D d2_33) rfl rfl ?_
    refine XS.iloadN X4.here hx rfl (D d2_34) rfl ?_
    refine XS.iconst X4.here hx rfl (D d2_35) ?_
    refine XS.iadd X4.here hx rfl (D d2_36) rfl ?_
    refine XS.sipush X4.here hx rfl (D d2_37) ?_
    refine XS.iloadN X4.here hx rfl (D d2_40) rfl ?_
    refine XS.bipush X4.here hx rfl (D d2_41) ?_
    refine XS.iand X4.here hx rfl (D d2_43) rfl ?_
    refine XS.ior X4.here hx rfl (D d2_44) rfl ?_
    refine XS.i2b X4.here hx rfl (D d2_45) rfl ?_
    exact k
   obtain ⟨cl5, Ar5, q5, S5, M5, H5, G5⟩ := id fw4
   obtain ⟨T6, h6, X6, e6, W6, st6⟩ := stB X4 hx hZ e4 Ar5 (j := (av + (1 : Int32))) (inb_of S5 (own_inN (own_add hav (show (1 : Int32).toInt = ((1 : Nat) : Int) from rfl) (by omega)) own_i16 (by omega))) (g := (mkF m 46 #[vr ba, vi av, vi cv] [(.int (((128 : Int32) ||| (cv &&& (63 : Int32))).toInt8.toInt32)), (.int (av + (1 : Int32))), (.ref ba)])) rfl rfl (D d2_46)
   have N6 := Fr.snoc X6 N4 g_b
   have K6 : Keep h0 h6 [ba] := K4.wr W6 (Or.inl (List.mem_of_getElem? (i := 0) rfl))
   have Z6 : n0 ≤ h6.size := Nat.le_trans Z4 (Keep.of_wr W6).1
   have fw6 := (show Arv Z h6 ba kb .byte (16 : Int32) (((bl.set (av).toNatClampNeg (((192 : Int32) ||| (cv >>> ((6 : Int32) &&& 31))).toInt8.toInt32)).set ((av + (1 : Int32))).toNatClampNeg (((128 : Int32) ||| (cv &&& (63 : Int32))).toInt8.toInt32)).map Value.int) (.int 0) by have q := Arv.set Ar5 q5 S5 M5 H5 G5 (fits_nar_byte _) W6 (((av + (1 : Int32))).toNatClampNeg) rfl (by rw [List.length_map, own_clamp (own_add hav (show (1 : Int32).toInt = ((1 : Nat) : Int) from rfl) (by omega))]; (try simp only [List.length_set]); omega); rw [own_lset, own_bb ((128 : Int32) ||| (cv &&& (63 : Int32)))] at q; exact q)
   refine own_st (g' := (mkF m 47 #[vr ba, vi av, vi cv] [])) st6 ?_
   refine own_st (T' := T6) (g' := (mkF m 48 #[vr ba, vi av, vi cv] [(.int 2)])) (fun t k => ?_) ?_
   ·refine XS.iconst X6.here hx rfl (D d2_47) ?_
    exact k
   exact own_retI X6 hx Bd (D d2_48) e6 (⟨by rw [own_enc, if_neg h1, if_pos h2]; rfl, N6, K6, by have q := fw6; rw [own_clamp hav, own_clamp (own_add hav (show (1 : Int32).toInt = ((1 : Nat) : Int) from rfl) (by omega))] at q; rw [own_enc, if_neg h1, if_pos h2]; exact q⟩) (by decide) (by decide)
  ·refine own_st (T' := s₁) (g' := (mkF m 52 #[vr ba, vi av, vi cv] [(.int 65536), (.int cv)])) (fun t k => ?_) ?_
   ·refine XS.icmpYes X0.here hx rfl (pc0 := 18) (pc' := 49) rfl (D d2_18) rfl (flt h2).2.1 (by decide) (by decide) ?_
    refine XS.iloadN X0.here hx rfl (D d2_49) rfl ?_
    refine X0.ldcInt hx hown (om hZ hw 12 rfl) (g := (mkF m 50 #[vr ba, vi av, vi cv] [(.int cv)])) rfl (D d2_50) _ ?_
    exact k
   by_cases h3 : cv < (65536 : Int32)
   ·refine own_st (T' := s₁) (g' := (mkF m 66 #[vr ba, vi av, vi cv] [(.int (((224 : Int32) ||| (cv >>> ((12 : Int32) &&& 31))).toInt8.toInt32)), (.int av), (.ref ba)])) (fun t k => ?_) ?_
    ·refine XS.icmpNo X0.here hx rfl (D d2_52) rfl (tlt h3).2.1 ?_
     refine XS.aloadN X0.here hx rfl (D d2_55) rfl rfl ?_
     refine XS.iloadN X0.here hx rfl (D d2_56) rfl ?_
     refine XS.sipush X0.here hx rfl (D d2_57) ?_
     refine XS.iloadN X0.here hx rfl (D d2_60) rfl ?_
     refine XS.bipush X0.here hx rfl (D d2_61) ?_
     refine XS.ishr X0.here hx rfl (D d2_63) rfl ?_
     refine XS.ior X0.here hx rfl (D d2_64) rfl ?_
     refine XS.i2b X0.here hx rfl (D d2_65) rfl ?_
     exact k
    obtain ⟨cl7, Ar7, q7, S7, M7, H7, G7⟩ := id V_b
    obtain ⟨T8, h8, X8, e8, W8, st8⟩ := stB X0 hx hZ e0 Ar7 (j := av) (inb_of S7 (own_inN hav own_i16 (by omega))) (g := (mkF m 66 #[vr ba, vi av, vi cv] [(.int (((224 : Int32) ||| (cv >>> ((12 : Int32) &&& 31))).toInt8.toInt32)), (.int av), (.ref ba)])) rfl rfl (D d2_66)
    have N8 := Fr.snoc X8 N0 g_b
    have K8 : Keep h0 h8 [ba] := (Keep.refl h0 [ba]).wr W8 (Or.inl (List.mem_of_getElem? (i := 0) rfl))
    have Z8 : n0 ≤ h8.size := Nat.le_trans Z0 (Keep.of_wr W8).1
    have fw8 := (show Arv Z h8 ba kb .byte (16 : Int32) ((bl.set (av).toNatClampNeg (((224 : Int32) ||| (cv >>> ((12 : Int32) &&& 31))).toInt8.toInt32)).map Value.int) (.int 0) by have q := Arv.set Ar7 q7 S7 M7 H7 G7 (fits_nar_byte _) W8 ((av).toNatClampNeg) rfl (by rw [List.length_map, own_clamp hav]; (try simp only [List.length_set]); omega); rw [own_lset, own_bb ((224 : Int32) ||| (cv >>> ((12 : Int32) &&& 31)))] at q; exact q)
    refine own_st (g' := (mkF m 67 #[vr ba, vi av, vi cv] [])) st8 ?_
    refine own_st (T' := T8) (g' := (mkF m 83 #[vr ba, vi av, vi cv] [(.int (((128 : Int32) ||| ((cv >>> ((6 : Int32) &&& 31)) &&& (63 : Int32))).toInt8.toInt32)), (.int (av + (1 : Int32))), (.ref ba)])) (fun t k => ?_) ?_
    ·refine XS.aloadN X8.here hx rfl (D d2_67) rfl rfl ?_
     refine XS.iloadN X8.here hx rfl (D d2_68) rfl ?_
     refine XS.iconst X8.here hx rfl (D d2_69) ?_
     refine XS.iadd X8.here hx rfl (D d2_70) rfl ?_
     refine XS.sipush X8.here hx rfl (D d2_71) ?_
     refine XS.iloadN X8.here hx rfl (D d2_74) rfl ?_
     refine XS.bipush X8.here hx rfl (D d2_75) ?_
     refine XS.ishr X8.here hx rfl (D d2_77) rfl ?_
     refine XS.bipush X8.here hx rfl (D d2_78) ?_
     refine XS.iand X8.here hx rfl (D d2_80) rfl ?_
     refine XS.ior X8.here hx rfl (D d2_81) rfl ?_
     refine XS.i2b X8.here hx rfl (D d2_82) rfl ?_
     exact k
    obtain ⟨cl9, Ar9, q9, S9, M9, H9, G9⟩ := id fw8
    obtain ⟨T10, h10, X10, e10, W10, st10⟩ := stB X8 hx hZ e8 Ar9 (j := (av + (1 : Int32))) (inb_of S9 (own_inN (own_add hav (show (1 : Int32).toInt = ((1 : Nat) : Int) from rfl) (by omega)) own_i16 (by omega))) (g := (mkF m 83 #[vr ba, vi av, vi cv] [(.int (((128 : Int32) ||| ((cv >>> ((6 : Int32) &&& 31)) &&& (63 : Int32))).toInt8.toInt32)), (.int (av + (1 : Int32))), (.ref ba)])) rfl rfl (D d2_83)
    have N10 := Fr.snoc X10 N8 g_b
    have K10 : Keep h0 h10 [ba] := K8.wr W10 (Or.inl (List.mem_of_getElem? (i := 0) rfl))
    have Z10 : n0 ≤ h10.size := Nat.le_trans Z8 (Keep.of_wr W10).1
    have fw10 := (show Arv Z h10 ba kb .byte (16 : Int32) (((bl.set (av).toNatClampNeg (((224 : Int32) ||| (cv >>> ((12 : Int32) &&& 31))).toInt8.toInt32)).set ((av + (1 : Int32))).toNatClampNeg (((128 : Int32) ||| ((cv >>> ((6 : Int32) &&& 31)) &&& (63 : Int32))).toInt8.toInt32)).map Value.int) (.int 0) by have q := Arv.set Ar9 q9 S9 M9 H9 G9 (fits_nar_byte _) W10 (((av + (1 : Int32))).toNatClampNeg) rfl (by rw [List.length_map, own_clamp (own_add hav (show (1 : Int32).toInt = ((1 : Nat) : Int) from rfl) (by omega))]; (try simp only [List.length_set]); omega); rw [own_lset, own_bb ((128 : Int32) ||| ((cv >>> ((6 : Int32) &&& 31)) &&& (63 : Int32)))] at q; exact q)
    refine own_st (g' := (mkF m 84 #[vr ba, vi av, vi cv] [])) st10 ?_
    refine own_st (T' := T10) (g' := (mkF m 97 #[vr ba, vi av, vi cv] [(.int (((128 : Int32) ||| (cv &&& (63 : Int32))).toInt8.toInt32)), (.int (av + (2 : Int32))), (.ref ba)])) (fun t k => ?_) ?_
    ·refine XS.aloadN X10.here hx rfl (D d2_84) rfl rfl ?_
     refine XS.iloadN X10.here hx rfl (D d2_85) rfl ?_
     refine XS.iconst X10.here hx rfl (D d2_86) ?_
     refine XS.iadd X10.here hx rfl (D d2_87) rfl ?_
     refine XS.sipush X10.here hx rfl (D d2_88) ?_
     refine XS.iloadN X10.here hx rfl (D d2_91) rfl ?_
     refine XS.bipush X10.here hx rfl (D d2_92) ?_
     refine XS.iand X10.here hx rfl (D d2_94) rfl ?_
     refine XS.ior X10.here hx rfl (D d2_95) rfl ?_
     refine XS.i2b X10.here hx rfl (D d2_96) rfl ?_
     exact k
    obtain ⟨cl11, Ar11, q11, S11, M11, H11, G11⟩ := id fw10
    obtain ⟨T12, h12, X12, e12, W12, st12⟩ := stB X10 hx hZ e10 Ar11 (j := (av + (2 : Int32))) (inb_of S11 (own_inN (own_add hav (show (2 : Int32).toInt = ((2 : Nat) : Int) from rfl) (by omega)) own_i16 (by omega))) (g := (mkF m 97 #[vr ba, vi av, vi cv] [(.int (((128 : Int32) ||| (cv &&& (63 : Int32))).toInt8.toInt32)), (.int (av + (2 : Int32))), (.ref ba)])) rfl rfl (D d2_97)
    have N12 := Fr.snoc X12 N10 g_b
    have K12 : Keep h0 h12 [ba] := K10.wr W12 (Or.inl (List.mem_of_getElem? (i := 0) rfl))
    have Z12 : n0 ≤ h12.size := Nat.le_trans Z10 (Keep.of_wr W12).1
    have fw12 := (show Arv Z h12 ba kb .byte (16 : Int32) ((((bl.set (av).toNatClampNeg (((224 : Int32) ||| (cv >>> ((12 : Int32) &&& 31))).toInt8.toInt32)).set ((av + (1 : Int32))).toNatClampNeg (((128 : Int32) ||| ((cv >>> ((6 : Int32) &&& 31)) &&& (63 : Int32))).toInt8.toInt32)).set ((av + (2 : Int32))).toNatClampNeg (((128 : Int32) ||| (cv &&& (63 : Int32))).toInt8.toInt32)).map Value.int) (.int 0) by have q := Arv.set Ar11 q11 S11 M11 H11 G11 (fits_nar_byte _) W12 (((av + (2 : Int32))).toNatClampNeg) rfl (by rw [List.length_map, own_clamp (own_add hav (show (2 : Int32).toInt = ((2 : Nat) : Int) from rfl) (by omega))]; (try simp only [List.length_set]); omega); rw [own_lset, own_bb ((128 : Int32) ||| (cv &&& (63 : Int32)))] at q; exact q)
    refine own_st (g' := (mkF m 98 #[vr ba, vi av, vi cv] [])) st12 ?_
    refine own_st (T' := T12) (g' := (mkF m 99 #[vr ba, vi av, vi cv] [(.int 3)])) (fun t k => ?_) ?_
    ·refine XS.iconst X12.here hx rfl (D d2_98) ?_
     exact k
    exact own_retI X12 hx Bd (D d2_99) e12 (⟨by rw [own_enc, if_neg h1, if_neg h2, if_pos h3]; rfl, N12, K12, by have q := fw12; rw [own_clamp hav, own_clamp (own_add hav (show (1 : Int32).toInt = ((1 : Nat) : Int) from rfl) (by omega)), own_clamp (own_add hav (show (2 : Int32).toInt = ((2 : Nat) : Int) from rfl) (by omega))] at q; rw [own_enc, if_neg h1, if_neg h2, if_pos h3]; exact q⟩) (by decide) (by decide)
   ·refine own_st (T' := s₁) (g' := (mkF m 111 #[vr ba, vi av, vi cv] [(.int (((240 : Int32) ||| (cv >>> ((18 : Int32) &&& 31))).toInt8.toInt32)), (.int av), (.ref ba)])) (fun t k => ?_) ?_
    ·refine XS.icmpYes X0.here hx rfl (pc0 := 52) (pc' := 100) rfl (D d2_52) rfl (flt h3).2.1 (by decide) (by decide) ?_
     refine XS.aloadN X0.here hx rfl (D d2_100) rfl rfl ?_
     refine XS.iloadN X0.here hx rfl (D d2_101) rfl ?_
     refine XS.sipush X0.here hx rfl (D d2_102) ?_
     refine XS.iloadN X0.here hx rfl (D d2_105) rfl ?_
     refine XS.bipush X0.here hx rfl (D d2_106) ?_
     refine XS.ishr X0.here hx rfl (D d2_108) rfl ?_
     refine XS.ior X0.here hx rfl (D d2_109) rfl ?_
     refine XS.i2b X0.here hx rfl (D d2_110) rfl ?_
     exact k
    obtain ⟨cl13, Ar13, q13, S13, M13, H13, G13⟩ := id V_b
    obtain ⟨T14, h14, X14, e14, W14, st14⟩ := stB X0 hx hZ e0 Ar13 (j := av) (inb_of S13 (own_inN hav own_i16 (by omega))) (g := (mkF m 111 #[vr ba, vi av, vi cv] [(.int (((240 : Int32) ||| (cv >>> ((18 : Int32) &&& 31))).toInt8.toInt32)), (.int av), (.ref ba)])) rfl rfl (D d2_111)
    have N14 := Fr.snoc X14 N0 g_b
    have K14 : Keep h0 h14 [ba] := (Keep.refl h0 [ba]).wr W14 (Or.inl (List.mem_of_getElem? (i := 0) rfl))
    have Z14 : n0 ≤ h14.size := Nat.le_trans Z0 (Keep.of_wr W14).1
    have fw14 := (show Arv Z h14 ba kb .byte (16 : Int32) ((bl.set (av).toNatClampNeg (((240 : Int32) ||| (cv >>> ((18 : Int32) &&& 31))).toInt8.toInt32)).map Value.int) (.int 0) by have q := Arv.set Ar13 q13 S13 M13 H13 G13 (fits_nar_byte _) W14 ((av).toNatClampNeg) rfl (by rw [List.length_map, own_clamp hav]; (try simp only [List.length_set]); omega); rw [own_lset, own_bb ((240 : Int32) ||| (cv >>> ((18 : Int32) &&& 31)))] at q; exact q)
    refine own_st (g' := (mkF m 112 #[vr ba, vi av, vi cv] [])) st14 ?_
    refine own_st (T' := T14) (g' := (mkF m 128 #[vr ba, vi av, vi cv] [(.int (((128 : Int32) ||| ((cv >>> ((12 : Int32) &&& 31)) &&& (63 : Int32))).toInt8.toInt32)), (.int (av + (1 : Int32))), (.ref ba)])) (fun t k => ?_) ?_
    ·refine XS.aloadN X14.here hx rfl (D d2_112) rfl rfl ?_
     refine XS.iloadN X14.here hx rfl (D d2_113) rfl ?_
     refine XS.iconst X14.here hx rfl (D d2_114) ?_
     refine XS.iadd X14.here hx rfl (D d2_115) rfl ?_
     refine XS.sipush X14.here hx rfl (D d2_116) ?_
     refine XS.iloadN X14.here hx rfl (D d2_119) rfl ?_
     refine XS.bipush X14.here hx rfl (D d2_120) ?_
     refine XS.ishr X14.here hx rfl (D d2_122) rfl ?_
     refine XS.bipush X14.here hx rfl (D d2_123) ?_
     refine XS.iand X14.here hx rfl (D d2_125) rfl ?_
     refine XS.ior X14.here hx rfl (D d2_126) rfl ?_
     refine XS.i2b X14.here hx rfl (D d2_127) rfl ?_
     exact k
    obtain ⟨cl15, Ar15, q15, S15, M15, H15, G15⟩ := id fw14
    obtain ⟨T16, h16, X16, e16, W16, st16⟩ := stB X14 hx hZ e14 Ar15 (j := (av + (1 : Int32))) (inb_of S15 (own_inN (own_add hav (show (1 : Int32).toInt = ((1 : Nat) : Int) from rfl) (by omega)) own_i16 (by omega))) (g := (mkF m 128 #[vr ba, vi av, vi cv] [(.int (((128 : Int32) ||| ((cv >>> ((12 : Int32) &&& 31)) &&& (63 : Int32))).toInt8.toInt32)), (.int (av + (1 : Int32))), (.ref ba)])) rfl rfl (D d2_128)
    have N16 := Fr.snoc X16 N14 g_b
    have K16 : Keep h0 h16 [ba] := K14.wr W16 (Or.inl (List.mem_of_getElem? (i := 0) rfl))
    have Z16 : n0 ≤ h16.size := Nat.le_trans Z14 (Keep.of_wr W16).1
    have fw16 := (show Arv Z h16 ba kb .byte (16 : Int32) (((bl.set (av).toNatClampNeg (((240 : Int32) ||| (cv >>> ((18 : Int32) &&& 31))).toInt8.toInt32)).set ((av + (1 : Int32))).toNatClampNeg (((128 : Int32) ||| ((cv >>> ((12 : Int32) &&& 31)) &&& (63 : Int32))).toInt8.toInt32)).map Value.int) (.int 0) by have q := Arv.set Ar15 q15 S15 M15 H15 G15 (fits_nar_byte _) W16 (((av + (1 : Int32))).toNatClampNeg) rfl (by rw [List.length_map, own_clamp (own_add hav (show (1 : Int32).toInt = ((1 : Nat) : Int) from rfl) (by omega))]; (try simp only [List.length_set]); omega); rw [own_lset, own_bb ((128 : Int32) ||| ((cv >>> ((12 : Int32) &&& 31)) &&& (63 : Int32)))] at q; exact q)
    refine own_st (g' := (mkF m 129 #[vr ba, vi av, vi cv] [])) st16 ?_
    refine own_st (T' := T16) (g' := (mkF m 145 #[vr ba, vi av, vi cv] [(.int (((128 : Int32) ||| ((cv >>> ((6 : Int32) &&& 31)) &&& (63 : Int32))).toInt8.toInt32)), (.int (av + (2 : Int32))), (.ref ba)])) (fun t k => ?_) ?_
    ·refine XS.aloadN X16.here hx rfl (D d2_129) rfl rfl ?_
     refine XS.iloadN X16.here hx rfl (D d2_130) rfl ?_
     refine XS.iconst X16.here hx rfl (D d2_131) ?_
     refine XS.iadd X16.here hx rfl (D d2_132) rfl ?_
     refine XS.sipush X16.here hx rfl (D d2_133) ?_
     refine XS.iloadN X16.here hx rfl (D d2_136) rfl ?_
     refine XS.bipush X16.here hx rfl (D d2_137) ?_
     refine XS.ishr X16.here hx rfl (D d2_139) rfl ?_
     refine XS.bipush X16.here hx rfl (D d2_140) ?_
     refine XS.iand X16.here hx rfl (D d2_142) rfl ?_
     refine XS.ior X16.here hx rfl (D d2_143) rfl ?_
     refine XS.i2b X16.here hx rfl (D d2_144) rfl ?_
     exact k
    obtain ⟨cl17, Ar17, q17, S17, M17, H17, G17⟩ := id fw16
    obtain ⟨T18, h18, X18, e18, W18, st18⟩ := stB X16 hx hZ e16 Ar17 (j := (av + (2 : Int32))) (inb_of S17 (own_inN (own_add hav (show (2 : Int32).toInt = ((2 : Nat) : Int) from rfl) (by omega)) own_i16 (by omega))) (g := (mkF m 145 #[vr ba, vi av, vi cv] [(.int (((128 : Int32) ||| ((cv >>> ((6 : Int32) &&& 31)) &&& (63 : Int32))).toInt8.toInt32)), (.int (av + (2 : Int32))), (.ref ba)])) rfl rfl (D d2_145)
    have N18 := Fr.snoc X18 N16 g_b
    have K18 : Keep h0 h18 [ba] := K16.wr W18 (Or.inl (List.mem_of_getElem? (i := 0) rfl))
    have Z18 : n0 ≤ h18.size := Nat.le_trans Z16 (Keep.of_wr W18).1
    have fw18 := (show Arv Z h18 ba kb .byte (16 : Int32) ((((bl.set (av).toNatClampNeg (((240 : Int32) ||| (cv >>> ((18 : Int32) &&& 31))).toInt8.toInt32)).set ((av + (1 : Int32))).toNatClampNeg (((128 : Int32) ||| ((cv >>> ((12 : Int32) &&& 31)) &&& (63 : Int32))).toInt8.toInt32)).set ((av + (2 : Int32))).toNatClampNeg (((128 : Int32) ||| ((cv >>> ((6 : Int32) &&& 31)) &&& (63 : Int32))).toInt8.toInt32)).map Value.int) (.int 0) by have q := Arv.set Ar17 q17 S17 M17 H17 G17 (fits_nar_byte _) W18 (((av + (2 : Int32))).toNatClampNeg) rfl (by rw [List.length_map, own_clamp (own_add hav (show (2 : Int32).toInt = ((2 : Nat) : Int) from rfl) (by omega))]; (try simp only [List.length_set]); omega); rw [own_lset, own_bb ((128 : Int32) ||| ((cv >>> ((6 : Int32) &&& 31)) &&& (63 : Int32)))] at q; exact q)
    refine own_st (g' := (mkF m 146 #[vr ba, vi av, vi cv] [])) st18 ?_
    refine own_st (T' := T18) (g' := (mkF m 159 #[vr ba, vi av, vi cv] [(.int (((128 : Int32) ||| (cv &&& (63 : Int32))).toInt8.toInt32)), (.int (av + (3 : Int32))), (.ref ba)])) (fun t k => ?_) ?_
    ·refine XS.aloadN X18.here hx rfl (D d2_146) rfl rfl ?_
     refine XS.iloadN X18.here hx rfl (D d2_147) rfl ?_
     refine XS.iconst X18.here hx rfl (D d2_148) ?_
     refine XS.iadd X18.here hx rfl (D d2_149) rfl ?_
     refine XS.sipush X18.here hx rfl (D d2_150) ?_
     refine XS.iloadN X18.here hx rfl (D d2_153) rfl ?_
     refine XS.bipush X18.here hx rfl (D d2_154) ?_
     refine XS.iand X18.here hx rfl (D d2_156) rfl ?_
     refine XS.ior X18.here hx rfl (D d2_157) rfl ?_
     refine XS.i2b X18.here hx rfl (D d2_158) rfl ?_
     exact k
    obtain ⟨cl19, Ar19, q19, S19, M19, H19, G19⟩ := id fw18
    obtain ⟨T20, h20, X20, e20, W20, st20⟩ := stB X18 hx hZ e18 Ar19 (j := (av + (3 : Int32))) (inb_of S19 (own_inN (own_add hav (show (3 : Int32).toInt = ((3 : Nat) : Int) from rfl) (by omega)) own_i16 (by omega))) (g := (mkF m 159 #[vr ba, vi av, vi cv] [(.int (((128 : Int32) ||| (cv &&& (63 : Int32))).toInt8.toInt32)), (.int (av + (3 : Int32))), (.ref ba)])) rfl rfl (D d2_159)
    have N20 := Fr.snoc X20 N18 g_b
    have K20 : Keep h0 h20 [ba] := K18.wr W20 (Or.inl (List.mem_of_getElem? (i := 0) rfl))
    have Z20 : n0 ≤ h20.size := Nat.le_trans Z18 (Keep.of_wr W20).1
    have fw20 := (show Arv Z h20 ba kb .byte (16 : Int32) (((((bl.set (av).toNatClampNeg (((240 : Int32) ||| (cv >>> ((18 : Int32) &&& 31))).toInt8.toInt32)).set ((av + (1 : Int32))).toNatClampNeg (((128 : Int32) ||| ((cv >>> ((12 : Int32) &&& 31)) &&& (63 : Int32))).toInt8.toInt32)).set ((av + (2 : Int32))).toNatClampNeg (((128 : Int32) ||| ((cv >>> ((6 : Int32) &&& 31)) &&& (63 : Int32))).toInt8.toInt32)).set ((av + (3 : Int32))).toNatClampNeg (((128 : Int32) ||| (cv &&& (63 : Int32))).toInt8.toInt32)).map Value.int) (.int 0) by have q := Arv.set Ar19 q19 S19 M19 H19 G19 (fits_nar_byte _) W20 (((av + (3 : Int32))).toNatClampNeg) rfl (by rw [List.length_map, own_clamp (own_add hav (show (3 : Int32).toInt = ((3 : Nat) : Int) from rfl) (by omega))]; (try simp only [List.length_set]); omega); rw [own_lset, own_bb ((128 : Int32) ||| (cv &&& (63 : Int32)))] at q; exact q)
    refine own_st (g' := (mkF m 160 #[vr ba, vi av, vi cv] [])) st20 ?_
    refine own_st (T' := T20) (g' := (mkF m 161 #[vr ba, vi av, vi cv] [(.int 4)])) (fun t k => ?_) ?_
    ·refine XS.iconst X20.here hx rfl (D d2_160) ?_
     exact k
    exact own_retI X20 hx Bd (D d2_161) e20 (⟨by rw [own_enc, if_neg h1, if_neg h2, if_neg h3]; rfl, N20, K20, by have q := fw20; rw [own_clamp hav, own_clamp (own_add hav (show (1 : Int32).toInt = ((1 : Nat) : Int) from rfl) (by omega)), own_clamp (own_add hav (show (2 : Int32).toInt = ((2 : Nat) : Int) from rfl) (by omega)), own_clamp (own_add hav (show (3 : Int32).toInt = ((3 : Nat) : Int) from rfl) (by omega))] at q; rw [own_enc, if_neg h1, if_neg h2, if_neg h3]; exact q⟩) (by decide) (by decide)
def own_r3 : Room := { frames := 0, cells := 0, slots := 0, locals := 0 }
def own_Q3 (Z : State) (ba : Addr) (kb : ClassId) (bl : List Int32) (av cv : Int32) (an : Nat) (h0 : Heap) (n0 : Nat) : Option Value → Heap → List Loc → Prop := fun v h L => v = some (.int (Int32.ofNat (own_chs cv).length)) ∧ Fr n0 L ∧ Keep h0 h [ba] ∧ Arv Z h ba kb .char (4 : Int32) ((own_wrl bl an (own_chs cv)).map Value.int) (.int 0)
theorem own_rm3 (l : Launch) (Z : State) (a0 : Array Value) (hw : own_W a0 Z) (ba : Addr) (kb : ClassId) (bl : List Int32) (av cv : Int32) (an : Nat) (h0 : Heap) (n0 : Nat) (Z0 : n0 ≤ h0.size) (V_b : Arv Z h0 ba kb .char (4 : Int32) (bl.map Value.int) (.int 0)) (g_b : n0 ≤ ba) (hbl : bl.length = 4) (hav : av.toInt = (an : Int)) (han : an + 2 ≤ 4) :
  own_MF l Z own_y42 (Jvm.Cond.code own_y42 method_5_code 4 (some .int)) [] own_r3 #[(.ref ba), (.int av), (.int cv)] h0 (own_Q3 Z ba kb bl av cv an h0 n0) := by
 refine own_open (plainFor_of_name own_pn9) hisR (Ls := #[vr ba, vi av, vi cv, .unset]) ?_
 intro p e s m below meth c s₁ Bd hZ hx hby hml hown X0 e0
 have N0 := Fr.nil n0
 have D := @hb _ _ hby
 refine own_st (T' := s₁) (g' := (mkF m 3 #[vr ba, vi av, vi cv, .unset] [(.int 65536), (.int cv)])) (fun t k => ?_) ?_
 ·refine XS.iloadN X0.here hx rfl (D d3_0) rfl ?_
  refine X0.ldcInt hx hown (om hZ hw 12 rfl) (g := (mkF m 1 #[vr ba, vi av, vi cv, .unset] [(.int cv)])) rfl (D d3_1) _ ?_
  exact k
 by_cases h1 : cv < (65536 : Int32)
 ·refine own_st (T' := s₁) (g' := (mkF m 10 #[vr ba, vi av, vi cv, .unset] [(.int (cv.toUInt32.toUInt16.toUInt32.toInt32)), (.int av), (.ref ba)])) (fun t k => ?_) ?_
  ·refine XS.icmpNo X0.here hx rfl (D d3_3) rfl (tlt h1).2.1 ?_
   refine XS.aloadN X0.here hx rfl (D d3_6) rfl rfl ?_
   refine XS.iloadN X0.here hx rfl (D d3_7) rfl ?_
   refine XS.iloadN X0.here hx rfl (D d3_8) rfl ?_
   refine XS.i2c X0.here hx rfl (D d3_9) rfl ?_
   exact k
  obtain ⟨cl1, Ar1, q1, S1, M1, H1, G1⟩ := id V_b
  obtain ⟨T2, h2, X2, e2, W2, st2⟩ := stC X0 hx hZ e0 Ar1 (j := av) (inb_of S1 (own_inN hav own_i4 (by omega))) (g := (mkF m 10 #[vr ba, vi av, vi cv, .unset] [(.int (cv.toUInt32.toUInt16.toUInt32.toInt32)), (.int av), (.ref ba)])) rfl rfl (D d3_10)
  have N2 := Fr.snoc X2 N0 g_b
  have K2 : Keep h0 h2 [ba] := (Keep.refl h0 [ba]).wr W2 (Or.inl (List.mem_of_getElem? (i := 0) rfl))
  have Z2 : n0 ≤ h2.size := Nat.le_trans Z0 (Keep.of_wr W2).1
  have fw2 := (show Arv Z h2 ba kb .char (4 : Int32) ((bl.set (av).toNatClampNeg (cv.toUInt32.toUInt16.toUInt32.toInt32)).map Value.int) (.int 0) by have q := Arv.set Ar1 q1 S1 M1 H1 G1 (fits_nar_char _) W2 ((av).toNatClampNeg) rfl (by rw [List.length_map, own_clamp hav]; (try simp only [List.length_set]); omega); rw [own_lset, own_ccn cv] at q; exact q)
  refine own_st (g' := (mkF m 11 #[vr ba, vi av, vi cv, .unset] [])) st2 ?_
  refine own_st (T' := T2) (g' := (mkF m 12 #[vr ba, vi av, vi cv, .unset] [(.int 1)])) (fun t k => ?_) ?_
  ·refine XS.iconst X2.here hx rfl (D d3_11) ?_
   exact k
  exact own_retI X2 hx Bd (D d3_12) e2 (⟨by rw [own_chs, if_pos h1]; rfl, N2, K2, by have q := fw2; rw [own_clamp hav] at q; rw [own_chs, if_pos h1]; exact q⟩) (by decide) (by decide)
 ·refine own_st (T' := s₁) (g' := (mkF m 28 #[vr ba, vi av, vi cv, vi (cv - (65536 : Int32))] [(.int (((55296 : Int32) + ((cv - (65536 : Int32)) >>> ((10 : Int32) &&& 31))).toUInt32.toUInt16.toUInt32.toInt32)), (.int av), (.ref ba)])) (fun t k => ?_) ?_
  ·refine XS.icmpYes X0.here hx rfl (pc0 := 3) (pc' := 13) rfl (D d3_3) rfl (flt h1).2.1 (by decide) (by decide) ?_
   refine XS.iloadN X0.here hx rfl (D d3_13) rfl ?_
   refine X0.ldcInt hx hown (om hZ hw 12 rfl) (g := (mkF m 14 #[vr ba, vi av, vi cv, .unset] [(.int cv)])) rfl (D d3_14) _ ?_
   refine XS.isub X0.here hx rfl (D d3_16) rfl ?_
   refine XS.istoreN X0.here hx rfl (D d3_17) rfl (l' := #[vr ba, vi av, vi cv, vi (cv - (65536 : Int32))]) rfl ?_
   refine XS.aloadN X0.here hx rfl (D d3_18) rfl rfl ?_
   refine XS.iloadN X0.here hx rfl (D d3_19) rfl ?_
   refine X0.ldcInt hx hown (om hZ hw 186 rfl) (g := (mkF m 20 #[vr ba, vi av, vi cv, vi (cv - (65536 : Int32))] [(.int av), (.ref ba)])) rfl (D d3_20) _ ?_
   refine XS.iloadN X0.here hx rfl (D d3_22) rfl ?_
   refine XS.bipush X0.here hx rfl (D d3_23) ?_
   refine XS.ishr X0.here hx rfl (D d3_25) rfl ?_
   refine XS.iadd X0.here hx rfl (D d3_26) rfl ?_
   refine XS.i2c X0.here hx rfl (D d3_27) rfl ?_
   exact k
  obtain ⟨cl3, Ar3, q3, S3, M3, H3, G3⟩ := id V_b
  obtain ⟨T4, h4, X4, e4, W4, st4⟩ := stC X0 hx hZ e0 Ar3 (j := av) (inb_of S3 (own_inN hav own_i4 (by omega))) (g := (mkF m 28 #[vr ba, vi av, vi cv, vi (cv - (65536 : Int32))] [(.int (((55296 : Int32) + ((cv - (65536 : Int32)) >>> ((10 : Int32) &&& 31))).toUInt32.toUInt16.toUInt32.toInt32)), (.int av), (.ref ba)])) rfl rfl (D d3_28)
  have N4 := Fr.snoc X4 N0 g_b
  have K4 : Keep h0 h4 [ba] := (Keep.refl h0 [ba]).wr W4 (Or.inl (List.mem_of_getElem? (i := 0) rfl))
  have Z4 : n0 ≤ h4.size := Nat.le_trans Z0 (Keep.of_wr W4).1
  have fw4 := (show Arv Z h4 ba kb .char (4 : Int32) ((bl.set (av).toNatClampNeg (((55296 : Int32) + ((cv - (65536 : Int32)) >>> ((10 : Int32) &&& 31))).toUInt32.toUInt16.toUInt32.toInt32)).map Value.int) (.int 0) by have q := Arv.set Ar3 q3 S3 M3 H3 G3 (fits_nar_char _) W4 ((av).toNatClampNeg) rfl (by rw [List.length_map, own_clamp hav]; (try simp only [List.length_set]); omega); rw [own_lset, own_ccn ((55296 : Int32) + ((cv - (65536 : Int32)) >>> ((10 : Int32) &&& 31)))] at q; exact q)
  refine own_st (g' := (mkF m 29 #[vr ba, vi av, vi cv, vi (cv - (65536 : Int32))] [])) st4 ?_
  refine own_st (T' := T4) (g' := (mkF m 42 #[vr ba, vi av, vi cv, vi (cv - (65536 : Int32))] [(.int (((56320 : Int32) + ((cv - (65536 : Int32)) &&& (1023 : Int32))).toUInt32.toUInt16.toUInt32.toInt32)), (.int (av + (1 : Int32))), (.ref ba)])) (fun t k => ?_) ?_
  ·refine XS.aloadN X4.here hx rfl (D d3_29) rfl rfl ?_
   refine XS.iloadN X4.here hx rfl (D d3_30) rfl ?_
   refine XS.iconst X4.here hx rfl (D d3_31) ?_
   refine XS.iadd X4.here hx rfl (D d3_32) rfl ?_
   refine X4.ldcInt hx hown (om hZ hw 187 rfl) (g := (mkF m 33 #[vr ba, vi av, vi cv, vi (cv - (65536 : Int32))] [(.int (av + (1 : Int32))), (.ref ba)])) rfl (D d3_33) _ ?_
   refine XS.iloadN X4.here hx rfl (D d3_35) rfl ?_
   refine XS.sipush X4.here hx rfl (D d3_36) ?_
   refine XS.iand X4.here hx rfl (D d3_39) rfl ?_
   refine XS.iadd X4.here hx rfl (D d3_40) rfl ?_
   refine XS.i2c X4.here hx rfl (D d3_41) rfl ?_
   exact k
  obtain ⟨cl5, Ar5, q5, S5, M5, H5, G5⟩ := id fw4
  obtain ⟨T6, h6, X6, e6, W6, st6⟩ := stC X4 hx hZ e4 Ar5 (j := (av + (1 : Int32))) (inb_of S5 (own_inN (own_add hav (show (1 : Int32).toInt = ((1 : Nat) : Int) from rfl) (by omega)) own_i4 (by omega))) (g := (mkF m 42 #[vr ba, vi av, vi cv, vi (cv - (65536 : Int32))] [(.int (((56320 : Int32) + ((cv - (65536 : Int32)) &&& (1023 : Int32))).toUInt32.toUInt16.toUInt32.toInt32)), (.int (av + (1 : Int32))), (.ref ba)])) rfl rfl (D d3_42)
  have N6 := Fr.snoc X6 N4 g_b
  have K6 : Keep h0 h6 [ba] := K4.wr W6 (Or.inl (List.mem_of_getElem? (i := 0) rfl))
  have Z6 : n0 ≤ h6.size := Nat.le_trans Z4 (Keep.of_wr W6).1
  have fw6 := (show Arv Z h6 ba kb .char (4 : Int32) (((bl.set (av).toNatClampNeg (((55296 : Int32) + ((cv - (65536 : Int32)) >>> ((10 : Int32) &&& 31))).toUInt32.toUInt16.toUInt32.toInt32)).set ((av + (1 : Int32))).toNatClampNeg (((56320 : Int32) + ((cv - (65536 : Int32)) &&& (1023 : Int32))).toUInt32.toUInt16.toUInt32.toInt32)).map Value.int) (.int 0) by have q := Arv.set Ar5 q5 S5 M5 H5 G5 (fits_nar_char _) W6 (((av + (1 : Int32))).toNatClampNeg) rfl (by rw [List.length_map, own_clamp (own_add hav (show (1 : Int32).toInt = ((1 : Nat) : Int) from rfl) (by omega))]; (try simp only [List.length_set]); omega); rw [own_lset, own_ccn ((56320 : Int32) + ((cv - (65536 : Int32)) &&& (1023 : Int32)))] at q; exact q)
  refine own_st (g' := (mkF m 43 #[vr ba, vi av, vi cv, vi (cv - (65536 : Int32))] [])) st6 ?_
  refine own_st (T' := T6) (g' := (mkF m 44 #[vr ba, vi av, vi cv, vi (cv - (65536 : Int32))] [(.int 2)])) (fun t k => ?_) ?_
  ·refine XS.iconst X6.here hx rfl (D d3_43) ?_
   exact k
  exact own_retI X6 hx Bd (D d3_44) e6 (⟨by rw [own_chs, if_neg h1]; rfl, N6, K6, by have q := fw6; rw [own_clamp hav, own_clamp (own_add hav (show (1 : Int32).toInt = ((1 : Nat) : Int) from rfl) (by omega))] at q; rw [own_chs, if_neg h1]; exact q⟩) (by decide) (by decide)
def own_r11z : Room := { frames := 1, cells := 2, slots := 4, locals := 12 }
theorem own_ef11z (m : MethodId) (x0 : Addr) (x1 : Addr) (x2 : Addr) (x3 : Int32) : entryFrame m #[(.ref x0), (.ref x1), (.ref x2), (.int x3), (.int 0)] 11 = mkF m 0 #[vr x0, vr x1, vr x2, vi x3, vi 0, .unset, .unset, .unset, .unset, .unset, .unset] [] := by first | (simp [entryFrame, mkF, argsToLocals, Value.category]; done) | rfl
def own_Q11z (Z : State) (b arr : Addr) (st : Int32) (cs : Int32) (fm : Value) (u8 : Addr) (h0 : Heap) (n0 : Nat) : Option Value → Heap → List Loc → Prop := fun v h L => ∃ t k, v = none ∧ Fr n0 L ∧ Keep h0 h [b] ∧ Fld Z h b "java/lang/String" "value" "[B" (.ref t) ∧ Fld Z h b "java/lang/String" "coder" "B" (.int 0) ∧ Arv Z h t k .byte (0 : Int32) (([] : List Int32).map Value.int) (.int 0)
theorem own_rm11z (l : Launch) (Z : State) (a0 : Array Value) (hw : own_W a0 Z) (b arr : Addr) (st : Int32) (cs : Int32) (fm : Value) (u8 : Addr) (h0 : Heap) (n0 : Nat) (Z0 : n0 ≤ h0.size) (O0 : Old Z n0 h0) (E_b : Exa Z h0 b "java/lang/String") (F_v : Fld Z h0 b "java/lang/String" "value" "[B" .null) (F_c : Fld Z h0 b "java/lang/String" "coder" "B" (.int 0)) (g_b : n0 ≤ b) (HB : own_BB Z cs fm u8) :
  MetFree l own_y29 (head1 (Jvm.Cond.codeWith own_y29 jdk_42_method_11_code 11 none [((800 : Nat), (813 : Nat), (816 : Nat), (202 : Nat))] :: []) own_r11z) (fun a_ U_ => a_ = #[(.ref b), (.ref u8), (.ref arr), (.int st), (.int 0)] ∧ Z.Warmed39 U_.vm ∧ U_.heap = h0 ∧ CHv Z consts_1 U_.vm h0) (fun _ _ _ _ _ => True) (fun _ U_ o_ U'_ => ∃ v_ L_, o_ = .returned v_ ∧ own_Q11z Z b arr st cs fm u8 h0 n0 v_ U'_.heap L_ ∧ ReturnedEndW U_ o_ U'_ L_ own_r11z.cells own_r11z.slots) := by
 refine MetFree.of_bodySF (plainFor_of_name own_pn1) hisWith ?_
 intro p e s m args below meth c s₁ Bd hml0 hP hK
 obtain ⟨rfl, hZ, hh, H0⟩ := hP
 have hx := Bd.exec
 have hby := Bd.bytes
 have hml : c.maxLocals = 11 := hml0
 have hown : s.vm.findClass "java/lang/String" = some m.cls := findClass_of_methodNamed Bd.named
 have hnm := (name_of_methodNamed Bd.named Bd.method).1
 have X0 : Stand p l e own_r11z s m #[(.ref b), (.ref u8), (.ref arr), (.int st), (.int 0)] below meth c s₁ [] 0 0 := Stand.of_body Bd
 obtain ⟨v0, X0, hS0, hZ0, ho0, H0⟩ : ∃ v0, Stand p l e own_r11z (s.setVm v0) m #[(.ref b), (.ref u8), (.ref arr), (.int st), (.int 0)] below meth c s₁ [] 0 0 ∧ s.Since v0 h0.size ∧ Z.Warmed39 (s.setVm v0).vm ∧ (s.setVm v0).vm.findClass "java/lang/String" = some m.cls ∧ CHv Z consts_1 v0 h0 := ⟨s.vm, X0, (State.WarmedH.refl s).since _, hZ, hown, H0⟩
 have hstr : ∀ d ∈ Bundle.stringAtoms, d.before a0 Z = true := fun d hd => hw d (own_sa d hd)
 have e0 : s₁.heap = h0 := by rw [← hh, Bd.state]; rfl
 have N0 := Fr.nil n0
 have D := @hb _ _ hby
 refine own_in (own_ef11z m b u8 arr st) ?_
 show own_Go p e below (own_KW s (own_Q11z Z b arr st cs fm u8 h0 n0) own_r11z.cells own_r11z.slots) s₁ (mkF m 0 #[vr b, vr u8, vr arr, vi st, vi 0, .unset, .unset, .unset, .unset, .unset, .unset] [])
 have hEL : EW Z a0 consts_1 := EW.cons (text := "") (own_w hw 182 rfl) (by decide) EW.nil
 refine own_st (T' := s₁) (g' := (mkF m 1 #[vr b, vr u8, vr arr, vi st, vi 0, .unset, .unset, .unset, .unset, .unset, .unset] [(.ref b)])) (fun t k => ?_) ?_
 ·refine XS.aloadN X0.here hx rfl (D d11_0) rfl rfl ?_
  exact k
 obtain ⟨T1, X1, e1, st1⟩ := initO X0 hx hZ0 ho0 (own_w hw 69 rfl) (own_w hw 21 rfl) (own_w hw 22 rfl) e0 (g := (mkF m 1 #[vr b, vr u8, vr arr, vi st, vi 0, .unset, .unset, .unset, .unset, .unset, .unset] [(.ref b)])) rfl (by rw [hml]; rfl) rfl (D d11_1) (by decide) (W := 0) own_w0 (by decide)
 refine own_st (g' := (mkF m 4 #[vr b, vr u8, vr arr, vi st, vi 0, .unset, .unset, .unset, .unset, .unset, .unset] [])) st1 ?_
 refine own_st (T' := T1) (g' := (mkF m 10 #[vr b, vr u8, vr arr, vi st, vi 0, .unset, .unset, .unset, .unset, .unset, .unset] [(.ref b)])) (fun t k => ?_) ?_
 ·refine XS.iload X1.here hx rfl (D d11_4) rfl ?_
  refine XS.ifNo X1.here hx rfl (D d11_6) rfl ((if0 _ _).trans (teq (rfl : (0 : Int32) = (0 : Int32))).2) ?_
  refine XS.aloadN X1.here hx rfl (D d11_9) rfl rfl ?_
  exact k
 obtain ⟨a2, T2, h2, j2, y2, k2, X2, e2, E2, hS2, hj2, hZ2, ho2, Ea2, Fc2, Fv2, Va2, -, -, -, Lt2, -, st2⟩ := ldcCH X1 hx hZ0 ho0 (own_w hw 182 rfl) hstr e1 hS0 (Nat.le_refl _) hEL (List.mem_of_getElem? (i := 0) rfl) H0 (vs := []) (z := (0 : Int32)) own_ht7 (by decide) rfl (g := (mkF m 10 #[vr b, vr u8, vr arr, vi st, vi 0, .unset, .unset, .unset, .unset, .unset, .unset] [(.ref b)])) rfl (D d11_10) (n := 0) (by decide) (by decide) (by decide) (by decide)
 obtain ⟨v2, hv2⟩ : ∃ z, z = T2.vm := ⟨_, rfl⟩
 rw [← hv2] at X2 hS2 hZ2 ho2 Lt2
 have K2 : Keep h0 h2 [b] := (Keep.refl h0 [b]).ext E2
 have Z2 : n0 ≤ h2.size := Nat.le_trans Z0 E2.1
 have O2 := O0.ext E2
 have f3 := F_v.ext E2
 have nab : b ≠ a2 := Fld.ne f3 Fv2 nofun
 have f4 := E_b.ext E2
 have nyb : b ≠ y2 := Exa.neArv f4 Va2 (own_w hw 41 rfl)
 refine own_st (g' := (mkF m 12 #[vr b, vr u8, vr arr, vi st, vi 0, .unset, .unset, .unset, .unset, .unset, .unset] [(.ref a2), (.ref b)])) st2 ?_
 obtain ⟨T5, X5, e5, st5⟩ := getF X2 hx hZ2 ho2 (host := "") (Or.inl (own_w hw 143 rfl)) Via.refl e2 Fv2 (g := (mkF m 12 #[vr b, vr u8, vr arr, vi st, vi 0, .unset, .unset, .unset, .unset, .unset, .unset] [(.ref a2), (.ref b)])) rfl rfl (D d11_12)
 refine own_st (g' := (mkF m 15 #[vr b, vr u8, vr arr, vi st, vi 0, .unset, .unset, .unset, .unset, .unset, .unset] [(.ref y2), (.ref b)])) st5 ?_
 obtain ⟨T6, h6, X6, e6, W6, st6⟩ := putF X5 hx hZ2 ho2 (host := "") (Or.inl (own_w hw 143 rfl)) Via.refl e5 f3 f4 (Or.inr ⟨(own_w hw 144 rfl), rfl, hnm⟩) (own_w hw 41 rfl) (ty := (.array .byte)) (by decide) rfl rfl (g := (mkF m 15 #[vr b, vr u8, vr arr, vi st, vi 0, .unset, .unset, .unset, .unset, .unset, .unset] [(.ref y2), (.ref b)])) rfl rfl (D d11_15)
 have N6 := Fr.snoc X6 N0 g_b
 have K6 : Keep h0 h6 [b] := K2.wr W6 (Or.inl (List.mem_of_getElem? (i := 0) rfl))
 have Z6 : n0 ≤ h6.size := Nat.le_trans Z2 (Keep.of_wr W6).1
 have O6 := O2.wr W6 g_b
 have hk6 := Nat.le_trans hj2 (Keep.of_wr W6).1
 have fw6 := (f3.same W6)
 refine own_st (g' := (mkF m 18 #[vr b, vr u8, vr arr, vi st, vi 0, .unset, .unset, .unset, .unset, .unset, .unset] [])) st6 ?_
 refine own_st (T' := T6) (g' := (mkF m 19 #[vr b, vr u8, vr arr, vi st, vi 0, .unset, .unset, .unset, .unset, .unset, .unset] [(.ref b)])) (fun t k => ?_) ?_
 ·refine XS.aloadN X6.here hx rfl (D d11_18) rfl rfl ?_
  exact k
 refine own_st (T' := T6) (g' := (mkF m 21 #[vr b, vr u8, vr arr, vi st, vi 0, .unset, .unset, .unset, .unset, .unset, .unset] [(.ref a2), (.ref b)])) (fun t k => ?_) ?_
 ·refine ldcAgain X6 hx hZ2 ho2 (own_w hw 182 rfl) Lt2 (g := (mkF m 19 #[vr b, vr u8, vr arr, vi st, vi 0, .unset, .unset, .unset, .unset, .unset, .unset] [(.ref b)])) rfl (D d11_19) _ ?_
  exact k
 have f7 := Fc2.other W6 (Or.inl (Ne.symm nab))
 obtain ⟨T8, X8, e8, st8⟩ := getF X6 hx hZ2 ho2 (host := "") (Or.inl (own_w hw 145 rfl)) Via.refl e6 f7 (g := (mkF m 21 #[vr b, vr u8, vr arr, vi st, vi 0, .unset, .unset, .unset, .unset, .unset, .unset] [(.ref a2), (.ref b)])) rfl rfl (D d11_21)
 refine own_st (g' := (mkF m 24 #[vr b, vr u8, vr arr, vi st, vi 0, .unset, .unset, .unset, .unset, .unset, .unset] [(.int 0), (.ref b)])) st8 ?_
 have f9 := (F_c.ext E2).other W6 (Or.inr (slot_ne (Or.inr (own_w hw 146 rfl)) (Or.inr (own_w hw 144 rfl)) (by decide) (t := .byte) (t' := (.array .byte)) (by decide) (by decide)))
 have f10 := f4.wr W6
 obtain ⟨T11, h11, X11, e11, W11, st11⟩ := putFN X8 hx hZ2 ho2 (own_w hw 145 rfl) Via.refl e8 f9 f10 (Or.inr ⟨(own_w hw 146 rfl), rfl, hnm⟩) (own_w hw 41 rfl) (ty := .byte) (v' := (.int 0)) (by decide) rfl rfl (g := (mkF m 24 #[vr b, vr u8, vr arr, vi st, vi 0, .unset, .unset, .unset, .unset, .unset, .unset] [(.int 0), (.ref b)])) rfl rfl (D d11_24)
 have N11 := Fr.snoc X11 N6 g_b
 have K11 : Keep h0 h11 [b] := K6.wr W11 (Or.inl (List.mem_of_getElem? (i := 0) rfl))
 have Z11 : n0 ≤ h11.size := Nat.le_trans Z6 (Keep.of_wr W11).1
 have O11 := O6.wr W11 g_b
 have hk11 := Nat.le_trans hk6 (Keep.of_wr W11).1
 have fw11 := (f9.same W11)
 refine own_st (g' := (mkF m 27 #[vr b, vr u8, vr arr, vi st, vi 0, .unset, .unset, .unset, .unset, .unset, .unset] [])) st11 ?_
 have f12 := fw6.other W11 (Or.inr (slot_ne (Or.inr (own_w hw 144 rfl)) (Or.inr (own_w hw 146 rfl)) (by decide) (t := (.array .byte)) (t' := .byte) (by decide) (by decide)))
 have f13 := (Va2.other W6 (Ne.symm nyb)).other W11 (Ne.symm nyb)
 refine own_st (T' := T11) (g' := (mkF m 879 #[vr b, vr u8, vr arr, vi st, vi 0, .unset, .unset, .unset, .unset, .unset, .unset] [])) (fun t k => ?_) ?_
 ·refine XS.goto X11.here hx rfl (pc0 := 27) (pc' := 879) rfl (D d11_27) (by decide) (by decide) ?_
  exact k
 exact own_retVW X11 hx Bd (D d11_879) e11 (⟨y2, k2, rfl, N11, K11, f12, fw11, f13⟩) hS2 hk11 (by decide) (by decide)
def own_r7z : Room := { frames := 2, cells := 2, slots := 4, locals := 34 }
theorem own_ef7z (m : MethodId) (x0 : Addr) (x1 : Addr) (x2 : Int32) (x4 : Addr) : entryFrame m #[(.ref x0), (.ref x1), (.int x2), (.int 0), (.ref x4)] 5 = mkF m 0 #[vr x0, vr x1, vi x2, vi 0, vr x4] [] := by first | (simp [entryFrame, mkF, argsToLocals, Value.category]; done) | rfl
def own_Q7z (Z : State) (b : Addr) (arr : Addr) (ka : ClassId) (bl : List Int32) (st : Int32) (pn : Nat) (cs : Int32) (fm : Value) (u8 : Addr) (h0 : Heap) (n0 : Nat) : Option Value → Heap → List Loc → Prop := fun v h L => ∃ t k, v = none ∧ Fr n0 L ∧ Keep h0 h [b] ∧ Fld Z h b "java/lang/String" "value" "[B" (.ref t) ∧ Fld Z h b "java/lang/String" "coder" "B" (.int 0) ∧ Arv Z h t k .byte (0 : Int32) (([] : List Int32).map Value.int) (.int 0)
theorem own_rm7z (l : Launch) (Z : State) (a0 : Array Value) (hw : own_W a0 Z) (b : Addr) (arr : Addr) (ka : ClassId) (bl : List Int32) (st : Int32) (pn : Nat) (cs : Int32) (fm : Value) (u8 : Addr) (h0 : Heap) (n0 : Nat) (Z0 : n0 ≤ h0.size) (O0 : Old Z n0 h0) (E_b : Exa Z h0 b "java/lang/String") (F_v : Fld Z h0 b "java/lang/String" "value" "[B" .null) (F_c : Fld Z h0 b "java/lang/String" "coder" "B" (.int 0)) (g_b : n0 ≤ b) (V_a : Arv Z h0 arr ka .byte (16 : Int32) (bl.map Value.int) (.int 0)) (hst : st.toInt = (pn : Int)) (hp3 : pn ≤ 3) (nba : b ≠ arr) (HB : own_BB Z cs fm u8) :
  MetFree l own_y30 (head1 (Jvm.Cond.code own_y30 jdk_42_method_10_code 5 none :: []) own_r7z) (fun a_ U_ => a_ = #[(.ref b), (.ref arr), (.int st), (.int 0), (.ref u8)] ∧ Z.Warmed39 U_.vm ∧ U_.heap = h0 ∧ CHv Z consts_1 U_.vm h0) (fun _ _ _ _ _ => True) (fun _ U_ o_ U'_ => ∃ v_ L_, o_ = .returned v_ ∧ own_Q7z Z b arr ka bl st pn cs fm u8 h0 n0 v_ U'_.heap L_ ∧ ReturnedEndW U_ o_ U'_ L_ own_r7z.cells own_r7z.slots) := by
 refine MetFree.of_bodySF (plainFor_of_name own_pn1) hisR ?_
 intro p e s m args below meth c s₁ Bd hml0 hP hK
 obtain ⟨rfl, hZ, hh, H0⟩ := hP
 obtain ⟨-, -, -, -, -, -, -, -, -, E_u8⟩ := id HB
 have hx := Bd.exec
 have hby := Bd.bytes
 have hml : c.maxLocals = 5 := hml0
 have hown : s.vm.findClass "java/lang/String" = some m.cls := findClass_of_methodNamed Bd.named
 have hnm := (name_of_methodNamed Bd.named Bd.method).1
 have X0 : Stand p l e own_r7z s m #[(.ref b), (.ref arr), (.int st), (.int 0), (.ref u8)] below meth c s₁ [] 0 0 := Stand.of_body Bd
 obtain ⟨v0, X0, hS0, hZ0, ho0, H0⟩ : ∃ v0, Stand p l e own_r7z (s.setVm v0) m #[(.ref b), (.ref arr), (.int st), (.int 0), (.ref u8)] below meth c s₁ [] 0 0 ∧ s.Since v0 h0.size ∧ Z.Warmed39 (s.setVm v0).vm ∧ (s.setVm v0).vm.findClass "java/lang/String" = some m.cls ∧ CHv Z consts_1 v0 h0 := ⟨s.vm, X0, (State.WarmedH.refl s).since _, hZ, hown, H0⟩
 have hstr : ∀ d ∈ Bundle.stringAtoms, d.before a0 Z = true := fun d hd => hw d (own_sa d hd)
 have e0 : s₁.heap = h0 := by rw [← hh, Bd.state]; rfl
 have N0 := Fr.nil n0
 have D := @hb _ _ hby
 refine own_in (own_ef7z m b arr st u8) ?_
 show own_Go p e below (own_KW s (own_Q7z Z b arr ka bl st pn cs fm u8 h0 n0) own_r7z.cells own_r7z.slots) s₁ (mkF m 0 #[vr b, vr arr, vi st, vi 0, vr u8] [])
 have hEL : EW Z a0 consts_1 := EW.cons (text := "") (own_w hw 182 rfl) (by decide) EW.nil
 refine own_st (T' := s₁) (g' := (mkF m 3 #[vr b, vr arr, vi st, vi 0, vr u8] [(.ref u8), (.ref b)])) (fun t k => ?_) ?_
 ·refine XS.aloadN X0.here hx rfl (D d7_0) rfl rfl ?_
  refine XS.aload X0.here hx rfl (D d7_1) rfl rfl ?_
  exact k
 obtain ⟨_, _, ⟨T1, L1, c1, n1⟩, -, X1, ⟨Lc1, hQ1, l1, y1, z1⟩, st1⟩ := Jvm.LawKit.callS X0 hx (y := own_y2) ho0 (mvT hZ0 (own_w hw 51 rfl)) (mvT hZ0 (own_w hw 52 rfl)) (mvT hZ0 (own_w hw 53 rfl)) (mvT hZ0 (own_w hw 54 rfl)) (by decide) (backOf (W := 1) (own_rm8 l Z a0 hw u8 cs fm u8 h0 n0 Z0 O0 HB) hZ0 (own_w hw 54 rfl) (own_w hw 53 rfl) (by decide) (by decide)) (g := (mkF m 3 #[vr b, vr arr, vi st, vi 0, vr u8] [(.ref u8), (.ref b)])) rfl (by rw [hml]; rfl) (argsL := [(.ref u8)]) (rest := [(.ref b)]) (lenOf own_pd22 rfl) rfl own_w0 (D d7_3) (fun _ _ => ⟨rfl, e0, (by decide : 0 + 0 ≤ _), (by decide : 0 + 0 ≤ _)⟩)
 dsimp only [Pt.U, Pt.locs, Pt.cells, Pt.slots] at X1 l1 y1 z1 st1 hQ1
 subst l1 y1 z1
 obtain ⟨rfl, N1q, e1⟩ := hQ1
 have N1 := Fr.app N0 N1q
 refine own_st (g' := (mkF m 6 #[vr b, vr arr, vi st, vi 0, vr u8] [(.ref u8), (.ref b)])) st1 ?_
 have f2 := E_u8.ext O0.2
 obtain ⟨T3, X3, e3, st3⟩ := castY X1 hx hZ0 ho0 (own_w hw 55 rfl) e1 (Ins.of_exa f2 (own_w hw 56 rfl)) (g := (mkF m 6 #[vr b, vr arr, vi st, vi 0, vr u8] [(.ref u8), (.ref b)])) rfl rfl (D d7_6)
 refine own_st (g' := (mkF m 9 #[vr b, vr arr, vi st, vi 0, vr u8] [(.ref u8), (.ref b)])) st3 ?_
 refine own_st (T' := T3) (g' := (mkF m 13 #[vr b, vr arr, vi st, vi 0, vr u8] [(.ref arr), (.int 0), (.int st), (.ref arr), (.ref u8), (.ref b)])) (fun t k => ?_) ?_
 ·refine XS.aloadN X3.here hx rfl (D d7_9) rfl rfl ?_
  refine XS.iloadN X3.here hx rfl (D d7_10) rfl ?_
  refine XS.iloadN X3.here hx rfl (D d7_11) rfl ?_
  refine XS.aloadN X3.here hx rfl (D d7_12) rfl rfl ?_
  exact k
 obtain ⟨cl4, Ar4, q4, S4, M4, H4, G4⟩ := id V_a
 refine own_st (T' := T3) (g' := (mkF m 14 #[vr b, vr arr, vi st, vi 0, vr u8] [(.int 16), (.int 0), (.int st), (.ref arr), (.ref u8), (.ref b)])) (fun t k => ?_) ?_
 ·refine X3.arraylength hx (by rw [e3]; exact Ar4.1) (State.isArrayOf_alike hZ0.alike Ar4.2.1) (g := (mkF m 13 #[vr b, vr arr, vi st, vi 0, vr u8] [(.ref arr), (.int 0), (.int st), (.ref arr), (.ref u8), (.ref b)])) rfl rfl (D d7_13) _ ?_
  rw [len_of S4 M4]
  exact k
 obtain ⟨_, _, ⟨T5, L5, c5, n5⟩, -, X5, ⟨Lc5, hQ5, l5, y5, z5⟩, st5⟩ := Jvm.LawKit.callS X3 hx (y := own_y4) ho0 (mvT hZ0 (own_w hw 57 rfl)) (mvT hZ0 (own_w hw 58 rfl)) (mvT hZ0 (own_w hw 42 rfl)) (mvT hZ0 (own_w hw 59 rfl)) (by decide) (backOf (W := 3) (own_rm9 l Z a0 hw st (0 : Int32) (16 : Int32) cs fm u8 h0 n0 Z0 O0 (own_hq1 (by decide) (own_nn hst) (by decide)) (fun q => absurd ((own_ltN (own_subN own_i16 hst (by omega)) (show (0 : Int32).toInt = ((0 : Nat) : Int) from rfl)).mp q) (by omega)) HB) hZ0 (own_w hw 59 rfl) (own_w hw 42 rfl) (by decide) (by decide)) (g := (mkF m 14 #[vr b, vr arr, vi st, vi 0, vr u8] [(.int 16), (.int 0), (.int st), (.ref arr), (.ref u8), (.ref b)])) rfl (by rw [hml]; rfl) (argsL := [(.int st), (.int 0), (.int 16)]) (rest := [(.ref arr), (.ref u8), (.ref b)]) (lenOf own_pd7 rfl) rfl own_w0 (D d7_14) (fun _ _ => ⟨rfl, e3, (by decide : 0 + 0 ≤ _), (by decide : 0 + 0 ≤ _)⟩)
 dsimp only [Pt.U, Pt.locs, Pt.cells, Pt.slots] at X5 l5 y5 z5 st5 hQ5
 subst l5 y5 z5
 obtain ⟨rfl, N5q, e5⟩ := hQ5
 have N5 := Fr.app N1 N5q
 refine own_st (g' := (mkF m 17 #[vr b, vr arr, vi st, vi 0, vr u8] [(.int st), (.ref arr), (.ref u8), (.ref b)])) st5 ?_
 refine own_st (T' := T5) (g' := (mkF m 18 #[vr b, vr arr, vi st, vi 0, vr u8] [(.int 0), (.int st), (.ref arr), (.ref u8), (.ref b)])) (fun t k => ?_) ?_
 ·refine XS.iloadN X5.here hx rfl (D d7_17) rfl ?_
  exact k
 obtain ⟨_, _, ⟨T6, L6, c6, n6⟩, -, Y6, hI6, hG6, ⟨Lc6, hQ6, l6, y6, z6⟩, st6⟩ := own_specHS X5 hx (y := own_y29) rfl ho0 (mvT hZ0 (own_w hw 65 rfl)) (mvT hZ0 (own_w hw 66 rfl)) (mvT hZ0 (own_w hw 68 rfl)) (by decide) (own_backHW (W := 0) (own_rm11z l Z a0 hw b arr st cs fm u8 h0 n0 Z0 O0 E_b F_v F_c g_b HB) hZ0 (own_w hw 68 rfl) (own_w hw 42 rfl) (by decide) (by decide) hEL H0) (g := (mkF m 18 #[vr b, vr arr, vi st, vi 0, vr u8] [(.int 0), (.int st), (.ref arr), (.ref u8), (.ref b)])) rfl (by rw [hml]; rfl) (Steps.refl _) (a := b) (argsL := [(.ref u8), (.ref arr), (.int st), (.int 0)]) (rest := []) (lenOf own_pd23 rfl) rfl own_w0 (D d7_18) (fun _ _ => ⟨rfl, e5, (by decide : 0 + 2 ≤ _), (by decide : 0 + 4 ≤ _)⟩)
 dsimp only [Pt.U, Pt.locs, Pt.cells, Pt.slots] at Y6 hI6 hG6 l6 y6 z6 st6 hQ6
 subst l6 y6 z6
 obtain ⟨X6, hS6, hZ6, ho6⟩ := rebS hS0 (by rw [e5]; exact (Nat.le_refl _)) Y6 hI6 hG6 hZ0 ho0
 obtain ⟨v6, hv6⟩ : ∃ z, z = T6.vm := ⟨_, rfl⟩
 rw [← hv6] at X6 hS6 hZ6 ho6
 obtain ⟨h6, e6⟩ : ∃ z, T6.heap = z := ⟨_, rfl⟩
 rw [e6] at hQ6
 obtain ⟨t6, k6, rfl, N6q, Kc6, Fv6, Fo6, Vc6⟩ := hQ6
 have N6 := Fr.app N5 N6q
 have K6 : Keep h0 h6 [b] := (Keep.refl h0 [b]).trans Kc6 (allS (Or.inl (List.mem_of_getElem? (i := 0) rfl)) all0)
 have Z6 : n0 ≤ h6.size := Nat.le_trans Z0 Kc6.1
 have O6 := O0.keep Kc6 (allS g_b all0)
 have hk6 : T6.heap.size ≤ h6.size := Nat.le_of_eq (by rw [e6])
 refine own_tr (g' := (mkF m 21 #[vr b, vr arr, vi st, vi 0, vr u8] [])) st6 ?_
 exact own_retVW X6 hx Bd (D d7_21) e6 (⟨t6, k6, rfl, N6, K6, Fv6, Fo6, Vc6⟩) hS6 hk6 (by decide) (by decide)
def own_r6z : Room := { frames := 3, cells := 3, slots := 8, locals := 51 }
theorem own_ef6z (m : MethodId) (x0 : Addr) : entryFrame m #[(.ref x0)] 1 = mkF m 0 #[vr x0] [] := by first | (simp [entryFrame, mkF, argsToLocals, Value.category]; done) | rfl
def own_Q6z (Z : State) (rr : Addr) (arr : Addr) (ka : ClassId) (bl : List Int32) (st : Int32) (pn : Nat) (cs : Int32) (fm : Value) (u8 : Addr) (h0 : Heap) (n0 : Nat) : Option Value → Heap → List Loc → Prop := fun v h L => ∃ r t k, v = some (.ref r) ∧ Fr n0 L ∧ Keep h0 h [] ∧ Exa Z h r "java/lang/String" ∧ Fld Z h r "java/lang/String" "value" "[B" (.ref t) ∧ Fld Z h r "java/lang/String" "coder" "B" (.int 0) ∧ Arv Z h t k .byte (0 : Int32) (([] : List Int32).map Value.int) (.int 0)
theorem own_rm6z (l : Launch) (Z : State) (a0 : Array Value) (hw : own_W a0 Z) (rr : Addr) (arr : Addr) (ka : ClassId) (bl : List Int32) (st : Int32) (pn : Nat) (cs : Int32) (fm : Value) (u8 : Addr) (h0 : Heap) (n0 : Nat) (Z0 : n0 ≤ h0.size) (O0 : Old Z n0 h0) (E_r : Exa Z h0 rr "com/example/dyadloom/dyadloom/core/TripletReader$Triplet") (F_b : Fld Z h0 rr "com/example/dyadloom/dyadloom/core/TripletReader$Triplet" "bytes" "[B" (.ref arr)) (F_s : Fld Z h0 rr "com/example/dyadloom/dyadloom/core/TripletReader$Triplet" "rowStart" "I" (.int st)) (F_e : Fld Z h0 rr "com/example/dyadloom/dyadloom/core/TripletReader$Triplet" "rowEnd" "I" (.int st)) (V_a : Arv Z h0 arr ka .byte (16 : Int32) (bl.map Value.int) (.int 0)) (hst : st.toInt = (pn : Int)) (hp3 : pn ≤ 3) (HB : own_BB Z cs fm u8) :
  MetFree l own_y31 (head1 (Jvm.Cond.code own_y31 prog_33_method_2_code 1 (some (.object "java/lang/String")) :: []) own_r6z) (fun a_ U_ => a_ = #[(.ref rr)] ∧ Z.Warmed39 U_.vm ∧ U_.heap = h0 ∧ CHv Z consts_1 U_.vm h0) (fun _ _ _ _ _ => True) (fun _ U_ o_ U'_ => ∃ v_ L_, o_ = .returned v_ ∧ own_Q6z Z rr arr ka bl st pn cs fm u8 h0 n0 v_ U'_.heap L_ ∧ ReturnedEndW U_ o_ U'_ L_ own_r6z.cells own_r6z.slots) := by
 refine MetFree.of_bodySF (plainFor_of_name own_pn8) hisR ?_
 intro p e s m args below meth c s₁ Bd hml0 hP hK
 obtain ⟨rfl, hZ, hh, H0⟩ := hP
 obtain ⟨-, -, -, -, -, -, -, S_u8, -, E_u8⟩ := id HB
 have hx := Bd.exec
 have hby := Bd.bytes
 have hml : c.maxLocals = 1 := hml0
 have hown : s.vm.findClass "com/example/dyadloom/dyadloom/core/TripletReader$Triplet" = some m.cls := findClass_of_methodNamed Bd.named
 have hnm := (name_of_methodNamed Bd.named Bd.method).1
 have X0 : Stand p l e own_r6z s m #[(.ref rr)] below meth c s₁ [] 0 0 := Stand.of_body Bd
 obtain ⟨v0, X0, hS0, hZ0, ho0, H0⟩ : ∃ v0, Stand p l e own_r6z (s.setVm v0) m #[(.ref rr)] below meth c s₁ [] 0 0 ∧ s.Since v0 h0.size ∧ Z.Warmed39 (s.setVm v0).vm ∧ (s.setVm v0).vm.findClass "com/example/dyadloom/dyadloom/core/TripletReader$Triplet" = some m.cls ∧ CHv Z consts_1 v0 h0 := ⟨s.vm, X0, (State.WarmedH.refl s).since _, hZ, hown, H0⟩
 have hstr : ∀ d ∈ Bundle.stringAtoms, d.before a0 Z = true := fun d hd => hw d (own_sa d hd)
 have e0 : s₁.heap = h0 := by rw [← hh, Bd.state]; rfl
 have N0 := Fr.nil n0
 have D := @hb _ _ hby
 refine own_in (own_ef6z m rr) ?_
 show own_Go p e below (own_KW s (own_Q6z Z rr arr ka bl st pn cs fm u8 h0 n0) own_r6z.cells own_r6z.slots) s₁ (mkF m 0 #[vr rr] [])
 have hEL : EW Z a0 consts_1 := EW.cons (text := "") (own_w hw 182 rfl) (by decide) EW.nil
 obtain ⟨T1, h1, X1, e1, E1, A1, D1, U1, st1⟩ := newO X0 hx hZ0 ho0 (own_w hw 40 rfl) (own_w hw 41 rfl) (own_w hw 42 rfl) e0 (g := (mkF m 0 #[vr rr] [])) rfl (D d6_0) (by decide) (by decide)
 obtain ⟨b1, g1⟩ : ∃ z, z = h0.size := ⟨_, rfl⟩
 rw [← g1] at A1 D1 U1 st1
 have sz1 : h0.size ≤ b1 := Nat.le_of_eq g1.symm
 have ne_rr_b1 : rr ≠ b1 := Nat.ne_of_lt (Nat.lt_of_lt_of_le E_r.lt sz1)
 have ne_arr_b1 : arr ≠ b1 := Nat.ne_of_lt (Nat.lt_of_lt_of_le V_a.lt sz1)
 have f2 := E_u8.ext O0.2
 have ne_u8_b1 : u8 ≠ b1 := Nat.ne_of_lt (Nat.lt_of_lt_of_le f2.lt sz1)
 have g_b1 : n0 ≤ b1 := Nat.le_trans Z0 sz1
 have hz_b1 : h0.size ≤ b1 := Nat.le_trans (Keep.refl h0 []).1 sz1
 have K1 : Keep h0 h1 [] := (Keep.refl h0 []).ext E1
 have Z1 : n0 ≤ h1.size := Nat.le_trans Z0 E1.1
 have O1 := O0.ext E1
 have hk1 := Nat.le_trans (Nat.le_refl _) E1.1
 refine own_st (g' := (mkF m 3 #[vr rr] [(.ref b1)])) st1 ?_
 have H1 : CHv Z consts_1 v0 h1 := CHv.ext E1 H0
 refine own_st (T' := T1) (g' := (mkF m 5 #[vr rr] [(.ref rr), (.ref b1), (.ref b1)])) (fun t k => ?_) ?_
 ·refine XS.dup X1.here hx rfl (D d6_3) rfl rfl ?_
  refine XS.aloadN X1.here hx rfl (D d6_4) rfl rfl ?_
  exact k
 have f3 := F_b.ext E1
 obtain ⟨T4, X4, e4, st4⟩ := getF X1 hx hZ0 ho0 (host := "") (Or.inl (own_w hw 43 rfl)) Via.refl e1 f3 (g := (mkF m 5 #[vr rr] [(.ref rr), (.ref b1), (.ref b1)])) rfl rfl (D d6_5)
 refine own_st (g' := (mkF m 8 #[vr rr] [(.ref arr), (.ref b1), (.ref b1)])) st4 ?_
 refine own_st (T' := T4) (g' := (mkF m 9 #[vr rr] [(.ref rr), (.ref arr), (.ref b1), (.ref b1)])) (fun t k => ?_) ?_
 ·refine XS.aloadN X4.here hx rfl (D d6_8) rfl rfl ?_
  exact k
 have f5 := F_s.ext E1
 obtain ⟨T6, X6, e6, st6⟩ := getF X4 hx hZ0 ho0 (host := "") (Or.inl (own_w hw 44 rfl)) Via.refl e4 f5 (g := (mkF m 9 #[vr rr] [(.ref rr), (.ref arr), (.ref b1), (.ref b1)])) rfl rfl (D d6_9)
 refine own_st (g' := (mkF m 12 #[vr rr] [(.int st), (.ref arr), (.ref b1), (.ref b1)])) st6 ?_
 refine own_st (T' := T6) (g' := (mkF m 13 #[vr rr] [(.ref rr), (.int st), (.ref arr), (.ref b1), (.ref b1)])) (fun t k => ?_) ?_
 ·refine XS.aloadN X6.here hx rfl (D d6_12) rfl rfl ?_
  exact k
 have f7 := F_e.ext E1
 obtain ⟨T8, X8, e8, st8⟩ := getF X6 hx hZ0 ho0 (host := "") (Or.inl (own_w hw 45 rfl)) Via.refl e6 f7 (g := (mkF m 13 #[vr rr] [(.ref rr), (.int st), (.ref arr), (.ref b1), (.ref b1)])) rfl rfl (D d6_13)
 refine own_st (g' := (mkF m 16 #[vr rr] [(.int st), (.int st), (.ref arr), (.ref b1), (.ref b1)])) st8 ?_
 refine own_st (T' := T8) (g' := (mkF m 17 #[vr rr] [(.ref rr), (.int st), (.int st), (.ref arr), (.ref b1), (.ref b1)])) (fun t k => ?_) ?_
 ·refine XS.aloadN X8.here hx rfl (D d6_16) rfl rfl ?_
  exact k
 obtain ⟨T9, X9, e9, st9⟩ := getF X8 hx hZ0 ho0 (host := "") (Or.inl (own_w hw 44 rfl)) Via.refl e8 f5 (g := (mkF m 17 #[vr rr] [(.ref rr), (.int st), (.int st), (.ref arr), (.ref b1), (.ref b1)])) rfl rfl (D d6_17)
 refine own_st (g' := (mkF m 20 #[vr rr] [(.int st), (.int st), (.int st), (.ref arr), (.ref b1), (.ref b1)])) st9 ?_
 refine own_st (T' := T9) (g' := (mkF m 21 #[vr rr] [(.int (st - st)), (.int st), (.ref arr), (.ref b1), (.ref b1)])) (fun t k => ?_) ?_
 ·refine XS.isub X9.here hx rfl (D d6_20) rfl ?_
  exact k
 rw [show (st - st) = (0 : Int32) from Int32.sub_self st]
 have f10 := S_u8.ext O1.2
 obtain ⟨T11, X11, e11, st11⟩ := getS2 X9 hx hZ0 ho0 (host := "") (Or.inl (own_w hw 46 rfl)) Via.refl e9 f10 (g := (mkF m 21 #[vr rr] [(.int 0), (.int st), (.ref arr), (.ref b1), (.ref b1)])) rfl (D d6_21)
 refine own_st (g' := (mkF m 24 #[vr rr] [(.ref u8), (.int 0), (.int st), (.ref arr), (.ref b1), (.ref b1)])) st11 ?_
 have f12 := V_a.ext E1
 obtain ⟨_, _, ⟨T13, L13, c13, n13⟩, -, Y13, hI13, hG13, ⟨Lc13, hQ13, l13, y13, z13⟩, st13⟩ := X11.specialBackS hx (y := own_y30) rfl ho0 (mvT hZ0 (own_w hw 48 rfl)) (mvT hZ0 (own_w hw 49 rfl)) (mvT hZ0 (own_w hw 50 rfl)) (by decide) (own_backH (W := 1) (own_rm7z l Z a0 hw b1 arr ka bl st pn cs fm u8 h1 n0 Z1 O1 A1 (D1 (Or.inr (own_w hw 144 rfl)) (ty := (.array .byte)) (by decide) : Fld Z h1 b1 "java/lang/String" "value" "[B" .null) (D1 (Or.inr (own_w hw 146 rfl)) (ty := .byte) (by decide) : Fld Z h1 b1 "java/lang/String" "coder" "B" (.int 0)) g_b1 f12 hst hp3 (Ne.symm ne_arr_b1) HB) hZ0 (own_w hw 50 rfl) (own_w hw 42 rfl) (by decide) (by decide) hEL H1) (g := (mkF m 24 #[vr rr] [(.ref u8), (.int 0), (.int st), (.ref arr), (.ref b1), (.ref b1)])) rfl (by rw [hml]; rfl) (Steps.refl _) (a := b1) (argsL := [(.ref arr), (.int st), (.int 0), (.ref u8)]) (rest := [(.ref b1)]) (lenOf own_pd24 rfl) rfl own_w0 (D d6_24) (fun _ _ => ⟨rfl, e11, (by decide : 1 + 2 ≤ _), (by decide : 4 + 4 ≤ _)⟩)
 dsimp only [Pt.U, Pt.locs, Pt.cells, Pt.slots] at Y13 hI13 hG13 l13 y13 z13 st13 hQ13
 subst l13 y13 z13
 obtain ⟨X13, hS13, hZ13, ho13⟩ := rebS hS0 (by rw [e11]; exact hk1) Y13 hI13 hG13 hZ0 ho0
 obtain ⟨v13, hv13⟩ : ∃ z, z = T13.vm := ⟨_, rfl⟩
 rw [← hv13] at X13 hS13 hZ13 ho13
 obtain ⟨h13, e13⟩ : ∃ z, T13.heap = z := ⟨_, rfl⟩
 rw [e13] at hQ13
 obtain ⟨t13, k13, rfl, N13q, Kc13, Fv13, Fo13, Vc13⟩ := hQ13
 have N13 := Fr.app N0 N13q
 have K13 : Keep h0 h13 [] := K1.trans Kc13 (allS (Or.inr hz_b1) all0)
 have Z13 : n0 ≤ h13.size := Nat.le_trans Z1 Kc13.1
 have O13 := O1.keep Kc13 (allS g_b1 all0)
 have hk13 : T13.heap.size ≤ h13.size := Nat.le_of_eq (by rw [e13])
 refine own_tr (g' := (mkF m 27 #[vr rr] [(.ref b1)])) st13 ?_
 have f14 := A1.keep Kc13
 exact own_retAW X13 hx Bd rfl rfl (D d6_27) e13 (⟨b1, t13, k13, rfl, N13, K13, f14, Fv13, Fo13, Vc13⟩) hS13 hk13 (by decide) (by decide)
def own_r4 : Room := { frames := 1, cells := 0, slots := 0, locals := 12 }
def own_Q4 (Z : State) (a : Addr) (h0 : Heap) (n0 : Nat) : Option Value → Heap → List Loc → Prop := fun v h L => v = none ∧ Fr n0 L ∧ h = h0
theorem own_rm4 (l : Launch) (Z : State) (a0 : Array Value) (hw : own_W a0 Z) (a : Addr) (h0 : Heap) (n0 : Nat) (Z0 : n0 ≤ h0.size) :
  own_MF l Z own_y43 (Jvm.Cond.code own_y43 prog_33_method_1_code 1 none) [] own_r4 #[(.ref a)] h0 (own_Q4 Z a h0 n0) := by
 refine own_open (plainFor_of_name own_pn8) hisR (Ls := #[vr a]) ?_
 intro p e s m below meth c s₁ Bd hZ hx hby hml hown X0 e0
 have N0 := Fr.nil n0
 have D := @hb _ _ hby
 refine own_st (T' := s₁) (g' := (mkF m 1 #[vr a] [(.ref a)])) (fun t k => ?_) ?_
 ·refine XS.aloadN X0.here hx rfl (D d4_0) rfl rfl ?_
  exact k
 obtain ⟨T1, X1, e1, st1⟩ := initO X0 hx hZ hown (own_w hw 20 rfl) (own_w hw 21 rfl) (own_w hw 22 rfl) e0 (g := (mkF m 1 #[vr a] [(.ref a)])) rfl (by rw [hml]; rfl) rfl (D d4_1) (by decide) (W := 0) own_w0 (by decide)
 refine own_st (g' := (mkF m 4 #[vr a] [])) st1 ?_
 exact own_retV X1 hx Bd (D d4_4) e1 (⟨rfl, N0, rfl⟩) (by decide) (by decide)
theorem own_ef0 (m : MethodId) (x0 : Int32) (x1 : Int32) (x2 : Int32) (x3 : Int32) : entryFrame m #[(.int x0), (.int x1), (.int x2), (.int x3)] maxLocals = mkF m 0 #[vi x0, vi x1, vi x2, vi x3, .unset, .unset, .unset, .unset, .unset, .unset, .unset, .unset, .unset] [] := by first | (simp [entryFrame, mkF, argsToLocals, Value.category, maxLocals]; done) | rfl
def own_Q0 (Z : State) (pa pb ps pj : Int32) (cs : Int32) (fm : Value) (u8 : Addr) (h0 : Heap) (n0 : Nat) : Option Value → Heap → List Loc → Prop := fun v h L => v = some (.int 1) ∧ Fr n0 L
theorem own_rm0 (l : Launch) (Z : State) (a0 : Array Value) (hw : own_W a0 Z) (ws : List Jvm.Cond) (pa pb ps pj : Int32) (cs : Int32) (fm : Value) (u8 : Addr) (h0 : Heap) (n0 : Nat) (Z0 : n0 ≤ h0.size) (O0 : Old Z n0 h0) (HB : own_BB Z cs fm u8) :
  MetFree l x (head1 (Jvm.Cond.code x code maxLocals ret :: ws) room_1) (fun a_ U_ => a_ = #[(.int pa), (.int pb), (.int ps), (.int pj)] ∧ Z.Warmed39 U_.vm ∧ U_.heap = h0 ∧ CHv Z consts_1 U_.vm h0) (fun _ _ _ _ _ => True) (fun _ U_ o_ U'_ => ∃ v_ L_, o_ = .returned v_ ∧ own_Q0 Z pa pb ps pj cs fm u8 h0 n0 v_ U'_.heap L_ ∧ ReturnedEndW U_ o_ U'_ L_ room_1.cells room_1.slots) := by
 refine MetFree.of_bodySF (plainFor_of_name own_pn9) hisR ?_
 intro p e s m args below meth c s₁ Bd hml0 hP hK
 obtain ⟨rfl, hZ, hh, H0⟩ := hP
 obtain ⟨-, -, -, -, -, -, -, -, -, E_u8⟩ := id HB
 have hx := Bd.exec
 have hby := Bd.bytes
 have hml : c.maxLocals = 13 := hml0
 have hown : s.vm.findClass "com/example/dyadloom/dyadloom/core/TripletRowIdPinLaw" = some m.cls := findClass_of_methodNamed Bd.named
 have hnm := (name_of_methodNamed Bd.named Bd.method).1
 have X0 : Stand p l e room_1 s m #[(.int pa), (.int pb), (.int ps), (.int pj)] below meth c s₁ [] 0 0 := Stand.of_body Bd
 obtain ⟨v0, X0, hS0, hZ0, ho0, H0⟩ : ∃ v0, Stand p l e room_1 (s.setVm v0) m #[(.int pa), (.int pb), (.int ps), (.int pj)] below meth c s₁ [] 0 0 ∧ s.Since v0 h0.size ∧ Z.Warmed39 (s.setVm v0).vm ∧ (s.setVm v0).vm.findClass "com/example/dyadloom/dyadloom/core/TripletRowIdPinLaw" = some m.cls ∧ CHv Z consts_1 v0 h0 := ⟨s.vm, X0, (State.WarmedH.refl s).since _, hZ, hown, H0⟩
 have hstr : ∀ d ∈ Bundle.stringAtoms, d.before a0 Z = true := fun d hd => hw d (own_sa d hd)
 have e0 : s₁.heap = h0 := by rw [← hh, Bd.state]; rfl
 have N0 := Fr.nil n0
 have D := @hb _ _ hby
 refine own_in (own_ef0 m pa pb ps pj) ?_
 show own_Go p e below (own_KW s (own_Q0 Z pa pb ps pj cs fm u8 h0 n0) room_1.cells room_1.slots) s₁ (mkF m 0 #[vi pa, vi pb, vi ps, vi pj, .unset, .unset, .unset, .unset, .unset, .unset, .unset, .unset, .unset] [])
 have hEL : EW Z a0 consts_1 := EW.cons (text := "") (own_w hw 182 rfl) (by decide) EW.nil
 refine own_st (T' := s₁) (g' := (mkF m 14 #[vi pa, vi pb, vi ps, vi pj, vi ((ps &&& (3 : Int32)) % (3 : Int32)), .val (.int (((ps.toUInt32 >>> ((2 : Int32) &&& 31).toUInt32).toInt32) &&& (3 : Int32))), .unset, .unset, .unset, .unset, .unset, .unset, .unset] [])) (fun t k => ?_) ?_
 ·refine XS.iloadN X0.here hx rfl (D at_0) rfl ?_
  refine XS.iconst X0.here hx rfl (D at_1) ?_
  refine XS.iand X0.here hx rfl (D at_2) rfl ?_
  refine XS.iconst X0.here hx rfl (D at_3) ?_
  refine iremM X0 hx rfl (D at_4) rfl (by decide) ?_
  refine XS.istore X0.here hx rfl (D at_5) rfl (l' := #[vi pa, vi pb, vi ps, vi pj, vi ((ps &&& (3 : Int32)) % (3 : Int32)), .unset, .unset, .unset, .unset, .unset, .unset, .unset, .unset]) rfl ?_
  refine XS.iloadN X0.here hx rfl (D at_7) rfl ?_
  refine XS.iconst X0.here hx rfl (D at_8) ?_
  refine XS.iushr X0.here hx rfl (D at_9) rfl ?_
  refine XS.iconst X0.here hx rfl (D at_10) ?_
  refine XS.iand X0.here hx rfl (D at_11) rfl ?_
  refine XS.istore X0.here hx rfl (D at_12) rfl (l' := #[vi pa, vi pb, vi ps, vi pj, vi ((ps &&& (3 : Int32)) % (3 : Int32)), .val (.int (((ps.toUInt32 >>> ((2 : Int32) &&& 31).toUInt32).toInt32) &&& (3 : Int32))), .unset, .unset, .unset, .unset, .unset, .unset, .unset]) rfl ?_
  exact k
 obtain ⟨kk, ekk⟩ : ∃ z, z = ((ps &&& (3 : Int32)) % (3 : Int32)) := ⟨_, rfl⟩
 have hkk : kk = (0 : Int32) ∨ kk = (1 : Int32) ∨ kk = (2 : Int32) := ekk ▸ own_k3' ps
 obtain ⟨st, est⟩ : ∃ z, z = (((ps.toUInt32 >>> ((2 : Int32) &&& 31).toUInt32).toInt32) &&& (3 : Int32)) := ⟨_, rfl⟩
 obtain ⟨pn, hst, hp3⟩ : ∃ q : Nat, st.toInt = (q : Int) ∧ q ≤ 3 := est ▸ own_p3 ps
 rw [← ekk, ← est]
 clear ekk est
 refine own_st (T' := s₁) (g' := (mkF m 20 #[vi pa, vi pb, vi ps, vi pj, vi kk, vi st, vi (pj.toInt8.toInt32), .unset, .unset, .unset, .unset, .unset, .unset] [(.int 16)])) (fun t k => ?_) ?_
 ·refine XS.iloadN X0.here hx rfl (D at_14) rfl ?_
  refine XS.i2b X0.here hx rfl (D at_15) rfl ?_
  refine XS.istore X0.here hx rfl (D at_16) rfl (l' := #[vi pa, vi pb, vi ps, vi pj, vi kk, vi st, vi (pj.toInt8.toInt32), .unset, .unset, .unset, .unset, .unset, .unset]) rfl ?_
  refine XS.bipush X0.here hx rfl (D at_18) ?_
  exact k
 obtain ⟨T1, h1, k1, X1, e1, E1, A1, st1⟩ := newP X0 hx hZ0 (own_w hw 0 rfl) e0 (g := (mkF m 20 #[vi pa, vi pb, vi ps, vi pj, vi kk, vi st, vi (pj.toInt8.toInt32), .unset, .unset, .unset, .unset, .unset, .unset] [(.int 16)])) rfl (D at_20) rfl (by decide) (cap := 16) (by decide) (by decide) (by decide) (by decide)
 obtain ⟨b1, g1⟩ : ∃ z, z = h0.size := ⟨_, rfl⟩
 rw [← g1] at A1 st1
 have sz1 : h0.size ≤ b1 := Nat.le_of_eq g1.symm
 have f2 := E_u8.ext O0.2
 have ne_u8_b1 : u8 ≠ b1 := Nat.ne_of_lt (Nat.lt_of_lt_of_le f2.lt sz1)
 have g_b1 : n0 ≤ b1 := Nat.le_trans Z0 sz1
 have hz_b1 : h0.size ≤ b1 := Nat.le_trans (Keep.refl h0 []).1 sz1
 have K1 : Keep h0 h1 [] := (Keep.refl h0 []).ext E1
 have Z1 : n0 ≤ h1.size := Nat.le_trans Z0 E1.1
 have O1 := O0.ext E1
 have hk1 := Nat.le_trans (Nat.le_refl _) E1.1
 have V1 : Arv Z h1 b1 k1 .byte (16 : Int32) [(.int 0), (.int 0), (.int 0), (.int 0), (.int 0), (.int 0), (.int 0), (.int 0), (.int 0), (.int 0), (.int 0), (.int 0), (.int 0), (.int 0), (.int 0), (.int 0)] (.int 0) := (Arv.new A1 (by decide)).pad (pad_rep [] (.int 0) 16)
 refine own_st (g' := (mkF m 22 #[vi pa, vi pb, vi ps, vi pj, vi kk, vi st, vi (pj.toInt8.toInt32), .unset, .unset, .unset, .unset, .unset, .unset] [(.ref b1)])) st1 ?_
 refine own_st (T' := T1) (g' := (mkF m 25 #[vi pa, vi pb, vi ps, vi pj, vi kk, vi st, vi (pj.toInt8.toInt32), vr b1, .unset, .unset, .unset, .unset, .unset] [(.int 4)])) (fun t k => ?_) ?_
 ·refine XS.astore X1.here hx rfl (D at_22) rfl rfl (l' := #[vi pa, vi pb, vi ps, vi pj, vi kk, vi st, vi (pj.toInt8.toInt32), vr b1, .unset, .unset, .unset, .unset, .unset]) rfl ?_
  refine XS.iconst X1.here hx rfl (D at_24) ?_
  exact k
 obtain ⟨T3, h3, k3, X3, e3, E3, A3, st3⟩ := newP X1 hx hZ0 (own_w hw 1 rfl) e1 (g := (mkF m 25 #[vi pa, vi pb, vi ps, vi pj, vi kk, vi st, vi (pj.toInt8.toInt32), vr b1, .unset, .unset, .unset, .unset, .unset] [(.int 4)])) rfl (D at_25) rfl (by decide) (cap := 4) (by decide) (by decide) (by decide) (by decide)
 obtain ⟨b3, g3⟩ : ∃ z, z = h1.size := ⟨_, rfl⟩
 rw [← g3] at A3 st3
 have sz3 : h1.size ≤ b3 := Nat.le_of_eq g3.symm
 have f4 := E_u8.ext O1.2
 have ne_u8_b3 : u8 ≠ b3 := Nat.ne_of_lt (Nat.lt_of_lt_of_le f4.lt sz3)
 have ne_b1_b3 : b1 ≠ b3 := Nat.ne_of_lt (Nat.lt_of_lt_of_le V1.lt sz3)
 have g_b3 : n0 ≤ b3 := Nat.le_trans Z1 sz3
 have hz_b3 : h0.size ≤ b3 := Nat.le_trans K1.1 sz3
 have K3 : Keep h0 h3 [] := K1.ext E3
 have Z3 : n0 ≤ h3.size := Nat.le_trans Z1 E3.1
 have O3 := O1.ext E3
 have hk3 := Nat.le_trans hk1 E3.1
 have V3 : Arv Z h3 b3 k3 .char (4 : Int32) [(.int 0), (.int 0), (.int 0), (.int 0)] (.int 0) := (Arv.new A3 (by decide)).pad (pad_rep [] (.int 0) 4)
 refine own_st (g' := (mkF m 27 #[vi pa, vi pb, vi ps, vi pj, vi kk, vi st, vi (pj.toInt8.toInt32), vr b1, .unset, .unset, .unset, .unset, .unset] [(.ref b3)])) st3 ?_
 refine own_st (T' := T3) (g' := (mkF m 34 #[vi pa, vi pb, vi ps, vi pj, vi kk, vi st, vi (pj.toInt8.toInt32), vr b1, vr b3, .unset, .unset, .unset, .unset] [(.int (pj.toInt8.toInt32)), (.int 0), (.ref b1)])) (fun t k => ?_) ?_
 ·refine XS.astore X3.here hx rfl (D at_27) rfl rfl (l' := #[vi pa, vi pb, vi ps, vi pj, vi kk, vi st, vi (pj.toInt8.toInt32), vr b1, vr b3, .unset, .unset, .unset, .unset]) rfl ?_
  refine XS.aload X3.here hx rfl (D at_29) rfl rfl ?_
  refine XS.iconst X3.here hx rfl (D at_31) ?_
  refine XS.iload X3.here hx rfl (D at_32) rfl ?_
  exact k
 have f5 := V1.ext E3
 obtain ⟨cl6, Ar6, q6, S6, M6, H6, G6⟩ := id f5
 obtain ⟨T7, h7, X7, e7, W7, st7⟩ := stB X3 hx hZ0 e3 Ar6 (j := (0 : Int32)) (inb_of S6 ⟨by decide, by decide⟩) (g := (mkF m 34 #[vi pa, vi pb, vi ps, vi pj, vi kk, vi st, vi (pj.toInt8.toInt32), vr b1, vr b3, .unset, .unset, .unset, .unset] [(.int (pj.toInt8.toInt32)), (.int 0), (.ref b1)])) rfl rfl (D at_34)
 have N7 := Fr.snoc X7 N0 g_b1
 have K7 : Keep h0 h7 [] := K3.wr W7 (Or.inr hz_b1)
 have Z7 : n0 ≤ h7.size := Nat.le_trans Z3 (Keep.of_wr W7).1
 have O7 := O3.wr W7 g_b1
 have hk7 := Nat.le_trans hk3 (Keep.of_wr W7).1
 have fw7 := (show Arv Z h7 b1 k1 .byte (16 : Int32) [(.int (pj.toInt8.toInt32)), (.int 0), (.int 0), (.int 0), (.int 0), (.int 0), (.int 0), (.int 0), (.int 0), (.int 0), (.int 0), (.int 0), (.int 0), (.int 0), (.int 0), (.int 0)] (.int 0) by have q : Arv Z h7 b1 k1 .byte (16 : Int32) [(.int ((pj.toInt8.toInt32).toInt8.toInt32)), (.int 0), (.int 0), (.int 0), (.int 0), (.int 0), (.int 0), (.int 0), (.int 0), (.int 0), (.int 0), (.int 0), (.int 0), (.int 0), (.int 0), (.int 0)] (.int 0) := Arv.set Ar6 q6 S6 M6 H6 G6 (fits_nar_byte _) W7 0 rfl (Nat.le_of_ble_eq_true rfl); rw [own_bb pj] at q; exact q)
 refine own_st (g' := (mkF m 35 #[vi pa, vi pb, vi ps, vi pj, vi kk, vi st, vi (pj.toInt8.toInt32), vr b1, vr b3, .unset, .unset, .unset, .unset] [])) st7 ?_
 refine own_st (T' := T7) (g' := (mkF m 40 #[vi pa, vi pb, vi ps, vi pj, vi kk, vi st, vi (pj.toInt8.toInt32), vr b1, vr b3, .unset, .unset, .unset, .unset] [(.int (pj.toInt8.toInt32)), (.int 1), (.ref b1)])) (fun t k => ?_) ?_
 ·refine XS.aload X7.here hx rfl (D at_35) rfl rfl ?_
  refine XS.iconst X7.here hx rfl (D at_37) ?_
  refine XS.iload X7.here hx rfl (D at_38) rfl ?_
  exact k
 obtain ⟨cl8, Ar8, q8, S8, M8, H8, G8⟩ := id fw7
 obtain ⟨T9, h9, X9, e9, W9, st9⟩ := stB X7 hx hZ0 e7 Ar8 (j := (1 : Int32)) (inb_of S8 ⟨by decide, by decide⟩) (g := (mkF m 40 #[vi pa, vi pb, vi ps, vi pj, vi kk, vi st, vi (pj.toInt8.toInt32), vr b1, vr b3, .unset, .unset, .unset, .unset] [(.int (pj.toInt8.toInt32)), (.int 1), (.ref b1)])) rfl rfl (D at_40)
 have N9 := Fr.snoc X9 N7 g_b1
 have K9 : Keep h0 h9 [] := K7.wr W9 (Or.inr hz_b1)
 have Z9 : n0 ≤ h9.size := Nat.le_trans Z7 (Keep.of_wr W9).1
 have O9 := O7.wr W9 g_b1
 have hk9 := Nat.le_trans hk7 (Keep.of_wr W9).1
 have fw9 := (show Arv Z h9 b1 k1 .byte (16 : Int32) [(.int (pj.toInt8.toInt32)), (.int (pj.toInt8.toInt32)), (.int 0), (.int 0), (.int 0), (.int 0), (.int 0), (.int 0), (.int 0), (.int 0), (.int 0), (.int 0), (.int 0), (.int 0), (.int 0), (.int 0)] (.int 0) by have q : Arv Z h9 b1 k1 .byte (16 : Int32) [(.int (pj.toInt8.toInt32)), (.int ((pj.toInt8.toInt32).toInt8.toInt32)), (.int 0), (.int 0), (.int 0), (.int 0), (.int 0), (.int 0), (.int 0), (.int 0), (.int 0), (.int 0), (.int 0), (.int 0), (.int 0), (.int 0)] (.int 0) := Arv.set Ar8 q8 S8 M8 H8 G8 (fits_nar_byte _) W9 1 rfl (Nat.le_of_ble_eq_true rfl); rw [own_bb pj] at q; exact q)
 refine own_st (g' := (mkF m 41 #[vi pa, vi pb, vi ps, vi pj, vi kk, vi st, vi (pj.toInt8.toInt32), vr b1, vr b3, .unset, .unset, .unset, .unset] [])) st9 ?_
 refine own_st (T' := T9) (g' := (mkF m 46 #[vi pa, vi pb, vi ps, vi pj, vi kk, vi st, vi (pj.toInt8.toInt32), vr b1, vr b3, .unset, .unset, .unset, .unset] [(.int (pj.toInt8.toInt32)), (.int 2), (.ref b1)])) (fun t k => ?_) ?_
 ·refine XS.aload X9.here hx rfl (D at_41) rfl rfl ?_
  refine XS.iconst X9.here hx rfl (D at_43) ?_
  refine XS.iload X9.here hx rfl (D at_44) rfl ?_
  exact k
 obtain ⟨cl10, Ar10, q10, S10, M10, H10, G10⟩ := id fw9
 obtain ⟨T11, h11, X11, e11, W11, st11⟩ := stB X9 hx hZ0 e9 Ar10 (j := (2 : Int32)) (inb_of S10 ⟨by decide, by decide⟩) (g := (mkF m 46 #[vi pa, vi pb, vi ps, vi pj, vi kk, vi st, vi (pj.toInt8.toInt32), vr b1, vr b3, .unset, .unset, .unset, .unset] [(.int (pj.toInt8.toInt32)), (.int 2), (.ref b1)])) rfl rfl (D at_46)
 have N11 := Fr.snoc X11 N9 g_b1
 have K11 : Keep h0 h11 [] := K9.wr W11 (Or.inr hz_b1)
 have Z11 : n0 ≤ h11.size := Nat.le_trans Z9 (Keep.of_wr W11).1
 have O11 := O9.wr W11 g_b1
 have hk11 := Nat.le_trans hk9 (Keep.of_wr W11).1
 have fw11 := (show Arv Z h11 b1 k1 .byte (16 : Int32) [(.int (pj.toInt8.toInt32)), (.int (pj.toInt8.toInt32)), (.int (pj.toInt8.toInt32)), (.int 0), (.int 0), (.int 0), (.int 0), (.int 0), (.int 0), (.int 0), (.int 0), (.int 0), (.int 0), (.int 0), (.int 0), (.int 0)] (.int 0) by have q : Arv Z h11 b1 k1 .byte (16 : Int32) [(.int (pj.toInt8.toInt32)), (.int (pj.toInt8.toInt32)), (.int ((pj.toInt8.toInt32).toInt8.toInt32)), (.int 0), (.int 0), (.int 0), (.int 0), (.int 0), (.int 0), (.int 0), (.int 0), (.int 0), (.int 0), (.int 0), (.int 0), (.int 0)] (.int 0) := Arv.set Ar10 q10 S10 M10 H10 G10 (fits_nar_byte _) W11 2 rfl (Nat.le_of_ble_eq_true rfl); rw [own_bb pj] at q; exact q)
 refine own_st (g' := (mkF m 47 #[vi pa, vi pb, vi ps, vi pj, vi kk, vi st, vi (pj.toInt8.toInt32), vr b1, vr b3, .unset, .unset, .unset, .unset] [])) st11 ?_
 refine own_st (T' := T11) (g' := (mkF m 54 #[vi pa, vi pb, vi ps, vi pj, vi kk, vi st, vi (pj.toInt8.toInt32), vr b1, vr b3, vi st, vi 0, .unset, .unset] [])) (fun t k => ?_) ?_
 ·refine XS.iload X11.here hx rfl (D at_47) rfl ?_
  refine XS.istore X11.here hx rfl (D at_49) rfl (l' := #[vi pa, vi pb, vi ps, vi pj, vi kk, vi st, vi (pj.toInt8.toInt32), vr b1, vr b3, vi st, .unset, .unset, .unset]) rfl ?_
  refine XS.iconst X11.here hx rfl (D at_51) ?_
  refine XS.istore X11.here hx rfl (D at_52) rfl (l' := #[vi pa, vi pb, vi ps, vi pj, vi kk, vi st, vi (pj.toInt8.toInt32), vr b1, vr b3, vi st, vi 0, .unset, .unset]) rfl ?_
  exact k
 have f12 := ((V3.other W7 (Ne.symm ne_b1_b3)).other W9 (Ne.symm ne_b1_b3)).other W11 (Ne.symm ne_b1_b3)
 obtain ⟨L0, hL0, VL⟩ : ∃ L : List Int32, L.length = 16 ∧ Arv Z h11 b1 k1 .byte (16 : Int32) (L.map Value.int) (.int 0) := ⟨[(pj.toInt8.toInt32), (pj.toInt8.toInt32), (pj.toInt8.toInt32), (0 : Int32), (0 : Int32), (0 : Int32), (0 : Int32), (0 : Int32), (0 : Int32), (0 : Int32), (0 : Int32), (0 : Int32), (0 : Int32), (0 : Int32), (0 : Int32), (0 : Int32)], rfl, fw11⟩
 have VU : Arv Z h11 b3 k3 .char (4 : Int32) (([0, 0, 0, 0] : List Int32).map Value.int) (.int 0) := f12
 have J : ∀ (k4 at_ nc q11 : Int32) (Lb Lc sg ch : List Int32) (hh : Heap), own_rel sg ch → own_seg Lb pn sg → at_.toInt = ((pn + sg.length : Nat) : Int) → nc = Int32.ofNat ch.length → (Lc.length = 4 ∧ ∀ i, i < ch.length → Lc.getD i 0 = ch.getD i 0) → Arv Z hh b1 k1 .byte (16 : Int32) (Lb.map Value.int) (.int 0) → Arv Z hh b3 k3 .char (4 : Int32) (Lc.map Value.int) (.int 0) → Keep h0 hh [] → Old Z n0 hh → n0 ≤ hh.size → ∀ (T : State) (locs : List Loc), Stand p l e room_1 (s.setVm v0) m #[(.int pa), (.int pb), (.int ps), (.int pj)] below meth c T locs 2 20 → Fr n0 locs → T.heap = hh → own_Go p e below (own_KW s (own_Q0 Z pa pb ps pj cs fm u8 h0 n0) room_1.cells room_1.slots) T (mkF m 134 #[vi pa, vi pb, vi ps, vi pj, vi k4, vi st, vi (pj.toInt8.toInt32), vr b1, vr b3, vi at_, vi nc, vi q11, .unset] []) := by
  intro k4 at_ nc q11 Lb Lc sg ch hh hrl hsg hat hnc hbf Vj Uj Kj Oj Zj Tj lj Xj Nj ej
  have hll := own_rel_l hrl
  have hb16 := hsg.1
  refine own_st (T' := Tj) (g' := (mkF m 140 #[vi pa, vi pb, vi ps, vi pj, vi k4, vi st, vi (pj.toInt8.toInt32), vr b1, vr b3, vi at_, vi nc, vi q11, .unset] [(.int (pj.toInt8.toInt32)), (.int at_), (.ref b1)])) (fun t k => ?_) ?_
  ·refine XS.aload Xj.here hx rfl (D at_134) rfl rfl ?_
   refine XS.iload Xj.here hx rfl (D at_136) rfl ?_
   refine XS.iload Xj.here hx rfl (D at_138) rfl ?_
   exact k
  obtain ⟨cl13, Ar13, q13, S13, M13, H13, G13⟩ := id Vj
  obtain ⟨T14, h14, X14, e14, W14, st14⟩ := stB Xj hx hZ0 ej Ar13 (j := at_) (inb_of S13 (own_inN hat own_i16 (by omega))) (g := (mkF m 140 #[vi pa, vi pb, vi ps, vi pj, vi k4, vi st, vi (pj.toInt8.toInt32), vr b1, vr b3, vi at_, vi nc, vi q11, .unset] [(.int (pj.toInt8.toInt32)), (.int at_), (.ref b1)])) rfl rfl (D at_140)
  have N14 := Fr.snoc X14 Nj g_b1
  have K14 : Keep h0 h14 [] := Kj.wr W14 (Or.inr hz_b1)
  have Z14 : n0 ≤ h14.size := Nat.le_trans Zj (Keep.of_wr W14).1
  have O14 := Oj.wr W14 g_b1
  have hk14 := Nat.le_trans Kj.1 (Keep.of_wr W14).1
  have fw14 := (show Arv Z h14 b1 k1 .byte (16 : Int32) ((Lb.set (at_).toNatClampNeg (pj.toInt8.toInt32)).map Value.int) (.int 0) by have q := Arv.set Ar13 q13 S13 M13 H13 G13 (fits_nar_byte _) W14 ((at_).toNatClampNeg) rfl (by rw [List.length_map, own_clamp hat]; skip; omega); rw [own_lset, own_bb pj] at q; exact q)
  refine own_st (g' := (mkF m 141 #[vi pa, vi pb, vi ps, vi pj, vi k4, vi st, vi (pj.toInt8.toInt32), vr b1, vr b3, vi at_, vi nc, vi q11, .unset] [])) st14 ?_
  refine own_st (T' := T14) (g' := (mkF m 149 #[vi pa, vi pb, vi ps, vi pj, vi k4, vi st, vi (pj.toInt8.toInt32), vr b1, vr b3, vi at_, vi nc, vi q11, .unset] [(.int (pj.toInt8.toInt32)), (.int (at_ + (1 : Int32))), (.ref b1)])) (fun t k => ?_) ?_
  ·refine XS.aload X14.here hx rfl (D at_141) rfl rfl ?_
   refine XS.iload X14.here hx rfl (D at_143) rfl ?_
   refine XS.iconst X14.here hx rfl (D at_145) ?_
   refine XS.iadd X14.here hx rfl (D at_146) rfl ?_
   refine XS.iload X14.here hx rfl (D at_147) rfl ?_
   exact k
  obtain ⟨cl15, Ar15, q15, S15, M15, H15, G15⟩ := id fw14
  obtain ⟨T16, h16, X16, e16, W16, st16⟩ := stB X14 hx hZ0 e14 Ar15 (j := (at_ + (1 : Int32))) (inb_of S15 (own_inN (own_add hat own_i1 (by omega)) own_i16 (by omega))) (g := (mkF m 149 #[vi pa, vi pb, vi ps, vi pj, vi k4, vi st, vi (pj.toInt8.toInt32), vr b1, vr b3, vi at_, vi nc, vi q11, .unset] [(.int (pj.toInt8.toInt32)), (.int (at_ + (1 : Int32))), (.ref b1)])) rfl rfl (D at_149)
  have N16 := Fr.snoc X16 N14 g_b1
  have K16 : Keep h0 h16 [] := K14.wr W16 (Or.inr hz_b1)
  have Z16 : n0 ≤ h16.size := Nat.le_trans Z14 (Keep.of_wr W16).1
  have O16 := O14.wr W16 g_b1
  have hk16 := Nat.le_trans hk14 (Keep.of_wr W16).1
  have fw16 := (show Arv Z h16 b1 k1 .byte (16 : Int32) (((Lb.set (at_).toNatClampNeg (pj.toInt8.toInt32)).set ((at_ + (1 : Int32))).toNatClampNeg (pj.toInt8.toInt32)).map Value.int) (.int 0) by have q := Arv.set Ar15 q15 S15 M15 H15 G15 (fits_nar_byte _) W16 (((at_ + (1 : Int32))).toNatClampNeg) rfl (by rw [List.length_map, own_clamp (own_add hat own_i1 (by omega))]; simp only [List.length_set]; omega); rw [own_lset, own_bb pj] at q; exact q)
  refine own_st (g' := (mkF m 150 #[vi pa, vi pb, vi ps, vi pj, vi k4, vi st, vi (pj.toInt8.toInt32), vr b1, vr b3, vi at_, vi nc, vi q11, .unset] [])) st16 ?_
  obtain ⟨T17, h17, X17, e17, E17, A17, D17, U17, st17⟩ := newO X16 hx hZ0 ho0 (own_w hw 14 rfl) (own_w hw 15 rfl) (own_w hw 16 rfl) e16 (g := (mkF m 150 #[vi pa, vi pb, vi ps, vi pj, vi k4, vi st, vi (pj.toInt8.toInt32), vr b1, vr b3, vi at_, vi nc, vi q11, .unset] [])) rfl (D at_150) (by decide) (by decide)
  obtain ⟨b17, g17⟩ : ∃ z, z = h16.size := ⟨_, rfl⟩
  rw [← g17] at A17 D17 U17 st17
  have sz17 : h16.size ≤ b17 := Nat.le_of_eq g17.symm
  have f18 := E_u8.ext O16.2
  have ne_u8_b17 : u8 ≠ b17 := Nat.ne_of_lt (Nat.lt_of_lt_of_le f18.lt sz17)
  have ne_b1_b17 : b1 ≠ b17 := Nat.ne_of_lt (Nat.lt_of_lt_of_le fw16.lt sz17)
  have f19 := (Uj.other W14 (Ne.symm ne_b1_b3)).other W16 (Ne.symm ne_b1_b3)
  have ne_b3_b17 : b3 ≠ b17 := Nat.ne_of_lt (Nat.lt_of_lt_of_le f19.lt sz17)
  have g_b17 : n0 ≤ b17 := Nat.le_trans Z16 sz17
  have hz_b17 : h0.size ≤ b17 := Nat.le_trans K16.1 sz17
  have K17 : Keep h0 h17 [] := K16.ext E17
  have Z17 : n0 ≤ h17.size := Nat.le_trans Z16 E17.1
  have O17 := O16.ext E17
  have hk17 := Nat.le_trans hk16 E17.1
  refine own_st (g' := (mkF m 153 #[vi pa, vi pb, vi ps, vi pj, vi k4, vi st, vi (pj.toInt8.toInt32), vr b1, vr b3, vi at_, vi nc, vi q11, .unset] [(.ref b17)])) st17 ?_
  refine own_st (T' := T17) (g' := (mkF m 154 #[vi pa, vi pb, vi ps, vi pj, vi k4, vi st, vi (pj.toInt8.toInt32), vr b1, vr b3, vi at_, vi nc, vi q11, .unset] [(.ref b17), (.ref b17)])) (fun t k => ?_) ?_
  ·refine XS.dup X17.here hx rfl (D at_153) rfl rfl ?_
   exact k
  obtain ⟨_, _, ⟨T20, L20, c20, n20⟩, -, X20, ⟨Lc20, hQ20, l20, y20, z20⟩, st20⟩ := X17.specialBack hx (y := own_y43) rfl ho0 (mvT hZ0 (own_w hw 17 rfl)) (mvT hZ0 (own_w hw 18 rfl)) (mvT hZ0 (own_w hw 19 rfl)) (by decide) (backOf (W := 1) (own_rm4 l Z a0 hw b17 h17 n0 Z17) hZ0 (own_w hw 19 rfl) (own_w hw 16 rfl) (by decide) (by decide)) (g := (mkF m 154 #[vi pa, vi pb, vi ps, vi pj, vi k4, vi st, vi (pj.toInt8.toInt32), vr b1, vr b3, vi at_, vi nc, vi q11, .unset] [(.ref b17), (.ref b17)])) rfl (by rw [hml]; rfl) (Steps.refl _) (a := b17) (argsL := []) (rest := [(.ref b17)]) (lenOf own_pd29 rfl) rfl own_w0 (D at_154) (fun _ _ => ⟨rfl, e17, (by decide : 3 + 0 ≤ _), (by decide : 26 + 0 ≤ _)⟩)
  dsimp only [Pt.U, Pt.locs, Pt.cells, Pt.slots] at X20 l20 y20 z20 st20 hQ20
  subst l20 y20 z20
  obtain ⟨rfl, N20q, e20⟩ := hQ20
  have N20 := Fr.app N16 N20q
  refine own_tr (g' := (mkF m 157 #[vi pa, vi pb, vi ps, vi pj, vi k4, vi st, vi (pj.toInt8.toInt32), vr b1, vr b3, vi at_, vi nc, vi q11, .unset] [(.ref b17)])) st20 ?_
  refine own_st (T' := T20) (g' := (mkF m 163 #[vi pa, vi pb, vi ps, vi pj, vi k4, vi st, vi (pj.toInt8.toInt32), vr b1, vr b3, vi at_, vi nc, vr b17, .unset] [(.ref b1), (.ref b17)])) (fun t k => ?_) ?_
  ·refine XS.astore X20.here hx rfl (D at_157) rfl rfl (l' := #[vi pa, vi pb, vi ps, vi pj, vi k4, vi st, vi (pj.toInt8.toInt32), vr b1, vr b3, vi at_, vi nc, vr b17, .unset]) rfl ?_
   refine XS.aload X20.here hx rfl (D at_159) rfl rfl ?_
   refine XS.aload X20.here hx rfl (D at_161) rfl rfl ?_
   exact k
  obtain ⟨T21, h21, X21, e21, W21, st21⟩ := putF X20 hx hZ0 ho0 (host := "") (Or.inl (own_w hw 23 rfl)) Via.refl e20 (D17 (Or.inl (own_w hw 24 rfl)) (ty := (.array .byte)) (by decide) : Fld Z h17 b17 "com/example/dyadloom/dyadloom/core/TripletReader$Triplet" "bytes" "[B" .null) A17 (Or.inl (own_w hw 24 rfl)) (own_w hw 15 rfl) (ty := (.array .byte)) (by decide) rfl rfl (g := (mkF m 163 #[vi pa, vi pb, vi ps, vi pj, vi k4, vi st, vi (pj.toInt8.toInt32), vr b1, vr b3, vi at_, vi nc, vr b17, .unset] [(.ref b1), (.ref b17)])) rfl rfl (D at_163)
  have N21 := Fr.snoc X21 N20 g_b17
  have K21 : Keep h0 h21 [] := K17.wr W21 (Or.inr hz_b17)
  have Z21 : n0 ≤ h21.size := Nat.le_trans Z17 (Keep.of_wr W21).1
  have O21 := O17.wr W21 g_b17
  have hk21 := Nat.le_trans hk17 (Keep.of_wr W21).1
  have fw21 := ((D17 (Or.inl (own_w hw 24 rfl)) (ty := (.array .byte)) (by decide) : Fld Z h17 b17 "com/example/dyadloom/dyadloom/core/TripletReader$Triplet" "bytes" "[B" .null).same W21)
  refine own_st (g' := (mkF m 166 #[vi pa, vi pb, vi ps, vi pj, vi k4, vi st, vi (pj.toInt8.toInt32), vr b1, vr b3, vi at_, vi nc, vr b17, .unset] [])) st21 ?_
  refine own_st (T' := T21) (g' := (mkF m 170 #[vi pa, vi pb, vi ps, vi pj, vi k4, vi st, vi (pj.toInt8.toInt32), vr b1, vr b3, vi at_, vi nc, vr b17, .unset] [(.int st), (.ref b17)])) (fun t k => ?_) ?_
  ·refine XS.aload X21.here hx rfl (D at_166) rfl rfl ?_
   refine XS.iload X21.here hx rfl (D at_168) rfl ?_
   exact k
  have f22 := (D17 (Or.inl (own_w hw 26 rfl)) (ty := .int) (by decide) : Fld Z h17 b17 "com/example/dyadloom/dyadloom/core/TripletReader$Triplet" "rowStart" "I" (.int 0)).other W21 (Or.inr (slot_ne (Or.inl (own_w hw 26 rfl)) (Or.inl (own_w hw 24 rfl)) (by decide) (t := .int) (t' := (.array .byte)) (by decide) (by decide)))
  have f23 := A17.wr W21
  obtain ⟨T24, h24, X24, e24, W24, st24⟩ := putF X21 hx hZ0 ho0 (host := "") (Or.inl (own_w hw 25 rfl)) Via.refl e21 f22 f23 (Or.inl (own_w hw 26 rfl)) (own_w hw 15 rfl) (ty := .int) (by decide) rfl rfl (g := (mkF m 170 #[vi pa, vi pb, vi ps, vi pj, vi k4, vi st, vi (pj.toInt8.toInt32), vr b1, vr b3, vi at_, vi nc, vr b17, .unset] [(.int st), (.ref b17)])) rfl rfl (D at_170)
  have N24 := Fr.snoc X24 N21 g_b17
  have K24 : Keep h0 h24 [] := K21.wr W24 (Or.inr hz_b17)
  have Z24 : n0 ≤ h24.size := Nat.le_trans Z21 (Keep.of_wr W24).1
  have O24 := O21.wr W24 g_b17
  have hk24 := Nat.le_trans hk21 (Keep.of_wr W24).1
  have fw24 := (f22.same W24)
  refine own_st (g' := (mkF m 173 #[vi pa, vi pb, vi ps, vi pj, vi k4, vi st, vi (pj.toInt8.toInt32), vr b1, vr b3, vi at_, vi nc, vr b17, .unset] [])) st24 ?_
  refine own_st (T' := T24) (g' := (mkF m 177 #[vi pa, vi pb, vi ps, vi pj, vi k4, vi st, vi (pj.toInt8.toInt32), vr b1, vr b3, vi at_, vi nc, vr b17, .unset] [(.int at_), (.ref b17)])) (fun t k => ?_) ?_
  ·refine XS.aload X24.here hx rfl (D at_173) rfl rfl ?_
   refine XS.iload X24.here hx rfl (D at_175) rfl ?_
   exact k
  have f25 := ((D17 (Or.inl (own_w hw 28 rfl)) (ty := .int) (by decide) : Fld Z h17 b17 "com/example/dyadloom/dyadloom/core/TripletReader$Triplet" "rowEnd" "I" (.int 0)).other W21 (Or.inr (slot_ne (Or.inl (own_w hw 28 rfl)) (Or.inl (own_w hw 24 rfl)) (by decide) (t := .int) (t' := (.array .byte)) (by decide) (by decide)))).other W24 (Or.inr (slot_ne (Or.inl (own_w hw 28 rfl)) (Or.inl (own_w hw 26 rfl)) (by decide) (t := .int) (t' := .int) (by decide) (by decide)))
  have f26 := f23.wr W24
  obtain ⟨T27, h27, X27, e27, W27, st27⟩ := putF X24 hx hZ0 ho0 (host := "") (Or.inl (own_w hw 27 rfl)) Via.refl e24 f25 f26 (Or.inl (own_w hw 28 rfl)) (own_w hw 15 rfl) (ty := .int) (by decide) rfl rfl (g := (mkF m 177 #[vi pa, vi pb, vi ps, vi pj, vi k4, vi st, vi (pj.toInt8.toInt32), vr b1, vr b3, vi at_, vi nc, vr b17, .unset] [(.int at_), (.ref b17)])) rfl rfl (D at_177)
  have N27 := Fr.snoc X27 N24 g_b17
  have K27 : Keep h0 h27 [] := K24.wr W27 (Or.inr hz_b17)
  have Z27 : n0 ≤ h27.size := Nat.le_trans Z24 (Keep.of_wr W27).1
  have O27 := O24.wr W27 g_b17
  have hk27 := Nat.le_trans hk24 (Keep.of_wr W27).1
  have fw27 := (f25.same W27)
  refine own_st (g' := (mkF m 180 #[vi pa, vi pb, vi ps, vi pj, vi k4, vi st, vi (pj.toInt8.toInt32), vr b1, vr b3, vi at_, vi nc, vr b17, .unset] [])) st27 ?_
  refine own_st (T' := T27) (g' := (mkF m 186 #[vi pa, vi pb, vi ps, vi pj, vi k4, vi st, vi (pj.toInt8.toInt32), vr b1, vr b3, vi at_, vi nc, vr b17, .unset] [(.int (at_ + (1 : Int32))), (.ref b17)])) (fun t k => ?_) ?_
  ·refine XS.aload X27.here hx rfl (D at_180) rfl rfl ?_
   refine XS.iload X27.here hx rfl (D at_182) rfl ?_
   refine XS.iconst X27.here hx rfl (D at_184) ?_
   refine XS.iadd X27.here hx rfl (D at_185) rfl ?_
   exact k
  have f28 := (((D17 (Or.inl (own_w hw 30 rfl)) (ty := .int) (by decide) : Fld Z h17 b17 "com/example/dyadloom/dyadloom/core/TripletReader$Triplet" "columnStart" "I" (.int 0)).other W21 (Or.inr (slot_ne (Or.inl (own_w hw 30 rfl)) (Or.inl (own_w hw 24 rfl)) (by decide) (t := .int) (t' := (.array .byte)) (by decide) (by decide)))).other W24 (Or.inr (slot_ne (Or.inl (own_w hw 30 rfl)) (Or.inl (own_w hw 26 rfl)) (by decide) (t := .int) (t' := .int) (by decide) (by decide)))).other W27 (Or.inr (slot_ne (Or.inl (own_w hw 30 rfl)) (Or.inl (own_w hw 28 rfl)) (by decide) (t := .int) (t' := .int) (by decide) (by decide)))
  have f29 := f26.wr W27
  obtain ⟨T30, h30, X30, e30, W30, st30⟩ := putF X27 hx hZ0 ho0 (host := "") (Or.inl (own_w hw 29 rfl)) Via.refl e27 f28 f29 (Or.inl (own_w hw 30 rfl)) (own_w hw 15 rfl) (ty := .int) (by decide) rfl rfl (g := (mkF m 186 #[vi pa, vi pb, vi ps, vi pj, vi k4, vi st, vi (pj.toInt8.toInt32), vr b1, vr b3, vi at_, vi nc, vr b17, .unset] [(.int (at_ + (1 : Int32))), (.ref b17)])) rfl rfl (D at_186)
  have N30 := Fr.snoc X30 N27 g_b17
  have K30 : Keep h0 h30 [] := K27.wr W30 (Or.inr hz_b17)
  have Z30 : n0 ≤ h30.size := Nat.le_trans Z27 (Keep.of_wr W30).1
  have O30 := O27.wr W30 g_b17
  have hk30 := Nat.le_trans hk27 (Keep.of_wr W30).1
  have fw30 := (f28.same W30)
  refine own_st (g' := (mkF m 189 #[vi pa, vi pb, vi ps, vi pj, vi k4, vi st, vi (pj.toInt8.toInt32), vr b1, vr b3, vi at_, vi nc, vr b17, .unset] [])) st30 ?_
  refine own_st (T' := T30) (g' := (mkF m 195 #[vi pa, vi pb, vi ps, vi pj, vi k4, vi st, vi (pj.toInt8.toInt32), vr b1, vr b3, vi at_, vi nc, vr b17, .unset] [(.int (at_ + (2 : Int32))), (.ref b17)])) (fun t k => ?_) ?_
  ·refine XS.aload X30.here hx rfl (D at_189) rfl rfl ?_
   refine XS.iload X30.here hx rfl (D at_191) rfl ?_
   refine XS.iconst X30.here hx rfl (D at_193) ?_
   refine XS.iadd X30.here hx rfl (D at_194) rfl ?_
   exact k
  have f31 := ((((D17 (Or.inl (own_w hw 32 rfl)) (ty := .int) (by decide) : Fld Z h17 b17 "com/example/dyadloom/dyadloom/core/TripletReader$Triplet" "columnEnd" "I" (.int 0)).other W21 (Or.inr (slot_ne (Or.inl (own_w hw 32 rfl)) (Or.inl (own_w hw 24 rfl)) (by decide) (t := .int) (t' := (.array .byte)) (by decide) (by decide)))).other W24 (Or.inr (slot_ne (Or.inl (own_w hw 32 rfl)) (Or.inl (own_w hw 26 rfl)) (by decide) (t := .int) (t' := .int) (by decide) (by decide)))).other W27 (Or.inr (slot_ne (Or.inl (own_w hw 32 rfl)) (Or.inl (own_w hw 28 rfl)) (by decide) (t := .int) (t' := .int) (by decide) (by decide)))).other W30 (Or.inr (slot_ne (Or.inl (own_w hw 32 rfl)) (Or.inl (own_w hw 30 rfl)) (by decide) (t := .int) (t' := .int) (by decide) (by decide)))
  have f32 := f29.wr W30
  obtain ⟨T33, h33, X33, e33, W33, st33⟩ := putF X30 hx hZ0 ho0 (host := "") (Or.inl (own_w hw 31 rfl)) Via.refl e30 f31 f32 (Or.inl (own_w hw 32 rfl)) (own_w hw 15 rfl) (ty := .int) (by decide) rfl rfl (g := (mkF m 195 #[vi pa, vi pb, vi ps, vi pj, vi k4, vi st, vi (pj.toInt8.toInt32), vr b1, vr b3, vi at_, vi nc, vr b17, .unset] [(.int (at_ + (2 : Int32))), (.ref b17)])) rfl rfl (D at_195)
  have N33 := Fr.snoc X33 N30 g_b17
  have K33 : Keep h0 h33 [] := K30.wr W33 (Or.inr hz_b17)
  have Z33 : n0 ≤ h33.size := Nat.le_trans Z30 (Keep.of_wr W33).1
  have O33 := O30.wr W33 g_b17
  have hk33 := Nat.le_trans hk30 (Keep.of_wr W33).1
  have fw33 := (f31.same W33)
  refine own_st (g' := (mkF m 198 #[vi pa, vi pb, vi ps, vi pj, vi k4, vi st, vi (pj.toInt8.toInt32), vr b1, vr b3, vi at_, vi nc, vr b17, .unset] [])) st33 ?_
  refine own_st (T' := T33) (g' := (mkF m 201 #[vi pa, vi pb, vi ps, vi pj, vi k4, vi st, vi (pj.toInt8.toInt32), vr b1, vr b3, vi at_, vi nc, vr b17, .unset] [(.double Jvm.FP.dconst1), (.ref b17)])) (fun t k => ?_) ?_
  ·refine XS.aload X33.here hx rfl (D at_198) rfl rfl ?_
   refine XS.dconst1 X33.here hx rfl (D at_200) rfl ?_
   exact k
  have f34 := (((((D17 (Or.inl (own_w hw 34 rfl)) (ty := .double) (by decide) : Fld Z h17 b17 "com/example/dyadloom/dyadloom/core/TripletReader$Triplet" "value" "D" (.double 0)).other W21 (Or.inr (slot_ne (Or.inl (own_w hw 34 rfl)) (Or.inl (own_w hw 24 rfl)) (by decide) (t := .double) (t' := (.array .byte)) (by decide) (by decide)))).other W24 (Or.inr (slot_ne (Or.inl (own_w hw 34 rfl)) (Or.inl (own_w hw 26 rfl)) (by decide) (t := .double) (t' := .int) (by decide) (by decide)))).other W27 (Or.inr (slot_ne (Or.inl (own_w hw 34 rfl)) (Or.inl (own_w hw 28 rfl)) (by decide) (t := .double) (t' := .int) (by decide) (by decide)))).other W30 (Or.inr (slot_ne (Or.inl (own_w hw 34 rfl)) (Or.inl (own_w hw 30 rfl)) (by decide) (t := .double) (t' := .int) (by decide) (by decide)))).other W33 (Or.inr (slot_ne (Or.inl (own_w hw 34 rfl)) (Or.inl (own_w hw 32 rfl)) (by decide) (t := .double) (t' := .int) (by decide) (by decide)))
  have f35 := f32.wr W33
  obtain ⟨T36, h36, X36, e36, W36, st36⟩ := putF X33 hx hZ0 ho0 (host := "") (Or.inl (own_w hw 33 rfl)) Via.refl e33 f34 f35 (Or.inl (own_w hw 34 rfl)) (own_w hw 15 rfl) (ty := .double) (by decide) rfl rfl (g := (mkF m 201 #[vi pa, vi pb, vi ps, vi pj, vi k4, vi st, vi (pj.toInt8.toInt32), vr b1, vr b3, vi at_, vi nc, vr b17, .unset] [(.double Jvm.FP.dconst1), (.ref b17)])) rfl rfl (D at_201)
  have N36 := Fr.snoc X36 N33 g_b17
  have K36 : Keep h0 h36 [] := K33.wr W36 (Or.inr hz_b17)
  have Z36 : n0 ≤ h36.size := Nat.le_trans Z33 (Keep.of_wr W36).1
  have O36 := O33.wr W36 g_b17
  have hk36 := Nat.le_trans hk33 (Keep.of_wr W36).1
  have fw36 := (f34.same W36)
  refine own_st (g' := (mkF m 204 #[vi pa, vi pb, vi ps, vi pj, vi k4, vi st, vi (pj.toInt8.toInt32), vr b1, vr b3, vi at_, vi nc, vr b17, .unset] [])) st36 ?_
  refine own_st (T' := T36) (g' := (mkF m 206 #[vi pa, vi pb, vi ps, vi pj, vi k4, vi st, vi (pj.toInt8.toInt32), vr b1, vr b3, vi at_, vi nc, vr b17, .unset] [(.ref b17)])) (fun t k => ?_) ?_
  ·refine XS.aload X36.here hx rfl (D at_204) rfl rfl ?_
   exact k
  have f37 := f35.wr W36
  have f38 := ((((fw21.other W24 (Or.inr (slot_ne (Or.inl (own_w hw 24 rfl)) (Or.inl (own_w hw 26 rfl)) (by decide) (t := (.array .byte)) (t' := .int) (by decide) (by decide)))).other W27 (Or.inr (slot_ne (Or.inl (own_w hw 24 rfl)) (Or.inl (own_w hw 28 rfl)) (by decide) (t := (.array .byte)) (t' := .int) (by decide) (by decide)))).other W30 (Or.inr (slot_ne (Or.inl (own_w hw 24 rfl)) (Or.inl (own_w hw 30 rfl)) (by decide) (t := (.array .byte)) (t' := .int) (by decide) (by decide)))).other W33 (Or.inr (slot_ne (Or.inl (own_w hw 24 rfl)) (Or.inl (own_w hw 32 rfl)) (by decide) (t := (.array .byte)) (t' := .int) (by decide) (by decide)))).other W36 (Or.inr (slot_ne (Or.inl (own_w hw 24 rfl)) (Or.inl (own_w hw 34 rfl)) (by decide) (t := (.array .byte)) (t' := .double) (by decide) (by decide)))
  have f39 := (((fw24.other W27 (Or.inr (slot_ne (Or.inl (own_w hw 26 rfl)) (Or.inl (own_w hw 28 rfl)) (by decide) (t := .int) (t' := .int) (by decide) (by decide)))).other W30 (Or.inr (slot_ne (Or.inl (own_w hw 26 rfl)) (Or.inl (own_w hw 30 rfl)) (by decide) (t := .int) (t' := .int) (by decide) (by decide)))).other W33 (Or.inr (slot_ne (Or.inl (own_w hw 26 rfl)) (Or.inl (own_w hw 32 rfl)) (by decide) (t := .int) (t' := .int) (by decide) (by decide)))).other W36 (Or.inr (slot_ne (Or.inl (own_w hw 26 rfl)) (Or.inl (own_w hw 34 rfl)) (by decide) (t := .int) (t' := .double) (by decide) (by decide)))
  have f40 := ((fw27.other W30 (Or.inr (slot_ne (Or.inl (own_w hw 28 rfl)) (Or.inl (own_w hw 30 rfl)) (by decide) (t := .int) (t' := .int) (by decide) (by decide)))).other W33 (Or.inr (slot_ne (Or.inl (own_w hw 28 rfl)) (Or.inl (own_w hw 32 rfl)) (by decide) (t := .int) (t' := .int) (by decide) (by decide)))).other W36 (Or.inr (slot_ne (Or.inl (own_w hw 28 rfl)) (Or.inl (own_w hw 34 rfl)) (by decide) (t := .int) (t' := .double) (by decide) (by decide)))
  have f41 := ((((((fw16.ext E17).other W21 ne_b1_b17).other W24 ne_b1_b17).other W27 ne_b1_b17).other W30 ne_b1_b17).other W33 ne_b1_b17).other W36 ne_b1_b17
  obtain ⟨cq42, kq42, q42a, q42b, q42c⟩ := isOf hZ0 e36 f37
  obtain ⟨_, _, ⟨T42, L42, c42, n42⟩, -, X42, ⟨Lc42, hQ42, l42, y42, z42⟩, st42⟩ := X36.virtualBack hx (y := own_y31) (z := own_y31) ho0 (mvT hZ0 (own_w hw 35 rfl)) (mvT hZ0 (own_w hw 36 rfl)) (notFace_of_selects (args := #[]) (mvT hZ0 (own_w hw 38 rfl))) (mvT hZ0 (own_w hw 38 rfl)) (mvT hZ0 (own_w hw 37 rfl)) (by decide) (backOf (W := 0) (own_rm6 l Z a0 hw b17 b1 k1 ((Lb.set (at_).toNatClampNeg (pj.toInt8.toInt32)).set ((at_ + (1 : Int32))).toNatClampNeg (pj.toInt8.toInt32)) sg st pn ch at_ cs fm u8 h36 n0 Z36 O36 f37 f38 f39 f40 f41 hst (own_seg_s (own_seg_s hsg (by rw [own_clamp hat]; omega) _) (by rw [own_clamp (own_add hat own_i1 (by omega))]; omega) _) hat hrl HB) hZ0 (own_w hw 39 rfl) (own_w hw 16 rfl) (by decide) (by decide)) q42a q42c (g := (mkF m 206 #[vi pa, vi pb, vi ps, vi pj, vi k4, vi st, vi (pj.toInt8.toInt32), vr b1, vr b3, vi at_, vi nc, vr b17, .unset] [(.ref b17)])) rfl (by rw [hml]; rfl) (Steps.refl _) (argsL := []) (rest := []) (lenOf own_pd30 rfl) rfl own_w0 (D at_206) (fun _ _ => ⟨rfl, e36, (by decide : 3 + 4 ≤ _), (by decide : 26 + 36 ≤ _)⟩)
  dsimp only [Pt.U, Pt.locs, Pt.cells, Pt.slots] at X42 l42 y42 z42 st42 hQ42
  subst l42 y42 z42
  obtain ⟨h42, e42⟩ : ∃ z, T42.heap = z := ⟨_, rfl⟩
  rw [e42] at hQ42
  obtain ⟨r42, t42, k42, cd42, vs42, rfl, N42q, Kc42, Ec42, Fv42, Fo42, Vc42, hstr42⟩ := hQ42
  have N42 := Fr.app N36 N42q
  have K42 : Keep h0 h42 [] := K36.trans Kc42 all0
  have Z42 : n0 ≤ h42.size := Nat.le_trans Z36 Kc42.1
  have O42 := O36.keep Kc42 all0
  have hk42 := Nat.le_trans hk36 Kc42.1
  refine own_tr (g' := (mkF m 209 #[vi pa, vi pb, vi ps, vi pj, vi k4, vi st, vi (pj.toInt8.toInt32), vr b1, vr b3, vi at_, vi nc, vr b17, .unset] [(.ref r42)])) st42 ?_
  refine own_st (T' := T42) (g' := (mkF m 213 #[vi pa, vi pb, vi ps, vi pj, vi k4, vi st, vi (pj.toInt8.toInt32), vr b1, vr b3, vi at_, vi nc, vr b17, vr r42] [(.ref r42)])) (fun t k => ?_) ?_
  ·refine XS.astore X42.here hx rfl (D at_209) rfl rfl (l' := #[vi pa, vi pb, vi ps, vi pj, vi k4, vi st, vi (pj.toInt8.toInt32), vr b1, vr b3, vi at_, vi nc, vr b17, vr r42]) rfl ?_
   refine XS.aload X42.here hx rfl (D at_211) rfl rfl ?_
   exact k
  rcases own_shp hrl hstr42 with (⟨c0, rfl, rfl, rfl, e0⟩ | ⟨c0, c1, rfl, rfl, rfl, e0, e1⟩) | (⟨c0, rfl, rfl, rfl, e0⟩ | ⟨c0, c1, rfl, rfl, rfl, e0, e1⟩ | ⟨c0, c1, c2, rfl, rfl, rfl, e0, e1, e2⟩ | ⟨c0, c1, c2, c3, rfl, rfl, rfl, e0, e1, e2, e3⟩)
  ·obtain rfl : nc = (1 : Int32) := hnc
   obtain ⟨cq43, kq43, q43a, q43b, q43c⟩ := isOf hZ0 e42 Ec42
   obtain ⟨_, _, ⟨T43, L43, c43, n43⟩, -, X43, ⟨Lc43, hQ43, l43, y43, z43⟩, st43⟩ := X42.virtualBack hx (y := own_y34) (z := own_y34) ho0 (mvT hZ0 (own_w hw 147 rfl)) (mvT hZ0 (own_w hw 148 rfl)) (notFace_of_selects (args := #[]) (mvT hZ0 (own_w hw 150 rfl))) (mvT hZ0 (own_w hw 150 rfl)) (mvT hZ0 (own_w hw 149 rfl)) (by decide) (backOf (W := 0) (own_rm29_0 l Z a0 hw r42 t42 k42 [(c0.toInt8.toInt32)] (1 : Int32) (1 : Int32) cs fm u8 h42 n0 Z42 O42 Ec42 Fv42 Fo42 Vc42 (by decide) HB) hZ0 (own_w hw 151 rfl) (own_w hw 42 rfl) (by decide) (by decide)) q43a q43c (g := (mkF m 213 #[vi pa, vi pb, vi ps, vi pj, vi k4, vi st, vi (pj.toInt8.toInt32), vr b1, vr b3, vi at_, vi 1, vr b17, vr r42] [(.ref r42)])) rfl (by rw [hml]; rfl) (Steps.refl _) (argsL := []) (rest := []) (lenOf own_pd31 rfl) rfl own_w0 (D at_213) (fun _ _ => ⟨rfl, e42, (by decide : 7 + 0 ≤ _), (by decide : 62 + 0 ≤ _)⟩)
   dsimp only [Pt.U, Pt.locs, Pt.cells, Pt.slots] at X43 l43 y43 z43 st43 hQ43
   subst l43 y43 z43
   obtain ⟨rfl, N43q, e43⟩ := hQ43
   have N43 := Fr.app N42 N43q
   refine own_tr (g' := (mkF m 216 #[vi pa, vi pb, vi ps, vi pj, vi k4, vi st, vi (pj.toInt8.toInt32), vr b1, vr b3, vi at_, vi 1, vr b17, vr r42] [(.int 1)])) st43 ?_
   refine own_st (T' := T43) (g' := (mkF m 230 #[vi pa, vi pb, vi ps, vi pj, vi k4, vi st, vi (pj.toInt8.toInt32), vr b1, vr b3, vi at_, vi 1, vr b17, vr r42] [(.int 0), (.ref r42)])) (fun t k => ?_) ?_
   ·refine XS.iload X43.here hx rfl (D at_216) rfl ?_
    refine XS.icmpNo X43.here hx rfl (D at_218) rfl (teq (rfl : (1 : Int32) = (1 : Int32))).2 ?_
    refine XS.iload X43.here hx rfl (D at_221) rfl ?_
    refine XS.iconst X43.here hx rfl (D at_223) ?_
    refine XS.icmpNo X43.here hx rfl (D at_224) rfl (flt Int32.lt_irrefl).1 ?_
    refine XS.aload X43.here hx rfl (D at_227) rfl rfl ?_
    refine XS.iconst X43.here hx rfl (D at_229) ?_
    exact k
   obtain ⟨cq44, kq44, q44a, q44b, q44c⟩ := isOf hZ0 e43 Ec42
   obtain ⟨_, _, ⟨T44, L44, c44, n44⟩, -, X44, ⟨Lc44, hQ44, l44, y44, z44⟩, st44⟩ := X43.virtualBack hx (y := own_y39) (z := own_y39) ho0 (mvT hZ0 (own_w hw 157 rfl)) (mvT hZ0 (own_w hw 158 rfl)) (notFace_of_selects (args := #[]) (mvT hZ0 (own_w hw 160 rfl))) (mvT hZ0 (own_w hw 160 rfl)) (mvT hZ0 (own_w hw 159 rfl)) (by decide) (backOf (W := 0) (own_rm31_0 l Z a0 hw r42 t42 k42 [(c0.toInt8.toInt32)] (1 : Int32) (0 : Int32) (c0.toInt8.toInt32) cs fm u8 h42 n0 Z42 O42 Ec42 Fv42 Fo42 Vc42 (by decide) (by decide) rfl HB) hZ0 (own_w hw 161 rfl) (own_w hw 42 rfl) (by decide) (by decide)) q44a q44c (g := (mkF m 230 #[vi pa, vi pb, vi ps, vi pj, vi k4, vi st, vi (pj.toInt8.toInt32), vr b1, vr b3, vi at_, vi 1, vr b17, vr r42] [(.int 0), (.ref r42)])) rfl (by rw [hml]; rfl) (Steps.refl _) (argsL := [(.int 0)]) (rest := []) (lenOf own_pd17 rfl) rfl own_w0 (D at_230) (fun _ _ => ⟨rfl, e43, (by decide : 7 + 0 ≤ _), (by decide : 62 + 0 ≤ _)⟩)
   dsimp only [Pt.U, Pt.locs, Pt.cells, Pt.slots] at X44 l44 y44 z44 st44 hQ44
   subst l44 y44 z44
   obtain ⟨rfl, N44q, e44⟩ := hQ44
   have N44 := Fr.app N43 N44q
   refine own_tr (g' := (mkF m 233 #[vi pa, vi pb, vi ps, vi pj, vi k4, vi st, vi (pj.toInt8.toInt32), vr b1, vr b3, vi at_, vi 1, vr b17, vr r42] [(.int (own_lc (c0.toInt8.toInt32)))])) st44 ?_
   refine own_st (T' := T44) (g' := (mkF m 236 #[vi pa, vi pb, vi ps, vi pj, vi k4, vi st, vi (pj.toInt8.toInt32), vr b1, vr b3, vi at_, vi 1, vr b17, vr r42] [(.int 0), (.ref b3), (.int (own_lc (c0.toInt8.toInt32)))])) (fun t k => ?_) ?_
   ·refine XS.aload X44.here hx rfl (D at_233) rfl rfl ?_
    refine XS.iconst X44.here hx rfl (D at_235) ?_
    exact k
   have f45 := (((((((f19.ext E17).other W21 ne_b3_b17).other W24 ne_b3_b17).other W27 ne_b3_b17).other W30 ne_b3_b17).other W33 ne_b3_b17).other W36 ne_b3_b17).keep Kc42 nin0
   obtain ⟨cl46, Ar46, q46, S46, M46, H46, G46⟩ := id f45
   refine own_st (T' := T44) (g' := (mkF m 302 #[vi pa, vi pb, vi ps, vi pj, vi k4, vi st, vi (pj.toInt8.toInt32), vr b1, vr b3, vi at_, vi 1, vr b17, vr r42] [(.int 1)])) (fun t k => ?_) ?_
   ·refine X44.caload hx (j := (0 : Int32)) (v := (.int c0)) (by rw [e44]; exact Ar46.1) (State.isArrayOf_alike hZ0.alike Ar46.2.1) Ar46.2.2 (inb_of S46 ⟨by decide, by decide⟩) (Has.at H46 (inb_of S46 ⟨by decide, by decide⟩) ((own_lget Lc ((0 : Int32)).toNatClampNeg).trans (congrArg Value.int (own_bfr hbf 0 rfl (by simp))))) (g := (mkF m 236 #[vi pa, vi pb, vi ps, vi pj, vi k4, vi st, vi (pj.toInt8.toInt32), vr b1, vr b3, vi at_, vi 1, vr b17, vr r42] [(.int 0), (.ref b3), (.int (own_lc (c0.toInt8.toInt32)))])) rfl rfl (D at_236) _ ?_
    refine XS.icmpNo X44.here hx rfl (D at_237) rfl (teq e0).2 ?_
    refine XS.iload X44.here hx rfl (D at_240) rfl ?_
    refine XS.iconst X44.here hx rfl (D at_242) ?_
    refine XS.icmpYes X44.here hx rfl (pc0 := 243) (pc' := 259) rfl (D at_243) rfl (tlt (by decide : (1 : Int32) < (2 : Int32))).1 (by decide) (by decide) ?_
    refine XS.iload X44.here hx rfl (D at_259) rfl ?_
    refine XS.iconst X44.here hx rfl (D at_261) ?_
    refine XS.icmpYes X44.here hx rfl (pc0 := 262) (pc' := 278) rfl (D at_262) rfl (tlt (by decide : (1 : Int32) < (3 : Int32))).1 (by decide) (by decide) ?_
    refine XS.iload X44.here hx rfl (D at_278) rfl ?_
    refine XS.iconst X44.here hx rfl (D at_280) ?_
    refine XS.icmpYes X44.here hx rfl (pc0 := 281) (pc' := 297) rfl (D at_281) rfl (tlt (by decide : (1 : Int32) < (4 : Int32))).1 (by decide) (by decide) ?_
    refine XS.iconst X44.here hx rfl (D at_297) ?_
    refine XS.goto X44.here hx rfl (pc0 := 298) (pc' := 302) rfl (D at_298) (by decide) (by decide) ?_
    exact k
   exact own_retNW X44 hx Bd (t := .boolean) (by simp) rfl (D at_302) e44 (⟨rfl, N44⟩) hS0 hk42 (by decide) (by decide)
  ·obtain rfl : nc = (2 : Int32) := hnc
   obtain ⟨cq47, kq47, q47a, q47b, q47c⟩ := isOf hZ0 e42 Ec42
   obtain ⟨_, _, ⟨T47, L47, c47, n47⟩, -, X47, ⟨Lc47, hQ47, l47, y47, z47⟩, st47⟩ := X42.virtualBack hx (y := own_y34) (z := own_y34) ho0 (mvT hZ0 (own_w hw 147 rfl)) (mvT hZ0 (own_w hw 148 rfl)) (notFace_of_selects (args := #[]) (mvT hZ0 (own_w hw 150 rfl))) (mvT hZ0 (own_w hw 150 rfl)) (mvT hZ0 (own_w hw 149 rfl)) (by decide) (backOf (W := 0) (own_rm29_0 l Z a0 hw r42 t42 k42 [(c0.toInt8.toInt32), (c1.toInt8.toInt32)] (2 : Int32) (2 : Int32) cs fm u8 h42 n0 Z42 O42 Ec42 Fv42 Fo42 Vc42 (by decide) HB) hZ0 (own_w hw 151 rfl) (own_w hw 42 rfl) (by decide) (by decide)) q47a q47c (g := (mkF m 213 #[vi pa, vi pb, vi ps, vi pj, vi k4, vi st, vi (pj.toInt8.toInt32), vr b1, vr b3, vi at_, vi 2, vr b17, vr r42] [(.ref r42)])) rfl (by rw [hml]; rfl) (Steps.refl _) (argsL := []) (rest := []) (lenOf own_pd31 rfl) rfl own_w0 (D at_213) (fun _ _ => ⟨rfl, e42, (by decide : 7 + 0 ≤ _), (by decide : 62 + 0 ≤ _)⟩)
   dsimp only [Pt.U, Pt.locs, Pt.cells, Pt.slots] at X47 l47 y47 z47 st47 hQ47
   subst l47 y47 z47
   obtain ⟨rfl, N47q, e47⟩ := hQ47
   have N47 := Fr.app N42 N47q
   refine own_tr (g' := (mkF m 216 #[vi pa, vi pb, vi ps, vi pj, vi k4, vi st, vi (pj.toInt8.toInt32), vr b1, vr b3, vi at_, vi 2, vr b17, vr r42] [(.int 2)])) st47 ?_
   refine own_st (T' := T47) (g' := (mkF m 230 #[vi pa, vi pb, vi ps, vi pj, vi k4, vi st, vi (pj.toInt8.toInt32), vr b1, vr b3, vi at_, vi 2, vr b17, vr r42] [(.int 0), (.ref r42)])) (fun t k => ?_) ?_
   ·refine XS.iload X47.here hx rfl (D at_216) rfl ?_
    refine XS.icmpNo X47.here hx rfl (D at_218) rfl (teq (rfl : (2 : Int32) = (2 : Int32))).2 ?_
    refine XS.iload X47.here hx rfl (D at_221) rfl ?_
    refine XS.iconst X47.here hx rfl (D at_223) ?_
    refine XS.icmpNo X47.here hx rfl (D at_224) rfl (flt (by decide : ¬ ((2 : Int32) < (1 : Int32)))).1 ?_
    refine XS.aload X47.here hx rfl (D at_227) rfl rfl ?_
    refine XS.iconst X47.here hx rfl (D at_229) ?_
    exact k
   obtain ⟨cq48, kq48, q48a, q48b, q48c⟩ := isOf hZ0 e47 Ec42
   obtain ⟨_, _, ⟨T48, L48, c48, n48⟩, -, X48, ⟨Lc48, hQ48, l48, y48, z48⟩, st48⟩ := X47.virtualBack hx (y := own_y39) (z := own_y39) ho0 (mvT hZ0 (own_w hw 157 rfl)) (mvT hZ0 (own_w hw 158 rfl)) (notFace_of_selects (args := #[]) (mvT hZ0 (own_w hw 160 rfl))) (mvT hZ0 (own_w hw 160 rfl)) (mvT hZ0 (own_w hw 159 rfl)) (by decide) (backOf (W := 0) (own_rm31_0 l Z a0 hw r42 t42 k42 [(c0.toInt8.toInt32), (c1.toInt8.toInt32)] (2 : Int32) (0 : Int32) (c0.toInt8.toInt32) cs fm u8 h42 n0 Z42 O42 Ec42 Fv42 Fo42 Vc42 (by decide) (by decide) rfl HB) hZ0 (own_w hw 161 rfl) (own_w hw 42 rfl) (by decide) (by decide)) q48a q48c (g := (mkF m 230 #[vi pa, vi pb, vi ps, vi pj, vi k4, vi st, vi (pj.toInt8.toInt32), vr b1, vr b3, vi at_, vi 2, vr b17, vr r42] [(.int 0), (.ref r42)])) rfl (by rw [hml]; rfl) (Steps.refl _) (argsL := [(.int 0)]) (rest := []) (lenOf own_pd17 rfl) rfl own_w0 (D at_230) (fun _ _ => ⟨rfl, e47, (by decide : 7 + 0 ≤ _), (by decide : 62 + 0 ≤ _)⟩)
   dsimp only [Pt.U, Pt.locs, Pt.cells, Pt.slots] at X48 l48 y48 z48 st48 hQ48
   subst l48 y48 z48
   obtain ⟨rfl, N48q, e48⟩ := hQ48
   have N48 := Fr.app N47 N48q
   refine own_tr (g' := (mkF m 233 #[vi pa, vi pb, vi ps, vi pj, vi k4, vi st, vi (pj.toInt8.toInt32), vr b1, vr b3, vi at_, vi 2, vr b17, vr r42] [(.int (own_lc (c0.toInt8.toInt32)))])) st48 ?_
   refine own_st (T' := T48) (g' := (mkF m 236 #[vi pa, vi pb, vi ps, vi pj, vi k4, vi st, vi (pj.toInt8.toInt32), vr b1, vr b3, vi at_, vi 2, vr b17, vr r42] [(.int 0), (.ref b3), (.int (own_lc (c0.toInt8.toInt32)))])) (fun t k => ?_) ?_
   ·refine XS.aload X48.here hx rfl (D at_233) rfl rfl ?_
    refine XS.iconst X48.here hx rfl (D at_235) ?_
    exact k
   have f49 := (((((((f19.ext E17).other W21 ne_b3_b17).other W24 ne_b3_b17).other W27 ne_b3_b17).other W30 ne_b3_b17).other W33 ne_b3_b17).other W36 ne_b3_b17).keep Kc42 nin0
   obtain ⟨cl50, Ar50, q50, S50, M50, H50, G50⟩ := id f49
   refine own_st (T' := T48) (g' := (mkF m 249 #[vi pa, vi pb, vi ps, vi pj, vi k4, vi st, vi (pj.toInt8.toInt32), vr b1, vr b3, vi at_, vi 2, vr b17, vr r42] [(.int 1), (.ref r42)])) (fun t k => ?_) ?_
   ·refine X48.caload hx (j := (0 : Int32)) (v := (.int c0)) (by rw [e48]; exact Ar50.1) (State.isArrayOf_alike hZ0.alike Ar50.2.1) Ar50.2.2 (inb_of S50 ⟨by decide, by decide⟩) (Has.at H50 (inb_of S50 ⟨by decide, by decide⟩) ((own_lget Lc ((0 : Int32)).toNatClampNeg).trans (congrArg Value.int (own_bfr hbf 0 rfl (by simp))))) (g := (mkF m 236 #[vi pa, vi pb, vi ps, vi pj, vi k4, vi st, vi (pj.toInt8.toInt32), vr b1, vr b3, vi at_, vi 2, vr b17, vr r42] [(.int 0), (.ref b3), (.int (own_lc (c0.toInt8.toInt32)))])) rfl rfl (D at_236) _ ?_
    refine XS.icmpNo X48.here hx rfl (D at_237) rfl (teq e0).2 ?_
    refine XS.iload X48.here hx rfl (D at_240) rfl ?_
    refine XS.iconst X48.here hx rfl (D at_242) ?_
    refine XS.icmpNo X48.here hx rfl (D at_243) rfl (flt Int32.lt_irrefl).1 ?_
    refine XS.aload X48.here hx rfl (D at_246) rfl rfl ?_
    refine XS.iconst X48.here hx rfl (D at_248) ?_
    exact k
   obtain ⟨cq51, kq51, q51a, q51b, q51c⟩ := isOf hZ0 e48 Ec42
   obtain ⟨_, _, ⟨T51, L51, c51, n51⟩, -, X51, ⟨Lc51, hQ51, l51, y51, z51⟩, st51⟩ := X48.virtualBack hx (y := own_y39) (z := own_y39) ho0 (mvT hZ0 (own_w hw 157 rfl)) (mvT hZ0 (own_w hw 158 rfl)) (notFace_of_selects (args := #[]) (mvT hZ0 (own_w hw 160 rfl))) (mvT hZ0 (own_w hw 160 rfl)) (mvT hZ0 (own_w hw 159 rfl)) (by decide) (backOf (W := 0) (own_rm31_0 l Z a0 hw r42 t42 k42 [(c0.toInt8.toInt32), (c1.toInt8.toInt32)] (2 : Int32) (1 : Int32) (c1.toInt8.toInt32) cs fm u8 h42 n0 Z42 O42 Ec42 Fv42 Fo42 Vc42 (by decide) (by decide) rfl HB) hZ0 (own_w hw 161 rfl) (own_w hw 42 rfl) (by decide) (by decide)) q51a q51c (g := (mkF m 249 #[vi pa, vi pb, vi ps, vi pj, vi k4, vi st, vi (pj.toInt8.toInt32), vr b1, vr b3, vi at_, vi 2, vr b17, vr r42] [(.int 1), (.ref r42)])) rfl (by rw [hml]; rfl) (Steps.refl _) (argsL := [(.int 1)]) (rest := []) (lenOf own_pd17 rfl) rfl own_w0 (D at_249) (fun _ _ => ⟨rfl, e48, (by decide : 7 + 0 ≤ _), (by decide : 62 + 0 ≤ _)⟩)
   dsimp only [Pt.U, Pt.locs, Pt.cells, Pt.slots] at X51 l51 y51 z51 st51 hQ51
   subst l51 y51 z51
   obtain ⟨rfl, N51q, e51⟩ := hQ51
   have N51 := Fr.app N48 N51q
   refine own_tr (g' := (mkF m 252 #[vi pa, vi pb, vi ps, vi pj, vi k4, vi st, vi (pj.toInt8.toInt32), vr b1, vr b3, vi at_, vi 2, vr b17, vr r42] [(.int (own_lc (c1.toInt8.toInt32)))])) st51 ?_
   refine own_st (T' := T51) (g' := (mkF m 255 #[vi pa, vi pb, vi ps, vi pj, vi k4, vi st, vi (pj.toInt8.toInt32), vr b1, vr b3, vi at_, vi 2, vr b17, vr r42] [(.int 1), (.ref b3), (.int (own_lc (c1.toInt8.toInt32)))])) (fun t k => ?_) ?_
   ·refine XS.aload X51.here hx rfl (D at_252) rfl rfl ?_
    refine XS.iconst X51.here hx rfl (D at_254) ?_
    exact k
   obtain ⟨cl52, Ar52, q52, S52, M52, H52, G52⟩ := id f49
   refine own_st (T' := T51) (g' := (mkF m 302 #[vi pa, vi pb, vi ps, vi pj, vi k4, vi st, vi (pj.toInt8.toInt32), vr b1, vr b3, vi at_, vi 2, vr b17, vr r42] [(.int 1)])) (fun t k => ?_) ?_
   ·refine X51.caload hx (j := (1 : Int32)) (v := (.int c1)) (by rw [e51]; exact Ar52.1) (State.isArrayOf_alike hZ0.alike Ar52.2.1) Ar52.2.2 (inb_of S52 ⟨by decide, by decide⟩) (Has.at H52 (inb_of S52 ⟨by decide, by decide⟩) ((own_lget Lc ((1 : Int32)).toNatClampNeg).trans (congrArg Value.int (own_bfr hbf 1 rfl (by simp))))) (g := (mkF m 255 #[vi pa, vi pb, vi ps, vi pj, vi k4, vi st, vi (pj.toInt8.toInt32), vr b1, vr b3, vi at_, vi 2, vr b17, vr r42] [(.int 1), (.ref b3), (.int (own_lc (c1.toInt8.toInt32)))])) rfl rfl (D at_255) _ ?_
    refine XS.icmpNo X51.here hx rfl (D at_256) rfl (teq e1).2 ?_
    refine XS.iload X51.here hx rfl (D at_259) rfl ?_
    refine XS.iconst X51.here hx rfl (D at_261) ?_
    refine XS.icmpYes X51.here hx rfl (pc0 := 262) (pc' := 278) rfl (D at_262) rfl (tlt (by decide : (2 : Int32) < (3 : Int32))).1 (by decide) (by decide) ?_
    refine XS.iload X51.here hx rfl (D at_278) rfl ?_
    refine XS.iconst X51.here hx rfl (D at_280) ?_
    refine XS.icmpYes X51.here hx rfl (pc0 := 281) (pc' := 297) rfl (D at_281) rfl (tlt (by decide : (2 : Int32) < (4 : Int32))).1 (by decide) (by decide) ?_
    refine XS.iconst X51.here hx rfl (D at_297) ?_
    refine XS.goto X51.here hx rfl (pc0 := 298) (pc' := 302) rfl (D at_298) (by decide) (by decide) ?_
    exact k
   exact own_retNW X51 hx Bd (t := .boolean) (by simp) rfl (D at_302) e51 (⟨rfl, N51⟩) hS0 hk42 (by decide) (by decide)
  ·obtain rfl : nc = (1 : Int32) := hnc
   obtain ⟨cq53, kq53, q53a, q53b, q53c⟩ := isOf hZ0 e42 Ec42
   obtain ⟨_, _, ⟨T53, L53, c53, n53⟩, -, X53, ⟨Lc53, hQ53, l53, y53, z53⟩, st53⟩ := X42.virtualBack hx (y := own_y34) (z := own_y34) ho0 (mvT hZ0 (own_w hw 147 rfl)) (mvT hZ0 (own_w hw 148 rfl)) (notFace_of_selects (args := #[]) (mvT hZ0 (own_w hw 150 rfl))) (mvT hZ0 (own_w hw 150 rfl)) (mvT hZ0 (own_w hw 149 rfl)) (by decide) (backOf (W := 0) (own_rm29_1 l Z a0 hw r42 t42 k42 [(own_LO c0), (own_HI c0)] (2 : Int32) (1 : Int32) cs fm u8 h42 n0 Z42 O42 Ec42 Fv42 Fo42 Vc42 (by decide) HB) hZ0 (own_w hw 151 rfl) (own_w hw 42 rfl) (by decide) (by decide)) q53a q53c (g := (mkF m 213 #[vi pa, vi pb, vi ps, vi pj, vi k4, vi st, vi (pj.toInt8.toInt32), vr b1, vr b3, vi at_, vi 1, vr b17, vr r42] [(.ref r42)])) rfl (by rw [hml]; rfl) (Steps.refl _) (argsL := []) (rest := []) (lenOf own_pd31 rfl) rfl own_w0 (D at_213) (fun _ _ => ⟨rfl, e42, (by decide : 7 + 0 ≤ _), (by decide : 62 + 0 ≤ _)⟩)
   dsimp only [Pt.U, Pt.locs, Pt.cells, Pt.slots] at X53 l53 y53 z53 st53 hQ53
   subst l53 y53 z53
   obtain ⟨rfl, N53q, e53⟩ := hQ53
   have N53 := Fr.app N42 N53q
   refine own_tr (g' := (mkF m 216 #[vi pa, vi pb, vi ps, vi pj, vi k4, vi st, vi (pj.toInt8.toInt32), vr b1, vr b3, vi at_, vi 1, vr b17, vr r42] [(.int 1)])) st53 ?_
   refine own_st (T' := T53) (g' := (mkF m 230 #[vi pa, vi pb, vi ps, vi pj, vi k4, vi st, vi (pj.toInt8.toInt32), vr b1, vr b3, vi at_, vi 1, vr b17, vr r42] [(.int 0), (.ref r42)])) (fun t k => ?_) ?_
   ·refine XS.iload X53.here hx rfl (D at_216) rfl ?_
    refine XS.icmpNo X53.here hx rfl (D at_218) rfl (teq (rfl : (1 : Int32) = (1 : Int32))).2 ?_
    refine XS.iload X53.here hx rfl (D at_221) rfl ?_
    refine XS.iconst X53.here hx rfl (D at_223) ?_
    refine XS.icmpNo X53.here hx rfl (D at_224) rfl (flt Int32.lt_irrefl).1 ?_
    refine XS.aload X53.here hx rfl (D at_227) rfl rfl ?_
    refine XS.iconst X53.here hx rfl (D at_229) ?_
    exact k
   obtain ⟨cq54, kq54, q54a, q54b, q54c⟩ := isOf hZ0 e53 Ec42
   obtain ⟨_, _, ⟨T54, L54, c54, n54⟩, -, X54, ⟨Lc54, hQ54, l54, y54, z54⟩, st54⟩ := X53.virtualBack hx (y := own_y39) (z := own_y39) ho0 (mvT hZ0 (own_w hw 157 rfl)) (mvT hZ0 (own_w hw 158 rfl)) (notFace_of_selects (args := #[]) (mvT hZ0 (own_w hw 160 rfl))) (mvT hZ0 (own_w hw 160 rfl)) (mvT hZ0 (own_w hw 159 rfl)) (by decide) (backOf (W := 0) (own_rm31_1 l Z a0 hw r42 t42 k42 [(own_LO c0), (own_HI c0)] (2 : Int32) (0 : Int32) (own_LO c0) (own_HI c0) cs fm u8 h42 n0 Z42 O42 Ec42 Fv42 Fo42 Vc42 (by decide) (by decide) (by decide) (by decide) rfl rfl HB) hZ0 (own_w hw 161 rfl) (own_w hw 42 rfl) (by decide) (by decide)) q54a q54c (g := (mkF m 230 #[vi pa, vi pb, vi ps, vi pj, vi k4, vi st, vi (pj.toInt8.toInt32), vr b1, vr b3, vi at_, vi 1, vr b17, vr r42] [(.int 0), (.ref r42)])) rfl (by rw [hml]; rfl) (Steps.refl _) (argsL := [(.int 0)]) (rest := []) (lenOf own_pd17 rfl) rfl own_w0 (D at_230) (fun _ _ => ⟨rfl, e53, (by decide : 7 + 0 ≤ _), (by decide : 62 + 0 ≤ _)⟩)
   dsimp only [Pt.U, Pt.locs, Pt.cells, Pt.slots] at X54 l54 y54 z54 st54 hQ54
   subst l54 y54 z54
   obtain ⟨rfl, N54q, e54⟩ := hQ54
   have N54 := Fr.app N53 N54q
   refine own_tr (g' := (mkF m 233 #[vi pa, vi pb, vi ps, vi pj, vi k4, vi st, vi (pj.toInt8.toInt32), vr b1, vr b3, vi at_, vi 1, vr b17, vr r42] [(.int (own_gc (own_LO c0) (own_HI c0)))])) st54 ?_
   refine own_st (T' := T54) (g' := (mkF m 236 #[vi pa, vi pb, vi ps, vi pj, vi k4, vi st, vi (pj.toInt8.toInt32), vr b1, vr b3, vi at_, vi 1, vr b17, vr r42] [(.int 0), (.ref b3), (.int (own_gc (own_LO c0) (own_HI c0)))])) (fun t k => ?_) ?_
   ·refine XS.aload X54.here hx rfl (D at_233) rfl rfl ?_
    refine XS.iconst X54.here hx rfl (D at_235) ?_
    exact k
   have f55 := (((((((f19.ext E17).other W21 ne_b3_b17).other W24 ne_b3_b17).other W27 ne_b3_b17).other W30 ne_b3_b17).other W33 ne_b3_b17).other W36 ne_b3_b17).keep Kc42 nin0
   obtain ⟨cl56, Ar56, q56, S56, M56, H56, G56⟩ := id f55
   refine own_st (T' := T54) (g' := (mkF m 302 #[vi pa, vi pb, vi ps, vi pj, vi k4, vi st, vi (pj.toInt8.toInt32), vr b1, vr b3, vi at_, vi 1, vr b17, vr r42] [(.int 1)])) (fun t k => ?_) ?_
   ·refine X54.caload hx (j := (0 : Int32)) (v := (.int c0)) (by rw [e54]; exact Ar56.1) (State.isArrayOf_alike hZ0.alike Ar56.2.1) Ar56.2.2 (inb_of S56 ⟨by decide, by decide⟩) (Has.at H56 (inb_of S56 ⟨by decide, by decide⟩) ((own_lget Lc ((0 : Int32)).toNatClampNeg).trans (congrArg Value.int (own_bfr hbf 0 rfl (by simp))))) (g := (mkF m 236 #[vi pa, vi pb, vi ps, vi pj, vi k4, vi st, vi (pj.toInt8.toInt32), vr b1, vr b3, vi at_, vi 1, vr b17, vr r42] [(.int 0), (.ref b3), (.int (own_gc (own_LO c0) (own_HI c0)))])) rfl rfl (D at_236) _ ?_
    refine XS.icmpNo X54.here hx rfl (D at_237) rfl (teq e0).2 ?_
    refine XS.iload X54.here hx rfl (D at_240) rfl ?_
    refine XS.iconst X54.here hx rfl (D at_242) ?_
    refine XS.icmpYes X54.here hx rfl (pc0 := 243) (pc' := 259) rfl (D at_243) rfl (tlt (by decide : (1 : Int32) < (2 : Int32))).1 (by decide) (by decide) ?_
    refine XS.iload X54.here hx rfl (D at_259) rfl ?_
    refine XS.iconst X54.here hx rfl (D at_261) ?_
    refine XS.icmpYes X54.here hx rfl (pc0 := 262) (pc' := 278) rfl (D at_262) rfl (tlt (by decide : (1 : Int32) < (3 : Int32))).1 (by decide) (by decide) ?_
    refine XS.iload X54.here hx rfl (D at_278) rfl ?_
    refine XS.iconst X54.here hx rfl (D at_280) ?_
    refine XS.icmpYes X54.here hx rfl (pc0 := 281) (pc' := 297) rfl (D at_281) rfl (tlt (by decide : (1 : Int32) < (4 : Int32))).1 (by decide) (by decide) ?_
    refine XS.iconst X54.here hx rfl (D at_297) ?_
    refine XS.goto X54.here hx rfl (pc0 := 298) (pc' := 302) rfl (D at_298) (by decide) (by decide) ?_
    exact k
   exact own_retNW X54 hx Bd (t := .boolean) (by simp) rfl (D at_302) e54 (⟨rfl, N54⟩) hS0 hk42 (by decide) (by decide)
  ·obtain rfl : nc = (2 : Int32) := hnc
   obtain ⟨cq57, kq57, q57a, q57b, q57c⟩ := isOf hZ0 e42 Ec42
   obtain ⟨_, _, ⟨T57, L57, c57, n57⟩, -, X57, ⟨Lc57, hQ57, l57, y57, z57⟩, st57⟩ := X42.virtualBack hx (y := own_y34) (z := own_y34) ho0 (mvT hZ0 (own_w hw 147 rfl)) (mvT hZ0 (own_w hw 148 rfl)) (notFace_of_selects (args := #[]) (mvT hZ0 (own_w hw 150 rfl))) (mvT hZ0 (own_w hw 150 rfl)) (mvT hZ0 (own_w hw 149 rfl)) (by decide) (backOf (W := 0) (own_rm29_1 l Z a0 hw r42 t42 k42 [(own_LO c0), (own_HI c0), (own_LO c1), (own_HI c1)] (4 : Int32) (2 : Int32) cs fm u8 h42 n0 Z42 O42 Ec42 Fv42 Fo42 Vc42 (by decide) HB) hZ0 (own_w hw 151 rfl) (own_w hw 42 rfl) (by decide) (by decide)) q57a q57c (g := (mkF m 213 #[vi pa, vi pb, vi ps, vi pj, vi k4, vi st, vi (pj.toInt8.toInt32), vr b1, vr b3, vi at_, vi 2, vr b17, vr r42] [(.ref r42)])) rfl (by rw [hml]; rfl) (Steps.refl _) (argsL := []) (rest := []) (lenOf own_pd31 rfl) rfl own_w0 (D at_213) (fun _ _ => ⟨rfl, e42, (by decide : 7 + 0 ≤ _), (by decide : 62 + 0 ≤ _)⟩)
   dsimp only [Pt.U, Pt.locs, Pt.cells, Pt.slots] at X57 l57 y57 z57 st57 hQ57
   subst l57 y57 z57
   obtain ⟨rfl, N57q, e57⟩ := hQ57
   have N57 := Fr.app N42 N57q
   refine own_tr (g' := (mkF m 216 #[vi pa, vi pb, vi ps, vi pj, vi k4, vi st, vi (pj.toInt8.toInt32), vr b1, vr b3, vi at_, vi 2, vr b17, vr r42] [(.int 2)])) st57 ?_
   refine own_st (T' := T57) (g' := (mkF m 230 #[vi pa, vi pb, vi ps, vi pj, vi k4, vi st, vi (pj.toInt8.toInt32), vr b1, vr b3, vi at_, vi 2, vr b17, vr r42] [(.int 0), (.ref r42)])) (fun t k => ?_) ?_
   ·refine XS.iload X57.here hx rfl (D at_216) rfl ?_
    refine XS.icmpNo X57.here hx rfl (D at_218) rfl (teq (rfl : (2 : Int32) = (2 : Int32))).2 ?_
    refine XS.iload X57.here hx rfl (D at_221) rfl ?_
    refine XS.iconst X57.here hx rfl (D at_223) ?_
    refine XS.icmpNo X57.here hx rfl (D at_224) rfl (flt (by decide : ¬ ((2 : Int32) < (1 : Int32)))).1 ?_
    refine XS.aload X57.here hx rfl (D at_227) rfl rfl ?_
    refine XS.iconst X57.here hx rfl (D at_229) ?_
    exact k
   obtain ⟨cq58, kq58, q58a, q58b, q58c⟩ := isOf hZ0 e57 Ec42
   obtain ⟨_, _, ⟨T58, L58, c58, n58⟩, -, X58, ⟨Lc58, hQ58, l58, y58, z58⟩, st58⟩ := X57.virtualBack hx (y := own_y39) (z := own_y39) ho0 (mvT hZ0 (own_w hw 157 rfl)) (mvT hZ0 (own_w hw 158 rfl)) (notFace_of_selects (args := #[]) (mvT hZ0 (own_w hw 160 rfl))) (mvT hZ0 (own_w hw 160 rfl)) (mvT hZ0 (own_w hw 159 rfl)) (by decide) (backOf (W := 0) (own_rm31_1 l Z a0 hw r42 t42 k42 [(own_LO c0), (own_HI c0), (own_LO c1), (own_HI c1)] (4 : Int32) (0 : Int32) (own_LO c0) (own_HI c0) cs fm u8 h42 n0 Z42 O42 Ec42 Fv42 Fo42 Vc42 (by decide) (by decide) (by decide) (by decide) rfl rfl HB) hZ0 (own_w hw 161 rfl) (own_w hw 42 rfl) (by decide) (by decide)) q58a q58c (g := (mkF m 230 #[vi pa, vi pb, vi ps, vi pj, vi k4, vi st, vi (pj.toInt8.toInt32), vr b1, vr b3, vi at_, vi 2, vr b17, vr r42] [(.int 0), (.ref r42)])) rfl (by rw [hml]; rfl) (Steps.refl _) (argsL := [(.int 0)]) (rest := []) (lenOf own_pd17 rfl) rfl own_w0 (D at_230) (fun _ _ => ⟨rfl, e57, (by decide : 7 + 0 ≤ _), (by decide : 62 + 0 ≤ _)⟩)
   dsimp only [Pt.U, Pt.locs, Pt.cells, Pt.slots] at X58 l58 y58 z58 st58 hQ58
   subst l58 y58 z58
   obtain ⟨rfl, N58q, e58⟩ := hQ58
   have N58 := Fr.app N57 N58q
   refine own_tr (g' := (mkF m 233 #[vi pa, vi pb, vi ps, vi pj, vi k4, vi st, vi (pj.toInt8.toInt32), vr b1, vr b3, vi at_, vi 2, vr b17, vr r42] [(.int (own_gc (own_LO c0) (own_HI c0)))])) st58 ?_
   refine own_st (T' := T58) (g' := (mkF m 236 #[vi pa, vi pb, vi ps, vi pj, vi k4, vi st, vi (pj.toInt8.toInt32), vr b1, vr b3, vi at_, vi 2, vr b17, vr r42] [(.int 0), (.ref b3), (.int (own_gc (own_LO c0) (own_HI c0)))])) (fun t k => ?_) ?_
   ·refine XS.aload X58.here hx rfl (D at_233) rfl rfl ?_
    refine XS.iconst X58.here hx rfl (D at_235) ?_
    exact k
   have f59 := (((((((f19.ext E17).other W21 ne_b3_b17).other W24 ne_b3_b17).other W27 ne_b3_b17).other W30 ne_b3_b17).other W33 ne_b3_b17).other W36 ne_b3_b17).keep Kc42 nin0
   obtain ⟨cl60, Ar60, q60, S60, M60, H60, G60⟩ := id f59
   refine own_st (T' := T58) (g' := (mkF m 249 #[vi pa, vi pb, vi ps, vi pj, vi k4, vi st, vi (pj.toInt8.toInt32), vr b1, vr b3, vi at_, vi 2, vr b17, vr r42] [(.int 1), (.ref r42)])) (fun t k => ?_) ?_
   ·refine X58.caload hx (j := (0 : Int32)) (v := (.int c0)) (by rw [e58]; exact Ar60.1) (State.isArrayOf_alike hZ0.alike Ar60.2.1) Ar60.2.2 (inb_of S60 ⟨by decide, by decide⟩) (Has.at H60 (inb_of S60 ⟨by decide, by decide⟩) ((own_lget Lc ((0 : Int32)).toNatClampNeg).trans (congrArg Value.int (own_bfr hbf 0 rfl (by simp))))) (g := (mkF m 236 #[vi pa, vi pb, vi ps, vi pj, vi k4, vi st, vi (pj.toInt8.toInt32), vr b1, vr b3, vi at_, vi 2, vr b17, vr r42] [(.int 0), (.ref b3), (.int (own_gc (own_LO c0) (own_HI c0)))])) rfl rfl (D at_236) _ ?_
    refine XS.icmpNo X58.here hx rfl (D at_237) rfl (teq e0).2 ?_
    refine XS.iload X58.here hx rfl (D at_240) rfl ?_
    refine XS.iconst X58.here hx rfl (D at_242) ?_
    refine XS.icmpNo X58.here hx rfl (D at_243) rfl (flt Int32.lt_irrefl).1 ?_
    refine XS.aload X58.here hx rfl (D at_246) rfl rfl ?_
    refine XS.iconst X58.here hx rfl (D at_248) ?_
    exact k
   obtain ⟨cq61, kq61, q61a, q61b, q61c⟩ := isOf hZ0 e58 Ec42
   obtain ⟨_, _, ⟨T61, L61, c61, n61⟩, -, X61, ⟨Lc61, hQ61, l61, y61, z61⟩, st61⟩ := X58.virtualBack hx (y := own_y39) (z := own_y39) ho0 (mvT hZ0 (own_w hw 157 rfl)) (mvT hZ0 (own_w hw 158 rfl)) (notFace_of_selects (args := #[]) (mvT hZ0 (own_w hw 160 rfl))) (mvT hZ0 (own_w hw 160 rfl)) (mvT hZ0 (own_w hw 159 rfl)) (by decide) (backOf (W := 0) (own_rm31_1 l Z a0 hw r42 t42 k42 [(own_LO c0), (own_HI c0), (own_LO c1), (own_HI c1)] (4 : Int32) (1 : Int32) (own_LO c1) (own_HI c1) cs fm u8 h42 n0 Z42 O42 Ec42 Fv42 Fo42 Vc42 (by decide) (by decide) (by decide) (by decide) rfl rfl HB) hZ0 (own_w hw 161 rfl) (own_w hw 42 rfl) (by decide) (by decide)) q61a q61c (g := (mkF m 249 #[vi pa, vi pb, vi ps, vi pj, vi k4, vi st, vi (pj.toInt8.toInt32), vr b1, vr b3, vi at_, vi 2, vr b17, vr r42] [(.int 1), (.ref r42)])) rfl (by rw [hml]; rfl) (Steps.refl _) (argsL := [(.int 1)]) (rest := []) (lenOf own_pd17 rfl) rfl own_w0 (D at_249) (fun _ _ => ⟨rfl, e58, (by decide : 7 + 0 ≤ _), (by decide : 62 + 0 ≤ _)⟩)
   dsimp only [Pt.U, Pt.locs, Pt.cells, Pt.slots] at X61 l61 y61 z61 st61 hQ61
   subst l61 y61 z61
   obtain ⟨rfl, N61q, e61⟩ := hQ61
   have N61 := Fr.app N58 N61q
   refine own_tr (g' := (mkF m 252 #[vi pa, vi pb, vi ps, vi pj, vi k4, vi st, vi (pj.toInt8.toInt32), vr b1, vr b3, vi at_, vi 2, vr b17, vr r42] [(.int (own_gc (own_LO c1) (own_HI c1)))])) st61 ?_
   refine own_st (T' := T61) (g' := (mkF m 255 #[vi pa, vi pb, vi ps, vi pj, vi k4, vi st, vi (pj.toInt8.toInt32), vr b1, vr b3, vi at_, vi 2, vr b17, vr r42] [(.int 1), (.ref b3), (.int (own_gc (own_LO c1) (own_HI c1)))])) (fun t k => ?_) ?_
   ·refine XS.aload X61.here hx rfl (D at_252) rfl rfl ?_
    refine XS.iconst X61.here hx rfl (D at_254) ?_
    exact k
   obtain ⟨cl62, Ar62, q62, S62, M62, H62, G62⟩ := id f59
   refine own_st (T' := T61) (g' := (mkF m 302 #[vi pa, vi pb, vi ps, vi pj, vi k4, vi st, vi (pj.toInt8.toInt32), vr b1, vr b3, vi at_, vi 2, vr b17, vr r42] [(.int 1)])) (fun t k => ?_) ?_
   ·refine X61.caload hx (j := (1 : Int32)) (v := (.int c1)) (by rw [e61]; exact Ar62.1) (State.isArrayOf_alike hZ0.alike Ar62.2.1) Ar62.2.2 (inb_of S62 ⟨by decide, by decide⟩) (Has.at H62 (inb_of S62 ⟨by decide, by decide⟩) ((own_lget Lc ((1 : Int32)).toNatClampNeg).trans (congrArg Value.int (own_bfr hbf 1 rfl (by simp))))) (g := (mkF m 255 #[vi pa, vi pb, vi ps, vi pj, vi k4, vi st, vi (pj.toInt8.toInt32), vr b1, vr b3, vi at_, vi 2, vr b17, vr r42] [(.int 1), (.ref b3), (.int (own_gc (own_LO c1) (own_HI c1)))])) rfl rfl (D at_255) _ ?_
    refine XS.icmpNo X61.here hx rfl (D at_256) rfl (teq e1).2 ?_
    refine XS.iload X61.here hx rfl (D at_259) rfl ?_
    refine XS.iconst X61.here hx rfl (D at_261) ?_
    refine XS.icmpYes X61.here hx rfl (pc0 := 262) (pc' := 278) rfl (D at_262) rfl (tlt (by decide : (2 : Int32) < (3 : Int32))).1 (by decide) (by decide) ?_
    refine XS.iload X61.here hx rfl (D at_278) rfl ?_
    refine XS.iconst X61.here hx rfl (D at_280) ?_
    refine XS.icmpYes X61.here hx rfl (pc0 := 281) (pc' := 297) rfl (D at_281) rfl (tlt (by decide : (2 : Int32) < (4 : Int32))).1 (by decide) (by decide) ?_
    refine XS.iconst X61.here hx rfl (D at_297) ?_
    refine XS.goto X61.here hx rfl (pc0 := 298) (pc' := 302) rfl (D at_298) (by decide) (by decide) ?_
    exact k
   exact own_retNW X61 hx Bd (t := .boolean) (by simp) rfl (D at_302) e61 (⟨rfl, N61⟩) hS0 hk42 (by decide) (by decide)
  ·obtain rfl : nc = (3 : Int32) := hnc
   obtain ⟨cq63, kq63, q63a, q63b, q63c⟩ := isOf hZ0 e42 Ec42
   obtain ⟨_, _, ⟨T63, L63, c63, n63⟩, -, X63, ⟨Lc63, hQ63, l63, y63, z63⟩, st63⟩ := X42.virtualBack hx (y := own_y34) (z := own_y34) ho0 (mvT hZ0 (own_w hw 147 rfl)) (mvT hZ0 (own_w hw 148 rfl)) (notFace_of_selects (args := #[]) (mvT hZ0 (own_w hw 150 rfl))) (mvT hZ0 (own_w hw 150 rfl)) (mvT hZ0 (own_w hw 149 rfl)) (by decide) (backOf (W := 0) (own_rm29_1 l Z a0 hw r42 t42 k42 [(own_LO c0), (own_HI c0), (own_LO c1), (own_HI c1), (own_LO c2), (own_HI c2)] (6 : Int32) (3 : Int32) cs fm u8 h42 n0 Z42 O42 Ec42 Fv42 Fo42 Vc42 (by decide) HB) hZ0 (own_w hw 151 rfl) (own_w hw 42 rfl) (by decide) (by decide)) q63a q63c (g := (mkF m 213 #[vi pa, vi pb, vi ps, vi pj, vi k4, vi st, vi (pj.toInt8.toInt32), vr b1, vr b3, vi at_, vi 3, vr b17, vr r42] [(.ref r42)])) rfl (by rw [hml]; rfl) (Steps.refl _) (argsL := []) (rest := []) (lenOf own_pd31 rfl) rfl own_w0 (D at_213) (fun _ _ => ⟨rfl, e42, (by decide : 7 + 0 ≤ _), (by decide : 62 + 0 ≤ _)⟩)
   dsimp only [Pt.U, Pt.locs, Pt.cells, Pt.slots] at X63 l63 y63 z63 st63 hQ63
   subst l63 y63 z63
   obtain ⟨rfl, N63q, e63⟩ := hQ63
   have N63 := Fr.app N42 N63q
   refine own_tr (g' := (mkF m 216 #[vi pa, vi pb, vi ps, vi pj, vi k4, vi st, vi (pj.toInt8.toInt32), vr b1, vr b3, vi at_, vi 3, vr b17, vr r42] [(.int 3)])) st63 ?_
   refine own_st (T' := T63) (g' := (mkF m 230 #[vi pa, vi pb, vi ps, vi pj, vi k4, vi st, vi (pj.toInt8.toInt32), vr b1, vr b3, vi at_, vi 3, vr b17, vr r42] [(.int 0), (.ref r42)])) (fun t k => ?_) ?_
   ·refine XS.iload X63.here hx rfl (D at_216) rfl ?_
    refine XS.icmpNo X63.here hx rfl (D at_218) rfl (teq (rfl : (3 : Int32) = (3 : Int32))).2 ?_
    refine XS.iload X63.here hx rfl (D at_221) rfl ?_
    refine XS.iconst X63.here hx rfl (D at_223) ?_
    refine XS.icmpNo X63.here hx rfl (D at_224) rfl (flt (by decide : ¬ ((3 : Int32) < (1 : Int32)))).1 ?_
    refine XS.aload X63.here hx rfl (D at_227) rfl rfl ?_
    refine XS.iconst X63.here hx rfl (D at_229) ?_
    exact k
   obtain ⟨cq64, kq64, q64a, q64b, q64c⟩ := isOf hZ0 e63 Ec42
   obtain ⟨_, _, ⟨T64, L64, c64, n64⟩, -, X64, ⟨Lc64, hQ64, l64, y64, z64⟩, st64⟩ := X63.virtualBack hx (y := own_y39) (z := own_y39) ho0 (mvT hZ0 (own_w hw 157 rfl)) (mvT hZ0 (own_w hw 158 rfl)) (notFace_of_selects (args := #[]) (mvT hZ0 (own_w hw 160 rfl))) (mvT hZ0 (own_w hw 160 rfl)) (mvT hZ0 (own_w hw 159 rfl)) (by decide) (backOf (W := 0) (own_rm31_1 l Z a0 hw r42 t42 k42 [(own_LO c0), (own_HI c0), (own_LO c1), (own_HI c1), (own_LO c2), (own_HI c2)] (6 : Int32) (0 : Int32) (own_LO c0) (own_HI c0) cs fm u8 h42 n0 Z42 O42 Ec42 Fv42 Fo42 Vc42 (by decide) (by decide) (by decide) (by decide) rfl rfl HB) hZ0 (own_w hw 161 rfl) (own_w hw 42 rfl) (by decide) (by decide)) q64a q64c (g := (mkF m 230 #[vi pa, vi pb, vi ps, vi pj, vi k4, vi st, vi (pj.toInt8.toInt32), vr b1, vr b3, vi at_, vi 3, vr b17, vr r42] [(.int 0), (.ref r42)])) rfl (by rw [hml]; rfl) (Steps.refl _) (argsL := [(.int 0)]) (rest := []) (lenOf own_pd17 rfl) rfl own_w0 (D at_230) (fun _ _ => ⟨rfl, e63, (by decide : 7 + 0 ≤ _), (by decide : 62 + 0 ≤ _)⟩)
   dsimp only [Pt.U, Pt.locs, Pt.cells, Pt.slots] at X64 l64 y64 z64 st64 hQ64
   subst l64 y64 z64
   obtain ⟨rfl, N64q, e64⟩ := hQ64
   have N64 := Fr.app N63 N64q
   refine own_tr (g' := (mkF m 233 #[vi pa, vi pb, vi ps, vi pj, vi k4, vi st, vi (pj.toInt8.toInt32), vr b1, vr b3, vi at_, vi 3, vr b17, vr r42] [(.int (own_gc (own_LO c0) (own_HI c0)))])) st64 ?_
   refine own_st (T' := T64) (g' := (mkF m 236 #[vi pa, vi pb, vi ps, vi pj, vi k4, vi st, vi (pj.toInt8.toInt32), vr b1, vr b3, vi at_, vi 3, vr b17, vr r42] [(.int 0), (.ref b3), (.int (own_gc (own_LO c0) (own_HI c0)))])) (fun t k => ?_) ?_
   ·refine XS.aload X64.here hx rfl (D at_233) rfl rfl ?_
    refine XS.iconst X64.here hx rfl (D at_235) ?_
    exact k
   have f65 := (((((((f19.ext E17).other W21 ne_b3_b17).other W24 ne_b3_b17).other W27 ne_b3_b17).other W30 ne_b3_b17).other W33 ne_b3_b17).other W36 ne_b3_b17).keep Kc42 nin0
   obtain ⟨cl66, Ar66, q66, S66, M66, H66, G66⟩ := id f65
   refine own_st (T' := T64) (g' := (mkF m 249 #[vi pa, vi pb, vi ps, vi pj, vi k4, vi st, vi (pj.toInt8.toInt32), vr b1, vr b3, vi at_, vi 3, vr b17, vr r42] [(.int 1), (.ref r42)])) (fun t k => ?_) ?_
   ·refine X64.caload hx (j := (0 : Int32)) (v := (.int c0)) (by rw [e64]; exact Ar66.1) (State.isArrayOf_alike hZ0.alike Ar66.2.1) Ar66.2.2 (inb_of S66 ⟨by decide, by decide⟩) (Has.at H66 (inb_of S66 ⟨by decide, by decide⟩) ((own_lget Lc ((0 : Int32)).toNatClampNeg).trans (congrArg Value.int (own_bfr hbf 0 rfl (by simp))))) (g := (mkF m 236 #[vi pa, vi pb, vi ps, vi pj, vi k4, vi st, vi (pj.toInt8.toInt32), vr b1, vr b3, vi at_, vi 3, vr b17, vr r42] [(.int 0), (.ref b3), (.int (own_gc (own_LO c0) (own_HI c0)))])) rfl rfl (D at_236) _ ?_
    refine XS.icmpNo X64.here hx rfl (D at_237) rfl (teq e0).2 ?_
    refine XS.iload X64.here hx rfl (D at_240) rfl ?_
    refine XS.iconst X64.here hx rfl (D at_242) ?_
    refine XS.icmpNo X64.here hx rfl (D at_243) rfl (flt (by decide : ¬ ((3 : Int32) < (2 : Int32)))).1 ?_
    refine XS.aload X64.here hx rfl (D at_246) rfl rfl ?_
    refine XS.iconst X64.here hx rfl (D at_248) ?_
    exact k
   obtain ⟨cq67, kq67, q67a, q67b, q67c⟩ := isOf hZ0 e64 Ec42
   obtain ⟨_, _, ⟨T67, L67, c67, n67⟩, -, X67, ⟨Lc67, hQ67, l67, y67, z67⟩, st67⟩ := X64.virtualBack hx (y := own_y39) (z := own_y39) ho0 (mvT hZ0 (own_w hw 157 rfl)) (mvT hZ0 (own_w hw 158 rfl)) (notFace_of_selects (args := #[]) (mvT hZ0 (own_w hw 160 rfl))) (mvT hZ0 (own_w hw 160 rfl)) (mvT hZ0 (own_w hw 159 rfl)) (by decide) (backOf (W := 0) (own_rm31_1 l Z a0 hw r42 t42 k42 [(own_LO c0), (own_HI c0), (own_LO c1), (own_HI c1), (own_LO c2), (own_HI c2)] (6 : Int32) (1 : Int32) (own_LO c1) (own_HI c1) cs fm u8 h42 n0 Z42 O42 Ec42 Fv42 Fo42 Vc42 (by decide) (by decide) (by decide) (by decide) rfl rfl HB) hZ0 (own_w hw 161 rfl) (own_w hw 42 rfl) (by decide) (by decide)) q67a q67c (g := (mkF m 249 #[vi pa, vi pb, vi ps, vi pj, vi k4, vi st, vi (pj.toInt8.toInt32), vr b1, vr b3, vi at_, vi 3, vr b17, vr r42] [(.int 1), (.ref r42)])) rfl (by rw [hml]; rfl) (Steps.refl _) (argsL := [(.int 1)]) (rest := []) (lenOf own_pd17 rfl) rfl own_w0 (D at_249) (fun _ _ => ⟨rfl, e64, (by decide : 7 + 0 ≤ _), (by decide : 62 + 0 ≤ _)⟩)
   dsimp only [Pt.U, Pt.locs, Pt.cells, Pt.slots] at X67 l67 y67 z67 st67 hQ67
   subst l67 y67 z67
   obtain ⟨rfl, N67q, e67⟩ := hQ67
   have N67 := Fr.app N64 N67q
   refine own_tr (g' := (mkF m 252 #[vi pa, vi pb, vi ps, vi pj, vi k4, vi st, vi (pj.toInt8.toInt32), vr b1, vr b3, vi at_, vi 3, vr b17, vr r42] [(.int (own_gc (own_LO c1) (own_HI c1)))])) st67 ?_
   refine own_st (T' := T67) (g' := (mkF m 255 #[vi pa, vi pb, vi ps, vi pj, vi k4, vi st, vi (pj.toInt8.toInt32), vr b1, vr b3, vi at_, vi 3, vr b17, vr r42] [(.int 1), (.ref b3), (.int (own_gc (own_LO c1) (own_HI c1)))])) (fun t k => ?_) ?_
   ·refine XS.aload X67.here hx rfl (D at_252) rfl rfl ?_
    refine XS.iconst X67.here hx rfl (D at_254) ?_
    exact k
   obtain ⟨cl68, Ar68, q68, S68, M68, H68, G68⟩ := id f65
   refine own_st (T' := T67) (g' := (mkF m 268 #[vi pa, vi pb, vi ps, vi pj, vi k4, vi st, vi (pj.toInt8.toInt32), vr b1, vr b3, vi at_, vi 3, vr b17, vr r42] [(.int 2), (.ref r42)])) (fun t k => ?_) ?_
   ·refine X67.caload hx (j := (1 : Int32)) (v := (.int c1)) (by rw [e67]; exact Ar68.1) (State.isArrayOf_alike hZ0.alike Ar68.2.1) Ar68.2.2 (inb_of S68 ⟨by decide, by decide⟩) (Has.at H68 (inb_of S68 ⟨by decide, by decide⟩) ((own_lget Lc ((1 : Int32)).toNatClampNeg).trans (congrArg Value.int (own_bfr hbf 1 rfl (by simp))))) (g := (mkF m 255 #[vi pa, vi pb, vi ps, vi pj, vi k4, vi st, vi (pj.toInt8.toInt32), vr b1, vr b3, vi at_, vi 3, vr b17, vr r42] [(.int 1), (.ref b3), (.int (own_gc (own_LO c1) (own_HI c1)))])) rfl rfl (D at_255) _ ?_
    refine XS.icmpNo X67.here hx rfl (D at_256) rfl (teq e1).2 ?_
    refine XS.iload X67.here hx rfl (D at_259) rfl ?_
    refine XS.iconst X67.here hx rfl (D at_261) ?_
    refine XS.icmpNo X67.here hx rfl (D at_262) rfl (flt Int32.lt_irrefl).1 ?_
    refine XS.aload X67.here hx rfl (D at_265) rfl rfl ?_
    refine XS.iconst X67.here hx rfl (D at_267) ?_
    exact k
   obtain ⟨cq69, kq69, q69a, q69b, q69c⟩ := isOf hZ0 e67 Ec42
   obtain ⟨_, _, ⟨T69, L69, c69, n69⟩, -, X69, ⟨Lc69, hQ69, l69, y69, z69⟩, st69⟩ := X67.virtualBack hx (y := own_y39) (z := own_y39) ho0 (mvT hZ0 (own_w hw 157 rfl)) (mvT hZ0 (own_w hw 158 rfl)) (notFace_of_selects (args := #[]) (mvT hZ0 (own_w hw 160 rfl))) (mvT hZ0 (own_w hw 160 rfl)) (mvT hZ0 (own_w hw 159 rfl)) (by decide) (backOf (W := 0) (own_rm31_1 l Z a0 hw r42 t42 k42 [(own_LO c0), (own_HI c0), (own_LO c1), (own_HI c1), (own_LO c2), (own_HI c2)] (6 : Int32) (2 : Int32) (own_LO c2) (own_HI c2) cs fm u8 h42 n0 Z42 O42 Ec42 Fv42 Fo42 Vc42 (by decide) (by decide) (by decide) (by decide) rfl rfl HB) hZ0 (own_w hw 161 rfl) (own_w hw 42 rfl) (by decide) (by decide)) q69a q69c (g := (mkF m 268 #[vi pa, vi pb, vi ps, vi pj, vi k4, vi st, vi (pj.toInt8.toInt32), vr b1, vr b3, vi at_, vi 3, vr b17, vr r42] [(.int 2), (.ref r42)])) rfl (by rw [hml]; rfl) (Steps.refl _) (argsL := [(.int 2)]) (rest := []) (lenOf own_pd17 rfl) rfl own_w0 (D at_268) (fun _ _ => ⟨rfl, e67, (by decide : 7 + 0 ≤ _), (by decide : 62 + 0 ≤ _)⟩)
   dsimp only [Pt.U, Pt.locs, Pt.cells, Pt.slots] at X69 l69 y69 z69 st69 hQ69
   subst l69 y69 z69
   obtain ⟨rfl, N69q, e69⟩ := hQ69
   have N69 := Fr.app N67 N69q
   refine own_tr (g' := (mkF m 271 #[vi pa, vi pb, vi ps, vi pj, vi k4, vi st, vi (pj.toInt8.toInt32), vr b1, vr b3, vi at_, vi 3, vr b17, vr r42] [(.int (own_gc (own_LO c2) (own_HI c2)))])) st69 ?_
   refine own_st (T' := T69) (g' := (mkF m 274 #[vi pa, vi pb, vi ps, vi pj, vi k4, vi st, vi (pj.toInt8.toInt32), vr b1, vr b3, vi at_, vi 3, vr b17, vr r42] [(.int 2), (.ref b3), (.int (own_gc (own_LO c2) (own_HI c2)))])) (fun t k => ?_) ?_
   ·refine XS.aload X69.here hx rfl (D at_271) rfl rfl ?_
    refine XS.iconst X69.here hx rfl (D at_273) ?_
    exact k
   obtain ⟨cl70, Ar70, q70, S70, M70, H70, G70⟩ := id f65
   refine own_st (T' := T69) (g' := (mkF m 302 #[vi pa, vi pb, vi ps, vi pj, vi k4, vi st, vi (pj.toInt8.toInt32), vr b1, vr b3, vi at_, vi 3, vr b17, vr r42] [(.int 1)])) (fun t k => ?_) ?_
   ·refine X69.caload hx (j := (2 : Int32)) (v := (.int c2)) (by rw [e69]; exact Ar70.1) (State.isArrayOf_alike hZ0.alike Ar70.2.1) Ar70.2.2 (inb_of S70 ⟨by decide, by decide⟩) (Has.at H70 (inb_of S70 ⟨by decide, by decide⟩) ((own_lget Lc ((2 : Int32)).toNatClampNeg).trans (congrArg Value.int (own_bfr hbf 2 rfl (by simp))))) (g := (mkF m 274 #[vi pa, vi pb, vi ps, vi pj, vi k4, vi st, vi (pj.toInt8.toInt32), vr b1, vr b3, vi at_, vi 3, vr b17, vr r42] [(.int 2), (.ref b3), (.int (own_gc (own_LO c2) (own_HI c2)))])) rfl rfl (D at_274) _ ?_
    refine XS.icmpNo X69.here hx rfl (D at_275) rfl (teq e2).2 ?_
    refine XS.iload X69.here hx rfl (D at_278) rfl ?_
    refine XS.iconst X69.here hx rfl (D at_280) ?_
    refine XS.icmpYes X69.here hx rfl (pc0 := 281) (pc' := 297) rfl (D at_281) rfl (tlt (by decide : (3 : Int32) < (4 : Int32))).1 (by decide) (by decide) ?_
    refine XS.iconst X69.here hx rfl (D at_297) ?_
    refine XS.goto X69.here hx rfl (pc0 := 298) (pc' := 302) rfl (D at_298) (by decide) (by decide) ?_
    exact k
   exact own_retNW X69 hx Bd (t := .boolean) (by simp) rfl (D at_302) e69 (⟨rfl, N69⟩) hS0 hk42 (by decide) (by decide)
  ·obtain rfl : nc = (4 : Int32) := hnc
   obtain ⟨cq71, kq71, q71a, q71b, q71c⟩ := isOf hZ0 e42 Ec42
   obtain ⟨_, _, ⟨T71, L71, c71, n71⟩, -, X71, ⟨Lc71, hQ71, l71, y71, z71⟩, st71⟩ := X42.virtualBack hx (y := own_y34) (z := own_y34) ho0 (mvT hZ0 (own_w hw 147 rfl)) (mvT hZ0 (own_w hw 148 rfl)) (notFace_of_selects (args := #[]) (mvT hZ0 (own_w hw 150 rfl))) (mvT hZ0 (own_w hw 150 rfl)) (mvT hZ0 (own_w hw 149 rfl)) (by decide) (backOf (W := 0) (own_rm29_1 l Z a0 hw r42 t42 k42 [(own_LO c0), (own_HI c0), (own_LO c1), (own_HI c1), (own_LO c2), (own_HI c2), (own_LO c3), (own_HI c3)] (8 : Int32) (4 : Int32) cs fm u8 h42 n0 Z42 O42 Ec42 Fv42 Fo42 Vc42 (by decide) HB) hZ0 (own_w hw 151 rfl) (own_w hw 42 rfl) (by decide) (by decide)) q71a q71c (g := (mkF m 213 #[vi pa, vi pb, vi ps, vi pj, vi k4, vi st, vi (pj.toInt8.toInt32), vr b1, vr b3, vi at_, vi 4, vr b17, vr r42] [(.ref r42)])) rfl (by rw [hml]; rfl) (Steps.refl _) (argsL := []) (rest := []) (lenOf own_pd31 rfl) rfl own_w0 (D at_213) (fun _ _ => ⟨rfl, e42, (by decide : 7 + 0 ≤ _), (by decide : 62 + 0 ≤ _)⟩)
   dsimp only [Pt.U, Pt.locs, Pt.cells, Pt.slots] at X71 l71 y71 z71 st71 hQ71
   subst l71 y71 z71
   obtain ⟨rfl, N71q, e71⟩ := hQ71
   have N71 := Fr.app N42 N71q
   refine own_tr (g' := (mkF m 216 #[vi pa, vi pb, vi ps, vi pj, vi k4, vi st, vi (pj.toInt8.toInt32), vr b1, vr b3, vi at_, vi 4, vr b17, vr r42] [(.int 4)])) st71 ?_
   refine own_st (T' := T71) (g' := (mkF m 230 #[vi pa, vi pb, vi ps, vi pj, vi k4, vi st, vi (pj.toInt8.toInt32), vr b1, vr b3, vi at_, vi 4, vr b17, vr r42] [(.int 0), (.ref r42)])) (fun t k => ?_) ?_
   ·refine XS.iload X71.here hx rfl (D at_216) rfl ?_
    refine XS.icmpNo X71.here hx rfl (D at_218) rfl (teq (rfl : (4 : Int32) = (4 : Int32))).2 ?_
    refine XS.iload X71.here hx rfl (D at_221) rfl ?_
    refine XS.iconst X71.here hx rfl (D at_223) ?_
    refine XS.icmpNo X71.here hx rfl (D at_224) rfl (flt (by decide : ¬ ((4 : Int32) < (1 : Int32)))).1 ?_
    refine XS.aload X71.here hx rfl (D at_227) rfl rfl ?_
    refine XS.iconst X71.here hx rfl (D at_229) ?_
    exact k
   obtain ⟨cq72, kq72, q72a, q72b, q72c⟩ := isOf hZ0 e71 Ec42
   obtain ⟨_, _, ⟨T72, L72, c72, n72⟩, -, X72, ⟨Lc72, hQ72, l72, y72, z72⟩, st72⟩ := X71.virtualBack hx (y := own_y39) (z := own_y39) ho0 (mvT hZ0 (own_w hw 157 rfl)) (mvT hZ0 (own_w hw 158 rfl)) (notFace_of_selects (args := #[]) (mvT hZ0 (own_w hw 160 rfl))) (mvT hZ0 (own_w hw 160 rfl)) (mvT hZ0 (own_w hw 159 rfl)) (by decide) (backOf (W := 0) (own_rm31_1 l Z a0 hw r42 t42 k42 [(own_LO c0), (own_HI c0), (own_LO c1), (own_HI c1), (own_LO c2), (own_HI c2), (own_LO c3), (own_HI c3)] (8 : Int32) (0 : Int32) (own_LO c0) (own_HI c0) cs fm u8 h42 n0 Z42 O42 Ec42 Fv42 Fo42 Vc42 (by decide) (by decide) (by decide) (by decide) rfl rfl HB) hZ0 (own_w hw 161 rfl) (own_w hw 42 rfl) (by decide) (by decide)) q72a q72c (g := (mkF m 230 #[vi pa, vi pb, vi ps, vi pj, vi k4, vi st, vi (pj.toInt8.toInt32), vr b1, vr b3, vi at_, vi 4, vr b17, vr r42] [(.int 0), (.ref r42)])) rfl (by rw [hml]; rfl) (Steps.refl _) (argsL := [(.int 0)]) (rest := []) (lenOf own_pd17 rfl) rfl own_w0 (D at_230) (fun _ _ => ⟨rfl, e71, (by decide : 7 + 0 ≤ _), (by decide : 62 + 0 ≤ _)⟩)
   dsimp only [Pt.U, Pt.locs, Pt.cells, Pt.slots] at X72 l72 y72 z72 st72 hQ72
   subst l72 y72 z72
   obtain ⟨rfl, N72q, e72⟩ := hQ72
   have N72 := Fr.app N71 N72q
   refine own_tr (g' := (mkF m 233 #[vi pa, vi pb, vi ps, vi pj, vi k4, vi st, vi (pj.toInt8.toInt32), vr b1, vr b3, vi at_, vi 4, vr b17, vr r42] [(.int (own_gc (own_LO c0) (own_HI c0)))])) st72 ?_
   refine own_st (T' := T72) (g' := (mkF m 236 #[vi pa, vi pb, vi ps, vi pj, vi k4, vi st, vi (pj.toInt8.toInt32), vr b1, vr b3, vi at_, vi 4, vr b17, vr r42] [(.int 0), (.ref b3), (.int (own_gc (own_LO c0) (own_HI c0)))])) (fun t k => ?_) ?_
   ·refine XS.aload X72.here hx rfl (D at_233) rfl rfl ?_
    refine XS.iconst X72.here hx rfl (D at_235) ?_
    exact k
   have f73 := (((((((f19.ext E17).other W21 ne_b3_b17).other W24 ne_b3_b17).other W27 ne_b3_b17).other W30 ne_b3_b17).other W33 ne_b3_b17).other W36 ne_b3_b17).keep Kc42 nin0
   obtain ⟨cl74, Ar74, q74, S74, M74, H74, G74⟩ := id f73
   refine own_st (T' := T72) (g' := (mkF m 249 #[vi pa, vi pb, vi ps, vi pj, vi k4, vi st, vi (pj.toInt8.toInt32), vr b1, vr b3, vi at_, vi 4, vr b17, vr r42] [(.int 1), (.ref r42)])) (fun t k => ?_) ?_
   ·refine X72.caload hx (j := (0 : Int32)) (v := (.int c0)) (by rw [e72]; exact Ar74.1) (State.isArrayOf_alike hZ0.alike Ar74.2.1) Ar74.2.2 (inb_of S74 ⟨by decide, by decide⟩) (Has.at H74 (inb_of S74 ⟨by decide, by decide⟩) ((own_lget Lc ((0 : Int32)).toNatClampNeg).trans (congrArg Value.int (own_bfr hbf 0 rfl (by simp))))) (g := (mkF m 236 #[vi pa, vi pb, vi ps, vi pj, vi k4, vi st, vi (pj.toInt8.toInt32), vr b1, vr b3, vi at_, vi 4, vr b17, vr r42] [(.int 0), (.ref b3), (.int (own_gc (own_LO c0) (own_HI c0)))])) rfl rfl (D at_236) _ ?_
    refine XS.icmpNo X72.here hx rfl (D at_237) rfl (teq e0).2 ?_
    refine XS.iload X72.here hx rfl (D at_240) rfl ?_
    refine XS.iconst X72.here hx rfl (D at_242) ?_
    refine XS.icmpNo X72.here hx rfl (D at_243) rfl (flt (by decide : ¬ ((4 : Int32) < (2 : Int32)))).1 ?_
    refine XS.aload X72.here hx rfl (D at_246) rfl rfl ?_
    refine XS.iconst X72.here hx rfl (D at_248) ?_
    exact k
   obtain ⟨cq75, kq75, q75a, q75b, q75c⟩ := isOf hZ0 e72 Ec42
   obtain ⟨_, _, ⟨T75, L75, c75, n75⟩, -, X75, ⟨Lc75, hQ75, l75, y75, z75⟩, st75⟩ := X72.virtualBack hx (y := own_y39) (z := own_y39) ho0 (mvT hZ0 (own_w hw 157 rfl)) (mvT hZ0 (own_w hw 158 rfl)) (notFace_of_selects (args := #[]) (mvT hZ0 (own_w hw 160 rfl))) (mvT hZ0 (own_w hw 160 rfl)) (mvT hZ0 (own_w hw 159 rfl)) (by decide) (backOf (W := 0) (own_rm31_1 l Z a0 hw r42 t42 k42 [(own_LO c0), (own_HI c0), (own_LO c1), (own_HI c1), (own_LO c2), (own_HI c2), (own_LO c3), (own_HI c3)] (8 : Int32) (1 : Int32) (own_LO c1) (own_HI c1) cs fm u8 h42 n0 Z42 O42 Ec42 Fv42 Fo42 Vc42 (by decide) (by decide) (by decide) (by decide) rfl rfl HB) hZ0 (own_w hw 161 rfl) (own_w hw 42 rfl) (by decide) (by decide)) q75a q75c (g := (mkF m 249 #[vi pa, vi pb, vi ps, vi pj, vi k4, vi st, vi (pj.toInt8.toInt32), vr b1, vr b3, vi at_, vi 4, vr b17, vr r42] [(.int 1), (.ref r42)])) rfl (by rw [hml]; rfl) (Steps.refl _) (argsL := [(.int 1)]) (rest := []) (lenOf own_pd17 rfl) rfl own_w0 (D at_249) (fun _ _ => ⟨rfl, e72, (by decide : 7 + 0 ≤ _), (by decide : 62 + 0 ≤ _)⟩)
   dsimp only [Pt.U, Pt.locs, Pt.cells, Pt.slots] at X75 l75 y75 z75 st75 hQ75
   subst l75 y75 z75
   obtain ⟨rfl, N75q, e75⟩ := hQ75
   have N75 := Fr.app N72 N75q
   refine own_tr (g' := (mkF m 252 #[vi pa, vi pb, vi ps, vi pj, vi k4, vi st, vi (pj.toInt8.toInt32), vr b1, vr b3, vi at_, vi 4, vr b17, vr r42] [(.int (own_gc (own_LO c1) (own_HI c1)))])) st75 ?_
   refine own_st (T' := T75) (g' := (mkF m 255 #[vi pa, vi pb, vi ps, vi pj, vi k4, vi st, vi (pj.toInt8.toInt32), vr b1, vr b3, vi at_, vi 4, vr b17, vr r42] [(.int 1), (.ref b3), (.int (own_gc (own_LO c1) (own_HI c1)))])) (fun t k => ?_) ?_
   ·refine XS.aload X75.here hx rfl (D at_252) rfl rfl ?_
    refine XS.iconst X75.here hx rfl (D at_254) ?_
    exact k
   obtain ⟨cl76, Ar76, q76, S76, M76, H76, G76⟩ := id f73
   refine own_st (T' := T75) (g' := (mkF m 268 #[vi pa, vi pb, vi ps, vi pj, vi k4, vi st, vi (pj.toInt8.toInt32), vr b1, vr b3, vi at_, vi 4, vr b17, vr r42] [(.int 2), (.ref r42)])) (fun t k => ?_) ?_
   ·refine X75.caload hx (j := (1 : Int32)) (v := (.int c1)) (by rw [e75]; exact Ar76.1) (State.isArrayOf_alike hZ0.alike Ar76.2.1) Ar76.2.2 (inb_of S76 ⟨by decide, by decide⟩) (Has.at H76 (inb_of S76 ⟨by decide, by decide⟩) ((own_lget Lc ((1 : Int32)).toNatClampNeg).trans (congrArg Value.int (own_bfr hbf 1 rfl (by simp))))) (g := (mkF m 255 #[vi pa, vi pb, vi ps, vi pj, vi k4, vi st, vi (pj.toInt8.toInt32), vr b1, vr b3, vi at_, vi 4, vr b17, vr r42] [(.int 1), (.ref b3), (.int (own_gc (own_LO c1) (own_HI c1)))])) rfl rfl (D at_255) _ ?_
    refine XS.icmpNo X75.here hx rfl (D at_256) rfl (teq e1).2 ?_
    refine XS.iload X75.here hx rfl (D at_259) rfl ?_
    refine XS.iconst X75.here hx rfl (D at_261) ?_
    refine XS.icmpNo X75.here hx rfl (D at_262) rfl (flt (by decide : ¬ ((4 : Int32) < (3 : Int32)))).1 ?_
    refine XS.aload X75.here hx rfl (D at_265) rfl rfl ?_
    refine XS.iconst X75.here hx rfl (D at_267) ?_
    exact k
   obtain ⟨cq77, kq77, q77a, q77b, q77c⟩ := isOf hZ0 e75 Ec42
   obtain ⟨_, _, ⟨T77, L77, c77, n77⟩, -, X77, ⟨Lc77, hQ77, l77, y77, z77⟩, st77⟩ := X75.virtualBack hx (y := own_y39) (z := own_y39) ho0 (mvT hZ0 (own_w hw 157 rfl)) (mvT hZ0 (own_w hw 158 rfl)) (notFace_of_selects (args := #[]) (mvT hZ0 (own_w hw 160 rfl))) (mvT hZ0 (own_w hw 160 rfl)) (mvT hZ0 (own_w hw 159 rfl)) (by decide) (backOf (W := 0) (own_rm31_1 l Z a0 hw r42 t42 k42 [(own_LO c0), (own_HI c0), (own_LO c1), (own_HI c1), (own_LO c2), (own_HI c2), (own_LO c3), (own_HI c3)] (8 : Int32) (2 : Int32) (own_LO c2) (own_HI c2) cs fm u8 h42 n0 Z42 O42 Ec42 Fv42 Fo42 Vc42 (by decide) (by decide) (by decide) (by decide) rfl rfl HB) hZ0 (own_w hw 161 rfl) (own_w hw 42 rfl) (by decide) (by decide)) q77a q77c (g := (mkF m 268 #[vi pa, vi pb, vi ps, vi pj, vi k4, vi st, vi (pj.toInt8.toInt32), vr b1, vr b3, vi at_, vi 4, vr b17, vr r42] [(.int 2), (.ref r42)])) rfl (by rw [hml]; rfl) (Steps.refl _) (argsL := [(.int 2)]) (rest := []) (lenOf own_pd17 rfl) rfl own_w0 (D at_268) (fun _ _ => ⟨rfl, e75, (by decide : 7 + 0 ≤ _), (by decide : 62 + 0 ≤ _)⟩)
   dsimp only [Pt.U, Pt.locs, Pt.cells, Pt.slots] at X77 l77 y77 z77 st77 hQ77
   subst l77 y77 z77
   obtain ⟨rfl, N77q, e77⟩ := hQ77
   have N77 := Fr.app N75 N77q
   refine own_tr (g' := (mkF m 271 #[vi pa, vi pb, vi ps, vi pj, vi k4, vi st, vi (pj.toInt8.toInt32), vr b1, vr b3, vi at_, vi 4, vr b17, vr r42] [(.int (own_gc (own_LO c2) (own_HI c2)))])) st77 ?_
   refine own_st (T' := T77) (g' := (mkF m 274 #[vi pa, vi pb, vi ps, vi pj, vi k4, vi st, vi (pj.toInt8.toInt32), vr b1, vr b3, vi at_, vi 4, vr b17, vr r42] [(.int 2), (.ref b3), (.int (own_gc (own_LO c2) (own_HI c2)))])) (fun t k => ?_) ?_
   ·refine XS.aload X77.here hx rfl (D at_271) rfl rfl ?_
    refine XS.iconst X77.here hx rfl (D at_273) ?_
    exact k
   obtain ⟨cl78, Ar78, q78, S78, M78, H78, G78⟩ := id f73
   refine own_st (T' := T77) (g' := (mkF m 287 #[vi pa, vi pb, vi ps, vi pj, vi k4, vi st, vi (pj.toInt8.toInt32), vr b1, vr b3, vi at_, vi 4, vr b17, vr r42] [(.int 3), (.ref r42)])) (fun t k => ?_) ?_
   ·refine X77.caload hx (j := (2 : Int32)) (v := (.int c2)) (by rw [e77]; exact Ar78.1) (State.isArrayOf_alike hZ0.alike Ar78.2.1) Ar78.2.2 (inb_of S78 ⟨by decide, by decide⟩) (Has.at H78 (inb_of S78 ⟨by decide, by decide⟩) ((own_lget Lc ((2 : Int32)).toNatClampNeg).trans (congrArg Value.int (own_bfr hbf 2 rfl (by simp))))) (g := (mkF m 274 #[vi pa, vi pb, vi ps, vi pj, vi k4, vi st, vi (pj.toInt8.toInt32), vr b1, vr b3, vi at_, vi 4, vr b17, vr r42] [(.int 2), (.ref b3), (.int (own_gc (own_LO c2) (own_HI c2)))])) rfl rfl (D at_274) _ ?_
    refine XS.icmpNo X77.here hx rfl (D at_275) rfl (teq e2).2 ?_
    refine XS.iload X77.here hx rfl (D at_278) rfl ?_
    refine XS.iconst X77.here hx rfl (D at_280) ?_
    refine XS.icmpNo X77.here hx rfl (D at_281) rfl (flt Int32.lt_irrefl).1 ?_
    refine XS.aload X77.here hx rfl (D at_284) rfl rfl ?_
    refine XS.iconst X77.here hx rfl (D at_286) ?_
    exact k
   obtain ⟨cq79, kq79, q79a, q79b, q79c⟩ := isOf hZ0 e77 Ec42
   obtain ⟨_, _, ⟨T79, L79, c79, n79⟩, -, X79, ⟨Lc79, hQ79, l79, y79, z79⟩, st79⟩ := X77.virtualBack hx (y := own_y39) (z := own_y39) ho0 (mvT hZ0 (own_w hw 157 rfl)) (mvT hZ0 (own_w hw 158 rfl)) (notFace_of_selects (args := #[]) (mvT hZ0 (own_w hw 160 rfl))) (mvT hZ0 (own_w hw 160 rfl)) (mvT hZ0 (own_w hw 159 rfl)) (by decide) (backOf (W := 0) (own_rm31_1 l Z a0 hw r42 t42 k42 [(own_LO c0), (own_HI c0), (own_LO c1), (own_HI c1), (own_LO c2), (own_HI c2), (own_LO c3), (own_HI c3)] (8 : Int32) (3 : Int32) (own_LO c3) (own_HI c3) cs fm u8 h42 n0 Z42 O42 Ec42 Fv42 Fo42 Vc42 (by decide) (by decide) (by decide) (by decide) rfl rfl HB) hZ0 (own_w hw 161 rfl) (own_w hw 42 rfl) (by decide) (by decide)) q79a q79c (g := (mkF m 287 #[vi pa, vi pb, vi ps, vi pj, vi k4, vi st, vi (pj.toInt8.toInt32), vr b1, vr b3, vi at_, vi 4, vr b17, vr r42] [(.int 3), (.ref r42)])) rfl (by rw [hml]; rfl) (Steps.refl _) (argsL := [(.int 3)]) (rest := []) (lenOf own_pd17 rfl) rfl own_w0 (D at_287) (fun _ _ => ⟨rfl, e77, (by decide : 7 + 0 ≤ _), (by decide : 62 + 0 ≤ _)⟩)
   dsimp only [Pt.U, Pt.locs, Pt.cells, Pt.slots] at X79 l79 y79 z79 st79 hQ79
   subst l79 y79 z79
   obtain ⟨rfl, N79q, e79⟩ := hQ79
   have N79 := Fr.app N77 N79q
   refine own_tr (g' := (mkF m 290 #[vi pa, vi pb, vi ps, vi pj, vi k4, vi st, vi (pj.toInt8.toInt32), vr b1, vr b3, vi at_, vi 4, vr b17, vr r42] [(.int (own_gc (own_LO c3) (own_HI c3)))])) st79 ?_
   refine own_st (T' := T79) (g' := (mkF m 293 #[vi pa, vi pb, vi ps, vi pj, vi k4, vi st, vi (pj.toInt8.toInt32), vr b1, vr b3, vi at_, vi 4, vr b17, vr r42] [(.int 3), (.ref b3), (.int (own_gc (own_LO c3) (own_HI c3)))])) (fun t k => ?_) ?_
   ·refine XS.aload X79.here hx rfl (D at_290) rfl rfl ?_
    refine XS.iconst X79.here hx rfl (D at_292) ?_
    exact k
   obtain ⟨cl80, Ar80, q80, S80, M80, H80, G80⟩ := id f73
   refine own_st (T' := T79) (g' := (mkF m 302 #[vi pa, vi pb, vi ps, vi pj, vi k4, vi st, vi (pj.toInt8.toInt32), vr b1, vr b3, vi at_, vi 4, vr b17, vr r42] [(.int 1)])) (fun t k => ?_) ?_
   ·refine X79.caload hx (j := (3 : Int32)) (v := (.int c3)) (by rw [e79]; exact Ar80.1) (State.isArrayOf_alike hZ0.alike Ar80.2.1) Ar80.2.2 (inb_of S80 ⟨by decide, by decide⟩) (Has.at H80 (inb_of S80 ⟨by decide, by decide⟩) ((own_lget Lc ((3 : Int32)).toNatClampNeg).trans (congrArg Value.int (own_bfr hbf 3 rfl (by simp))))) (g := (mkF m 293 #[vi pa, vi pb, vi ps, vi pj, vi k4, vi st, vi (pj.toInt8.toInt32), vr b1, vr b3, vi at_, vi 4, vr b17, vr r42] [(.int 3), (.ref b3), (.int (own_gc (own_LO c3) (own_HI c3)))])) rfl rfl (D at_293) _ ?_
    refine XS.icmpNo X79.here hx rfl (D at_294) rfl (teq e3).2 ?_
    refine XS.iconst X79.here hx rfl (D at_297) ?_
    refine XS.goto X79.here hx rfl (pc0 := 298) (pc' := 302) rfl (D at_298) (by decide) (by decide) ?_
    exact k
   exact own_retNW X79 hx Bd (t := .boolean) (by simp) rfl (D at_302) e79 (⟨rfl, N79⟩) hS0 hk42 (by decide) (by decide)
 rcases hkk with rfl | rfl | rfl
 ·refine own_st (T' := T11) (g' := (mkF m 140 #[vi pa, vi pb, vi ps, vi pj, vi 0, vi st, vi (pj.toInt8.toInt32), vr b1, vr b3, vi st, vi 0, .unset, .unset] [(.int (pj.toInt8.toInt32)), (.int st), (.ref b1)])) (fun t k => ?_) ?_
  ·refine XS.iload X11.here hx rfl (D at_54) rfl ?_
   refine XS.iconst X11.here hx rfl (D at_56) ?_
   refine XS.icmpYes X11.here hx rfl (pc0 := 57) (pc' := 94) rfl (D at_57) rfl (tlt (by decide : (0 : Int32) < (1 : Int32))).1 (by decide) (by decide) ?_
   refine XS.iload X11.here hx rfl (D at_94) rfl ?_
   refine XS.iconst X11.here hx rfl (D at_96) ?_
   refine XS.icmpYes X11.here hx rfl (pc0 := 97) (pc' := 134) rfl (D at_97) rfl (tlt (by decide : (0 : Int32) < (2 : Int32))).1 (by decide) (by decide) ?_
   refine XS.aload X11.here hx rfl (D at_134) rfl rfl ?_
   refine XS.iload X11.here hx rfl (D at_136) rfl ?_
   refine XS.iload X11.here hx rfl (D at_138) rfl ?_
   exact k
  obtain ⟨cl81, Ar81, q81, S81, M81, H81, G81⟩ := id VL
  obtain ⟨T82, h82, X82, e82, W82, st82⟩ := stB X11 hx hZ0 e11 Ar81 (j := st) (inb_of S81 (own_inN hst own_i16 (by omega))) (g := (mkF m 140 #[vi pa, vi pb, vi ps, vi pj, vi 0, vi st, vi (pj.toInt8.toInt32), vr b1, vr b3, vi st, vi 0, .unset, .unset] [(.int (pj.toInt8.toInt32)), (.int st), (.ref b1)])) rfl rfl (D at_140)
  have N82 := Fr.snoc X82 N11 g_b1
  have K82 : Keep h0 h82 [] := K11.wr W82 (Or.inr hz_b1)
  have Z82 : n0 ≤ h82.size := Nat.le_trans Z11 (Keep.of_wr W82).1
  have O82 := O11.wr W82 g_b1
  have hk82 := Nat.le_trans hk11 (Keep.of_wr W82).1
  have fw82 := (show Arv Z h82 b1 k1 .byte (16 : Int32) ((L0.set (st).toNatClampNeg (pj.toInt8.toInt32)).map Value.int) (.int 0) by have q := Arv.set Ar81 q81 S81 M81 H81 G81 (fits_nar_byte _) W82 ((st).toNatClampNeg) rfl (by rw [List.length_map, own_clamp hst]; skip; omega); rw [own_lset, own_bb pj] at q; exact q)
  refine own_st (g' := (mkF m 141 #[vi pa, vi pb, vi ps, vi pj, vi 0, vi st, vi (pj.toInt8.toInt32), vr b1, vr b3, vi st, vi 0, .unset, .unset] [])) st82 ?_
  refine own_st (T' := T82) (g' := (mkF m 149 #[vi pa, vi pb, vi ps, vi pj, vi 0, vi st, vi (pj.toInt8.toInt32), vr b1, vr b3, vi st, vi 0, .unset, .unset] [(.int (pj.toInt8.toInt32)), (.int (st + (1 : Int32))), (.ref b1)])) (fun t k => ?_) ?_
  ·refine XS.aload X82.here hx rfl (D at_141) rfl rfl ?_
   refine XS.iload X82.here hx rfl (D at_143) rfl ?_
   refine XS.iconst X82.here hx rfl (D at_145) ?_
   refine XS.iadd X82.here hx rfl (D at_146) rfl ?_
   refine XS.iload X82.here hx rfl (D at_147) rfl ?_
   exact k
  obtain ⟨cl83, Ar83, q83, S83, M83, H83, G83⟩ := id fw82
  obtain ⟨T84, h84, X84, e84, W84, st84⟩ := stB X82 hx hZ0 e82 Ar83 (j := (st + (1 : Int32))) (inb_of S83 (own_inN (own_add hst own_i1 (by omega)) own_i16 (by omega))) (g := (mkF m 149 #[vi pa, vi pb, vi ps, vi pj, vi 0, vi st, vi (pj.toInt8.toInt32), vr b1, vr b3, vi st, vi 0, .unset, .unset] [(.int (pj.toInt8.toInt32)), (.int (st + (1 : Int32))), (.ref b1)])) rfl rfl (D at_149)
  have N84 := Fr.snoc X84 N82 g_b1
  have K84 : Keep h0 h84 [] := K82.wr W84 (Or.inr hz_b1)
  have Z84 : n0 ≤ h84.size := Nat.le_trans Z82 (Keep.of_wr W84).1
  have O84 := O82.wr W84 g_b1
  have hk84 := Nat.le_trans hk82 (Keep.of_wr W84).1
  have fw84 := (show Arv Z h84 b1 k1 .byte (16 : Int32) (((L0.set (st).toNatClampNeg (pj.toInt8.toInt32)).set ((st + (1 : Int32))).toNatClampNeg (pj.toInt8.toInt32)).map Value.int) (.int 0) by have q := Arv.set Ar83 q83 S83 M83 H83 G83 (fits_nar_byte _) W84 (((st + (1 : Int32))).toNatClampNeg) rfl (by rw [List.length_map, own_clamp (own_add hst own_i1 (by omega))]; simp only [List.length_set]; omega); rw [own_lset, own_bb pj] at q; exact q)
  refine own_st (g' := (mkF m 150 #[vi pa, vi pb, vi ps, vi pj, vi 0, vi st, vi (pj.toInt8.toInt32), vr b1, vr b3, vi st, vi 0, .unset, .unset] [])) st84 ?_
  obtain ⟨T85, h85, X85, e85, E85, A85, D85, U85, st85⟩ := newO X84 hx hZ0 ho0 (own_w hw 14 rfl) (own_w hw 15 rfl) (own_w hw 16 rfl) e84 (g := (mkF m 150 #[vi pa, vi pb, vi ps, vi pj, vi 0, vi st, vi (pj.toInt8.toInt32), vr b1, vr b3, vi st, vi 0, .unset, .unset] [])) rfl (D at_150) (by decide) (by decide)
  obtain ⟨b85, g85⟩ : ∃ z, z = h84.size := ⟨_, rfl⟩
  rw [← g85] at A85 D85 U85 st85
  have sz85 : h84.size ≤ b85 := Nat.le_of_eq g85.symm
  have f86 := E_u8.ext O84.2
  have ne_u8_b85 : u8 ≠ b85 := Nat.ne_of_lt (Nat.lt_of_lt_of_le f86.lt sz85)
  have ne_b1_b85 : b1 ≠ b85 := Nat.ne_of_lt (Nat.lt_of_lt_of_le fw84.lt sz85)
  have f87 := (VU.other W82 (Ne.symm ne_b1_b3)).other W84 (Ne.symm ne_b1_b3)
  have ne_b3_b85 : b3 ≠ b85 := Nat.ne_of_lt (Nat.lt_of_lt_of_le f87.lt sz85)
  have g_b85 : n0 ≤ b85 := Nat.le_trans Z84 sz85
  have hz_b85 : h0.size ≤ b85 := Nat.le_trans K84.1 sz85
  have K85 : Keep h0 h85 [] := K84.ext E85
  have Z85 : n0 ≤ h85.size := Nat.le_trans Z84 E85.1
  have O85 := O84.ext E85
  have hk85 := Nat.le_trans hk84 E85.1
  refine own_st (g' := (mkF m 153 #[vi pa, vi pb, vi ps, vi pj, vi 0, vi st, vi (pj.toInt8.toInt32), vr b1, vr b3, vi st, vi 0, .unset, .unset] [(.ref b85)])) st85 ?_
  refine own_st (T' := T85) (g' := (mkF m 154 #[vi pa, vi pb, vi ps, vi pj, vi 0, vi st, vi (pj.toInt8.toInt32), vr b1, vr b3, vi st, vi 0, .unset, .unset] [(.ref b85), (.ref b85)])) (fun t k => ?_) ?_
  ·refine XS.dup X85.here hx rfl (D at_153) rfl rfl ?_
   exact k
  obtain ⟨_, _, ⟨T88, L88, c88, n88⟩, -, X88, ⟨Lc88, hQ88, l88, y88, z88⟩, st88⟩ := X85.specialBack hx (y := own_y43) rfl ho0 (mvT hZ0 (own_w hw 17 rfl)) (mvT hZ0 (own_w hw 18 rfl)) (mvT hZ0 (own_w hw 19 rfl)) (by decide) (backOf (W := 1) (own_rm4 l Z a0 hw b85 h85 n0 Z85) hZ0 (own_w hw 19 rfl) (own_w hw 16 rfl) (by decide) (by decide)) (g := (mkF m 154 #[vi pa, vi pb, vi ps, vi pj, vi 0, vi st, vi (pj.toInt8.toInt32), vr b1, vr b3, vi st, vi 0, .unset, .unset] [(.ref b85), (.ref b85)])) rfl (by rw [hml]; rfl) (Steps.refl _) (a := b85) (argsL := []) (rest := [(.ref b85)]) (lenOf own_pd29 rfl) rfl own_w0 (D at_154) (fun _ _ => ⟨rfl, e85, (by decide : 3 + 0 ≤ _), (by decide : 26 + 0 ≤ _)⟩)
  dsimp only [Pt.U, Pt.locs, Pt.cells, Pt.slots] at X88 l88 y88 z88 st88 hQ88
  subst l88 y88 z88
  obtain ⟨rfl, N88q, e88⟩ := hQ88
  have N88 := Fr.app N84 N88q
  refine own_tr (g' := (mkF m 157 #[vi pa, vi pb, vi ps, vi pj, vi 0, vi st, vi (pj.toInt8.toInt32), vr b1, vr b3, vi st, vi 0, .unset, .unset] [(.ref b85)])) st88 ?_
  refine own_st (T' := T88) (g' := (mkF m 163 #[vi pa, vi pb, vi ps, vi pj, vi 0, vi st, vi (pj.toInt8.toInt32), vr b1, vr b3, vi st, vi 0, vr b85, .unset] [(.ref b1), (.ref b85)])) (fun t k => ?_) ?_
  ·refine XS.astore X88.here hx rfl (D at_157) rfl rfl (l' := #[vi pa, vi pb, vi ps, vi pj, vi 0, vi st, vi (pj.toInt8.toInt32), vr b1, vr b3, vi st, vi 0, vr b85, .unset]) rfl ?_
   refine XS.aload X88.here hx rfl (D at_159) rfl rfl ?_
   refine XS.aload X88.here hx rfl (D at_161) rfl rfl ?_
   exact k
  obtain ⟨T89, h89, X89, e89, W89, st89⟩ := putF X88 hx hZ0 ho0 (host := "") (Or.inl (own_w hw 23 rfl)) Via.refl e88 (D85 (Or.inl (own_w hw 24 rfl)) (ty := (.array .byte)) (by decide) : Fld Z h85 b85 "com/example/dyadloom/dyadloom/core/TripletReader$Triplet" "bytes" "[B" .null) A85 (Or.inl (own_w hw 24 rfl)) (own_w hw 15 rfl) (ty := (.array .byte)) (by decide) rfl rfl (g := (mkF m 163 #[vi pa, vi pb, vi ps, vi pj, vi 0, vi st, vi (pj.toInt8.toInt32), vr b1, vr b3, vi st, vi 0, vr b85, .unset] [(.ref b1), (.ref b85)])) rfl rfl (D at_163)
  have N89 := Fr.snoc X89 N88 g_b85
  have K89 : Keep h0 h89 [] := K85.wr W89 (Or.inr hz_b85)
  have Z89 : n0 ≤ h89.size := Nat.le_trans Z85 (Keep.of_wr W89).1
  have O89 := O85.wr W89 g_b85
  have hk89 := Nat.le_trans hk85 (Keep.of_wr W89).1
  have fw89 := ((D85 (Or.inl (own_w hw 24 rfl)) (ty := (.array .byte)) (by decide) : Fld Z h85 b85 "com/example/dyadloom/dyadloom/core/TripletReader$Triplet" "bytes" "[B" .null).same W89)
  refine own_st (g' := (mkF m 166 #[vi pa, vi pb, vi ps, vi pj, vi 0, vi st, vi (pj.toInt8.toInt32), vr b1, vr b3, vi st, vi 0, vr b85, .unset] [])) st89 ?_
  refine own_st (T' := T89) (g' := (mkF m 170 #[vi pa, vi pb, vi ps, vi pj, vi 0, vi st, vi (pj.toInt8.toInt32), vr b1, vr b3, vi st, vi 0, vr b85, .unset] [(.int st), (.ref b85)])) (fun t k => ?_) ?_
  ·refine XS.aload X89.here hx rfl (D at_166) rfl rfl ?_
   refine XS.iload X89.here hx rfl (D at_168) rfl ?_
   exact k
  have f90 := (D85 (Or.inl (own_w hw 26 rfl)) (ty := .int) (by decide) : Fld Z h85 b85 "com/example/dyadloom/dyadloom/core/TripletReader$Triplet" "rowStart" "I" (.int 0)).other W89 (Or.inr (slot_ne (Or.inl (own_w hw 26 rfl)) (Or.inl (own_w hw 24 rfl)) (by decide) (t := .int) (t' := (.array .byte)) (by decide) (by decide)))
  have f91 := A85.wr W89
  obtain ⟨T92, h92, X92, e92, W92, st92⟩ := putF X89 hx hZ0 ho0 (host := "") (Or.inl (own_w hw 25 rfl)) Via.refl e89 f90 f91 (Or.inl (own_w hw 26 rfl)) (own_w hw 15 rfl) (ty := .int) (by decide) rfl rfl (g := (mkF m 170 #[vi pa, vi pb, vi ps, vi pj, vi 0, vi st, vi (pj.toInt8.toInt32), vr b1, vr b3, vi st, vi 0, vr b85, .unset] [(.int st), (.ref b85)])) rfl rfl (D at_170)
  have N92 := Fr.snoc X92 N89 g_b85
  have K92 : Keep h0 h92 [] := K89.wr W92 (Or.inr hz_b85)
  have Z92 : n0 ≤ h92.size := Nat.le_trans Z89 (Keep.of_wr W92).1
  have O92 := O89.wr W92 g_b85
  have hk92 := Nat.le_trans hk89 (Keep.of_wr W92).1
  have fw92 := (f90.same W92)
  refine own_st (g' := (mkF m 173 #[vi pa, vi pb, vi ps, vi pj, vi 0, vi st, vi (pj.toInt8.toInt32), vr b1, vr b3, vi st, vi 0, vr b85, .unset] [])) st92 ?_
  refine own_st (T' := T92) (g' := (mkF m 177 #[vi pa, vi pb, vi ps, vi pj, vi 0, vi st, vi (pj.toInt8.toInt32), vr b1, vr b3, vi st, vi 0, vr b85, .unset] [(.int st), (.ref b85)])) (fun t k => ?_) ?_
  ·refine XS.aload X92.here hx rfl (D at_173) rfl rfl ?_
   refine XS.iload X92.here hx rfl (D at_175) rfl ?_
   exact k
  have f93 := ((D85 (Or.inl (own_w hw 28 rfl)) (ty := .int) (by decide) : Fld Z h85 b85 "com/example/dyadloom/dyadloom/core/TripletReader$Triplet" "rowEnd" "I" (.int 0)).other W89 (Or.inr (slot_ne (Or.inl (own_w hw 28 rfl)) (Or.inl (own_w hw 24 rfl)) (by decide) (t := .int) (t' := (.array .byte)) (by decide) (by decide)))).other W92 (Or.inr (slot_ne (Or.inl (own_w hw 28 rfl)) (Or.inl (own_w hw 26 rfl)) (by decide) (t := .int) (t' := .int) (by decide) (by decide)))
  have f94 := f91.wr W92
  obtain ⟨T95, h95, X95, e95, W95, st95⟩ := putF X92 hx hZ0 ho0 (host := "") (Or.inl (own_w hw 27 rfl)) Via.refl e92 f93 f94 (Or.inl (own_w hw 28 rfl)) (own_w hw 15 rfl) (ty := .int) (by decide) rfl rfl (g := (mkF m 177 #[vi pa, vi pb, vi ps, vi pj, vi 0, vi st, vi (pj.toInt8.toInt32), vr b1, vr b3, vi st, vi 0, vr b85, .unset] [(.int st), (.ref b85)])) rfl rfl (D at_177)
  have N95 := Fr.snoc X95 N92 g_b85
  have K95 : Keep h0 h95 [] := K92.wr W95 (Or.inr hz_b85)
  have Z95 : n0 ≤ h95.size := Nat.le_trans Z92 (Keep.of_wr W95).1
  have O95 := O92.wr W95 g_b85
  have hk95 := Nat.le_trans hk92 (Keep.of_wr W95).1
  have fw95 := (f93.same W95)
  refine own_st (g' := (mkF m 180 #[vi pa, vi pb, vi ps, vi pj, vi 0, vi st, vi (pj.toInt8.toInt32), vr b1, vr b3, vi st, vi 0, vr b85, .unset] [])) st95 ?_
  refine own_st (T' := T95) (g' := (mkF m 186 #[vi pa, vi pb, vi ps, vi pj, vi 0, vi st, vi (pj.toInt8.toInt32), vr b1, vr b3, vi st, vi 0, vr b85, .unset] [(.int (st + (1 : Int32))), (.ref b85)])) (fun t k => ?_) ?_
  ·refine XS.aload X95.here hx rfl (D at_180) rfl rfl ?_
   refine XS.iload X95.here hx rfl (D at_182) rfl ?_
   refine XS.iconst X95.here hx rfl (D at_184) ?_
   refine XS.iadd X95.here hx rfl (D at_185) rfl ?_
   exact k
  have f96 := (((D85 (Or.inl (own_w hw 30 rfl)) (ty := .int) (by decide) : Fld Z h85 b85 "com/example/dyadloom/dyadloom/core/TripletReader$Triplet" "columnStart" "I" (.int 0)).other W89 (Or.inr (slot_ne (Or.inl (own_w hw 30 rfl)) (Or.inl (own_w hw 24 rfl)) (by decide) (t := .int) (t' := (.array .byte)) (by decide) (by decide)))).other W92 (Or.inr (slot_ne (Or.inl (own_w hw 30 rfl)) (Or.inl (own_w hw 26 rfl)) (by decide) (t := .int) (t' := .int) (by decide) (by decide)))).other W95 (Or.inr (slot_ne (Or.inl (own_w hw 30 rfl)) (Or.inl (own_w hw 28 rfl)) (by decide) (t := .int) (t' := .int) (by decide) (by decide)))
  have f97 := f94.wr W95
  obtain ⟨T98, h98, X98, e98, W98, st98⟩ := putF X95 hx hZ0 ho0 (host := "") (Or.inl (own_w hw 29 rfl)) Via.refl e95 f96 f97 (Or.inl (own_w hw 30 rfl)) (own_w hw 15 rfl) (ty := .int) (by decide) rfl rfl (g := (mkF m 186 #[vi pa, vi pb, vi ps, vi pj, vi 0, vi st, vi (pj.toInt8.toInt32), vr b1, vr b3, vi st, vi 0, vr b85, .unset] [(.int (st + (1 : Int32))), (.ref b85)])) rfl rfl (D at_186)
  have N98 := Fr.snoc X98 N95 g_b85
  have K98 : Keep h0 h98 [] := K95.wr W98 (Or.inr hz_b85)
  have Z98 : n0 ≤ h98.size := Nat.le_trans Z95 (Keep.of_wr W98).1
  have O98 := O95.wr W98 g_b85
  have hk98 := Nat.le_trans hk95 (Keep.of_wr W98).1
  have fw98 := (f96.same W98)
  refine own_st (g' := (mkF m 189 #[vi pa, vi pb, vi ps, vi pj, vi 0, vi st, vi (pj.toInt8.toInt32), vr b1, vr b3, vi st, vi 0, vr b85, .unset] [])) st98 ?_
  refine own_st (T' := T98) (g' := (mkF m 195 #[vi pa, vi pb, vi ps, vi pj, vi 0, vi st, vi (pj.toInt8.toInt32), vr b1, vr b3, vi st, vi 0, vr b85, .unset] [(.int (st + (2 : Int32))), (.ref b85)])) (fun t k => ?_) ?_
  ·refine XS.aload X98.here hx rfl (D at_189) rfl rfl ?_
   refine XS.iload X98.here hx rfl (D at_191) rfl ?_
   refine XS.iconst X98.here hx rfl (D at_193) ?_
   refine XS.iadd X98.here hx rfl (D at_194) rfl ?_
   exact k
  have f99 := ((((D85 (Or.inl (own_w hw 32 rfl)) (ty := .int) (by decide) : Fld Z h85 b85 "com/example/dyadloom/dyadloom/core/TripletReader$Triplet" "columnEnd" "I" (.int 0)).other W89 (Or.inr (slot_ne (Or.inl (own_w hw 32 rfl)) (Or.inl (own_w hw 24 rfl)) (by decide) (t := .int) (t' := (.array .byte)) (by decide) (by decide)))).other W92 (Or.inr (slot_ne (Or.inl (own_w hw 32 rfl)) (Or.inl (own_w hw 26 rfl)) (by decide) (t := .int) (t' := .int) (by decide) (by decide)))).other W95 (Or.inr (slot_ne (Or.inl (own_w hw 32 rfl)) (Or.inl (own_w hw 28 rfl)) (by decide) (t := .int) (t' := .int) (by decide) (by decide)))).other W98 (Or.inr (slot_ne (Or.inl (own_w hw 32 rfl)) (Or.inl (own_w hw 30 rfl)) (by decide) (t := .int) (t' := .int) (by decide) (by decide)))
  have f100 := f97.wr W98
  obtain ⟨T101, h101, X101, e101, W101, st101⟩ := putF X98 hx hZ0 ho0 (host := "") (Or.inl (own_w hw 31 rfl)) Via.refl e98 f99 f100 (Or.inl (own_w hw 32 rfl)) (own_w hw 15 rfl) (ty := .int) (by decide) rfl rfl (g := (mkF m 195 #[vi pa, vi pb, vi ps, vi pj, vi 0, vi st, vi (pj.toInt8.toInt32), vr b1, vr b3, vi st, vi 0, vr b85, .unset] [(.int (st + (2 : Int32))), (.ref b85)])) rfl rfl (D at_195)
  have N101 := Fr.snoc X101 N98 g_b85
  have K101 : Keep h0 h101 [] := K98.wr W101 (Or.inr hz_b85)
  have Z101 : n0 ≤ h101.size := Nat.le_trans Z98 (Keep.of_wr W101).1
  have O101 := O98.wr W101 g_b85
  have hk101 := Nat.le_trans hk98 (Keep.of_wr W101).1
  have fw101 := (f99.same W101)
  refine own_st (g' := (mkF m 198 #[vi pa, vi pb, vi ps, vi pj, vi 0, vi st, vi (pj.toInt8.toInt32), vr b1, vr b3, vi st, vi 0, vr b85, .unset] [])) st101 ?_
  refine own_st (T' := T101) (g' := (mkF m 201 #[vi pa, vi pb, vi ps, vi pj, vi 0, vi st, vi (pj.toInt8.toInt32), vr b1, vr b3, vi st, vi 0, vr b85, .unset] [(.double Jvm.FP.dconst1), (.ref b85)])) (fun t k => ?_) ?_
  ·refine XS.aload X101.here hx rfl (D at_198) rfl rfl ?_
   refine XS.dconst1 X101.here hx rfl (D at_200) rfl ?_
   exact k
  have f102 := (((((D85 (Or.inl (own_w hw 34 rfl)) (ty := .double) (by decide) : Fld Z h85 b85 "com/example/dyadloom/dyadloom/core/TripletReader$Triplet" "value" "D" (.double 0)).other W89 (Or.inr (slot_ne (Or.inl (own_w hw 34 rfl)) (Or.inl (own_w hw 24 rfl)) (by decide) (t := .double) (t' := (.array .byte)) (by decide) (by decide)))).other W92 (Or.inr (slot_ne (Or.inl (own_w hw 34 rfl)) (Or.inl (own_w hw 26 rfl)) (by decide) (t := .double) (t' := .int) (by decide) (by decide)))).other W95 (Or.inr (slot_ne (Or.inl (own_w hw 34 rfl)) (Or.inl (own_w hw 28 rfl)) (by decide) (t := .double) (t' := .int) (by decide) (by decide)))).other W98 (Or.inr (slot_ne (Or.inl (own_w hw 34 rfl)) (Or.inl (own_w hw 30 rfl)) (by decide) (t := .double) (t' := .int) (by decide) (by decide)))).other W101 (Or.inr (slot_ne (Or.inl (own_w hw 34 rfl)) (Or.inl (own_w hw 32 rfl)) (by decide) (t := .double) (t' := .int) (by decide) (by decide)))
  have f103 := f100.wr W101
  obtain ⟨T104, h104, X104, e104, W104, st104⟩ := putF X101 hx hZ0 ho0 (host := "") (Or.inl (own_w hw 33 rfl)) Via.refl e101 f102 f103 (Or.inl (own_w hw 34 rfl)) (own_w hw 15 rfl) (ty := .double) (by decide) rfl rfl (g := (mkF m 201 #[vi pa, vi pb, vi ps, vi pj, vi 0, vi st, vi (pj.toInt8.toInt32), vr b1, vr b3, vi st, vi 0, vr b85, .unset] [(.double Jvm.FP.dconst1), (.ref b85)])) rfl rfl (D at_201)
  have N104 := Fr.snoc X104 N101 g_b85
  have K104 : Keep h0 h104 [] := K101.wr W104 (Or.inr hz_b85)
  have Z104 : n0 ≤ h104.size := Nat.le_trans Z101 (Keep.of_wr W104).1
  have O104 := O101.wr W104 g_b85
  have hk104 := Nat.le_trans hk101 (Keep.of_wr W104).1
  have fw104 := (f102.same W104)
  refine own_st (g' := (mkF m 204 #[vi pa, vi pb, vi ps, vi pj, vi 0, vi st, vi (pj.toInt8.toInt32), vr b1, vr b3, vi st, vi 0, vr b85, .unset] [])) st104 ?_
  refine own_st (T' := T104) (g' := (mkF m 206 #[vi pa, vi pb, vi ps, vi pj, vi 0, vi st, vi (pj.toInt8.toInt32), vr b1, vr b3, vi st, vi 0, vr b85, .unset] [(.ref b85)])) (fun t k => ?_) ?_
  ·refine XS.aload X104.here hx rfl (D at_204) rfl rfl ?_
   exact k
  have SC0_b1 := Safe.ext E1 H0 (Safe.new sz1)
  have HC0 := CHv.ext E1 H0
  have SC1_b1 := Safe.ext E3 HC0 SC0_b1
  have HC1 := CHv.ext E3 HC0
  have SC2_b1 := Safe.wr W7 SC1_b1 HC1 SC1_b1
  have HC2 := CHv.wr W7 SC1_b1 HC1
  have SC3_b1 := Safe.wr W9 SC2_b1 HC2 SC2_b1
  have HC3 := CHv.wr W9 SC2_b1 HC2
  have SC4_b1 := Safe.wr W11 SC3_b1 HC3 SC3_b1
  have HC4 := CHv.wr W11 SC3_b1 HC3
  have SC5_b1 := Safe.wr W82 SC4_b1 HC4 SC4_b1
  have HC5 := CHv.wr W82 SC4_b1 HC4
  have HC6 := CHv.wr W84 SC5_b1 HC5
  have SC7_b85 := Safe.ext E85 HC6 (Safe.new sz85)
  have HC7 := CHv.ext E85 HC6
  have SC8_b85 := Safe.wr W89 SC7_b85 HC7 SC7_b85
  have HC8 := CHv.wr W89 SC7_b85 HC7
  have SC9_b85 := Safe.wr W92 SC8_b85 HC8 SC8_b85
  have HC9 := CHv.wr W92 SC8_b85 HC8
  have SC10_b85 := Safe.wr W95 SC9_b85 HC9 SC9_b85
  have HC10 := CHv.wr W95 SC9_b85 HC9
  have SC11_b85 := Safe.wr W98 SC10_b85 HC10 SC10_b85
  have HC11 := CHv.wr W98 SC10_b85 HC10
  have SC12_b85 := Safe.wr W101 SC11_b85 HC11 SC11_b85
  have HC12 := CHv.wr W101 SC11_b85 HC11
  have HC13 := CHv.wr W104 SC12_b85 HC12
  have HCf : CHv Z consts_1 v0 h104 := HC13
  have f105 := f103.wr W104
  have f106 := ((((fw89.other W92 (Or.inr (slot_ne (Or.inl (own_w hw 24 rfl)) (Or.inl (own_w hw 26 rfl)) (by decide) (t := (.array .byte)) (t' := .int) (by decide) (by decide)))).other W95 (Or.inr (slot_ne (Or.inl (own_w hw 24 rfl)) (Or.inl (own_w hw 28 rfl)) (by decide) (t := (.array .byte)) (t' := .int) (by decide) (by decide)))).other W98 (Or.inr (slot_ne (Or.inl (own_w hw 24 rfl)) (Or.inl (own_w hw 30 rfl)) (by decide) (t := (.array .byte)) (t' := .int) (by decide) (by decide)))).other W101 (Or.inr (slot_ne (Or.inl (own_w hw 24 rfl)) (Or.inl (own_w hw 32 rfl)) (by decide) (t := (.array .byte)) (t' := .int) (by decide) (by decide)))).other W104 (Or.inr (slot_ne (Or.inl (own_w hw 24 rfl)) (Or.inl (own_w hw 34 rfl)) (by decide) (t := (.array .byte)) (t' := .double) (by decide) (by decide)))
  have f107 := (((fw92.other W95 (Or.inr (slot_ne (Or.inl (own_w hw 26 rfl)) (Or.inl (own_w hw 28 rfl)) (by decide) (t := .int) (t' := .int) (by decide) (by decide)))).other W98 (Or.inr (slot_ne (Or.inl (own_w hw 26 rfl)) (Or.inl (own_w hw 30 rfl)) (by decide) (t := .int) (t' := .int) (by decide) (by decide)))).other W101 (Or.inr (slot_ne (Or.inl (own_w hw 26 rfl)) (Or.inl (own_w hw 32 rfl)) (by decide) (t := .int) (t' := .int) (by decide) (by decide)))).other W104 (Or.inr (slot_ne (Or.inl (own_w hw 26 rfl)) (Or.inl (own_w hw 34 rfl)) (by decide) (t := .int) (t' := .double) (by decide) (by decide)))
  have f108 := ((fw95.other W98 (Or.inr (slot_ne (Or.inl (own_w hw 28 rfl)) (Or.inl (own_w hw 30 rfl)) (by decide) (t := .int) (t' := .int) (by decide) (by decide)))).other W101 (Or.inr (slot_ne (Or.inl (own_w hw 28 rfl)) (Or.inl (own_w hw 32 rfl)) (by decide) (t := .int) (t' := .int) (by decide) (by decide)))).other W104 (Or.inr (slot_ne (Or.inl (own_w hw 28 rfl)) (Or.inl (own_w hw 34 rfl)) (by decide) (t := .int) (t' := .double) (by decide) (by decide)))
  have f109 := ((((((fw84.ext E85).other W89 ne_b1_b85).other W92 ne_b1_b85).other W95 ne_b1_b85).other W98 ne_b1_b85).other W101 ne_b1_b85).other W104 ne_b1_b85
  obtain ⟨cq110, kq110, q110a, q110b, q110c⟩ := isOf hZ0 e104 f105
  obtain ⟨_, _, ⟨T110, L110, c110, n110⟩, -, Y110, hI110, hG110, ⟨Lc110, hQ110, l110, y110, z110⟩, st110⟩ := X104.virtualBackS hx (y := own_y31) (z := own_y31) ho0 (mvT hZ0 (own_w hw 35 rfl)) (mvT hZ0 (own_w hw 36 rfl)) (notFace_of_selects (args := #[]) (mvT hZ0 (own_w hw 38 rfl))) (mvT hZ0 (own_w hw 38 rfl)) (mvT hZ0 (own_w hw 37 rfl)) (by decide) (own_backH (W := 0) (own_rm6z l Z a0 hw b85 b1 k1 ((L0.set (st).toNatClampNeg (pj.toInt8.toInt32)).set ((st + (1 : Int32))).toNatClampNeg (pj.toInt8.toInt32)) st pn cs fm u8 h104 n0 Z104 O104 f105 f106 f107 f108 f109 hst hp3 HB) hZ0 (own_w hw 39 rfl) (own_w hw 16 rfl) (by decide) (by decide) hEL HCf) q110a q110c (g := (mkF m 206 #[vi pa, vi pb, vi ps, vi pj, vi 0, vi st, vi (pj.toInt8.toInt32), vr b1, vr b3, vi st, vi 0, vr b85, .unset] [(.ref b85)])) rfl (by rw [hml]; rfl) (Steps.refl _) (argsL := []) (rest := []) (lenOf own_pd30 rfl) rfl own_w0 (D at_206) (fun _ _ => ⟨rfl, e104, (by decide : 3 + 3 ≤ _), (by decide : 26 + 8 ≤ _)⟩)
  dsimp only [Pt.U, Pt.locs, Pt.cells, Pt.slots] at Y110 hI110 hG110 l110 y110 z110 st110 hQ110
  subst l110 y110 z110
  obtain ⟨X110, hS110, hZ110, ho110⟩ := rebS hS0 (by rw [e104]; exact hk104) Y110 hI110 hG110 hZ0 ho0
  obtain ⟨v110, hv110⟩ : ∃ z, z = T110.vm := ⟨_, rfl⟩
  rw [← hv110] at X110 hS110 hZ110 ho110
  obtain ⟨h110, e110⟩ : ∃ z, T110.heap = z := ⟨_, rfl⟩
  rw [e110] at hQ110
  obtain ⟨r110, t110, k110, rfl, N110q, Kc110, Ec110, Fv110, Fo110, Vc110⟩ := hQ110
  have N110 := Fr.app N104 N110q
  have K110 : Keep h0 h110 [] := K104.trans Kc110 all0
  have Z110 : n0 ≤ h110.size := Nat.le_trans Z104 Kc110.1
  have O110 := O104.keep Kc110 all0
  have hk110 : T110.heap.size ≤ h110.size := Nat.le_of_eq (by rw [e110])
  refine own_tr (g' := (mkF m 209 #[vi pa, vi pb, vi ps, vi pj, vi 0, vi st, vi (pj.toInt8.toInt32), vr b1, vr b3, vi st, vi 0, vr b85, .unset] [(.ref r110)])) st110 ?_
  refine own_st (T' := T110) (g' := (mkF m 213 #[vi pa, vi pb, vi ps, vi pj, vi 0, vi st, vi (pj.toInt8.toInt32), vr b1, vr b3, vi st, vi 0, vr b85, vr r110] [(.ref r110)])) (fun t k => ?_) ?_
  ·refine XS.astore X110.here hx rfl (D at_209) rfl rfl (l' := #[vi pa, vi pb, vi ps, vi pj, vi 0, vi st, vi (pj.toInt8.toInt32), vr b1, vr b3, vi st, vi 0, vr b85, vr r110]) rfl ?_
   refine XS.aload X110.here hx rfl (D at_211) rfl rfl ?_
   exact k
  obtain ⟨cq111, kq111, q111a, q111b, q111c⟩ := isOf hZ110 e110 Ec110
  obtain ⟨_, _, ⟨T111, L111, c111, n111⟩, -, X111, ⟨Lc111, hQ111, l111, y111, z111⟩, st111⟩ := X110.virtualBack hx (y := own_y34) (z := own_y34) ho110 (mvT hZ110 (own_w hw 147 rfl)) (mvT hZ110 (own_w hw 148 rfl)) (notFace_of_selects (args := #[]) (mvT hZ110 (own_w hw 150 rfl))) (mvT hZ110 (own_w hw 150 rfl)) (mvT hZ110 (own_w hw 149 rfl)) (by decide) (backOf (W := 0) (own_rm29_0 l Z a0 hw r110 t110 k110 ([] : List Int32) (0 : Int32) (0 : Int32) cs fm u8 h110 n0 Z110 O110 Ec110 Fv110 Fo110 Vc110 (by decide) HB) hZ110 (own_w hw 151 rfl) (own_w hw 42 rfl) (by decide) (by decide)) q111a q111c (g := (mkF m 213 #[vi pa, vi pb, vi ps, vi pj, vi 0, vi st, vi (pj.toInt8.toInt32), vr b1, vr b3, vi st, vi 0, vr b85, vr r110] [(.ref r110)])) rfl (by rw [hml]; rfl) (Steps.refl _) (argsL := []) (rest := []) (lenOf own_pd31 rfl) rfl own_w0 (D at_213) (fun _ _ => ⟨rfl, e110, (by decide : 6 + 0 ≤ _), (by decide : 34 + 0 ≤ _)⟩)
  dsimp only [Pt.U, Pt.locs, Pt.cells, Pt.slots] at X111 l111 y111 z111 st111 hQ111
  subst l111 y111 z111
  obtain ⟨rfl, N111q, e111⟩ := hQ111
  have N111 := Fr.app N110 N111q
  refine own_tr (g' := (mkF m 216 #[vi pa, vi pb, vi ps, vi pj, vi 0, vi st, vi (pj.toInt8.toInt32), vr b1, vr b3, vi st, vi 0, vr b85, vr r110] [(.int 0)])) st111 ?_
  refine own_st (T' := T111) (g' := (mkF m 302 #[vi pa, vi pb, vi ps, vi pj, vi 0, vi st, vi (pj.toInt8.toInt32), vr b1, vr b3, vi st, vi 0, vr b85, vr r110] [(.int 1)])) (fun t k => ?_) ?_
  ·refine XS.iload X111.here hx rfl (D at_216) rfl ?_
   refine XS.icmpNo X111.here hx rfl (D at_218) rfl (teq (rfl : (0 : Int32) = (0 : Int32))).2 ?_
   refine XS.iload X111.here hx rfl (D at_221) rfl ?_
   refine XS.iconst X111.here hx rfl (D at_223) ?_
   refine XS.icmpYes X111.here hx rfl (pc0 := 224) (pc' := 240) rfl (D at_224) rfl (tlt (by decide : (0 : Int32) < (1 : Int32))).1 (by decide) (by decide) ?_
   refine XS.iload X111.here hx rfl (D at_240) rfl ?_
   refine XS.iconst X111.here hx rfl (D at_242) ?_
   refine XS.icmpYes X111.here hx rfl (pc0 := 243) (pc' := 259) rfl (D at_243) rfl (tlt (by decide : (0 : Int32) < (2 : Int32))).1 (by decide) (by decide) ?_
   refine XS.iload X111.here hx rfl (D at_259) rfl ?_
   refine XS.iconst X111.here hx rfl (D at_261) ?_
   refine XS.icmpYes X111.here hx rfl (pc0 := 262) (pc' := 278) rfl (D at_262) rfl (tlt (by decide : (0 : Int32) < (3 : Int32))).1 (by decide) (by decide) ?_
   refine XS.iload X111.here hx rfl (D at_278) rfl ?_
   refine XS.iconst X111.here hx rfl (D at_280) ?_
   refine XS.icmpYes X111.here hx rfl (pc0 := 281) (pc' := 297) rfl (D at_281) rfl (tlt (by decide : (0 : Int32) < (4 : Int32))).1 (by decide) (by decide) ?_
   refine XS.iconst X111.here hx rfl (D at_297) ?_
   refine XS.goto X111.here hx rfl (pc0 := 298) (pc' := 302) rfl (D at_298) (by decide) (by decide) ?_
   exact k
  exact own_retNW X111 hx Bd (t := .boolean) (by simp) rfl (D at_302) e111 (⟨rfl, N111⟩) hS110 hk110 (by decide) (by decide)
 ·refine own_st (T' := T11) (g' := (mkF m 61 #[vi pa, vi pb, vi ps, vi pj, vi 1, vi st, vi (pj.toInt8.toInt32), vr b1, vr b3, vi st, vi 0, .unset, .unset] [(.int pa)])) (fun t k => ?_) ?_
  ·refine XS.iload X11.here hx rfl (D at_54) rfl ?_
   refine XS.iconst X11.here hx rfl (D at_56) ?_
   refine XS.icmpNo X11.here hx rfl (D at_57) rfl (flt Int32.lt_irrefl).1 ?_
   refine XS.iloadN X11.here hx rfl (D at_60) rfl ?_
   exact k
  obtain ⟨_, _, ⟨T112, L112, c112, n112⟩, -, X112, ⟨Lc112, hQ112, l112, y112, z112⟩, st112⟩ := Jvm.LawKit.callS X11 hx (y := own_y40) ho0 (mvT hZ0 (own_w hw 2 rfl)) (mvT hZ0 (own_w hw 3 rfl)) (mvT hZ0 (own_w hw 4 rfl)) (mvT hZ0 (own_w hw 5 rfl)) (by decide) (backOf (W := 0) (own_rm1 l Z a0 hw pa h11 n0 Z11) hZ0 (own_w hw 5 rfl) (own_w hw 4 rfl) (by decide) (by decide)) (g := (mkF m 61 #[vi pa, vi pb, vi ps, vi pj, vi 1, vi st, vi (pj.toInt8.toInt32), vr b1, vr b3, vi st, vi 0, .unset, .unset] [(.int pa)])) rfl (by rw [hml]; rfl) (argsL := [(.int pa)]) (rest := []) (lenOf own_pd5 rfl) rfl own_w0 (D at_61) (fun _ _ => ⟨rfl, e11, (by decide : 2 + 0 ≤ _), (by decide : 20 + 0 ≤ _)⟩)
  dsimp only [Pt.U, Pt.locs, Pt.cells, Pt.slots] at X112 l112 y112 z112 st112 hQ112
  subst l112 y112 z112
  obtain ⟨h112, e112⟩ : ∃ z, T112.heap = z := ⟨_, rfl⟩
  rw [e112] at hQ112
  obtain ⟨q1, rfl, N112q, hc1, eq112⟩ := hQ112
  have N112 := Fr.app N11 N112q
  rw [eq112] at e112
  refine own_st (g' := (mkF m 64 #[vi pa, vi pb, vi ps, vi pj, vi 1, vi st, vi (pj.toInt8.toInt32), vr b1, vr b3, vi st, vi 0, .unset, .unset] [(.int q1)])) st112 ?_
  refine own_st (T' := T112) (g' := (mkF m 74 #[vi pa, vi pb, vi ps, vi pj, vi 1, vi st, vi (pj.toInt8.toInt32), vr b1, vr b3, vi st, vi 0, vi q1, .unset] [(.int q1), (.int st), (.ref b1), (.int st)])) (fun t k => ?_) ?_
  ·refine XS.istore X112.here hx rfl (D at_64) rfl (l' := #[vi pa, vi pb, vi ps, vi pj, vi 1, vi st, vi (pj.toInt8.toInt32), vr b1, vr b3, vi st, vi 0, vi q1, .unset]) rfl ?_
   refine XS.iload X112.here hx rfl (D at_66) rfl ?_
   refine XS.aload X112.here hx rfl (D at_68) rfl rfl ?_
   refine XS.iload X112.here hx rfl (D at_70) rfl ?_
   refine XS.iload X112.here hx rfl (D at_72) rfl ?_
   exact k
  obtain ⟨_, _, ⟨T113, L113, c113, n113⟩, -, X113, ⟨Lc113, hQ113, l113, y113, z113⟩, st113⟩ := Jvm.LawKit.callS X112 hx (y := own_y41) ho0 (mvT hZ0 (own_w hw 6 rfl)) (mvT hZ0 (own_w hw 7 rfl)) (mvT hZ0 (own_w hw 4 rfl)) (mvT hZ0 (own_w hw 8 rfl)) (by decide) (backOf (W := 1) (own_rm2 l Z a0 hw b1 k1 L0 st q1 pn h11 n0 Z11 VL g_b1 hL0 hst (by omega)) hZ0 (own_w hw 8 rfl) (own_w hw 4 rfl) (by decide) (by decide)) (g := (mkF m 74 #[vi pa, vi pb, vi ps, vi pj, vi 1, vi st, vi (pj.toInt8.toInt32), vr b1, vr b3, vi st, vi 0, vi q1, .unset] [(.int q1), (.int st), (.ref b1), (.int st)])) rfl (by rw [hml]; rfl) (argsL := [(.ref b1), (.int st), (.int q1)]) (rest := [(.int st)]) (lenOf own_pd18 rfl) rfl own_w0 (D at_74) (fun _ _ => ⟨rfl, e112, (by decide : 2 + 0 ≤ _), (by decide : 20 + 0 ≤ _)⟩)
  dsimp only [Pt.U, Pt.locs, Pt.cells, Pt.slots] at X113 l113 y113 z113 st113 hQ113
  subst l113 y113 z113
  obtain ⟨h113, e113⟩ : ∃ z, T113.heap = z := ⟨_, rfl⟩
  rw [e113] at hQ113
  obtain ⟨rfl, N113q, Kc113, Vc113⟩ := hQ113
  have N113 := Fr.app N112 N113q
  have K113 : Keep h0 h113 [] := K11.trans Kc113 (allS (Or.inr hz_b1) all0)
  have Z113 : n0 ≤ h113.size := Nat.le_trans Z11 Kc113.1
  have O113 := O11.keep Kc113 (allS g_b1 all0)
  have hk113 := Nat.le_trans hk11 Kc113.1
  refine own_st (g' := (mkF m 77 #[vi pa, vi pb, vi ps, vi pj, vi 1, vi st, vi (pj.toInt8.toInt32), vr b1, vr b3, vi st, vi 0, vi q1, .unset] [(.int (Int32.ofNat (own_enc q1).length)), (.int st)])) st113 ?_
  refine own_st (T' := T113) (g' := (mkF m 88 #[vi pa, vi pb, vi ps, vi pj, vi 1, vi st, vi (pj.toInt8.toInt32), vr b1, vr b3, vi (st + (Int32.ofNat (own_enc q1).length)), vi 0, vi q1, .unset] [(.int q1), (.int 0), (.ref b3), (.int 0)])) (fun t k => ?_) ?_
  ·refine XS.iadd X113.here hx rfl (D at_77) rfl ?_
   refine XS.istore X113.here hx rfl (D at_78) rfl (l' := #[vi pa, vi pb, vi ps, vi pj, vi 1, vi st, vi (pj.toInt8.toInt32), vr b1, vr b3, vi (st + (Int32.ofNat (own_enc q1).length)), vi 0, vi q1, .unset]) rfl ?_
   refine XS.iload X113.here hx rfl (D at_80) rfl ?_
   refine XS.aload X113.here hx rfl (D at_82) rfl rfl ?_
   refine XS.iload X113.here hx rfl (D at_84) rfl ?_
   refine XS.iload X113.here hx rfl (D at_86) rfl ?_
   exact k
  have f114 := VU.keep Kc113 (ninS (Ne.symm ne_b1_b3) nin0)
  obtain ⟨_, _, ⟨T115, L115, c115, n115⟩, -, X115, ⟨Lc115, hQ115, l115, y115, z115⟩, st115⟩ := Jvm.LawKit.callS X113 hx (y := own_y42) ho0 (mvT hZ0 (own_w hw 9 rfl)) (mvT hZ0 (own_w hw 10 rfl)) (mvT hZ0 (own_w hw 4 rfl)) (mvT hZ0 (own_w hw 11 rfl)) (by decide) (backOf (W := 1) (own_rm3 l Z a0 hw b3 k3 [0, 0, 0, 0] (0 : Int32) q1 0 h113 n0 Z113 f114 g_b3 rfl rfl (by decide)) hZ0 (own_w hw 11 rfl) (own_w hw 4 rfl) (by decide) (by decide)) (g := (mkF m 88 #[vi pa, vi pb, vi ps, vi pj, vi 1, vi st, vi (pj.toInt8.toInt32), vr b1, vr b3, vi (st + (Int32.ofNat (own_enc q1).length)), vi 0, vi q1, .unset] [(.int q1), (.int 0), (.ref b3), (.int 0)])) rfl (by rw [hml]; rfl) (argsL := [(.ref b3), (.int 0), (.int q1)]) (rest := [(.int 0)]) (lenOf own_pd32 rfl) rfl own_w0 (D at_88) (fun _ _ => ⟨rfl, e113, (by decide : 2 + 0 ≤ _), (by decide : 20 + 0 ≤ _)⟩)
  dsimp only [Pt.U, Pt.locs, Pt.cells, Pt.slots] at X115 l115 y115 z115 st115 hQ115
  subst l115 y115 z115
  obtain ⟨h115, e115⟩ : ∃ z, T115.heap = z := ⟨_, rfl⟩
  rw [e115] at hQ115
  obtain ⟨rfl, N115q, Kc115, Vc115⟩ := hQ115
  have N115 := Fr.app N113 N115q
  have K115 : Keep h0 h115 [] := K113.trans Kc115 (allS (Or.inr hz_b3) all0)
  have Z115 : n0 ≤ h115.size := Nat.le_trans Z113 Kc115.1
  have O115 := O113.keep Kc115 (allS g_b3 all0)
  have hk115 := Nat.le_trans hk113 Kc115.1
  refine own_st (g' := (mkF m 91 #[vi pa, vi pb, vi ps, vi pj, vi 1, vi st, vi (pj.toInt8.toInt32), vr b1, vr b3, vi (st + (Int32.ofNat (own_enc q1).length)), vi 0, vi q1, .unset] [(.int (Int32.ofNat (own_chs q1).length)), (.int 0)])) st115 ?_
  refine own_st (T' := T115) (g' := (mkF m 94 #[vi pa, vi pb, vi ps, vi pj, vi 1, vi st, vi (pj.toInt8.toInt32), vr b1, vr b3, vi (st + (Int32.ofNat (own_enc q1).length)), vi ((0 : Int32) + (Int32.ofNat (own_chs q1).length)), vi q1, .unset] [])) (fun t k => ?_) ?_
  ·refine XS.iadd X115.here hx rfl (D at_91) rfl ?_
   refine XS.istore X115.here hx rfl (D at_92) rfl (l' := #[vi pa, vi pb, vi ps, vi pj, vi 1, vi st, vi (pj.toInt8.toInt32), vr b1, vr b3, vi (st + (Int32.ofNat (own_enc q1).length)), vi ((0 : Int32) + (Int32.ofNat (own_chs q1).length)), vi q1, .unset]) rfl ?_
   exact k
  have hl1 := own_chl q1
  have hat1 : (st + (Int32.ofNat (own_enc q1).length)).toInt = ((pn + (own_enc q1).length : Nat) : Int) := own_add hst (own_ofi (show (own_enc q1).length < 2147483648 by omega)) (by omega)
  have hnc1 : ((0 : Int32) + (Int32.ofNat (own_chs q1).length)).toInt = ((own_chs q1).length : Int) := by rw [Int32.zero_add]; exact (own_ofi (show (own_chs q1).length < 2147483648 by omega))
  refine own_st (T' := T115) (g' := (mkF m 134 #[vi pa, vi pb, vi ps, vi pj, vi 1, vi st, vi (pj.toInt8.toInt32), vr b1, vr b3, vi (st + (Int32.ofNat (own_enc q1).length)), vi ((0 : Int32) + (Int32.ofNat (own_chs q1).length)), vi q1, .unset] [])) (fun t k => ?_) ?_
  ·refine XS.iload X115.here hx rfl (D at_94) rfl ?_
   refine XS.iconst X115.here hx rfl (D at_96) ?_
   refine XS.icmpYes X115.here hx rfl (pc0 := 97) (pc' := 134) rfl (D at_97) rfl (tlt (by decide : (1 : Int32) < (2 : Int32))).1 (by decide) (by decide) ?_
   exact k
  have f116 := Vc113.keep Kc115 (ninS ne_b1_b3 nin0)
  exact J _ _ _ _ _ _ (own_enc q1) (own_chs q1) _ (Or.inl (own_is_one hc1)) (own_seg_1 hL0 hp3 hl1.2) hat1 (Int32.zero_add _) (own_buf1 hl1.1) f116 Vc115 K115 O115 Z115 T115 _ X115 N115 e115
 ·refine own_st (T' := T11) (g' := (mkF m 61 #[vi pa, vi pb, vi ps, vi pj, vi 2, vi st, vi (pj.toInt8.toInt32), vr b1, vr b3, vi st, vi 0, .unset, .unset] [(.int pa)])) (fun t k => ?_) ?_
  ·refine XS.iload X11.here hx rfl (D at_54) rfl ?_
   refine XS.iconst X11.here hx rfl (D at_56) ?_
   refine XS.icmpNo X11.here hx rfl (D at_57) rfl (flt (by decide : ¬ ((2 : Int32) < (1 : Int32)))).1 ?_
   refine XS.iloadN X11.here hx rfl (D at_60) rfl ?_
   exact k
  obtain ⟨_, _, ⟨T117, L117, c117, n117⟩, -, X117, ⟨Lc117, hQ117, l117, y117, z117⟩, st117⟩ := Jvm.LawKit.callS X11 hx (y := own_y40) ho0 (mvT hZ0 (own_w hw 2 rfl)) (mvT hZ0 (own_w hw 3 rfl)) (mvT hZ0 (own_w hw 4 rfl)) (mvT hZ0 (own_w hw 5 rfl)) (by decide) (backOf (W := 0) (own_rm1 l Z a0 hw pa h11 n0 Z11) hZ0 (own_w hw 5 rfl) (own_w hw 4 rfl) (by decide) (by decide)) (g := (mkF m 61 #[vi pa, vi pb, vi ps, vi pj, vi 2, vi st, vi (pj.toInt8.toInt32), vr b1, vr b3, vi st, vi 0, .unset, .unset] [(.int pa)])) rfl (by rw [hml]; rfl) (argsL := [(.int pa)]) (rest := []) (lenOf own_pd5 rfl) rfl own_w0 (D at_61) (fun _ _ => ⟨rfl, e11, (by decide : 2 + 0 ≤ _), (by decide : 20 + 0 ≤ _)⟩)
  dsimp only [Pt.U, Pt.locs, Pt.cells, Pt.slots] at X117 l117 y117 z117 st117 hQ117
  subst l117 y117 z117
  obtain ⟨h117, e117⟩ : ∃ z, T117.heap = z := ⟨_, rfl⟩
  rw [e117] at hQ117
  obtain ⟨q1, rfl, N117q, hc1, eq117⟩ := hQ117
  have N117 := Fr.app N11 N117q
  rw [eq117] at e117
  refine own_st (g' := (mkF m 64 #[vi pa, vi pb, vi ps, vi pj, vi 2, vi st, vi (pj.toInt8.toInt32), vr b1, vr b3, vi st, vi 0, .unset, .unset] [(.int q1)])) st117 ?_
  refine own_st (T' := T117) (g' := (mkF m 74 #[vi pa, vi pb, vi ps, vi pj, vi 2, vi st, vi (pj.toInt8.toInt32), vr b1, vr b3, vi st, vi 0, vi q1, .unset] [(.int q1), (.int st), (.ref b1), (.int st)])) (fun t k => ?_) ?_
  ·refine XS.istore X117.here hx rfl (D at_64) rfl (l' := #[vi pa, vi pb, vi ps, vi pj, vi 2, vi st, vi (pj.toInt8.toInt32), vr b1, vr b3, vi st, vi 0, vi q1, .unset]) rfl ?_
   refine XS.iload X117.here hx rfl (D at_66) rfl ?_
   refine XS.aload X117.here hx rfl (D at_68) rfl rfl ?_
   refine XS.iload X117.here hx rfl (D at_70) rfl ?_
   refine XS.iload X117.here hx rfl (D at_72) rfl ?_
   exact k
  obtain ⟨_, _, ⟨T118, L118, c118, n118⟩, -, X118, ⟨Lc118, hQ118, l118, y118, z118⟩, st118⟩ := Jvm.LawKit.callS X117 hx (y := own_y41) ho0 (mvT hZ0 (own_w hw 6 rfl)) (mvT hZ0 (own_w hw 7 rfl)) (mvT hZ0 (own_w hw 4 rfl)) (mvT hZ0 (own_w hw 8 rfl)) (by decide) (backOf (W := 1) (own_rm2 l Z a0 hw b1 k1 L0 st q1 pn h11 n0 Z11 VL g_b1 hL0 hst (by omega)) hZ0 (own_w hw 8 rfl) (own_w hw 4 rfl) (by decide) (by decide)) (g := (mkF m 74 #[vi pa, vi pb, vi ps, vi pj, vi 2, vi st, vi (pj.toInt8.toInt32), vr b1, vr b3, vi st, vi 0, vi q1, .unset] [(.int q1), (.int st), (.ref b1), (.int st)])) rfl (by rw [hml]; rfl) (argsL := [(.ref b1), (.int st), (.int q1)]) (rest := [(.int st)]) (lenOf own_pd18 rfl) rfl own_w0 (D at_74) (fun _ _ => ⟨rfl, e117, (by decide : 2 + 0 ≤ _), (by decide : 20 + 0 ≤ _)⟩)
  dsimp only [Pt.U, Pt.locs, Pt.cells, Pt.slots] at X118 l118 y118 z118 st118 hQ118
  subst l118 y118 z118
  obtain ⟨h118, e118⟩ : ∃ z, T118.heap = z := ⟨_, rfl⟩
  rw [e118] at hQ118
  obtain ⟨rfl, N118q, Kc118, Vc118⟩ := hQ118
  have N118 := Fr.app N117 N118q
  have K118 : Keep h0 h118 [] := K11.trans Kc118 (allS (Or.inr hz_b1) all0)
  have Z118 : n0 ≤ h118.size := Nat.le_trans Z11 Kc118.1
  have O118 := O11.keep Kc118 (allS g_b1 all0)
  have hk118 := Nat.le_trans hk11 Kc118.1
  refine own_st (g' := (mkF m 77 #[vi pa, vi pb, vi ps, vi pj, vi 2, vi st, vi (pj.toInt8.toInt32), vr b1, vr b3, vi st, vi 0, vi q1, .unset] [(.int (Int32.ofNat (own_enc q1).length)), (.int st)])) st118 ?_
  refine own_st (T' := T118) (g' := (mkF m 88 #[vi pa, vi pb, vi ps, vi pj, vi 2, vi st, vi (pj.toInt8.toInt32), vr b1, vr b3, vi (st + (Int32.ofNat (own_enc q1).length)), vi 0, vi q1, .unset] [(.int q1), (.int 0), (.ref b3), (.int 0)])) (fun t k => ?_) ?_
  ·refine XS.iadd X118.here hx rfl (D at_77) rfl ?_
   refine XS.istore X118.here hx rfl (D at_78) rfl (l' := #[vi pa, vi pb, vi ps, vi pj, vi 2, vi st, vi (pj.toInt8.toInt32), vr b1, vr b3, vi (st + (Int32.ofNat (own_enc q1).length)), vi 0, vi q1, .unset]) rfl ?_
   refine XS.iload X118.here hx rfl (D at_80) rfl ?_
   refine XS.aload X118.here hx rfl (D at_82) rfl rfl ?_
   refine XS.iload X118.here hx rfl (D at_84) rfl ?_
   refine XS.iload X118.here hx rfl (D at_86) rfl ?_
   exact k
  have f119 := VU.keep Kc118 (ninS (Ne.symm ne_b1_b3) nin0)
  obtain ⟨_, _, ⟨T120, L120, c120, n120⟩, -, X120, ⟨Lc120, hQ120, l120, y120, z120⟩, st120⟩ := Jvm.LawKit.callS X118 hx (y := own_y42) ho0 (mvT hZ0 (own_w hw 9 rfl)) (mvT hZ0 (own_w hw 10 rfl)) (mvT hZ0 (own_w hw 4 rfl)) (mvT hZ0 (own_w hw 11 rfl)) (by decide) (backOf (W := 1) (own_rm3 l Z a0 hw b3 k3 [0, 0, 0, 0] (0 : Int32) q1 0 h118 n0 Z118 f119 g_b3 rfl rfl (by decide)) hZ0 (own_w hw 11 rfl) (own_w hw 4 rfl) (by decide) (by decide)) (g := (mkF m 88 #[vi pa, vi pb, vi ps, vi pj, vi 2, vi st, vi (pj.toInt8.toInt32), vr b1, vr b3, vi (st + (Int32.ofNat (own_enc q1).length)), vi 0, vi q1, .unset] [(.int q1), (.int 0), (.ref b3), (.int 0)])) rfl (by rw [hml]; rfl) (argsL := [(.ref b3), (.int 0), (.int q1)]) (rest := [(.int 0)]) (lenOf own_pd32 rfl) rfl own_w0 (D at_88) (fun _ _ => ⟨rfl, e118, (by decide : 2 + 0 ≤ _), (by decide : 20 + 0 ≤ _)⟩)
  dsimp only [Pt.U, Pt.locs, Pt.cells, Pt.slots] at X120 l120 y120 z120 st120 hQ120
  subst l120 y120 z120
  obtain ⟨h120, e120⟩ : ∃ z, T120.heap = z := ⟨_, rfl⟩
  rw [e120] at hQ120
  obtain ⟨rfl, N120q, Kc120, Vc120⟩ := hQ120
  have N120 := Fr.app N118 N120q
  have K120 : Keep h0 h120 [] := K118.trans Kc120 (allS (Or.inr hz_b3) all0)
  have Z120 : n0 ≤ h120.size := Nat.le_trans Z118 Kc120.1
  have O120 := O118.keep Kc120 (allS g_b3 all0)
  have hk120 := Nat.le_trans hk118 Kc120.1
  refine own_st (g' := (mkF m 91 #[vi pa, vi pb, vi ps, vi pj, vi 2, vi st, vi (pj.toInt8.toInt32), vr b1, vr b3, vi (st + (Int32.ofNat (own_enc q1).length)), vi 0, vi q1, .unset] [(.int (Int32.ofNat (own_chs q1).length)), (.int 0)])) st120 ?_
  refine own_st (T' := T120) (g' := (mkF m 94 #[vi pa, vi pb, vi ps, vi pj, vi 2, vi st, vi (pj.toInt8.toInt32), vr b1, vr b3, vi (st + (Int32.ofNat (own_enc q1).length)), vi ((0 : Int32) + (Int32.ofNat (own_chs q1).length)), vi q1, .unset] [])) (fun t k => ?_) ?_
  ·refine XS.iadd X120.here hx rfl (D at_91) rfl ?_
   refine XS.istore X120.here hx rfl (D at_92) rfl (l' := #[vi pa, vi pb, vi ps, vi pj, vi 2, vi st, vi (pj.toInt8.toInt32), vr b1, vr b3, vi (st + (Int32.ofNat (own_enc q1).length)), vi ((0 : Int32) + (Int32.ofNat (own_chs q1).length)), vi q1, .unset]) rfl ?_
   exact k
  have hl1 := own_chl q1
  have hat1 : (st + (Int32.ofNat (own_enc q1).length)).toInt = ((pn + (own_enc q1).length : Nat) : Int) := own_add hst (own_ofi (show (own_enc q1).length < 2147483648 by omega)) (by omega)
  have hnc1 : ((0 : Int32) + (Int32.ofNat (own_chs q1).length)).toInt = ((own_chs q1).length : Int) := by rw [Int32.zero_add]; exact (own_ofi (show (own_chs q1).length < 2147483648 by omega))
  refine own_st (T' := T120) (g' := (mkF m 101 #[vi pa, vi pb, vi ps, vi pj, vi 2, vi st, vi (pj.toInt8.toInt32), vr b1, vr b3, vi (st + (Int32.ofNat (own_enc q1).length)), vi ((0 : Int32) + (Int32.ofNat (own_chs q1).length)), vi q1, .unset] [(.int pb)])) (fun t k => ?_) ?_
  ·refine XS.iload X120.here hx rfl (D at_94) rfl ?_
   refine XS.iconst X120.here hx rfl (D at_96) ?_
   refine XS.icmpNo X120.here hx rfl (D at_97) rfl (flt Int32.lt_irrefl).1 ?_
   refine XS.iloadN X120.here hx rfl (D at_100) rfl ?_
   exact k
  obtain ⟨_, _, ⟨T121, L121, c121, n121⟩, -, X121, ⟨Lc121, hQ121, l121, y121, z121⟩, st121⟩ := Jvm.LawKit.callS X120 hx (y := own_y40) ho0 (mvT hZ0 (own_w hw 2 rfl)) (mvT hZ0 (own_w hw 3 rfl)) (mvT hZ0 (own_w hw 4 rfl)) (mvT hZ0 (own_w hw 5 rfl)) (by decide) (backOf (W := 0) (own_rm1 l Z a0 hw pb h120 n0 Z120) hZ0 (own_w hw 5 rfl) (own_w hw 4 rfl) (by decide) (by decide)) (g := (mkF m 101 #[vi pa, vi pb, vi ps, vi pj, vi 2, vi st, vi (pj.toInt8.toInt32), vr b1, vr b3, vi (st + (Int32.ofNat (own_enc q1).length)), vi ((0 : Int32) + (Int32.ofNat (own_chs q1).length)), vi q1, .unset] [(.int pb)])) rfl (by rw [hml]; rfl) (argsL := [(.int pb)]) (rest := []) (lenOf own_pd5 rfl) rfl own_w0 (D at_101) (fun _ _ => ⟨rfl, e120, (by decide : 2 + 0 ≤ _), (by decide : 20 + 0 ≤ _)⟩)
  dsimp only [Pt.U, Pt.locs, Pt.cells, Pt.slots] at X121 l121 y121 z121 st121 hQ121
  subst l121 y121 z121
  obtain ⟨h121, e121⟩ : ∃ z, T121.heap = z := ⟨_, rfl⟩
  rw [e121] at hQ121
  obtain ⟨q2, rfl, N121q, hc2, eq121⟩ := hQ121
  have N121 := Fr.app N120 N121q
  rw [eq121] at e121
  refine own_st (g' := (mkF m 104 #[vi pa, vi pb, vi ps, vi pj, vi 2, vi st, vi (pj.toInt8.toInt32), vr b1, vr b3, vi (st + (Int32.ofNat (own_enc q1).length)), vi ((0 : Int32) + (Int32.ofNat (own_chs q1).length)), vi q1, .unset] [(.int q2)])) st121 ?_
  refine own_st (T' := T121) (g' := (mkF m 114 #[vi pa, vi pb, vi ps, vi pj, vi 2, vi st, vi (pj.toInt8.toInt32), vr b1, vr b3, vi (st + (Int32.ofNat (own_enc q1).length)), vi ((0 : Int32) + (Int32.ofNat (own_chs q1).length)), vi q2, .unset] [(.int q2), (.int (st + (Int32.ofNat (own_enc q1).length))), (.ref b1), (.int (st + (Int32.ofNat (own_enc q1).length)))])) (fun t k => ?_) ?_
  ·refine XS.istore X121.here hx rfl (D at_104) rfl (l' := #[vi pa, vi pb, vi ps, vi pj, vi 2, vi st, vi (pj.toInt8.toInt32), vr b1, vr b3, vi (st + (Int32.ofNat (own_enc q1).length)), vi ((0 : Int32) + (Int32.ofNat (own_chs q1).length)), vi q2, .unset]) rfl ?_
   refine XS.iload X121.here hx rfl (D at_106) rfl ?_
   refine XS.aload X121.here hx rfl (D at_108) rfl rfl ?_
   refine XS.iload X121.here hx rfl (D at_110) rfl ?_
   refine XS.iload X121.here hx rfl (D at_112) rfl ?_
   exact k
  have f122 := Vc118.keep Kc120 (ninS ne_b1_b3 nin0)
  obtain ⟨_, _, ⟨T123, L123, c123, n123⟩, -, X123, ⟨Lc123, hQ123, l123, y123, z123⟩, st123⟩ := Jvm.LawKit.callS X121 hx (y := own_y41) ho0 (mvT hZ0 (own_w hw 6 rfl)) (mvT hZ0 (own_w hw 7 rfl)) (mvT hZ0 (own_w hw 4 rfl)) (mvT hZ0 (own_w hw 8 rfl)) (by decide) (backOf (W := 1) (own_rm2 l Z a0 hw b1 k1 (own_wrl L0 pn (own_enc q1)) (st + (Int32.ofNat (own_enc q1).length)) q2 (pn + (own_enc q1).length) h120 n0 Z120 f122 g_b1 (by rw [own_wrl_len]; exact hL0) hat1 (by omega)) hZ0 (own_w hw 8 rfl) (own_w hw 4 rfl) (by decide) (by decide)) (g := (mkF m 114 #[vi pa, vi pb, vi ps, vi pj, vi 2, vi st, vi (pj.toInt8.toInt32), vr b1, vr b3, vi (st + (Int32.ofNat (own_enc q1).length)), vi ((0 : Int32) + (Int32.ofNat (own_chs q1).length)), vi q2, .unset] [(.int q2), (.int (st + (Int32.ofNat (own_enc q1).length))), (.ref b1), (.int (st + (Int32.ofNat (own_enc q1).length)))])) rfl (by rw [hml]; rfl) (argsL := [(.ref b1), (.int (st + (Int32.ofNat (own_enc q1).length))), (.int q2)]) (rest := [(.int (st + (Int32.ofNat (own_enc q1).length)))]) (lenOf own_pd18 rfl) rfl own_w0 (D at_114) (fun _ _ => ⟨rfl, e121, (by decide : 2 + 0 ≤ _), (by decide : 20 + 0 ≤ _)⟩)
  dsimp only [Pt.U, Pt.locs, Pt.cells, Pt.slots] at X123 l123 y123 z123 st123 hQ123
  subst l123 y123 z123
  obtain ⟨h123, e123⟩ : ∃ z, T123.heap = z := ⟨_, rfl⟩
  rw [e123] at hQ123
  obtain ⟨rfl, N123q, Kc123, Vc123⟩ := hQ123
  have N123 := Fr.app N121 N123q
  have K123 : Keep h0 h123 [] := K120.trans Kc123 (allS (Or.inr hz_b1) all0)
  have Z123 : n0 ≤ h123.size := Nat.le_trans Z120 Kc123.1
  have O123 := O120.keep Kc123 (allS g_b1 all0)
  have hk123 := Nat.le_trans hk120 Kc123.1
  refine own_st (g' := (mkF m 117 #[vi pa, vi pb, vi ps, vi pj, vi 2, vi st, vi (pj.toInt8.toInt32), vr b1, vr b3, vi (st + (Int32.ofNat (own_enc q1).length)), vi ((0 : Int32) + (Int32.ofNat (own_chs q1).length)), vi q2, .unset] [(.int (Int32.ofNat (own_enc q2).length)), (.int (st + (Int32.ofNat (own_enc q1).length)))])) st123 ?_
  refine own_st (T' := T123) (g' := (mkF m 128 #[vi pa, vi pb, vi ps, vi pj, vi 2, vi st, vi (pj.toInt8.toInt32), vr b1, vr b3, vi ((st + (Int32.ofNat (own_enc q1).length)) + (Int32.ofNat (own_enc q2).length)), vi ((0 : Int32) + (Int32.ofNat (own_chs q1).length)), vi q2, .unset] [(.int q2), (.int ((0 : Int32) + (Int32.ofNat (own_chs q1).length))), (.ref b3), (.int ((0 : Int32) + (Int32.ofNat (own_chs q1).length)))])) (fun t k => ?_) ?_
  ·refine XS.iadd X123.here hx rfl (D at_117) rfl ?_
   refine XS.istore X123.here hx rfl (D at_118) rfl (l' := #[vi pa, vi pb, vi ps, vi pj, vi 2, vi st, vi (pj.toInt8.toInt32), vr b1, vr b3, vi ((st + (Int32.ofNat (own_enc q1).length)) + (Int32.ofNat (own_enc q2).length)), vi ((0 : Int32) + (Int32.ofNat (own_chs q1).length)), vi q2, .unset]) rfl ?_
   refine XS.iload X123.here hx rfl (D at_120) rfl ?_
   refine XS.aload X123.here hx rfl (D at_122) rfl rfl ?_
   refine XS.iload X123.here hx rfl (D at_124) rfl ?_
   refine XS.iload X123.here hx rfl (D at_126) rfl ?_
   exact k
  have f124 := Vc120.keep Kc123 (ninS (Ne.symm ne_b1_b3) nin0)
  obtain ⟨_, _, ⟨T125, L125, c125, n125⟩, -, X125, ⟨Lc125, hQ125, l125, y125, z125⟩, st125⟩ := Jvm.LawKit.callS X123 hx (y := own_y42) ho0 (mvT hZ0 (own_w hw 9 rfl)) (mvT hZ0 (own_w hw 10 rfl)) (mvT hZ0 (own_w hw 4 rfl)) (mvT hZ0 (own_w hw 11 rfl)) (by decide) (backOf (W := 1) (own_rm3 l Z a0 hw b3 k3 (own_wrl [0, 0, 0, 0] 0 (own_chs q1)) ((0 : Int32) + (Int32.ofNat (own_chs q1).length)) q2 (own_chs q1).length h123 n0 Z123 f124 g_b3 (by rw [own_wrl_len]; rfl) hnc1 (by omega)) hZ0 (own_w hw 11 rfl) (own_w hw 4 rfl) (by decide) (by decide)) (g := (mkF m 128 #[vi pa, vi pb, vi ps, vi pj, vi 2, vi st, vi (pj.toInt8.toInt32), vr b1, vr b3, vi ((st + (Int32.ofNat (own_enc q1).length)) + (Int32.ofNat (own_enc q2).length)), vi ((0 : Int32) + (Int32.ofNat (own_chs q1).length)), vi q2, .unset] [(.int q2), (.int ((0 : Int32) + (Int32.ofNat (own_chs q1).length))), (.ref b3), (.int ((0 : Int32) + (Int32.ofNat (own_chs q1).length)))])) rfl (by rw [hml]; rfl) (argsL := [(.ref b3), (.int ((0 : Int32) + (Int32.ofNat (own_chs q1).length))), (.int q2)]) (rest := [(.int ((0 : Int32) + (Int32.ofNat (own_chs q1).length)))]) (lenOf own_pd32 rfl) rfl own_w0 (D at_128) (fun _ _ => ⟨rfl, e123, (by decide : 2 + 0 ≤ _), (by decide : 20 + 0 ≤ _)⟩)
  dsimp only [Pt.U, Pt.locs, Pt.cells, Pt.slots] at X125 l125 y125 z125 st125 hQ125
  subst l125 y125 z125
  obtain ⟨h125, e125⟩ : ∃ z, T125.heap = z := ⟨_, rfl⟩
  rw [e125] at hQ125
  obtain ⟨rfl, N125q, Kc125, Vc125⟩ := hQ125
  have N125 := Fr.app N123 N125q
  have K125 : Keep h0 h125 [] := K123.trans Kc125 (allS (Or.inr hz_b3) all0)
  have Z125 : n0 ≤ h125.size := Nat.le_trans Z123 Kc125.1
  have O125 := O123.keep Kc125 (allS g_b3 all0)
  have hk125 := Nat.le_trans hk123 Kc125.1
  refine own_st (g' := (mkF m 131 #[vi pa, vi pb, vi ps, vi pj, vi 2, vi st, vi (pj.toInt8.toInt32), vr b1, vr b3, vi ((st + (Int32.ofNat (own_enc q1).length)) + (Int32.ofNat (own_enc q2).length)), vi ((0 : Int32) + (Int32.ofNat (own_chs q1).length)), vi q2, .unset] [(.int (Int32.ofNat (own_chs q2).length)), (.int ((0 : Int32) + (Int32.ofNat (own_chs q1).length)))])) st125 ?_
  refine own_st (T' := T125) (g' := (mkF m 134 #[vi pa, vi pb, vi ps, vi pj, vi 2, vi st, vi (pj.toInt8.toInt32), vr b1, vr b3, vi ((st + (Int32.ofNat (own_enc q1).length)) + (Int32.ofNat (own_enc q2).length)), vi (((0 : Int32) + (Int32.ofNat (own_chs q1).length)) + (Int32.ofNat (own_chs q2).length)), vi q2, .unset] [])) (fun t k => ?_) ?_
  ·refine XS.iadd X125.here hx rfl (D at_131) rfl ?_
   refine XS.istore X125.here hx rfl (D at_132) rfl (l' := #[vi pa, vi pb, vi ps, vi pj, vi 2, vi st, vi (pj.toInt8.toInt32), vr b1, vr b3, vi ((st + (Int32.ofNat (own_enc q1).length)) + (Int32.ofNat (own_enc q2).length)), vi (((0 : Int32) + (Int32.ofNat (own_chs q1).length)) + (Int32.ofNat (own_chs q2).length)), vi q2, .unset]) rfl ?_
   exact k
  have f126 := Vc123.keep Kc125 (ninS ne_b1_b3 nin0)
  have hl2 := own_chl q2
  exact J _ _ _ _ _ _ ((own_enc q1) ++ (own_enc q2)) ((own_chs q1) ++ (own_chs q2)) _ (Or.inr ⟨_, _, _, _, own_is_one hc1, own_is_one hc2, rfl, rfl⟩) (own_seg_2 hL0 hp3 hl1.2 hl2.2) (by rw [own_add hat1 (own_ofi (show (own_enc q2).length < 2147483648 by omega)) (by omega), List.length_append]; omega) (by rw [Int32.zero_add, List.length_append, Int32.ofNat_add]) (own_buf2 hl1.1 hl2.1) f126 Vc125 K125 O125 Z125 T125 _ X125 N125 e125
set_option maxRecDepth 65536 in
set_option maxHeartbeats 40000000 in
theorem own_comes_1 {Post : Tables → Env → Array Value → State → Outcome → State → Prop} (hpost : ∀ tb e args s v u, (limb_1_1.after args s (.returned v) u = true ∧ limb_1_2.after args s (.returned v) u = true ∧ True) → ReturnedEndW s (.returned v) u (Jvm.fieldLocs frame_1_writes args s ++ Jvm.arrayLocs frame_1_arrays args s ++ Jvm.staticLocs frame_1_statics s) 24 1216 → Post tb e args s (.returned v) u) :
    ArmFor flags0 classFile x code maxLocals ret World_1 tables_1 room_1 Calls_1 rest_1 Pre_1 Post := by
  intro l hfl _ _ p e ha hc hk s m args below hf hA hF happ hP
  obtain ⟨hcalls, hrest, hpre⟩ := hP
  obtain ⟨-, -, -, hnamed, -, -, -, hat⟩ := (Spec.applies_iff hf).mp happ
  obtain ⟨hg, hn⟩ := and_e (Cond.before_iff.mp (show (Jvm.Cond.and given_1 narrow_1).before args s = true from hpre))
  obtain ⟨hg0, hgr⟩ := and_e hg
  obtain ⟨ha0, hgr⟩ := and_e hgr
  obtain ⟨ha1, hgr⟩ := and_e hgr
  obtain ⟨ha2, hgr⟩ := and_e hgr
  have ha3 := hgr
  obtain ⟨w0, w1, w2, w3, rfl⟩ : ∃ w0 w1 w2 w3 : Value, args = #[w0, w1, w2, w3] := by
    have hs : args.size = 4 := by simpa [Cond.value, given_1] using hg0
    obtain ⟨L⟩ := args
    match L, hs with
    | [w0, w1, w2, w3], _ => exact ⟨w0, w1, w2, w3, rfl⟩
  have hw := fun d (hd : d ∈ tables_1) => atoms_spec (ws := Jvm.Cond.code x code maxLocals ret :: tables_1) hat d (List.mem_cons_of_mem _ hd)
  have hfit : Fit s := fun {y c} hc i hi => by
    obtain ⟨ha, rfl⟩ := Array.getElem?_eq_some_iff.mp hc
    have q := List.all_eq_true.mp ((Array.all_eq_true_iff_forall_mem.mp hF) _ (Array.getElem_mem ha)) i (List.mem_range.mpr hi)
    simpa [Array.getElem?_eq_getElem hi] using q
  obtain ⟨hsets, hown0⟩ := atoms_of _ (rest_1_c_eq ▸ (show rest_1_c.before _ s = true from hrest))
  obtain ⟨i0, ei0⟩ := is_v ha0
  obtain rfl : w0 = (.int i0) := Option.some.inj ei0
  obtain ⟨i1, ei1⟩ := is_v ha1
  obtain rfl : w1 = (.int i1) := Option.some.inj ei1
  obtain ⟨i2, ei2⟩ := is_v ha2
  obtain rfl : w2 = (.int i2) := Option.some.inj ei2
  obtain ⟨i3, ei3⟩ := is_v ha3
  obtain rfl : w3 = (.int i3) := Option.some.inj ei3
  obtain ⟨cs, ev_cs⟩ := is_v (Cond.before_iff.mp (hsets _ (List.mem_of_getElem? (i := 7) rfl)))
  have S_cs := Sta.start ev_cs (Or.inl (hsets _ (List.mem_of_getElem? (i := 6) rfl)))
  have hcs : ¬ cs = (0 : Int32) := gotF (Cond.eq_ints ev_cs (Term.int_eval 0)) (by have q := not_v (Cond.before_iff.mp (hsets _ (List.mem_of_getElem? (i := 8) rfl))); exact q)
  obtain ⟨fm, ev_fm, hfm⟩ := isR_v (Cond.before_iff.mp (hsets _ (List.mem_of_getElem? (i := 14) rfl)))
  have S_fm := Sta.start ev_fm (Or.inl (hsets _ (List.mem_of_getElem? (i := 13) rfl)))
  have S_ad := own_sint (Cond.before_iff.mp (hsets _ (List.mem_of_getElem? (i := 21) rfl))) (Or.inl (hsets _ (List.mem_of_getElem? (i := 20) rfl)))
  have S_hb := own_sint (Cond.before_iff.mp (hsets _ (List.mem_of_getElem? (i := 24) rfl))) (Or.inl (hsets _ (List.mem_of_getElem? (i := 23) rfl)))
  have S_lb := own_sint (Cond.before_iff.mp (hsets _ (List.mem_of_getElem? (i := 27) rfl))) (Or.inl (hsets _ (List.mem_of_getElem? (i := 26) rfl)))
  obtain ⟨u8, ev_u8, S_u8, E_u8⟩ := own_enum (Cond.before_iff.mp (hsets _ (List.mem_of_getElem? (i := 5) rfl))) (Or.inl (hsets _ (List.mem_of_getElem? (i := 1) rfl)))
  obtain ⟨ui, ev_ui, S_ui, E_ui⟩ := own_enum (Cond.before_iff.mp (hsets _ (List.mem_of_getElem? (i := 17) rfl))) (Or.inl (hsets _ (List.mem_of_getElem? (i := 3) rfl)))
  obtain rfl := own_same ev_u8 ev_ui (Cond.before_iff.mp (hsets _ (List.mem_of_getElem? (i := 4) rfl)))
  have hcw := (hsets _ (List.mem_of_getElem? (i := 8) rfl))
  have hEL : EW s _ consts_1 := EW.cons (text := "") (hw _ (List.mem_of_getElem? (i := 182) rfl)) (by decide) EW.nil
  have hCH : CHv s consts_1 s.vm s.heap := CHv.start hEL (fun q hq => hcalls.1 q hq) hcw (hw _ (List.mem_of_getElem? (i := 0) rfl)) (hw _ (List.mem_of_getElem? (i := 41) rfl))
  obtain ⟨n, o, h1, h2, h3, _, L, rfl, ⟨rfl, N⟩, hq⟩ := own_rm0 l s _ hw tables_1 i0 i1 i2 i3 cs fm u8 s.heap s.heap.size (Nat.le_refl _) (Old.start s) ⟨hcs, hfm, S_cs, S_fm, S_ad, S_hb, S_lb, S_u8, S_ui, E_u8⟩ p e ha hc hk s m _ below hf ((Spec.applies_iff_loose hf).mp happ).1 ⟨rfl, State.Warmed39.refl s, rfl, hCH⟩ trivial
  refine ⟨n, _, h1, h2, h3, hpost _ _ _ _ _ _ ⟨Cond.after_iff.mpr rfl, Cond.after_iff.mpr (eq_i res_at (Term.int_eval (1)) rfl), trivial⟩ ⟨hq.1, hq.2.1, hq.2.2.1, (hq.2.2.2.sift fun y hy => Or.inr (N y hy)).mono (by decide) (by decide)⟩⟩
theorem main_1_1 : Claimed_1_1 := own_comes_1 fun _ _ _ _ _ _ h hF => ⟨h.1, hF⟩
theorem main_1_2 : Claimed_1_2 := own_comes_1 fun _ _ _ _ _ _ h hF => ⟨h.2.1, hF⟩
end Jvm.Pilot.@@N@@
namespace Jvm.Pilot.@@N@@
open Jvm Jvm.ClassFile Sem Op Lib Jvm.Free Jvm.Stand Jvm.Pilot.@@N@@.Jvm.D
/-! MADE BY PROGRAM (witnessworld.py) out of the Statement's table words and the real class files: 31 classes; the members and pool entries that the words name. The judged class is class 1, her method 1. -/
namespace start1
open Jvm.ClassFile
def u (s : String) : CpInfo := .utf8 (stringToUtf16 s)
/-- a pool by its gaps: so many unusable entries, then the entry; so many at the end -/
def gap : Nat → List CpInfo → List CpInfo
  | 0, r => r
  | n + 1, r => .unusable :: gap n r
def poolList (es : List (Nat × CpInfo)) (last : Nat) : List CpInfo := es.foldr (fun e r => gap e.1 (e.2 :: r)) (gap last [])
def pool (es : List (Nat × CpInfo)) (last : Nat) : Array CpInfo := ⟨poolList es last⟩
def fileOf (pool : Array CpInfo) (this : Nat) (attrs : Array Attribute := #[]) (ms : Array MethodInfo := #[]) (fl : Nat := 33) (sup : Nat := 0) (ifs : Array Nat := #[]) (fds : Array FieldInfo := #[]) : ClassFile where
  minorVersion := 0
  majorVersion := 65
  constantPool := pool
  accessFlags := fl
  thisClass := this
  superClass := sup
  interfaces := ifs
  fields := fds
  methods := ms
  attributes := attrs
def plain (name : String) (sup : Option ClassId) : Class where
  name := name
  kind := .ordinary
  loader := none
  accessFlags := 33
  super := sup
  interfaces := #[]
  cf := none
  fields := #[]
  methods := #[]
  instanceTypes := #[]
  staticTypes := #[]
  resolved := #[]
  callSites := []
  init := .initialized
  statics := none
  mirror := none

def pool0 : Array CpInfo := pool [(5, u "<init>"), (0, u "()V"), (1, .class_ 10), (1, u "java/lang/Object")] 113

def k0c0 : Code := { maxStack := 0, maxLocals := 1, code := object_method_1_code, exceptionTable := #[], attributes := #[] }
def k0m0 : Method := { name := "<init>", desc := "()V", sig := { parameters := [], returnType := none }, accessFlags := 1, code := some k0c0 }
/-- java/lang/Object -/
def k0 : Class := { plain "java/lang/Object" none with
  accessFlags := 33
  interfaces := #[]
  cf := some (fileOf pool0 8 #[] #[{ accessFlags := 1, nameIndex := 5, descriptorIndex := 6, attributes := #[] }] 33 0 #[] #[])
  fields := #[]
  methods := #[k0m0]
  instanceTypes := #[]
  staticTypes := #[]
  resolved := Array.replicate 124 none
  statics := none }

def pool1 : Array CpInfo := pool [(2, .class_ 4), (0, .nameAndType 5 6), (0, u "java/lang/Object"), (0, u "<init>"), (0, u "()V"), (0, .methodref 8 9), (0, .class_ 10), (0, .nameAndType 11 12), (0, u "com/example/dyadloom/dyadloom/core/TripletRowIdPinLaw"), (0, u "cp"), (0, u "(I)I"), (0, .methodref 8 14), (0, .nameAndType 15 16), (0, u "put"), (0, u "([BII)I"), (0, .methodref 8 18), (0, .nameAndType 19 20), (0, u "chars"), (0, u "([CII)I"), (0, .class_ 22), (0, u "com/example/dyadloom/dyadloom/core/TripletReader$Triplet"), (0, .methodref 21 3), (0, .fieldref 21 25), (0, .nameAndType 26 27), (0, u "bytes"), (0, u "[B"), (0, .fieldref 21 29), (0, .nameAndType 30 31), (0, u "rowStart"), (0, u "I"), (0, .fieldref 21 33), (0, .nameAndType 34 31), (0, u "rowEnd"), (0, .fieldref 21 36), (0, .nameAndType 37 31), (0, u "columnStart"), (0, .fieldref 21 39), (0, .nameAndType 40 31), (0, u "columnEnd"), (0, .fieldref 21 42), (0, .nameAndType 43 44), (0, u "value"), (0, u "D"), (0, .methodref 21 46), (0, .nameAndType 47 48), (0, u "rowId"), (0, u "()Ljava/lang/String;"), (0, .methodref 50 51), (0, .class_ 52), (0, .nameAndType 53 54), (0, u "java/lang/String"), (0, u "length"), (0, u "()I"), (0, .methodref 50 56), (0, .nameAndType 57 58), (0, u "charAt"), (0, u "(I)C"), (0, .integer 53248), (0, .integer 57344), (0, .integer 65536), (0, .integer 1048576), (0, .integer 55296), (0, .integer 56320), (2, u "law"), (0, u "(IIII)Z")] 10

def k1m0 : Method := { name := "<init>", desc := "()V", sig := { parameters := [], returnType := none }, accessFlags := 2, code := none }
def k1c1 : Code := { maxStack := 4, maxLocals := 13, code := code, exceptionTable := #[], attributes := #[] }
def k1m1 : Method := { name := "law", desc := "(IIII)Z", sig := { parameters := [.int, .int, .int, .int], returnType := some .boolean }, accessFlags := 9, code := some k1c1 }
def k1c2 : Code := { maxStack := 3, maxLocals := 3, code := method_3_code, exceptionTable := #[], attributes := #[] }
def k1m2 : Method := { name := "cp", desc := "(I)I", sig := { parameters := [.int], returnType := some .int }, accessFlags := 10, code := some k1c2 }
def k1c3 : Code := { maxStack := 5, maxLocals := 3, code := method_4_code, exceptionTable := #[], attributes := #[] }
def k1m3 : Method := { name := "put", desc := "([BII)I", sig := { parameters := [(.array .byte), .int, .int], returnType := some .int }, accessFlags := 10, code := some k1c3 }
def k1c4 : Code := { maxStack := 5, maxLocals := 4, code := method_5_code, exceptionTable := #[], attributes := #[] }
def k1m4 : Method := { name := "chars", desc := "([CII)I", sig := { parameters := [(.array .char), .int, .int], returnType := some .int }, accessFlags := 10, code := some k1c4 }
/-- com/example/dyadloom/dyadloom/core/TripletRowIdPinLaw -/
def k1 : Class := { plain "com/example/dyadloom/dyadloom/core/TripletRowIdPinLaw" (some 0) with
  accessFlags := 49
  interfaces := #[]
  cf := some (fileOf pool1 8 #[] #[{ accessFlags := 2, nameIndex := 5, descriptorIndex := 6, attributes := #[] }, { accessFlags := 9, nameIndex := 67, descriptorIndex := 68, attributes := #[] }, { accessFlags := 10, nameIndex := 11, descriptorIndex := 12, attributes := #[] }, { accessFlags := 10, nameIndex := 15, descriptorIndex := 16, attributes := #[] }, { accessFlags := 10, nameIndex := 19, descriptorIndex := 20, attributes := #[] }] 49 2 #[] #[])
  fields := #[]
  methods := #[k1m0, k1m1, k1m2, k1m3, k1m4]
  instanceTypes := #[]
  staticTypes := #[]
  resolved := Array.replicate 79 none
  statics := none }

def pool2 : Array CpInfo := pool [(1, .methodref 2 3), (0, .class_ 4), (0, .nameAndType 5 6), (0, u "java/lang/Object"), (0, u "<init>"), (0, u "()V"), (0, .class_ 8), (0, u "java/lang/String"), (0, .fieldref 10 11), (0, .class_ 12), (0, .nameAndType 13 14), (0, u "com/example/dyadloom/dyadloom/core/TripletReader$Triplet"), (0, u "bytes"), (0, u "[B"), (0, .fieldref 10 16), (0, .nameAndType 17 18), (0, u "rowStart"), (0, u "I"), (0, .fieldref 10 20), (0, .nameAndType 21 18), (0, u "rowEnd"), (0, .fieldref 23 24), (0, .class_ 25), (0, .nameAndType 26 27), (0, u "java/nio/charset/StandardCharsets"), (0, u "UTF_8"), (0, u "Ljava/nio/charset/Charset;"), (0, .methodref 7 29), (0, .nameAndType 5 30), (0, u "([BIILjava/nio/charset/Charset;)V"), (2, u "columnStart"), (2, u "columnEnd"), (0, u "value"), (0, u "D"), (2, u "rowId"), (0, u "()Ljava/lang/String;"), (4, .class_ 48), (0, u "com/example/dyadloom/dyadloom/core/TripletReader")] 2

def k2c0 : Code := { maxStack := 1, maxLocals := 1, code := prog_33_method_1_code, exceptionTable := #[], attributes := #[] }
def k2m0 : Method := { name := "<init>", desc := "()V", sig := { parameters := [], returnType := none }, accessFlags := 0, code := some k2c0 }
def k2c1 : Code := { maxStack := 6, maxLocals := 1, code := prog_33_method_2_code, exceptionTable := #[], attributes := #[] }
def k2m1 : Method := { name := "rowId", desc := "()Ljava/lang/String;", sig := { parameters := [], returnType := some (.object "java/lang/String") }, accessFlags := 0, code := some k2c1 }
/-- com/example/dyadloom/dyadloom/core/TripletReader$Triplet -/
def k2 : Class := { plain "com/example/dyadloom/dyadloom/core/TripletReader$Triplet" (some 0) with
  accessFlags := 48
  interfaces := #[]
  cf := some (fileOf pool2 10 #[.nestHost 47] #[{ accessFlags := 0, nameIndex := 5, descriptorIndex := 6, attributes := #[] }, { accessFlags := 0, nameIndex := 41, descriptorIndex := 42, attributes := #[] }] 48 2 #[] #[{ accessFlags := 0, nameIndex := 13, descriptorIndex := 14, attributes := #[] }, { accessFlags := 0, nameIndex := 17, descriptorIndex := 18, attributes := #[] }, { accessFlags := 0, nameIndex := 21, descriptorIndex := 18, attributes := #[] }, { accessFlags := 0, nameIndex := 33, descriptorIndex := 18, attributes := #[] }, { accessFlags := 0, nameIndex := 36, descriptorIndex := 18, attributes := #[] }, { accessFlags := 0, nameIndex := 37, descriptorIndex := 38, attributes := #[] }])
  fields := #[{ name := "bytes", type := (.array .byte), accessFlags := 0, slot := 0, constantValue := 0 }, { name := "rowStart", type := .int, accessFlags := 0, slot := 1, constantValue := 0 }, { name := "rowEnd", type := .int, accessFlags := 0, slot := 2, constantValue := 0 }, { name := "columnStart", type := .int, accessFlags := 0, slot := 3, constantValue := 0 }, { name := "columnEnd", type := .int, accessFlags := 0, slot := 4, constantValue := 0 }, { name := "value", type := .double, accessFlags := 0, slot := 5, constantValue := 0 }]
  methods := #[k2m0, k2m1]
  instanceTypes := #[(.array .byte), .int, .int, .int, .int, .double]
  staticTypes := #[]
  resolved := Array.replicate 51 none
  statics := none }

def pool3 : Array CpInfo := pool [(1, .class_ 2), (0, u "java/io/Serializable"), (0, .class_ 4), (0, u "java/lang/Object")] 2

/-- java/io/Serializable -/
def k3 : Class := { plain "java/io/Serializable" (some 0) with
  accessFlags := 1537
  interfaces := #[]
  cf := some (fileOf pool3 1 #[] #[] 1537 3 #[] #[])
  fields := #[]
  methods := #[]
  instanceTypes := #[]
  staticTypes := #[]
  resolved := Array.replicate 7 none
  statics := none }

def pool4 : Array CpInfo := pool [(1, .class_ 2), (0, u "java/lang/Comparable"), (0, .class_ 4), (0, u "java/lang/Object")] 7

/-- java/lang/Comparable -/
def k4 : Class := { plain "java/lang/Comparable" (some 0) with
  accessFlags := 1537
  interfaces := #[]
  cf := some (fileOf pool4 1 #[] #[] 1537 3 #[] #[])
  fields := #[]
  methods := #[]
  instanceTypes := #[]
  staticTypes := #[]
  resolved := Array.replicate 12 none
  statics := none }

def pool5 : Array CpInfo := pool [(2, .class_ 4), (1, u "java/lang/CharSequence"), (42, .class_ 48), (0, u "java/lang/CharSequence$1CodePointIterator"), (10, .class_ 60), (0, u "java/lang/CharSequence$1CharIterator"), (5, .class_ 67), (0, u "java/lang/Object")] 63

/-- java/lang/CharSequence -/
def k5 : Class := { plain "java/lang/CharSequence" (some 0) with
  accessFlags := 1537
  interfaces := #[]
  cf := some (fileOf pool5 2 #[.nestMembers #[47, 59]] #[] 1537 66 #[] #[])
  fields := #[]
  methods := #[]
  instanceTypes := #[]
  staticTypes := #[]
  resolved := Array.replicate 131 none
  statics := none }

def pool6 : Array CpInfo := pool [(1, .class_ 2), (0, u "java/lang/constant/Constable"), (0, .class_ 4), (0, u "java/lang/Object")] 6

/-- java/lang/constant/Constable -/
def k6 : Class := { plain "java/lang/constant/Constable" (some 0) with
  accessFlags := 1537
  interfaces := #[]
  cf := some (fileOf pool6 1 #[] #[] 1537 3 #[] #[])
  fields := #[]
  methods := #[]
  instanceTypes := #[]
  staticTypes := #[]
  resolved := Array.replicate 11 none
  statics := none }

def pool7 : Array CpInfo := pool [(1, .class_ 2), (0, u "java/lang/constant/ConstantDesc"), (0, .class_ 4), (0, u "java/lang/Object")] 32

/-- java/lang/constant/ConstantDesc -/
def k7 : Class := { plain "java/lang/constant/ConstantDesc" (some 0) with
  accessFlags := 1537
  interfaces := #[]
  cf := some (fileOf pool7 1 #[] #[] 1537 3 #[] #[])
  fields := #[]
  methods := #[]
  instanceTypes := #[]
  staticTypes := #[]
  resolved := Array.replicate 37 none
  statics := none }

def pool8 : Array CpInfo := pool [(1, .methodref 2 3), (0, .class_ 4), (0, .nameAndType 5 6), (0, u "java/lang/Object"), (0, u "<init>"), (0, u "()V"), (0, .string 8), (0, u ""), (0, .fieldref 10 11), (0, .class_ 12), (0, .nameAndType 13 14), (0, u "java/lang/String"), (0, u "value"), (0, u "[B"), (0, .fieldref 10 16), (0, .nameAndType 17 18), (0, u "coder"), (0, u "B"), (2, u "hash"), (0, u "I"), (2, u "hashIsZero"), (0, u "Z"), (7, .methodref 10 35), (0, .nameAndType 36 37), (0, u "checkBoundsOffCount"), (0, u "(III)I"), (0, .fieldref 10 39), (0, .nameAndType 40 26), (0, u "COMPACT_STRINGS"), (1, .class_ 44), (1, u "java/lang/StringUTF16"), (9, .methodref 55 56), (0, .class_ 57), (0, .nameAndType 58 59), (0, u "java/util/Arrays"), (0, u "copyOfRange"), (0, u "([BII)[B"), (0, .methodref 42 61), (0, .nameAndType 62 63), (0, u "newBytesFor"), (0, u "(I)[B"), (0, .methodref 42 65), (0, .nameAndType 66 67), (0, u "putChar"), (0, u "([BII)V"), (7, .methodref 10 76), (0, .nameAndType 5 77), (0, u "(Ljava/nio/charset/Charset;[BII)V"), (0, .methodref 79 80), (0, .class_ 81), (0, .nameAndType 82 83), (0, u "java/util/Objects"), (0, u "requireNonNull"), (0, u "(Ljava/lang/Object;)Ljava/lang/Object;"), (0, .class_ 85), (0, u "java/nio/charset/Charset"), (0, .fieldref 87 88), (0, .class_ 89), (0, .nameAndType 90 91), (0, u "sun/nio/cs/UTF_8"), (0, u "INSTANCE"), (0, u "Lsun/nio/cs/UTF_8;"), (0, .methodref 93 94), (0, .class_ 95), (0, .nameAndType 96 97), (0, u "java/lang/StringCoding"), (0, u "countPositives"), (0, u "([BII)I"), (0, .methodref 10 99), (0, .nameAndType 100 101), (0, u "decode2"), (0, u "(II)C"), (0, .methodref 55 103), (0, .nameAndType 104 105), (0, u "copyOf"), (0, u "([BI)[B"), (0, .methodref 107 108), (0, .class_ 109), (0, .nameAndType 110 111), (0, u "java/lang/StringLatin1"), (0, u "inflate"), (0, u "([BI[BII)V"), (0, .methodref 10 113), (0, .nameAndType 114 115), (0, u "decodeUTF8_UTF16"), (0, u "([BII[BIZ)I"), (26, u "()Z"), (95, u "([BIILjava/nio/charset/Charset;)V"), (95, u "()I"), (0, .methodref 10 336), (0, .nameAndType 17 337), (0, u "()B"), (25, u "([BI)C"), (1, .class_ 367), (1, u "java/lang/Character"), (1, u "(C)Z"), (13, .integer 4294844288), (0, .integer 3678080), (0, .methodref 10 386), (0, .nameAndType 387 388), (0, u "isNotContinuation"), (0, u "(I)Z"), (2, u "(II)V"), (0, .methodref 10 393), (0, .nameAndType 394 395), (0, u "isMalformed3"), (0, u "(III)Z"), (4, .methodref 10 401), (0, .nameAndType 402 403), (0, u "decode3"), (0, u "(III)C"), (0, .methodref 365 405), (0, .nameAndType 406 369), (0, u "isSurrogate"), (4, .methodref 10 412), (0, .nameAndType 413 414), (0, u "decode4"), (0, u "(IIII)I"), (0, .methodref 10 416), (0, .nameAndType 417 395), (0, u "isMalformed4"), (0, .methodref 365 419), (0, .nameAndType 420 388), (0, u "isSupplementaryCodePoint"), (3, .methodref 365 425), (0, .nameAndType 426 427), (0, u "highSurrogate"), (0, u "(I)C"), (0, .methodref 365 429), (0, .nameAndType 430 427), (0, u "lowSurrogate"), (61, .methodref 10 493), (0, .nameAndType 494 142), (0, u "isLatin1"), (0, .methodref 107 496), (0, .nameAndType 497 363), (0, u "charAt"), (0, .methodref 42 496), (2, u "checkIndex"), (5, u "length"), (67, .class_ 576), (0, u "java/lang/CharSequence"), (22, u "CASE_INSENSITIVE_ORDER"), (0, u "Ljava/util/Comparator;"), (452, .fieldref 1054 1055), (0, .class_ 1056), (0, .nameAndType 1057 1058), (0, u "jdk/internal/util/Preconditions"), (0, u "SIOOBE_FORMATTER"), (0, u "Ljava/util/function/BiFunction;"), (0, .methodref 1054 1060), (0, .nameAndType 501 1061), (0, u "(IILjava/util/function/BiFunction;)I"), (2, u "(IIILjava/util/function/BiFunction;)I"), (0, .methodref 1054 1066), (0, .nameAndType 1067 1064), (0, u "checkFromIndexSize"), (33, u "serialPersistentFields"), (0, u "[Ljava/io/ObjectStreamField;"), (0, .class_ 1104), (0, u "java/lang/String$CaseInsensitiveComparator"), (1, .class_ 1107), (0, u "java/io/Serializable"), (0, .class_ 1109), (0, u "java/lang/Comparable"), (0, .class_ 1111), (0, u "java/lang/constant/Constable"), (0, .class_ 1113), (0, u "java/lang/constant/ConstantDesc"), (2, u "serialVersionUID"), (0, u "J"), (3, u "REPL"), (0, u "C"), (2, u "LATIN1"), (1, u "UTF16")] 323

def k8m0 : Method := { name := "<init>", desc := "()V", sig := { parameters := [], returnType := none }, accessFlags := 1, code := none }
def k8c1 : Code := { maxStack := 6, maxLocals := 5, code := jdk_42_method_10_code, exceptionTable := #[], attributes := #[] }
def k8m1 : Method := { name := "<init>", desc := "([BIILjava/nio/charset/Charset;)V", sig := { parameters := [(.array .byte), .int, .int, (.object "java/nio/charset/Charset")], returnType := none }, accessFlags := 1, code := some k8c1 }
def k8c2 : Code := { maxStack := 6, maxLocals := 11, code := jdk_42_method_11_code, exceptionTable := #[{ startPc := 800, endPc := 813, handlerPc := 816, catchType := 202 }], attributes := #[] }
def k8m2 : Method := { name := "<init>", desc := "(Ljava/nio/charset/Charset;[BII)V", sig := { parameters := [(.object "java/nio/charset/Charset"), (.array .byte), .int, .int], returnType := none }, accessFlags := 2, code := some k8c2 }
def k8c3 : Code := { maxStack := 2, maxLocals := 1, code := jdk_42_method_29_code, exceptionTable := #[], attributes := #[] }
def k8m3 : Method := { name := "isNotContinuation", desc := "(I)Z", sig := { parameters := [.int], returnType := some .boolean }, accessFlags := 10, code := some k8c3 }
def k8c4 : Code := { maxStack := 2, maxLocals := 3, code := jdk_42_method_30_code, exceptionTable := #[], attributes := #[] }
def k8m4 : Method := { name := "isMalformed3", desc := "(III)Z", sig := { parameters := [.int, .int, .int], returnType := some .boolean }, accessFlags := 10, code := some k8c4 }
def k8c5 : Code := { maxStack := 2, maxLocals := 3, code := jdk_42_method_32_code, exceptionTable := #[], attributes := #[] }
def k8m5 : Method := { name := "isMalformed4", desc := "(III)Z", sig := { parameters := [.int, .int, .int], returnType := some .boolean }, accessFlags := 10, code := some k8c5 }
def k8c6 : Code := { maxStack := 2, maxLocals := 2, code := jdk_42_method_35_code, exceptionTable := #[], attributes := #[] }
def k8m6 : Method := { name := "decode2", desc := "(II)C", sig := { parameters := [.int, .int], returnType := some .char }, accessFlags := 10, code := some k8c6 }
def k8c7 : Code := { maxStack := 3, maxLocals := 3, code := jdk_42_method_36_code, exceptionTable := #[], attributes := #[] }
def k8m7 : Method := { name := "decode3", desc := "(III)C", sig := { parameters := [.int, .int, .int], returnType := some .char }, accessFlags := 10, code := some k8c7 }
def k8c8 : Code := { maxStack := 3, maxLocals := 4, code := jdk_42_method_37_code, exceptionTable := #[], attributes := #[] }
def k8m8 : Method := { name := "decode4", desc := "(IIII)I", sig := { parameters := [.int, .int, .int, .int], returnType := some .int }, accessFlags := 10, code := some k8c8 }
def k8c9 : Code := { maxStack := 4, maxLocals := 11, code := jdk_42_method_38_code, exceptionTable := #[], attributes := #[] }
def k8m9 : Method := { name := "decodeUTF8_UTF16", desc := "([BII[BIZ)I", sig := { parameters := [(.array .byte), .int, .int, (.array .byte), .int, .boolean], returnType := some .int }, accessFlags := 10, code := some k8c9 }
def k8c10 : Code := { maxStack := 2, maxLocals := 1, code := jdk_42_method_54_code, exceptionTable := #[], attributes := #[] }
def k8m10 : Method := { name := "length", desc := "()I", sig := { parameters := [], returnType := some .int }, accessFlags := 1, code := some k8c10 }
def k8c11 : Code := { maxStack := 2, maxLocals := 2, code := jdk_42_method_56_code, exceptionTable := #[], attributes := #[] }
def k8m11 : Method := { name := "charAt", desc := "(I)C", sig := { parameters := [.int], returnType := some .char }, accessFlags := 1, code := some k8c11 }
def k8c12 : Code := { maxStack := 1, maxLocals := 1, code := jdk_42_method_152_code, exceptionTable := #[], attributes := #[] }
def k8m12 : Method := { name := "coder", desc := "()B", sig := { parameters := [], returnType := some .byte }, accessFlags := 0, code := some k8c12 }
def k8c13 : Code := { maxStack := 1, maxLocals := 1, code := jdk_42_method_154_code, exceptionTable := #[], attributes := #[] }
def k8m13 : Method := { name := "isLatin1", desc := "()Z", sig := { parameters := [], returnType := some .boolean }, accessFlags := 0, code := some k8c13 }
def k8c14 : Code := { maxStack := 3, maxLocals := 2, code := jdk_42_method_155_code, exceptionTable := #[], attributes := #[] }
def k8m14 : Method := { name := "checkIndex", desc := "(II)V", sig := { parameters := [.int, .int], returnType := none }, accessFlags := 8, code := some k8c14 }
def k8c15 : Code := { maxStack := 4, maxLocals := 3, code := jdk_42_method_157_code, exceptionTable := #[], attributes := #[] }
def k8m15 : Method := { name := "checkBoundsOffCount", desc := "(III)I", sig := { parameters := [.int, .int, .int], returnType := some .int }, accessFlags := 8, code := some k8c15 }
/-- java/lang/String -/
def k8 : Class := { plain "java/lang/String" (some 0) with
  accessFlags := 49
  interfaces := #[3, 4, 5, 6, 7]
  cf := some (fileOf pool8 10 #[.nestMembers #[1103]] #[{ accessFlags := 1, nameIndex := 5, descriptorIndex := 6, attributes := #[] }, { accessFlags := 1, nameIndex := 5, descriptorIndex := 238, attributes := #[] }, { accessFlags := 2, nameIndex := 5, descriptorIndex := 77, attributes := #[] }, { accessFlags := 10, nameIndex := 387, descriptorIndex := 388, attributes := #[] }, { accessFlags := 10, nameIndex := 394, descriptorIndex := 395, attributes := #[] }, { accessFlags := 10, nameIndex := 417, descriptorIndex := 395, attributes := #[] }, { accessFlags := 10, nameIndex := 100, descriptorIndex := 101, attributes := #[] }, { accessFlags := 10, nameIndex := 402, descriptorIndex := 403, attributes := #[] }, { accessFlags := 10, nameIndex := 413, descriptorIndex := 414, attributes := #[] }, { accessFlags := 10, nameIndex := 114, descriptorIndex := 115, attributes := #[] }, { accessFlags := 1, nameIndex := 507, descriptorIndex := 334, attributes := #[] }, { accessFlags := 1, nameIndex := 497, descriptorIndex := 427, attributes := #[] }, { accessFlags := 0, nameIndex := 17, descriptorIndex := 337, attributes := #[] }, { accessFlags := 0, nameIndex := 494, descriptorIndex := 142, attributes := #[] }, { accessFlags := 8, nameIndex := 501, descriptorIndex := 391, attributes := #[] }, { accessFlags := 8, nameIndex := 36, descriptorIndex := 37, attributes := #[] }] 49 2 #[1106, 1108, 575, 1110, 1112] #[{ accessFlags := 18, nameIndex := 13, descriptorIndex := 14, attributes := #[] }, { accessFlags := 18, nameIndex := 17, descriptorIndex := 18, attributes := #[] }, { accessFlags := 2, nameIndex := 21, descriptorIndex := 22, attributes := #[] }, { accessFlags := 2, nameIndex := 25, descriptorIndex := 26, attributes := #[] }, { accessFlags := 26, nameIndex := 1116, descriptorIndex := 1117, attributes := #[] }, { accessFlags := 24, nameIndex := 40, descriptorIndex := 26, attributes := #[] }, { accessFlags := 26, nameIndex := 1101, descriptorIndex := 1102, attributes := #[] }, { accessFlags := 26, nameIndex := 1121, descriptorIndex := 1122, attributes := #[] }, { accessFlags := 25, nameIndex := 599, descriptorIndex := 600, attributes := #[] }, { accessFlags := 24, nameIndex := 1125, descriptorIndex := 18, attributes := #[] }, { accessFlags := 24, nameIndex := 1127, descriptorIndex := 18, attributes := #[] }])
  fields := #[{ name := "value", type := (.array .byte), accessFlags := 18, slot := 0, constantValue := 0 }, { name := "coder", type := .byte, accessFlags := 18, slot := 1, constantValue := 0 }, { name := "hash", type := .int, accessFlags := 2, slot := 2, constantValue := 0 }, { name := "hashIsZero", type := .boolean, accessFlags := 2, slot := 3, constantValue := 0 }, { name := "serialVersionUID", type := .long, accessFlags := 26, slot := 0, constantValue := 0 }, { name := "COMPACT_STRINGS", type := .boolean, accessFlags := 24, slot := 1, constantValue := 0 }, { name := "serialPersistentFields", type := (.array (.object "java/io/ObjectStreamField")), accessFlags := 26, slot := 2, constantValue := 0 }, { name := "REPL", type := .char, accessFlags := 26, slot := 3, constantValue := 0 }, { name := "CASE_INSENSITIVE_ORDER", type := (.object "java/util/Comparator"), accessFlags := 25, slot := 4, constantValue := 0 }, { name := "LATIN1", type := .byte, accessFlags := 24, slot := 5, constantValue := 0 }, { name := "UTF16", type := .byte, accessFlags := 24, slot := 6, constantValue := 0 }]
  methods := #[k8m0, k8m1, k8m2, k8m3, k8m4, k8m5, k8m6, k8m7, k8m8, k8m9, k8m10, k8m11, k8m12, k8m13, k8m14, k8m15]
  instanceTypes := #[(.array .byte), .byte, .int, .boolean]
  staticTypes := #[.long, .boolean, (.array (.object "java/io/ObjectStreamField")), .char, (.object "java/util/Comparator"), .byte, .byte]
  resolved := Array.replicate 1451 none
  statics := some 0 }

def pool9 : Array CpInfo := pool [(2, .class_ 4), (1, u "java/lang/Object"), (0, u "<init>"), (0, u "()V"), (14, .class_ 23), (1, u "java/nio/charset/StandardCharsets"), (0, u "US_ASCII"), (0, u "Ljava/nio/charset/Charset;"), (7, u "ISO_8859_1"), (7, u "UTF_8"), (5, u "UTF_16BE"), (5, u "UTF_16LE"), (5, u "UTF_16")] 8

def k9m0 : Method := { name := "<init>", desc := "()V", sig := { parameters := [], returnType := none }, accessFlags := 2, code := none }
/-- java/nio/charset/StandardCharsets -/
def k9 : Class := { plain "java/nio/charset/StandardCharsets" (some 0) with
  accessFlags := 49
  interfaces := #[]
  cf := some (fileOf pool9 21 #[] #[{ accessFlags := 2, nameIndex := 5, descriptorIndex := 6, attributes := #[] }] 49 2 #[] #[{ accessFlags := 25, nameIndex := 24, descriptorIndex := 25, attributes := #[] }, { accessFlags := 25, nameIndex := 33, descriptorIndex := 25, attributes := #[] }, { accessFlags := 25, nameIndex := 41, descriptorIndex := 25, attributes := #[] }, { accessFlags := 25, nameIndex := 47, descriptorIndex := 25, attributes := #[] }, { accessFlags := 25, nameIndex := 53, descriptorIndex := 25, attributes := #[] }, { accessFlags := 25, nameIndex := 59, descriptorIndex := 25, attributes := #[] }])
  fields := #[{ name := "US_ASCII", type := (.object "java/nio/charset/Charset"), accessFlags := 25, slot := 0, constantValue := 0 }, { name := "ISO_8859_1", type := (.object "java/nio/charset/Charset"), accessFlags := 25, slot := 1, constantValue := 0 }, { name := "UTF_8", type := (.object "java/nio/charset/Charset"), accessFlags := 25, slot := 2, constantValue := 0 }, { name := "UTF_16BE", type := (.object "java/nio/charset/Charset"), accessFlags := 25, slot := 3, constantValue := 0 }, { name := "UTF_16LE", type := (.object "java/nio/charset/Charset"), accessFlags := 25, slot := 4, constantValue := 0 }, { name := "UTF_16", type := (.object "java/nio/charset/Charset"), accessFlags := 25, slot := 5, constantValue := 0 }]
  methods := #[k9m0]
  instanceTypes := #[]
  staticTypes := #[(.object "java/nio/charset/Charset"), (.object "java/nio/charset/Charset"), (.object "java/nio/charset/Charset"), (.object "java/nio/charset/Charset"), (.object "java/nio/charset/Charset"), (.object "java/nio/charset/Charset")]
  resolved := Array.replicate 68 none
  statics := some 1 }

def pool10 : Array CpInfo := pool [(2, .class_ 4), (1, u "java/lang/Object"), (0, u "<init>"), (0, u "()V"), (35, .class_ 44), (1, u "java/util/Objects"), (0, u "requireNonNull"), (0, u "(Ljava/lang/Object;)Ljava/lang/Object;")] 137

def k10m0 : Method := { name := "<init>", desc := "()V", sig := { parameters := [], returnType := none }, accessFlags := 2, code := none }
def k10c1 : Code := { maxStack := 2, maxLocals := 1, code := jdk_31_method_10_code, exceptionTable := #[], attributes := #[] }
def k10m1 : Method := { name := "requireNonNull", desc := "(Ljava/lang/Object;)Ljava/lang/Object;", sig := { parameters := [(.object "java/lang/Object")], returnType := some (.object "java/lang/Object") }, accessFlags := 9, code := some k10c1 }
/-- java/util/Objects -/
def k10 : Class := { plain "java/util/Objects" (some 0) with
  accessFlags := 49
  interfaces := #[]
  cf := some (fileOf pool10 42 #[] #[{ accessFlags := 2, nameIndex := 5, descriptorIndex := 6, attributes := #[] }, { accessFlags := 9, nameIndex := 45, descriptorIndex := 46, attributes := #[] }] 49 2 #[] #[])
  fields := #[]
  methods := #[k10m0, k10m1]
  instanceTypes := #[]
  staticTypes := #[]
  resolved := Array.replicate 184 none
  statics := none }

def pool11 : Array CpInfo := pool [(18, .class_ 20), (1, u "java/nio/charset/Charset"), (0, u "cache1"), (0, u "[Ljava/lang/Object;"), (2, u "cache2"), (0, .class_ 27), (0, u "java/lang/Object"), (0, .class_ 29), (0, u "java/nio/charset/Charset$1"), (4, .class_ 36), (1, u "java/nio/charset/Charset$ThreadTrackHolder"), (21, .class_ 59), (0, u "java/nio/charset/Charset$2"), (11, .class_ 73), (1, u "java/nio/charset/Charset$ExtendedProviderHolder"), (22, u "standardProvider"), (0, u "Ljava/nio/charset/spi/CharsetProvider;"), (29, u "name"), (7, .class_ 136), (0, u "java/nio/charset/Charset$3"), (5, u "defaultCharset"), (0, u "Ljava/nio/charset/Charset;"), (14, u "zeroAliases"), (0, u "[Ljava/lang/String;"), (29, u "Ljava/lang/String;"), (2, u "aliases"), (2, u "aliasSet"), (0, u "Ljava/util/Set;"), (82, .class_ 280), (0, u "java/lang/Comparable"), (84, .class_ 366), (0, u "java/nio/charset/Charset$ExtendedProviderHolder$1")] 3

/-- java/nio/charset/Charset -/
def k11 : Class := { plain "java/nio/charset/Charset" (some 0) with
  accessFlags := 1057
  interfaces := #[4]
  cf := some (fileOf pool11 18 #[.nestMembers #[71, 365, 34, 135, 58, 28]] #[] 1057 26 #[279] #[{ accessFlags := 26, nameIndex := 96, descriptorIndex := 97, attributes := #[] }, { accessFlags := 26, nameIndex := 158, descriptorIndex := 159, attributes := #[] }, { accessFlags := 74, nameIndex := 21, descriptorIndex := 22, attributes := #[] }, { accessFlags := 74, nameIndex := 25, descriptorIndex := 22, attributes := #[] }, { accessFlags := 10, nameIndex := 142, descriptorIndex := 143, attributes := #[] }, { accessFlags := 18, nameIndex := 127, descriptorIndex := 189, attributes := #[] }, { accessFlags := 18, nameIndex := 192, descriptorIndex := 159, attributes := #[] }, { accessFlags := 2, nameIndex := 195, descriptorIndex := 196, attributes := #[] }])
  fields := #[{ name := "standardProvider", type := (.object "java/nio/charset/spi/CharsetProvider"), accessFlags := 26, slot := 0, constantValue := 0 }, { name := "zeroAliases", type := (.array (.object "java/lang/String")), accessFlags := 26, slot := 1, constantValue := 0 }, { name := "cache1", type := (.array (.object "java/lang/Object")), accessFlags := 74, slot := 2, constantValue := 0 }, { name := "cache2", type := (.array (.object "java/lang/Object")), accessFlags := 74, slot := 3, constantValue := 0 }, { name := "defaultCharset", type := (.object "java/nio/charset/Charset"), accessFlags := 10, slot := 4, constantValue := 0 }, { name := "name", type := (.object "java/lang/String"), accessFlags := 18, slot := 0, constantValue := 0 }, { name := "aliases", type := (.array (.object "java/lang/String")), accessFlags := 18, slot := 1, constantValue := 0 }, { name := "aliasSet", type := (.object "java/util/Set"), accessFlags := 2, slot := 2, constantValue := 0 }]
  methods := #[]
  instanceTypes := #[(.object "java/lang/String"), (.array (.object "java/lang/String")), (.object "java/util/Set")]
  staticTypes := #[(.object "java/nio/charset/spi/CharsetProvider"), (.array (.object "java/lang/String")), (.array (.object "java/lang/Object")), (.array (.object "java/lang/Object")), (.object "java/nio/charset/Charset")]
  resolved := Array.replicate 370 none
  statics := none }

def pool12 : Array CpInfo := pool [(1, .class_ 2), (0, u "sun/nio/cs/HistoricallyNamedCharset"), (0, .class_ 4), (0, u "java/lang/Object")] 4

/-- sun/nio/cs/HistoricallyNamedCharset -/
def k12 : Class := { plain "sun/nio/cs/HistoricallyNamedCharset" (some 0) with
  accessFlags := 1537
  interfaces := #[]
  cf := some (fileOf pool12 1 #[] #[] 1537 3 #[] #[])
  fields := #[]
  methods := #[]
  instanceTypes := #[]
  staticTypes := #[]
  resolved := Array.replicate 9 none
  statics := none }

def pool13 : Array CpInfo := pool [(2, .class_ 4), (1, u "java/nio/charset/Charset"), (130, .class_ 136), (0, u "sun/nio/cs/Unicode"), (0, .class_ 138), (0, u "sun/nio/cs/HistoricallyNamedCharset")] 15

/-- sun/nio/cs/Unicode -/
def k13 : Class := { plain "sun/nio/cs/Unicode" (some 11) with
  accessFlags := 1056
  interfaces := #[12]
  cf := some (fileOf pool13 135 #[] #[] 1056 2 #[137] #[])
  fields := #[]
  methods := #[]
  instanceTypes := #[(.object "java/lang/String"), (.array (.object "java/lang/String")), (.object "java/util/Set")]
  staticTypes := #[]
  resolved := Array.replicate 154 none
  statics := none }

def pool14 : Array CpInfo := pool [(10, .class_ 12), (1, u "sun/nio/cs/Unicode"), (0, u "<init>"), (3, .class_ 18), (0, u "sun/nio/cs/UTF_8$Decoder"), (3, .class_ 23), (0, u "sun/nio/cs/UTF_8$Encoder"), (15, .class_ 40), (0, u "sun/nio/cs/UTF_8"), (2, u "()V"), (2, u "INSTANCE"), (0, u "Lsun/nio/cs/UTF_8;"), (8, u "JLA"), (0, u "Ljdk/internal/access/JavaLangAccess;")] 26

def k14m0 : Method := { name := "<init>", desc := "()V", sig := { parameters := [], returnType := none }, accessFlags := 1, code := none }
/-- sun/nio/cs/UTF_8 -/
def k14 : Class := { plain "sun/nio/cs/UTF_8" (some 13) with
  accessFlags := 49
  interfaces := #[]
  cf := some (fileOf pool14 39 #[.nestMembers #[22, 17]] #[{ accessFlags := 1, nameIndex := 13, descriptorIndex := 43, attributes := #[] }] 49 10 #[] #[{ accessFlags := 25, nameIndex := 46, descriptorIndex := 47, attributes := #[] }, { accessFlags := 26, nameIndex := 56, descriptorIndex := 57, attributes := #[] }])
  fields := #[{ name := "INSTANCE", type := (.object "sun/nio/cs/UTF_8"), accessFlags := 25, slot := 0, constantValue := 0 }, { name := "JLA", type := (.object "jdk/internal/access/JavaLangAccess"), accessFlags := 26, slot := 1, constantValue := 0 }]
  methods := #[k14m0]
  instanceTypes := #[(.object "java/lang/String"), (.array (.object "java/lang/String")), (.object "java/util/Set")]
  staticTypes := #[(.object "sun/nio/cs/UTF_8"), (.object "jdk/internal/access/JavaLangAccess")]
  resolved := Array.replicate 84 none
  statics := some 2 }

def pool15 : Array CpInfo := pool [(2, .class_ 4), (1, u "java/lang/Object"), (0, u "<init>"), (0, u "()V"), (17, .class_ 26), (1, u "jdk/internal/util/Preconditions"), (6, u "checkIndex"), (15, u "checkFromIndexSize"), (5, .class_ 56), (0, u "jdk/internal/util/Preconditions$4"), (57, .class_ 115), (0, u "jdk/internal/util/Preconditions$1"), (7, u "SIOOBE_FORMATTER"), (0, u "Ljava/util/function/BiFunction;"), (0, .class_ 126), (0, u "jdk/internal/util/Preconditions$2"), (3, u "AIOOBE_FORMATTER"), (0, .class_ 132), (0, u "jdk/internal/util/Preconditions$3"), (3, u "IOOBE_FORMATTER"), (41, u "(IILjava/util/function/BiFunction;)I"), (4, u "(IIILjava/util/function/BiFunction;)I")] 10

def k15m0 : Method := { name := "<init>", desc := "()V", sig := { parameters := [], returnType := none }, accessFlags := 1, code := none }
def k15c1 : Code := { maxStack := 3, maxLocals := 3, code := jdk_41_method_11_code, exceptionTable := #[], attributes := #[] }
def k15m1 : Method := { name := "checkIndex", desc := "(IILjava/util/function/BiFunction;)I", sig := { parameters := [.int, .int, (.object "java/util/function/BiFunction")], returnType := some .int }, accessFlags := 9, code := some k15c1 }
def k15c2 : Code := { maxStack := 4, maxLocals := 4, code := jdk_41_method_13_code, exceptionTable := #[], attributes := #[] }
def k15m2 : Method := { name := "checkFromIndexSize", desc := "(IIILjava/util/function/BiFunction;)I", sig := { parameters := [.int, .int, .int, (.object "java/util/function/BiFunction")], returnType := some .int }, accessFlags := 9, code := some k15c2 }
/-- jdk/internal/util/Preconditions -/
def k15 : Class := { plain "jdk/internal/util/Preconditions" (some 0) with
  accessFlags := 33
  interfaces := #[]
  cf := some (fileOf pool15 24 #[.nestMembers #[55, 131, 125, 114]] #[{ accessFlags := 1, nameIndex := 5, descriptorIndex := 6, attributes := #[] }, { accessFlags := 9, nameIndex := 33, descriptorIndex := 178, attributes := #[] }, { accessFlags := 9, nameIndex := 49, descriptorIndex := 183, attributes := #[] }] 33 2 #[] #[{ accessFlags := 25, nameIndex := 123, descriptorIndex := 124, attributes := #[] }, { accessFlags := 25, nameIndex := 130, descriptorIndex := 124, attributes := #[] }, { accessFlags := 25, nameIndex := 136, descriptorIndex := 124, attributes := #[] }])
  fields := #[{ name := "SIOOBE_FORMATTER", type := (.object "java/util/function/BiFunction"), accessFlags := 25, slot := 0, constantValue := 0 }, { name := "AIOOBE_FORMATTER", type := (.object "java/util/function/BiFunction"), accessFlags := 25, slot := 1, constantValue := 0 }, { name := "IOOBE_FORMATTER", type := (.object "java/util/function/BiFunction"), accessFlags := 25, slot := 2, constantValue := 0 }]
  methods := #[k15m0, k15m1, k15m2]
  instanceTypes := #[]
  staticTypes := #[(.object "java/util/function/BiFunction"), (.object "java/util/function/BiFunction"), (.object "java/util/function/BiFunction")]
  resolved := Array.replicate 194 none
  statics := some 3 }

def pool16 : Array CpInfo := pool [(2, .class_ 4), (1, u "java/lang/Object"), (0, u "<init>"), (0, u "()V"), (1, .class_ 10), (1, u "java/lang/StringCoding"), (0, u "countPositives"), (0, u "([BII)I")] 36

def k16m0 : Method := { name := "<init>", desc := "()V", sig := { parameters := [], returnType := none }, accessFlags := 2, code := none }
def k16c1 : Code := { maxStack := 2, maxLocals := 5, code := jdk_123_method_3_code, exceptionTable := #[], attributes := #[] }
def k16m1 : Method := { name := "countPositives", desc := "([BII)I", sig := { parameters := [(.array .byte), .int, .int], returnType := some .int }, accessFlags := 9, code := some k16c1 }
/-- java/lang/StringCoding -/
def k16 : Class := { plain "java/lang/StringCoding" (some 0) with
  accessFlags := 32
  interfaces := #[]
  cf := some (fileOf pool16 8 #[] #[{ accessFlags := 2, nameIndex := 5, descriptorIndex := 6, attributes := #[] }, { accessFlags := 9, nameIndex := 11, descriptorIndex := 12, attributes := #[] }] 32 2 #[] #[])
  fields := #[]
  methods := #[k16m0, k16m1]
  instanceTypes := #[]
  staticTypes := #[]
  resolved := Array.replicate 49 none
  statics := none }

def pool17 : Array CpInfo := pool [(2, .class_ 4), (1, u "java/lang/Object"), (0, u "<init>"), (0, u "()V"), (7, .class_ 16), (1, u "java/util/Arrays"), (57, .class_ 76), (1, u "java/util/Arrays$NaturalOrder"), (36, .class_ 115), (1, u "java/util/Arrays$LegacyMergeSort"), (1, u "Z"), (21, u "copyOfRange"), (10, .methodref 151 152), (0, .class_ 153), (0, .nameAndType 154 155), (0, u "java/lang/System"), (0, u "arraycopy"), (0, u "(Ljava/lang/Object;ILjava/lang/Object;II)V"), (146, u "copyOf"), (1, .methodref 305 306), (0, .class_ 307), (0, .nameAndType 308 309), (0, u "java/lang/Math"), (0, u "min"), (0, u "(II)I"), (29, .methodref 14 340), (0, .nameAndType 341 342), (0, u "copyOfRangeByte"), (0, u "([BII)[B"), (0, .methodref 14 344), (0, .nameAndType 345 346), (0, u "checkLength"), (0, u "(II)V"), (28, .class_ 376), (0, u "java/util/Arrays$ArrayList"), (68, u "$assertionsDisabled"), (269, u "MIN_ARRAY_SORT_GRAN"), (0, u "I"), (2, u "INSERTIONSORT_THRESHOLD"), (149, u "([BI)[B"), (105, .class_ 976), (0, u "java/util/Arrays$ArrayItr")] 52

def k17m0 : Method := { name := "<init>", desc := "()V", sig := { parameters := [], returnType := none }, accessFlags := 2, code := none }
def k17c1 : Code := { maxStack := 6, maxLocals := 3, code := jdk_65_method_121_code, exceptionTable := #[], attributes := #[] }
def k17m1 : Method := { name := "copyOf", desc := "([BI)[B", sig := { parameters := [(.array .byte), .int], returnType := some (.array .byte) }, accessFlags := 9, code := some k17c1 }
def k17c2 : Code := { maxStack := 4, maxLocals := 2, code := jdk_65_method_131_code, exceptionTable := #[], attributes := #[] }
def k17m2 : Method := { name := "checkLength", desc := "(II)V", sig := { parameters := [.int, .int], returnType := none }, accessFlags := 10, code := some k17c2 }
def k17c3 : Code := { maxStack := 3, maxLocals := 3, code := jdk_65_method_132_code, exceptionTable := #[], attributes := #[] }
def k17m3 : Method := { name := "copyOfRange", desc := "([BII)[B", sig := { parameters := [(.array .byte), .int, .int], returnType := some (.array .byte) }, accessFlags := 9, code := some k17c3 }
def k17c4 : Code := { maxStack := 6, maxLocals := 5, code := jdk_65_method_133_code, exceptionTable := #[], attributes := #[] }
def k17m4 : Method := { name := "copyOfRangeByte", desc := "([BII)[B", sig := { parameters := [(.array .byte), .int, .int], returnType := some (.array .byte) }, accessFlags := 10, code := some k17c4 }
/-- java/util/Arrays -/
def k17 : Class := { plain "java/util/Arrays" (some 0) with
  accessFlags := 49
  interfaces := #[]
  cf := some (fileOf pool17 14 #[.nestMembers #[975, 375, 113, 74]] #[{ accessFlags := 2, nameIndex := 5, descriptorIndex := 6, attributes := #[] }, { accessFlags := 9, nameIndex := 302, descriptorIndex := 869, attributes := #[] }, { accessFlags := 10, nameIndex := 345, descriptorIndex := 346, attributes := #[] }, { accessFlags := 9, nameIndex := 139, descriptorIndex := 342, attributes := #[] }, { accessFlags := 10, nameIndex := 341, descriptorIndex := 342, attributes := #[] }] 49 2 #[] #[{ accessFlags := 26, nameIndex := 715, descriptorIndex := 716, attributes := #[] }, { accessFlags := 26, nameIndex := 719, descriptorIndex := 716, attributes := #[] }, { accessFlags := 4120, nameIndex := 445, descriptorIndex := 117, attributes := #[] }])
  fields := #[{ name := "MIN_ARRAY_SORT_GRAN", type := .int, accessFlags := 26, slot := 0, constantValue := 0 }, { name := "INSERTIONSORT_THRESHOLD", type := .int, accessFlags := 26, slot := 1, constantValue := 0 }, { name := "$assertionsDisabled", type := .boolean, accessFlags := 4120, slot := 2, constantValue := 0 }]
  methods := #[k17m0, k17m1, k17m2, k17m3, k17m4]
  instanceTypes := #[]
  staticTypes := #[.int, .int, .boolean]
  resolved := Array.replicate 1029 none
  statics := none }

def pool18 : Array CpInfo := pool [(1, .class_ 2), (0, u "java/lang/Math"), (1, .class_ 6), (1, u "java/lang/Object"), (0, u "<init>"), (0, u "()V"), (89, .class_ 100), (1, u "java/lang/Math$RandomNumberGeneratorHolder"), (71, u "negativeZeroFloatBits"), (0, u "J"), (2, u "negativeZeroDoubleBits"), (24, u "min"), (43, u "$assertionsDisabled"), (0, u "Z"), (88, u "(II)I"), (2, u "twoToTheDoubleScaleDown"), (0, u "D"), (4, u "twoToTheDoubleScaleUp"), (9, u "E"), (3, u "PI"), (2, u "TAU"), (2, u "DEGREES_TO_RADIANS"), (0, u "RADIANS_TO_DEGREES")] 94

def k18m0 : Method := { name := "<init>", desc := "()V", sig := { parameters := [], returnType := none }, accessFlags := 2, code := none }
def k18c1 : Code := { maxStack := 2, maxLocals := 2, code := jdk_29_method_69_code, exceptionTable := #[], attributes := #[] }
def k18m1 : Method := { name := "min", desc := "(II)I", sig := { parameters := [.int, .int], returnType := some .int }, accessFlags := 9, code := some k18c1 }
/-- java/lang/Math -/
def k18 : Class := { plain "java/lang/Math" (some 0) with
  accessFlags := 49
  interfaces := #[]
  cf := some (fileOf pool18 1 #[.nestMembers #[98]] #[{ accessFlags := 2, nameIndex := 7, descriptorIndex := 8, attributes := #[] }, { accessFlags := 9, nameIndex := 201, descriptorIndex := 335, attributes := #[] }] 49 4 #[] #[{ accessFlags := 25, nameIndex := 354, descriptorIndex := 339, attributes := #[] }, { accessFlags := 25, nameIndex := 358, descriptorIndex := 339, attributes := #[] }, { accessFlags := 25, nameIndex := 361, descriptorIndex := 339, attributes := #[] }, { accessFlags := 26, nameIndex := 364, descriptorIndex := 339, attributes := #[] }, { accessFlags := 26, nameIndex := 365, descriptorIndex := 339, attributes := #[] }, { accessFlags := 26, nameIndex := 172, descriptorIndex := 173, attributes := #[] }, { accessFlags := 26, nameIndex := 176, descriptorIndex := 173, attributes := #[] }, { accessFlags := 8, nameIndex := 344, descriptorIndex := 339, attributes := #[] }, { accessFlags := 8, nameIndex := 338, descriptorIndex := 339, attributes := #[] }, { accessFlags := 4120, nameIndex := 245, descriptorIndex := 246, attributes := #[] }])
  fields := #[{ name := "E", type := .double, accessFlags := 25, slot := 0, constantValue := 0 }, { name := "PI", type := .double, accessFlags := 25, slot := 1, constantValue := 0 }, { name := "TAU", type := .double, accessFlags := 25, slot := 2, constantValue := 0 }, { name := "DEGREES_TO_RADIANS", type := .double, accessFlags := 26, slot := 3, constantValue := 0 }, { name := "RADIANS_TO_DEGREES", type := .double, accessFlags := 26, slot := 4, constantValue := 0 }, { name := "negativeZeroFloatBits", type := .long, accessFlags := 26, slot := 5, constantValue := 0 }, { name := "negativeZeroDoubleBits", type := .long, accessFlags := 26, slot := 6, constantValue := 0 }, { name := "twoToTheDoubleScaleUp", type := .double, accessFlags := 8, slot := 7, constantValue := 0 }, { name := "twoToTheDoubleScaleDown", type := .double, accessFlags := 8, slot := 8, constantValue := 0 }, { name := "$assertionsDisabled", type := .boolean, accessFlags := 4120, slot := 9, constantValue := 0 }]
  methods := #[k18m0, k18m1]
  instanceTypes := #[]
  staticTypes := #[.double, .double, .double, .double, .double, .long, .long, .double, .double, .boolean]
  resolved := Array.replicate 460 none
  statics := none }

def pool19 : Array CpInfo := pool [(2, .class_ 4), (1, u "java/lang/Object"), (0, u "<init>"), (0, u "()V"), (1, .class_ 10), (1, u "java/lang/System"), (0, u "allowSecurityManager"), (0, u "I"), (16, u "cons"), (0, u "Ljava/io/Console;"), (77, .class_ 110), (1, u "java/lang/System$CallersHolder"), (43, u "initialErrStream"), (0, u "Ljava/io/PrintStream;"), (19, u "security"), (0, u "Ljava/lang/SecurityManager;"), (31, .class_ 209), (0, u "java/lang/System$1"), (7, u "props"), (0, u "Ljava/util/Properties;"), (2, u "lineSeparator"), (0, u "Ljava/lang/String;"), (96, .class_ 321), (1, u "java/lang/System$LoggerFinder"), (5, .class_ 328), (0, u "java/lang/System$Logger"), (67, u "err"), (2, u "out"), (91, u "notSupportedJnuEncoding"), (15, u "in"), (17, u "initialIn"), (0, u "Ljava/io/InputStream;"), (35, u "bootLayer"), (0, u "Ljava/lang/ModuleLayer;"), (99, .class_ 664), (0, u "java/lang/System$2"), (9, u "NEVER"), (2, u "MAYBE"), (49, u "arraycopy"), (0, u "(Ljava/lang/Object;ILjava/lang/Object;II)V"), (72, .class_ 802), (0, u "java/lang/System$Logger$Level")] 31

def k19m0 : Method := { name := "<init>", desc := "()V", sig := { parameters := [], returnType := none }, accessFlags := 2, code := none }
def k19m1 : Method := { name := "arraycopy", desc := "(Ljava/lang/Object;ILjava/lang/Object;II)V", sig := { parameters := [(.object "java/lang/Object"), .int, (.object "java/lang/Object"), .int, .int], returnType := none }, accessFlags := 265, code := none }
/-- java/lang/System -/
def k19 : Class := { plain "java/lang/System" (some 0) with
  accessFlags := 49
  interfaces := #[]
  cf := some (fileOf pool19 8 #[.nestMembers #[319, 327, 801, 108, 663, 208]] #[{ accessFlags := 2, nameIndex := 5, descriptorIndex := 6, attributes := #[] }, { accessFlags := 265, nameIndex := 727, descriptorIndex := 728, attributes := #[] }] 49 2 #[] #[{ accessFlags := 25, nameIndex := 507, descriptorIndex := 526, attributes := #[] }, { accessFlags := 25, nameIndex := 399, descriptorIndex := 155, attributes := #[] }, { accessFlags := 25, nameIndex := 396, descriptorIndex := 155, attributes := #[] }, { accessFlags := 10, nameIndex := 525, descriptorIndex := 526, attributes := #[] }, { accessFlags := 26, nameIndex := 674, descriptorIndex := 12, attributes := #[] }, { accessFlags := 26, nameIndex := 677, descriptorIndex := 12, attributes := #[] }, { accessFlags := 10, nameIndex := 11, descriptorIndex := 12, attributes := #[] }, { accessFlags := 74, nameIndex := 175, descriptorIndex := 176, attributes := #[] }, { accessFlags := 10, nameIndex := 491, descriptorIndex := 222, attributes := #[] }, { accessFlags := 74, nameIndex := 29, descriptorIndex := 30, attributes := #[] }, { accessFlags := 74, nameIndex := 154, descriptorIndex := 155, attributes := #[] }, { accessFlags := 10, nameIndex := 217, descriptorIndex := 218, attributes := #[] }, { accessFlags := 10, nameIndex := 221, descriptorIndex := 222, attributes := #[] }, { accessFlags := 8, nameIndex := 562, descriptorIndex := 563, attributes := #[] }])
  fields := #[{ name := "in", type := (.object "java/io/InputStream"), accessFlags := 25, slot := 0, constantValue := 0 }, { name := "out", type := (.object "java/io/PrintStream"), accessFlags := 25, slot := 1, constantValue := 0 }, { name := "err", type := (.object "java/io/PrintStream"), accessFlags := 25, slot := 2, constantValue := 0 }, { name := "initialIn", type := (.object "java/io/InputStream"), accessFlags := 10, slot := 3, constantValue := 0 }, { name := "NEVER", type := .int, accessFlags := 26, slot := 4, constantValue := 0 }, { name := "MAYBE", type := .int, accessFlags := 26, slot := 5, constantValue := 0 }, { name := "allowSecurityManager", type := .int, accessFlags := 10, slot := 6, constantValue := 0 }, { name := "security", type := (.object "java/lang/SecurityManager"), accessFlags := 74, slot := 7, constantValue := 0 }, { name := "notSupportedJnuEncoding", type := (.object "java/lang/String"), accessFlags := 10, slot := 8, constantValue := 0 }, { name := "cons", type := (.object "java/io/Console"), accessFlags := 74, slot := 9, constantValue := 0 }, { name := "initialErrStream", type := (.object "java/io/PrintStream"), accessFlags := 74, slot := 10, constantValue := 0 }, { name := "props", type := (.object "java/util/Properties"), accessFlags := 10, slot := 11, constantValue := 0 }, { name := "lineSeparator", type := (.object "java/lang/String"), accessFlags := 10, slot := 12, constantValue := 0 }, { name := "bootLayer", type := (.object "java/lang/ModuleLayer"), accessFlags := 8, slot := 13, constantValue := 0 }]
  methods := #[k19m0, k19m1]
  instanceTypes := #[]
  staticTypes := #[(.object "java/io/InputStream"), (.object "java/io/PrintStream"), (.object "java/io/PrintStream"), (.object "java/io/InputStream"), .int, .int, .int, (.object "java/lang/SecurityManager"), (.object "java/lang/String"), (.object "java/io/Console"), (.object "java/io/PrintStream"), (.object "java/util/Properties"), (.object "java/lang/String"), (.object "java/lang/ModuleLayer")]
  resolved := Array.replicate 834 none
  statics := none }

def pool20 : Array CpInfo := pool [(3, .class_ 4), (0, u "java/lang/String"), (1, .class_ 8), (1, u "java/lang/Object"), (0, u "<init>"), (0, u "()V"), (0, .methodref 12 13), (0, .class_ 14), (0, .nameAndType 15 16), (0, u "java/lang/StringUTF16"), (0, u "newBytesLength"), (0, u "(I)I"), (3, .integer 1073741823), (23, .fieldref 12 45), (0, .nameAndType 46 47), (0, u "$assertionsDisabled"), (0, u "Z"), (0, .methodref 12 49), (0, .nameAndType 50 51), (0, u "length"), (0, u "([B)I"), (7, .fieldref 12 60), (0, .nameAndType 61 62), (0, u "HI_BYTE_SHIFT"), (0, u "I"), (0, .fieldref 12 64), (0, .nameAndType 65 62), (0, u "LO_BYTE_SHIFT"), (1, .methodref 12 68), (0, .nameAndType 69 70), (0, u "checkIndex"), (0, u "(I[B)V"), (0, .methodref 12 72), (0, .nameAndType 73 74), (0, u "getChar"), (0, u "([BI)C"), (24, u "(II[B)V"), (9, u "newBytesFor"), (0, u "(I)[B"), (0, .methodref 12 112), (0, .nameAndType 113 114), (0, u "putChar"), (0, u "([BII)V"), (25, u "inflate"), (0, u "([BI[BII)V"), (31, .methodref 12 174), (0, .nameAndType 175 99), (0, u "checkBoundsOffCount"), (105, u "(III)I"), (87, .class_ 371), (1, u "java/lang/StringUTF16$LinesSpliterator"), (20, u "charAt"), (21, .methodref 3 415), (0, .nameAndType 69 416), (0, u "(II)V"), (2, .methodref 3 420), (0, .nameAndType 175 281), (9, u "MAX_LENGTH"), (196, .class_ 628), (0, u "java/lang/StringUTF16$CodePointsSpliterator"), (0, .class_ 630), (0, u "java/lang/StringUTF16$CharsSpliterator")] 4

def k20m0 : Method := { name := "<init>", desc := "()V", sig := { parameters := [], returnType := none }, accessFlags := 0, code := none }
def k20c1 : Code := { maxStack := 1, maxLocals := 1, code := jdk_52_method_2_code, exceptionTable := #[], attributes := #[] }
def k20m1 : Method := { name := "newBytesFor", desc := "(I)[B", sig := { parameters := [.int], returnType := some (.array .byte) }, accessFlags := 9, code := some k20c1 }
def k20c2 : Code := { maxStack := 4, maxLocals := 1, code := jdk_52_method_3_code, exceptionTable := #[], attributes := #[] }
def k20m2 : Method := { name := "newBytesLength", desc := "(I)I", sig := { parameters := [.int], returnType := some .int }, accessFlags := 9, code := some k20c2 }
def k20c3 : Code := { maxStack := 4, maxLocals := 3, code := jdk_52_method_4_code, exceptionTable := #[], attributes := #[] }
def k20m3 : Method := { name := "putChar", desc := "([BII)V", sig := { parameters := [(.array .byte), .int, .int], returnType := none }, accessFlags := 8, code := some k20c3 }
def k20c4 : Code := { maxStack := 3, maxLocals := 2, code := jdk_52_method_5_code, exceptionTable := #[], attributes := #[] }
def k20m4 : Method := { name := "getChar", desc := "([BI)C", sig := { parameters := [(.array .byte), .int], returnType := some .char }, accessFlags := 8, code := some k20c4 }
def k20c5 : Code := { maxStack := 2, maxLocals := 1, code := jdk_52_method_6_code, exceptionTable := #[], attributes := #[] }
def k20m5 : Method := { name := "length", desc := "([B)I", sig := { parameters := [(.array .byte)], returnType := some .int }, accessFlags := 9, code := some k20c5 }
def k20c6 : Code := { maxStack := 2, maxLocals := 2, code := jdk_52_method_83_code, exceptionTable := #[], attributes := #[] }
def k20m6 : Method := { name := "charAt", desc := "([BI)C", sig := { parameters := [(.array .byte), .int], returnType := some .char }, accessFlags := 9, code := some k20c6 }
def k20c7 : Code := { maxStack := 4, maxLocals := 6, code := jdk_52_method_86_code, exceptionTable := #[], attributes := #[] }
def k20m7 : Method := { name := "inflate", desc := "([BI[BII)V", sig := { parameters := [(.array .byte), .int, (.array .byte), .int, .int], returnType := none }, accessFlags := 9, code := some k20c7 }
def k20c8 : Code := { maxStack := 2, maxLocals := 2, code := jdk_52_method_91_code, exceptionTable := #[], attributes := #[] }
def k20m8 : Method := { name := "checkIndex", desc := "(I[B)V", sig := { parameters := [.int, (.array .byte)], returnType := none }, accessFlags := 9, code := some k20c8 }
def k20c9 : Code := { maxStack := 3, maxLocals := 3, code := jdk_52_method_94_code, exceptionTable := #[], attributes := #[] }
def k20m9 : Method := { name := "checkBoundsOffCount", desc := "(II[B)V", sig := { parameters := [.int, .int, (.array .byte)], returnType := none }, accessFlags := 9, code := some k20c9 }
/-- java/lang/StringUTF16 -/
def k20 : Class := { plain "java/lang/StringUTF16" (some 0) with
  accessFlags := 48
  interfaces := #[]
  cf := some (fileOf pool20 12 #[.nestMembers #[627, 629, 369]] #[{ accessFlags := 0, nameIndex := 9, descriptorIndex := 10, attributes := #[] }, { accessFlags := 9, nameIndex := 109, descriptorIndex := 110, attributes := #[] }, { accessFlags := 9, nameIndex := 15, descriptorIndex := 16, attributes := #[] }, { accessFlags := 8, nameIndex := 113, descriptorIndex := 114, attributes := #[] }, { accessFlags := 8, nameIndex := 73, descriptorIndex := 74, attributes := #[] }, { accessFlags := 9, nameIndex := 50, descriptorIndex := 51, attributes := #[] }, { accessFlags := 9, nameIndex := 392, descriptorIndex := 74, attributes := #[] }, { accessFlags := 9, nameIndex := 140, descriptorIndex := 141, attributes := #[] }, { accessFlags := 9, nameIndex := 69, descriptorIndex := 70, attributes := #[] }, { accessFlags := 9, nameIndex := 175, descriptorIndex := 99, attributes := #[] }] 48 6 #[] #[{ accessFlags := 26, nameIndex := 61, descriptorIndex := 62, attributes := #[] }, { accessFlags := 26, nameIndex := 65, descriptorIndex := 62, attributes := #[] }, { accessFlags := 24, nameIndex := 430, descriptorIndex := 62, attributes := #[] }, { accessFlags := 4120, nameIndex := 46, descriptorIndex := 47, attributes := #[] }])
  fields := #[{ name := "HI_BYTE_SHIFT", type := .int, accessFlags := 26, slot := 0, constantValue := 0 }, { name := "LO_BYTE_SHIFT", type := .int, accessFlags := 26, slot := 1, constantValue := 0 }, { name := "MAX_LENGTH", type := .int, accessFlags := 24, slot := 2, constantValue := 0 }, { name := "$assertionsDisabled", type := .boolean, accessFlags := 4120, slot := 3, constantValue := 0 }]
  methods := #[k20m0, k20m1, k20m2, k20m3, k20m4, k20m5, k20m6, k20m7, k20m8, k20m9]
  instanceTypes := #[]
  staticTypes := #[.int, .int, .int, .boolean]
  resolved := Array.replicate 635 none
  statics := some 4 }

def pool21 : Array CpInfo := pool [(1, .class_ 2), (0, u "java/lang/String"), (1, .class_ 6), (1, u "java/lang/Object"), (0, u "<init>"), (0, u "()V"), (0, .methodref 1 10), (0, .nameAndType 11 12), (0, u "checkIndex"), (0, u "(II)V"), (1, .class_ 16), (1, u "java/lang/StringLatin1"), (0, u "inflate"), (2, .class_ 22), (1, u "java/lang/StringUTF16"), (3, .nameAndType 17 27), (0, u "([BI[BII)V"), (25, u "([BI)C"), (67, u "$assertionsDisabled"), (0, u "Z"), (98, .class_ 223), (1, u "java/lang/StringLatin1$LinesSpliterator"), (16, .methodref 20 26), (11, u "charAt"), (137, .class_ 391), (0, u "java/lang/StringLatin1$CharsSpliterator")] 3

def k21m0 : Method := { name := "<init>", desc := "()V", sig := { parameters := [], returnType := none }, accessFlags := 0, code := none }
def k21c1 : Code := { maxStack := 2, maxLocals := 2, code := jdk_43_method_2_code, exceptionTable := #[], attributes := #[] }
def k21m1 : Method := { name := "charAt", desc := "([BI)C", sig := { parameters := [(.array .byte), .int], returnType := some .char }, accessFlags := 9, code := some k21c1 }
def k21c2 : Code := { maxStack := 5, maxLocals := 5, code := jdk_43_method_50_code, exceptionTable := #[], attributes := #[] }
def k21m2 : Method := { name := "inflate", desc := "([BI[BII)V", sig := { parameters := [(.array .byte), .int, (.array .byte), .int, .int], returnType := none }, accessFlags := 9, code := some k21c2 }
/-- java/lang/StringLatin1 -/
def k21 : Class := { plain "java/lang/StringLatin1" (some 0) with
  accessFlags := 48
  interfaces := #[]
  cf := some (fileOf pool21 14 #[.nestMembers #[390, 221]] #[{ accessFlags := 0, nameIndex := 7, descriptorIndex := 8, attributes := #[] }, { accessFlags := 9, nameIndex := 252, descriptorIndex := 53, attributes := #[] }, { accessFlags := 9, nameIndex := 17, descriptorIndex := 27, attributes := #[] }] 48 4 #[] #[{ accessFlags := 4120, nameIndex := 121, descriptorIndex := 122, attributes := #[] }])
  fields := #[{ name := "$assertionsDisabled", type := .boolean, accessFlags := 4120, slot := 0, constantValue := 0 }]
  methods := #[k21m0, k21m1, k21m2]
  instanceTypes := #[]
  staticTypes := #[.boolean]
  resolved := Array.replicate 395 none
  statics := none }

def pool22 : Array CpInfo := pool [(1, .class_ 2), (0, u "java/lang/Character"), (18, u "value"), (0, u "C"), (19, .class_ 44), (1, u "java/lang/Object"), (3, .class_ 50), (1, u "java/lang/Character$CharacterCache"), (22, .integer 65536), (0, .integer 1114112), (0, .integer 55296), (0, .integer 56320), (0, .integer 57344), (3, u "(C)Z"), (9, u "(I)C"), (18, .integer 55232), (3, u "(I)Z"), (20, u "lowSurrogate"), (2, u "highSurrogate"), (145, u "$assertionsDisabled"), (0, u "Z"), (21, .class_ 309), (1, u "java/lang/Character$UnicodeBlock"), (73, u "TYPE"), (0, u "Ljava/lang/Class;"), (0, .class_ 386), (0, u "java/io/Serializable"), (0, .class_ 388), (0, u "java/lang/Comparable"), (0, .class_ 390), (0, u "java/lang/constant/Constable"), (0, u "MIN_RADIX"), (0, u "I"), (2, u "MAX_RADIX"), (1, u "MIN_VALUE"), (1, u "MAX_VALUE"), (3, u "UNASSIGNED"), (0, u "B"), (0, u "UPPERCASE_LETTER"), (1, u "LOWERCASE_LETTER"), (0, u "TITLECASE_LETTER"), (1, u "MODIFIER_LETTER"), (1, u "OTHER_LETTER"), (1, u "NON_SPACING_MARK"), (1, u "ENCLOSING_MARK"), (1, u "COMBINING_SPACING_MARK"), (1, u "DECIMAL_DIGIT_NUMBER"), (1, u "LETTER_NUMBER"), (1, u "OTHER_NUMBER"), (1, u "SPACE_SEPARATOR"), (1, u "LINE_SEPARATOR"), (1, u "PARAGRAPH_SEPARATOR"), (1, u "CONTROL"), (1, u "FORMAT"), (1, u "PRIVATE_USE"), (1, u "SURROGATE"), (1, u "DASH_PUNCTUATION"), (1, u "START_PUNCTUATION"), (1, u "END_PUNCTUATION"), (1, u "CONNECTOR_PUNCTUATION"), (1, u "OTHER_PUNCTUATION"), (1, u "MATH_SYMBOL"), (1, u "CURRENCY_SYMBOL"), (1, u "MODIFIER_SYMBOL"), (1, u "OTHER_SYMBOL"), (1, u "INITIAL_QUOTE_PUNCTUATION"), (1, u "FINAL_QUOTE_PUNCTUATION"), (1, u "ERROR"), (1, u "DIRECTIONALITY_UNDEFINED"), (0, u "DIRECTIONALITY_LEFT_TO_RIGHT"), (0, u "DIRECTIONALITY_RIGHT_TO_LEFT"), (0, u "DIRECTIONALITY_RIGHT_TO_LEFT_ARABIC"), (0, u "DIRECTIONALITY_EUROPEAN_NUMBER"), (0, u "DIRECTIONALITY_EUROPEAN_NUMBER_SEPARATOR"), (0, u "DIRECTIONALITY_EUROPEAN_NUMBER_TERMINATOR"), (0, u "DIRECTIONALITY_ARABIC_NUMBER"), (0, u "DIRECTIONALITY_COMMON_NUMBER_SEPARATOR"), (0, u "DIRECTIONALITY_NONSPACING_MARK"), (0, u "DIRECTIONALITY_BOUNDARY_NEUTRAL"), (0, u "DIRECTIONALITY_PARAGRAPH_SEPARATOR"), (0, u "DIRECTIONALITY_SEGMENT_SEPARATOR"), (0, u "DIRECTIONALITY_WHITESPACE"), (0, u "DIRECTIONALITY_OTHER_NEUTRALS"), (0, u "DIRECTIONALITY_LEFT_TO_RIGHT_EMBEDDING"), (0, u "DIRECTIONALITY_LEFT_TO_RIGHT_OVERRIDE"), (0, u "DIRECTIONALITY_RIGHT_TO_LEFT_EMBEDDING"), (0, u "DIRECTIONALITY_RIGHT_TO_LEFT_OVERRIDE"), (1, u "DIRECTIONALITY_POP_DIRECTIONAL_FORMAT"), (0, u "DIRECTIONALITY_LEFT_TO_RIGHT_ISOLATE"), (0, u "DIRECTIONALITY_RIGHT_TO_LEFT_ISOLATE"), (0, u "DIRECTIONALITY_FIRST_STRONG_ISOLATE"), (0, u "DIRECTIONALITY_POP_DIRECTIONAL_ISOLATE"), (0, u "MIN_HIGH_SURROGATE"), (0, u "MAX_HIGH_SURROGATE"), (1, u "MIN_LOW_SURROGATE"), (0, u "MAX_LOW_SURROGATE"), (1, u "MIN_SURROGATE"), (0, u "MAX_SURROGATE"), (0, u "MIN_SUPPLEMENTARY_CODE_POINT"), (0, u "MIN_CODE_POINT"), (0, u "MAX_CODE_POINT"), (1, u "serialVersionUID"), (0, u "J"), (2, u "SIZE"), (0, u "BYTES"), (22, u "isSupplementaryCodePoint"), (1, u "isSurrogate"), (63, .class_ 596), (0, u "java/lang/Character$UnicodeScript"), (0, .class_ 598), (0, u "java/lang/Character$Subset")] 5

def k22c0 : Code := { maxStack := 2, maxLocals := 1, code := jdk_89_method_13_code, exceptionTable := #[], attributes := #[] }
def k22m0 : Method := { name := "isSupplementaryCodePoint", desc := "(I)Z", sig := { parameters := [.int], returnType := some .boolean }, accessFlags := 9, code := some k22c0 }
def k22c1 : Code := { maxStack := 2, maxLocals := 1, code := jdk_89_method_16_code, exceptionTable := #[], attributes := #[] }
def k22m1 : Method := { name := "isSurrogate", desc := "(C)Z", sig := { parameters := [.char], returnType := some .boolean }, accessFlags := 9, code := some k22c1 }
def k22c2 : Code := { maxStack := 2, maxLocals := 1, code := jdk_89_method_28_code, exceptionTable := #[], attributes := #[] }
def k22m2 : Method := { name := "highSurrogate", desc := "(I)C", sig := { parameters := [.int], returnType := some .char }, accessFlags := 9, code := some k22c2 }
def k22c3 : Code := { maxStack := 2, maxLocals := 1, code := jdk_89_method_29_code, exceptionTable := #[], attributes := #[] }
def k22m3 : Method := { name := "lowSurrogate", desc := "(I)C", sig := { parameters := [.int], returnType := some .char }, accessFlags := 9, code := some k22c3 }
/-- java/lang/Character -/
def k22 : Class := { plain "java/lang/Character" (some 0) with
  accessFlags := 49
  interfaces := #[3, 4, 6]
  cf := some (fileOf pool22 1 #[.nestMembers #[48, 595, 307, 597]] #[{ accessFlags := 9, nameIndex := 529, descriptorIndex := 114, attributes := #[] }, { accessFlags := 9, nameIndex := 531, descriptorIndex := 81, attributes := #[] }, { accessFlags := 9, nameIndex := 138, descriptorIndex := 91, attributes := #[] }, { accessFlags := 9, nameIndex := 135, descriptorIndex := 91, attributes := #[] }] 49 42 #[385, 387, 389] #[{ accessFlags := 25, nameIndex := 391, descriptorIndex := 392, attributes := #[] }, { accessFlags := 25, nameIndex := 395, descriptorIndex := 392, attributes := #[] }, { accessFlags := 25, nameIndex := 397, descriptorIndex := 22, attributes := #[] }, { accessFlags := 25, nameIndex := 399, descriptorIndex := 22, attributes := #[] }, { accessFlags := 25, nameIndex := 383, descriptorIndex := 384, attributes := #[] }, { accessFlags := 25, nameIndex := 403, descriptorIndex := 404, attributes := #[] }, { accessFlags := 25, nameIndex := 405, descriptorIndex := 404, attributes := #[] }, { accessFlags := 25, nameIndex := 407, descriptorIndex := 404, attributes := #[] }, { accessFlags := 25, nameIndex := 408, descriptorIndex := 404, attributes := #[] }, { accessFlags := 25, nameIndex := 410, descriptorIndex := 404, attributes := #[] }, { accessFlags := 25, nameIndex := 412, descriptorIndex := 404, attributes := #[] }, { accessFlags := 25, nameIndex := 414, descriptorIndex := 404, attributes := #[] }, { accessFlags := 25, nameIndex := 416, descriptorIndex := 404, attributes := #[] }, { accessFlags := 25, nameIndex := 418, descriptorIndex := 404, attributes := #[] }, { accessFlags := 25, nameIndex := 420, descriptorIndex := 404, attributes := #[] }, { accessFlags := 25, nameIndex := 422, descriptorIndex := 404, attributes := #[] }, { accessFlags := 25, nameIndex := 424, descriptorIndex := 404, attributes := #[] }, { accessFlags := 25, nameIndex := 426, descriptorIndex := 404, attributes := #[] }, { accessFlags := 25, nameIndex := 428, descriptorIndex := 404, attributes := #[] }, { accessFlags := 25, nameIndex := 430, descriptorIndex := 404, attributes := #[] }, { accessFlags := 25, nameIndex := 432, descriptorIndex := 404, attributes := #[] }, { accessFlags := 25, nameIndex := 434, descriptorIndex := 404, attributes := #[] }, { accessFlags := 25, nameIndex := 436, descriptorIndex := 404, attributes := #[] }, { accessFlags := 25, nameIndex := 438, descriptorIndex := 404, attributes := #[] }, { accessFlags := 25, nameIndex := 440, descriptorIndex := 404, attributes := #[] }, { accessFlags := 25, nameIndex := 442, descriptorIndex := 404, attributes := #[] }, { accessFlags := 25, nameIndex := 444, descriptorIndex := 404, attributes := #[] }, { accessFlags := 25, nameIndex := 446, descriptorIndex := 404, attributes := #[] }, { accessFlags := 25, nameIndex := 448, descriptorIndex := 404, attributes := #[] }, { accessFlags := 25, nameIndex := 450, descriptorIndex := 404, attributes := #[] }, { accessFlags := 25, nameIndex := 452, descriptorIndex := 404, attributes := #[] }, { accessFlags := 25, nameIndex := 454, descriptorIndex := 404, attributes := #[] }, { accessFlags := 25, nameIndex := 456, descriptorIndex := 404, attributes := #[] }, { accessFlags := 25, nameIndex := 458, descriptorIndex := 404, attributes := #[] }, { accessFlags := 25, nameIndex := 460, descriptorIndex := 404, attributes := #[] }, { accessFlags := 24, nameIndex := 462, descriptorIndex := 392, attributes := #[] }, { accessFlags := 25, nameIndex := 464, descriptorIndex := 404, attributes := #[] }, { accessFlags := 25, nameIndex := 465, descriptorIndex := 404, attributes := #[] }, { accessFlags := 25, nameIndex := 466, descriptorIndex := 404, attributes := #[] }, { accessFlags := 25, nameIndex := 467, descriptorIndex := 404, attributes := #[] }, { accessFlags := 25, nameIndex := 468, descriptorIndex := 404, attributes := #[] }, { accessFlags := 25, nameIndex := 469, descriptorIndex := 404, attributes := #[] }, { accessFlags := 25, nameIndex := 470, descriptorIndex := 404, attributes := #[] }, { accessFlags := 25, nameIndex := 471, descriptorIndex := 404, attributes := #[] }, { accessFlags := 25, nameIndex := 472, descriptorIndex := 404, attributes := #[] }, { accessFlags := 25, nameIndex := 473, descriptorIndex := 404, attributes := #[] }, { accessFlags := 25, nameIndex := 474, descriptorIndex := 404, attributes := #[] }, { accessFlags := 25, nameIndex := 475, descriptorIndex := 404, attributes := #[] }, { accessFlags := 25, nameIndex := 476, descriptorIndex := 404, attributes := #[] }, { accessFlags := 25, nameIndex := 477, descriptorIndex := 404, attributes := #[] }, { accessFlags := 25, nameIndex := 478, descriptorIndex := 404, attributes := #[] }, { accessFlags := 25, nameIndex := 479, descriptorIndex := 404, attributes := #[] }, { accessFlags := 25, nameIndex := 480, descriptorIndex := 404, attributes := #[] }, { accessFlags := 25, nameIndex := 481, descriptorIndex := 404, attributes := #[] }, { accessFlags := 25, nameIndex := 482, descriptorIndex := 404, attributes := #[] }, { accessFlags := 25, nameIndex := 484, descriptorIndex := 404, attributes := #[] }, { accessFlags := 25, nameIndex := 485, descriptorIndex := 404, attributes := #[] }, { accessFlags := 25, nameIndex := 486, descriptorIndex := 404, attributes := #[] }, { accessFlags := 25, nameIndex := 487, descriptorIndex := 404, attributes := #[] }, { accessFlags := 25, nameIndex := 488, descriptorIndex := 404, attributes := #[] }, { accessFlags := 25, nameIndex := 489, descriptorIndex := 22, attributes := #[] }, { accessFlags := 25, nameIndex := 490, descriptorIndex := 22, attributes := #[] }, { accessFlags := 25, nameIndex := 492, descriptorIndex := 22, attributes := #[] }, { accessFlags := 25, nameIndex := 493, descriptorIndex := 22, attributes := #[] }, { accessFlags := 25, nameIndex := 495, descriptorIndex := 22, attributes := #[] }, { accessFlags := 25, nameIndex := 496, descriptorIndex := 22, attributes := #[] }, { accessFlags := 25, nameIndex := 497, descriptorIndex := 392, attributes := #[] }, { accessFlags := 25, nameIndex := 498, descriptorIndex := 392, attributes := #[] }, { accessFlags := 25, nameIndex := 499, descriptorIndex := 392, attributes := #[] }, { accessFlags := 18, nameIndex := 21, descriptorIndex := 22, attributes := #[] }, { accessFlags := 26, nameIndex := 501, descriptorIndex := 502, attributes := #[] }, { accessFlags := 25, nameIndex := 505, descriptorIndex := 392, attributes := #[] }, { accessFlags := 25, nameIndex := 506, descriptorIndex := 392, attributes := #[] }, { accessFlags := 4120, nameIndex := 284, descriptorIndex := 285, attributes := #[] }])
  fields := #[{ name := "MIN_RADIX", type := .int, accessFlags := 25, slot := 0, constantValue := 0 }, { name := "MAX_RADIX", type := .int, accessFlags := 25, slot := 1, constantValue := 0 }, { name := "MIN_VALUE", type := .char, accessFlags := 25, slot := 2, constantValue := 0 }, { name := "MAX_VALUE", type := .char, accessFlags := 25, slot := 3, constantValue := 0 }, { name := "TYPE", type := (.object "java/lang/Class"), accessFlags := 25, slot := 4, constantValue := 0 }, { name := "UNASSIGNED", type := .byte, accessFlags := 25, slot := 5, constantValue := 0 }, { name := "UPPERCASE_LETTER", type := .byte, accessFlags := 25, slot := 6, constantValue := 0 }, { name := "LOWERCASE_LETTER", type := .byte, accessFlags := 25, slot := 7, constantValue := 0 }, { name := "TITLECASE_LETTER", type := .byte, accessFlags := 25, slot := 8, constantValue := 0 }, { name := "MODIFIER_LETTER", type := .byte, accessFlags := 25, slot := 9, constantValue := 0 }, { name := "OTHER_LETTER", type := .byte, accessFlags := 25, slot := 10, constantValue := 0 }, { name := "NON_SPACING_MARK", type := .byte, accessFlags := 25, slot := 11, constantValue := 0 }, { name := "ENCLOSING_MARK", type := .byte, accessFlags := 25, slot := 12, constantValue := 0 }, { name := "COMBINING_SPACING_MARK", type := .byte, accessFlags := 25, slot := 13, constantValue := 0 }, { name := "DECIMAL_DIGIT_NUMBER", type := .byte, accessFlags := 25, slot := 14, constantValue := 0 }, { name := "LETTER_NUMBER", type := .byte, accessFlags := 25, slot := 15, constantValue := 0 }, { name := "OTHER_NUMBER", type := .byte, accessFlags := 25, slot := 16, constantValue := 0 }, { name := "SPACE_SEPARATOR", type := .byte, accessFlags := 25, slot := 17, constantValue := 0 }, { name := "LINE_SEPARATOR", type := .byte, accessFlags := 25, slot := 18, constantValue := 0 }, { name := "PARAGRAPH_SEPARATOR", type := .byte, accessFlags := 25, slot := 19, constantValue := 0 }, { name := "CONTROL", type := .byte, accessFlags := 25, slot := 20, constantValue := 0 }, { name := "FORMAT", type := .byte, accessFlags := 25, slot := 21, constantValue := 0 }, { name := "PRIVATE_USE", type := .byte, accessFlags := 25, slot := 22, constantValue := 0 }, { name := "SURROGATE", type := .byte, accessFlags := 25, slot := 23, constantValue := 0 }, { name := "DASH_PUNCTUATION", type := .byte, accessFlags := 25, slot := 24, constantValue := 0 }, { name := "START_PUNCTUATION", type := .byte, accessFlags := 25, slot := 25, constantValue := 0 }, { name := "END_PUNCTUATION", type := .byte, accessFlags := 25, slot := 26, constantValue := 0 }, { name := "CONNECTOR_PUNCTUATION", type := .byte, accessFlags := 25, slot := 27, constantValue := 0 }, { name := "OTHER_PUNCTUATION", type := .byte, accessFlags := 25, slot := 28, constantValue := 0 }, { name := "MATH_SYMBOL", type := .byte, accessFlags := 25, slot := 29, constantValue := 0 }, { name := "CURRENCY_SYMBOL", type := .byte, accessFlags := 25, slot := 30, constantValue := 0 }, { name := "MODIFIER_SYMBOL", type := .byte, accessFlags := 25, slot := 31, constantValue := 0 }, { name := "OTHER_SYMBOL", type := .byte, accessFlags := 25, slot := 32, constantValue := 0 }, { name := "INITIAL_QUOTE_PUNCTUATION", type := .byte, accessFlags := 25, slot := 33, constantValue := 0 }, { name := "FINAL_QUOTE_PUNCTUATION", type := .byte, accessFlags := 25, slot := 34, constantValue := 0 }, { name := "ERROR", type := .int, accessFlags := 24, slot := 35, constantValue := 0 }, { name := "DIRECTIONALITY_UNDEFINED", type := .byte, accessFlags := 25, slot := 36, constantValue := 0 }, { name := "DIRECTIONALITY_LEFT_TO_RIGHT", type := .byte, accessFlags := 25, slot := 37, constantValue := 0 }, { name := "DIRECTIONALITY_RIGHT_TO_LEFT", type := .byte, accessFlags := 25, slot := 38, constantValue := 0 }, { name := "DIRECTIONALITY_RIGHT_TO_LEFT_ARABIC", type := .byte, accessFlags := 25, slot := 39, constantValue := 0 }, { name := "DIRECTIONALITY_EUROPEAN_NUMBER", type := .byte, accessFlags := 25, slot := 40, constantValue := 0 }, { name := "DIRECTIONALITY_EUROPEAN_NUMBER_SEPARATOR", type := .byte, accessFlags := 25, slot := 41, constantValue := 0 }, { name := "DIRECTIONALITY_EUROPEAN_NUMBER_TERMINATOR", type := .byte, accessFlags := 25, slot := 42, constantValue := 0 }, { name := "DIRECTIONALITY_ARABIC_NUMBER", type := .byte, accessFlags := 25, slot := 43, constantValue := 0 }, { name := "DIRECTIONALITY_COMMON_NUMBER_SEPARATOR", type := .byte, accessFlags := 25, slot := 44, constantValue := 0 }, { name := "DIRECTIONALITY_NONSPACING_MARK", type := .byte, accessFlags := 25, slot := 45, constantValue := 0 }, { name := "DIRECTIONALITY_BOUNDARY_NEUTRAL", type := .byte, accessFlags := 25, slot := 46, constantValue := 0 }, { name := "DIRECTIONALITY_PARAGRAPH_SEPARATOR", type := .byte, accessFlags := 25, slot := 47, constantValue := 0 }, { name := "DIRECTIONALITY_SEGMENT_SEPARATOR", type := .byte, accessFlags := 25, slot := 48, constantValue := 0 }, { name := "DIRECTIONALITY_WHITESPACE", type := .byte, accessFlags := 25, slot := 49, constantValue := 0 }, { name := "DIRECTIONALITY_OTHER_NEUTRALS", type := .byte, accessFlags := 25, slot := 50, constantValue := 0 }, { name := "DIRECTIONALITY_LEFT_TO_RIGHT_EMBEDDING", type := .byte, accessFlags := 25, slot := 51, constantValue := 0 }, { name := "DIRECTIONALITY_LEFT_TO_RIGHT_OVERRIDE", type := .byte, accessFlags := 25, slot := 52, constantValue := 0 }, { name := "DIRECTIONALITY_RIGHT_TO_LEFT_EMBEDDING", type := .byte, accessFlags := 25, slot := 53, constantValue := 0 }, { name := "DIRECTIONALITY_RIGHT_TO_LEFT_OVERRIDE", type := .byte, accessFlags := 25, slot := 54, constantValue := 0 }, { name := "DIRECTIONALITY_POP_DIRECTIONAL_FORMAT", type := .byte, accessFlags := 25, slot := 55, constantValue := 0 }, { name := "DIRECTIONALITY_LEFT_TO_RIGHT_ISOLATE", type := .byte, accessFlags := 25, slot := 56, constantValue := 0 }, { name := "DIRECTIONALITY_RIGHT_TO_LEFT_ISOLATE", type := .byte, accessFlags := 25, slot := 57, constantValue := 0 }, { name := "DIRECTIONALITY_FIRST_STRONG_ISOLATE", type := .byte, accessFlags := 25, slot := 58, constantValue := 0 }, { name := "DIRECTIONALITY_POP_DIRECTIONAL_ISOLATE", type := .byte, accessFlags := 25, slot := 59, constantValue := 0 }, { name := "MIN_HIGH_SURROGATE", type := .char, accessFlags := 25, slot := 60, constantValue := 0 }, { name := "MAX_HIGH_SURROGATE", type := .char, accessFlags := 25, slot := 61, constantValue := 0 }, { name := "MIN_LOW_SURROGATE", type := .char, accessFlags := 25, slot := 62, constantValue := 0 }, { name := "MAX_LOW_SURROGATE", type := .char, accessFlags := 25, slot := 63, constantValue := 0 }, { name := "MIN_SURROGATE", type := .char, accessFlags := 25, slot := 64, constantValue := 0 }, { name := "MAX_SURROGATE", type := .char, accessFlags := 25, slot := 65, constantValue := 0 }, { name := "MIN_SUPPLEMENTARY_CODE_POINT", type := .int, accessFlags := 25, slot := 66, constantValue := 0 }, { name := "MIN_CODE_POINT", type := .int, accessFlags := 25, slot := 67, constantValue := 0 }, { name := "MAX_CODE_POINT", type := .int, accessFlags := 25, slot := 68, constantValue := 0 }, { name := "value", type := .char, accessFlags := 18, slot := 0, constantValue := 0 }, { name := "serialVersionUID", type := .long, accessFlags := 26, slot := 69, constantValue := 0 }, { name := "SIZE", type := .int, accessFlags := 25, slot := 70, constantValue := 0 }, { name := "BYTES", type := .int, accessFlags := 25, slot := 71, constantValue := 0 }, { name := "$assertionsDisabled", type := .boolean, accessFlags := 4120, slot := 72, constantValue := 0 }]
  methods := #[k22m0, k22m1, k22m2, k22m3]
  instanceTypes := #[.char]
  staticTypes := #[.int, .int, .char, .char, (.object "java/lang/Class"), .byte, .byte, .byte, .byte, .byte, .byte, .byte, .byte, .byte, .byte, .byte, .byte, .byte, .byte, .byte, .byte, .byte, .byte, .byte, .byte, .byte, .byte, .byte, .byte, .byte, .byte, .byte, .byte, .byte, .byte, .int, .byte, .byte, .byte, .byte, .byte, .byte, .byte, .byte, .byte, .byte, .byte, .byte, .byte, .byte, .byte, .byte, .byte, .byte, .byte, .byte, .byte, .byte, .byte, .byte, .char, .char, .char, .char, .char, .char, .int, .int, .int, .long, .int, .int, .boolean]
  resolved := Array.replicate 604 none
  statics := none }

def pool23 : Array CpInfo := pool [(9, u "<init>"), (6, .class_ 18), (1, u "java/lang/Object"), (0, u "()V"), (1, .class_ 23), (1, u "jdk/internal/util/ArraysSupport"), (0, u "LOG2_ARRAY_LONG_INDEX_SCALE"), (0, u "I"), (2, u "U"), (0, u "Ljdk/internal/misc/Unsafe;"), (8, u "BIG_ENDIAN"), (0, u "Z"), (8, u "LOG2_BYTE_BIT_SIZE"), (4, u "LOG2_ARRAY_INT_INDEX_SCALE"), (54, u "JLA"), (0, u "Ljdk/internal/access/JavaLangAccess;"), (11, u "LOG2_ARRAY_BOOLEAN_INDEX_SCALE"), (9, u "LOG2_ARRAY_BYTE_INDEX_SCALE"), (5, u "LOG2_ARRAY_CHAR_INDEX_SCALE"), (5, u "LOG2_ARRAY_SHORT_INDEX_SCALE"), (18, u "LOG2_ARRAY_FLOAT_INDEX_SCALE"), (24, u "LOG2_ARRAY_DOUBLE_INDEX_SCALE"), (89, u "T_BOOLEAN"), (2, u "T_CHAR"), (1, u "T_FLOAT"), (1, u "T_DOUBLE"), (1, u "T_BYTE"), (1, u "T_SHORT"), (1, u "T_INT"), (1, u "T_LONG"), (1, u "SOFT_MAX_ARRAY_LENGTH")] 83

def k23m0 : Method := { name := "<init>", desc := "()V", sig := { parameters := [], returnType := none }, accessFlags := 2, code := none }
/-- jdk/internal/util/ArraysSupport -/
def k23 : Class := { plain "jdk/internal/util/ArraysSupport" (some 0) with
  accessFlags := 33
  interfaces := #[]
  cf := some (fileOf pool23 21 #[] #[{ accessFlags := 2, nameIndex := 9, descriptorIndex := 19, attributes := #[] }] 33 16 #[] #[{ accessFlags := 24, nameIndex := 28, descriptorIndex := 29, attributes := #[] }, { accessFlags := 26, nameIndex := 38, descriptorIndex := 39, attributes := #[] }, { accessFlags := 25, nameIndex := 121, descriptorIndex := 25, attributes := #[] }, { accessFlags := 25, nameIndex := 131, descriptorIndex := 25, attributes := #[] }, { accessFlags := 25, nameIndex := 137, descriptorIndex := 25, attributes := #[] }, { accessFlags := 25, nameIndex := 143, descriptorIndex := 25, attributes := #[] }, { accessFlags := 25, nameIndex := 53, descriptorIndex := 25, attributes := #[] }, { accessFlags := 25, nameIndex := 24, descriptorIndex := 25, attributes := #[] }, { accessFlags := 25, nameIndex := 162, descriptorIndex := 25, attributes := #[] }, { accessFlags := 25, nameIndex := 187, descriptorIndex := 25, attributes := #[] }, { accessFlags := 26, nameIndex := 48, descriptorIndex := 25, attributes := #[] }, { accessFlags := 25, nameIndex := 277, descriptorIndex := 25, attributes := #[] }, { accessFlags := 25, nameIndex := 280, descriptorIndex := 25, attributes := #[] }, { accessFlags := 25, nameIndex := 282, descriptorIndex := 25, attributes := #[] }, { accessFlags := 25, nameIndex := 284, descriptorIndex := 25, attributes := #[] }, { accessFlags := 25, nameIndex := 286, descriptorIndex := 25, attributes := #[] }, { accessFlags := 25, nameIndex := 288, descriptorIndex := 25, attributes := #[] }, { accessFlags := 25, nameIndex := 290, descriptorIndex := 25, attributes := #[] }, { accessFlags := 25, nameIndex := 292, descriptorIndex := 25, attributes := #[] }, { accessFlags := 26, nameIndex := 108, descriptorIndex := 109, attributes := #[] }, { accessFlags := 25, nameIndex := 294, descriptorIndex := 25, attributes := #[] }])
  fields := #[{ name := "U", type := (.object "jdk/internal/misc/Unsafe"), accessFlags := 24, slot := 0, constantValue := 0 }, { name := "BIG_ENDIAN", type := .boolean, accessFlags := 26, slot := 1, constantValue := 0 }, { name := "LOG2_ARRAY_BOOLEAN_INDEX_SCALE", type := .int, accessFlags := 25, slot := 2, constantValue := 0 }, { name := "LOG2_ARRAY_BYTE_INDEX_SCALE", type := .int, accessFlags := 25, slot := 3, constantValue := 0 }, { name := "LOG2_ARRAY_CHAR_INDEX_SCALE", type := .int, accessFlags := 25, slot := 4, constantValue := 0 }, { name := "LOG2_ARRAY_SHORT_INDEX_SCALE", type := .int, accessFlags := 25, slot := 5, constantValue := 0 }, { name := "LOG2_ARRAY_INT_INDEX_SCALE", type := .int, accessFlags := 25, slot := 6, constantValue := 0 }, { name := "LOG2_ARRAY_LONG_INDEX_SCALE", type := .int, accessFlags := 25, slot := 7, constantValue := 0 }, { name := "LOG2_ARRAY_FLOAT_INDEX_SCALE", type := .int, accessFlags := 25, slot := 8, constantValue := 0 }, { name := "LOG2_ARRAY_DOUBLE_INDEX_SCALE", type := .int, accessFlags := 25, slot := 9, constantValue := 0 }, { name := "LOG2_BYTE_BIT_SIZE", type := .int, accessFlags := 26, slot := 10, constantValue := 0 }, { name := "T_BOOLEAN", type := .int, accessFlags := 25, slot := 11, constantValue := 0 }, { name := "T_CHAR", type := .int, accessFlags := 25, slot := 12, constantValue := 0 }, { name := "T_FLOAT", type := .int, accessFlags := 25, slot := 13, constantValue := 0 }, { name := "T_DOUBLE", type := .int, accessFlags := 25, slot := 14, constantValue := 0 }, { name := "T_BYTE", type := .int, accessFlags := 25, slot := 15, constantValue := 0 }, { name := "T_SHORT", type := .int, accessFlags := 25, slot := 16, constantValue := 0 }, { name := "T_INT", type := .int, accessFlags := 25, slot := 17, constantValue := 0 }, { name := "T_LONG", type := .int, accessFlags := 25, slot := 18, constantValue := 0 }, { name := "JLA", type := (.object "jdk/internal/access/JavaLangAccess"), accessFlags := 26, slot := 19, constantValue := 0 }, { name := "SOFT_MAX_ARRAY_LENGTH", type := .int, accessFlags := 25, slot := 20, constantValue := 0 }]
  methods := #[k23m0]
  instanceTypes := #[]
  staticTypes := #[(.object "jdk/internal/misc/Unsafe"), .boolean, .int, .int, .int, .int, .int, .int, .int, .int, .int, .int, .int, .int, .int, .int, .int, .int, .int, (.object "jdk/internal/access/JavaLangAccess"), .int]
  resolved := Array.replicate 378 none
  statics := none }

def pool24 : Array CpInfo := pool [(1, u "java/lang/Cloneable"), (0, .class_ 1), (0, u "java/lang/Object"), (0, .class_ 3)] 3

/-- java/lang/Cloneable -/
def k24 : Class := { plain "java/lang/Cloneable" (some 0) with
  accessFlags := 1537
  interfaces := #[]
  cf := some (fileOf pool24 2 #[] #[] 1537 4 #[] #[])
  fields := #[]
  methods := #[]
  instanceTypes := #[]
  staticTypes := #[]
  resolved := Array.replicate 8 none
  statics := none }

/-- the primitive byte -/
def k25 : Class := { plain "byte" none with kind := .primitive 'B', accessFlags := 0x411 }
/-- [B -/
def k26 : Class := { plain "[B" (some 0) with kind := .array 25 .byte, interfaces := #[24, 3], accessFlags := 1041 }

/-- the primitive char -/
def k27 : Class := { plain "char" none with kind := .primitive 'C', accessFlags := 0x411 }
/-- [C -/
def k28 : Class := { plain "[C" (some 0) with kind := .array 27 .char, interfaces := #[24, 3], accessFlags := 1041 }

/-- the primitive int -/
def k29 : Class := { plain "int" none with kind := .primitive 'I', accessFlags := 0x411 }
/-- [I -/
def k30 : Class := { plain "[I" (some 0) with kind := .array 29 .int, interfaces := #[24, 3], accessFlags := 1041 }

def heap : Heap := #[{ cls := 8, slots := #[.long 0, .int 1, .null, .int 0, .null, .int 0, .int 0], vm := .statics 8 },
  { cls := 9, slots := #[.null, .null, .ref 5, .null, .null, .null], vm := .statics 9 },
  { cls := 14, slots := #[.ref 5, .null], vm := .statics 14 },
  { cls := 15, slots := #[.null, .null, .null], vm := .statics 15 },
  { cls := 20, slots := #[.int 0, .int 8, .int 0, .int 1], vm := .statics 20 },
  { cls := 14, slots := #[.null, .null, .null], vm := .none }]
def classes : Array Class := #[k0, k1, k2, k3, k4, k5, k6, k7, k8, k9, k10, k11, k12, k13, k14, k15, k16, k17, k18, k19, k20, k21, k22, k23, k24, k25, k26, k27, k28, k29, k30]
def interned : List (Array UInt16 × Addr) := []
def slotsUsed : Nat := 25
def theMethod : MethodId := ⟨1, 1⟩
def args0 : Array Value := #[.int 1, .int 2, .int 3, .int 4]
def aboutOver (below : List Frame) : State where
  vm := { classes := classes, interned := interned.toArray }
  heap := heap
  slotsUsed := slotsUsed
  threads := #[{ frames := .invoking theMethod args0 :: below }]
def below0 : List Frame := [.native { method := ⟨0, 0⟩, args := #[] }]
def about1 : State := aboutOver below0
def p0 : Program := .bare "" "" ""
def e0 : Env := launch0.env 0 0 0
theorem w_frames : about1.frames = Frame.invoking theMethod args0 :: below0 := rfl
set_option maxRecDepth 65536 in
theorem w_args : argsFit about1.vm theMethod args0 = true := by decide +kernel
set_option maxRecDepth 65536 in
theorem w_heap : heapFits about1 = true := by decide +kernel
set_option maxRecDepth 65536 in
theorem w_runnable : about1.curStatus? = some .runnable := by decide +kernel
set_option maxRecDepth 65536 in
theorem w_alone : about1.alone = true := by decide +kernel
set_option maxRecDepth 65536 in
theorem w_named : about1.methodNamed? x = some theMethod := by decide +kernel
set_option maxRecDepth 65536 in
theorem w_hears : about1.hears theMethod below0 = true := by decide +kernel
set_option maxRecDepth 65536 in
theorem w_ripe : about1.ripe theMethod args0 below0 = true := by decide +kernel
theorem w_running : about1.status = .running := rfl
set_option maxRecDepth 65536 in
theorem w_room : about1.hasRoom e0.platform room_1 = true :=
  launch0.hasRoom_least _ room_1 (by decide +kernel) (by decide +kernel) (by decide +kernel) (by decide +kernel) (by decide +kernel) (by decide +kernel)
theorem allAtoms_all (ts : List Jvm.Cond) (a : Array Jvm.Value) (st : Jvm.State) : (allAtoms ts).before a st = ts.all (fun c => c.before a st) := by
  induction ts with
  | nil => rfl
  | cons c t ih =>
    show (Jvm.Cond.and c (allAtoms t)).before a st = _
    rw [Jvm.Cond.before_and, ih, List.all_cons]
def words1 : List Jvm.Cond := Jvm.Cond.code x code maxLocals ret :: tables_1
/-- a 'code' word, met by the world's own term for the bytes: nothing is compared byte by byte -/
theorem code_word {y : MethodName} {bytes : ByteArray} {mx : Nat} {rt : Option FieldType} {a : Array Value} {s : State} {m : MethodId} {meth : Method} {c : Code} (h1 : s.methodNamed? y = some m) (h2 : s.vm.method? m = some meth) (h3 : meth.code = some c) (h4 : c.code = bytes)
    (h5 : (c.maxLocals == mx && c.exceptionTable.isEmpty && decide (c.maxStack ≤ mostOperands) && decide (meth.sig.returnType = rt) && !meth.locks && decide (parseMethodDescriptor y.desc = some meth.sig)) = true) : (Jvm.Cond.code y bytes mx rt).before a s = true := by
  simp only [Bool.and_eq_true, beq_iff_eq, Bool.not_eq_true', decide_eq_true_eq] at h5
  obtain ⟨⟨⟨⟨⟨g1, g2⟩, g3⟩, g4⟩, g5⟩, g6⟩ := h5
  simp [Cond.before, Cond.holds, Cond.value, h1, h2, h3, h4, g1, g2, g3, g4, g5, g6]
def isCode : Jvm.Cond → Bool
  | .code _ _ _ _ => true
  | _ => false
theorem all_split {L : List Jvm.Cond} {P : Jvm.Cond → Bool} (h1 : L.all (fun c => isCode c || P c) = true) (h2 : ∀ c ∈ L.filter isCode, P c = true) : L.all P = true := by
  refine List.all_eq_true.mpr fun c hc => ?_
  have h := List.all_eq_true.mp h1 c hc
  rcases Bool.eq_false_or_eq_true (isCode c) with hi | hi
  · exact h2 c (List.mem_filter.mpr ⟨hc, hi⟩)
  · simpa [hi] using h
set_option maxRecDepth 65536 in
theorem w_c0 : (Jvm.Cond.code x code maxLocals ret).before args0 about1 = true := code_word (m := ⟨1, 1⟩) (meth := k1m1) (c := k1c1) (by decide +kernel) rfl rfl rfl (by decide +kernel)
set_option maxRecDepth 65536 in
theorem w_c1 : (Jvm.Cond.code ({ cls := "com/example/dyadloom/dyadloom/core/TripletRowIdPinLaw", name := "cp", desc := "(I)I" } : Jvm.MethodName) method_3_code (3 : Nat) (Option.some Jvm.ClassFile.FieldType.int)).before args0 about1 = true := code_word (m := ⟨1, 2⟩) (meth := k1m2) (c := k1c2) (by decide +kernel) rfl rfl rfl (by decide +kernel)
set_option maxRecDepth 65536 in
theorem w_c2 : (Jvm.Cond.code ({ cls := "com/example/dyadloom/dyadloom/core/TripletRowIdPinLaw", name := "put", desc := "([BII)I" } : Jvm.MethodName) method_4_code (3 : Nat) (Option.some Jvm.ClassFile.FieldType.int)).before args0 about1 = true := code_word (m := ⟨1, 3⟩) (meth := k1m3) (c := k1c3) (by decide +kernel) rfl rfl rfl (by decide +kernel)
set_option maxRecDepth 65536 in
theorem w_c3 : (Jvm.Cond.code ({ cls := "com/example/dyadloom/dyadloom/core/TripletRowIdPinLaw", name := "chars", desc := "([CII)I" } : Jvm.MethodName) method_5_code (4 : Nat) (Option.some Jvm.ClassFile.FieldType.int)).before args0 about1 = true := code_word (m := ⟨1, 4⟩) (meth := k1m4) (c := k1c4) (by decide +kernel) rfl rfl rfl (by decide +kernel)
set_option maxRecDepth 65536 in
theorem w_c4 : (Jvm.Cond.code ({ cls := "com/example/dyadloom/dyadloom/core/TripletReader$Triplet", name := "<init>", desc := "()V" } : Jvm.MethodName) prog_33_method_1_code (1 : Nat) (Option.none : Option Jvm.ClassFile.FieldType)).before args0 about1 = true := code_word (m := ⟨2, 0⟩) (meth := k2m0) (c := k2c0) (by decide +kernel) rfl rfl rfl (by decide +kernel)
set_option maxRecDepth 65536 in
theorem w_c5 : (Jvm.Cond.code ({ cls := "java/lang/Object", name := "<init>", desc := "()V" } : Jvm.MethodName) object_method_1_code (1 : Nat) (Option.none : Option Jvm.ClassFile.FieldType)).before args0 about1 = true := code_word (m := ⟨0, 0⟩) (meth := k0m0) (c := k0c0) (by decide +kernel) rfl rfl rfl (by decide +kernel)
set_option maxRecDepth 65536 in
theorem w_c6 : (Jvm.Cond.code ({ cls := "com/example/dyadloom/dyadloom/core/TripletReader$Triplet", name := "rowId", desc := "()Ljava/lang/String;" } : Jvm.MethodName) prog_33_method_2_code (1 : Nat) (Option.some (Jvm.ClassFile.FieldType.object "java/lang/String"))).before args0 about1 = true := code_word (m := ⟨2, 1⟩) (meth := k2m1) (c := k2c1) (by decide +kernel) rfl rfl rfl (by decide +kernel)
set_option maxRecDepth 65536 in
theorem w_c7 : (Jvm.Cond.code ({ cls := "java/lang/String", name := "<init>", desc := "([BIILjava/nio/charset/Charset;)V" } : Jvm.MethodName) jdk_42_method_10_code (5 : Nat) (Option.none : Option Jvm.ClassFile.FieldType)).before args0 about1 = true := code_word (m := ⟨8, 1⟩) (meth := k8m1) (c := k8c1) (by decide +kernel) rfl rfl rfl (by decide +kernel)
set_option maxRecDepth 65536 in
theorem w_c8 : (Jvm.Cond.code ({ cls := "java/util/Objects", name := "requireNonNull", desc := "(Ljava/lang/Object;)Ljava/lang/Object;" } : Jvm.MethodName) jdk_31_method_10_code (1 : Nat) (Option.some (Jvm.ClassFile.FieldType.object "java/lang/Object"))).before args0 about1 = true := code_word (m := ⟨10, 1⟩) (meth := k10m1) (c := k10c1) (by decide +kernel) rfl rfl rfl (by decide +kernel)
set_option maxRecDepth 65536 in
theorem w_c9 : (Jvm.Cond.code ({ cls := "java/lang/String", name := "checkBoundsOffCount", desc := "(III)I" } : Jvm.MethodName) jdk_42_method_157_code (3 : Nat) (Option.some Jvm.ClassFile.FieldType.int)).before args0 about1 = true := code_word (m := ⟨8, 15⟩) (meth := k8m15) (c := k8c15) (by decide +kernel) rfl rfl rfl (by decide +kernel)
set_option maxRecDepth 65536 in
theorem w_c10 : (Jvm.Cond.code ({ cls := "jdk/internal/util/Preconditions", name := "checkFromIndexSize", desc := "(IIILjava/util/function/BiFunction;)I" } : Jvm.MethodName) jdk_41_method_13_code (4 : Nat) (Option.some Jvm.ClassFile.FieldType.int)).before args0 about1 = true := code_word (m := ⟨15, 2⟩) (meth := k15m2) (c := k15c2) (by decide +kernel) rfl rfl rfl (by decide +kernel)
set_option maxRecDepth 65536 in
theorem w_c11 : (Jvm.Cond.code ({ cls := "java/lang/StringCoding", name := "countPositives", desc := "([BII)I" } : Jvm.MethodName) jdk_123_method_3_code (5 : Nat) (Option.some Jvm.ClassFile.FieldType.int)).before args0 about1 = true := code_word (m := ⟨16, 1⟩) (meth := k16m1) (c := k16c1) (by decide +kernel) rfl rfl rfl (by decide +kernel)
set_option maxRecDepth 65536 in
theorem w_c12 : (Jvm.Cond.code ({ cls := "java/util/Arrays", name := "copyOfRange", desc := "([BII)[B" } : Jvm.MethodName) jdk_65_method_132_code (3 : Nat) (Option.some (Jvm.ClassFile.FieldType.array Jvm.ClassFile.FieldType.byte))).before args0 about1 = true := code_word (m := ⟨17, 3⟩) (meth := k17m3) (c := k17c3) (by decide +kernel) rfl rfl rfl (by decide +kernel)
set_option maxRecDepth 65536 in
theorem w_c13 : (Jvm.Cond.code ({ cls := "java/util/Arrays", name := "copyOfRangeByte", desc := "([BII)[B" } : Jvm.MethodName) jdk_65_method_133_code (5 : Nat) (Option.some (Jvm.ClassFile.FieldType.array Jvm.ClassFile.FieldType.byte))).before args0 about1 = true := code_word (m := ⟨17, 4⟩) (meth := k17m4) (c := k17c4) (by decide +kernel) rfl rfl rfl (by decide +kernel)
set_option maxRecDepth 65536 in
theorem w_c14 : (Jvm.Cond.code ({ cls := "java/util/Arrays", name := "checkLength", desc := "(II)V" } : Jvm.MethodName) jdk_65_method_131_code (2 : Nat) (Option.none : Option Jvm.ClassFile.FieldType)).before args0 about1 = true := code_word (m := ⟨17, 2⟩) (meth := k17m2) (c := k17c2) (by decide +kernel) rfl rfl rfl (by decide +kernel)
set_option maxRecDepth 65536 in
theorem w_c15 : (Jvm.Cond.code ({ cls := "java/lang/Math", name := "min", desc := "(II)I" } : Jvm.MethodName) jdk_29_method_69_code (2 : Nat) (Option.some Jvm.ClassFile.FieldType.int)).before args0 about1 = true := code_word (m := ⟨18, 1⟩) (meth := k18m1) (c := k18c1) (by decide +kernel) rfl rfl rfl (by decide +kernel)
set_option maxRecDepth 65536 in
theorem w_c16 : (Jvm.Cond.code ({ cls := "java/lang/StringUTF16", name := "newBytesFor", desc := "(I)[B" } : Jvm.MethodName) jdk_52_method_2_code (1 : Nat) (Option.some (Jvm.ClassFile.FieldType.array Jvm.ClassFile.FieldType.byte))).before args0 about1 = true := code_word (m := ⟨20, 1⟩) (meth := k20m1) (c := k20c1) (by decide +kernel) rfl rfl rfl (by decide +kernel)
set_option maxRecDepth 65536 in
theorem w_c17 : (Jvm.Cond.code ({ cls := "java/lang/StringUTF16", name := "newBytesLength", desc := "(I)I" } : Jvm.MethodName) jdk_52_method_3_code (1 : Nat) (Option.some Jvm.ClassFile.FieldType.int)).before args0 about1 = true := code_word (m := ⟨20, 2⟩) (meth := k20m2) (c := k20c2) (by decide +kernel) rfl rfl rfl (by decide +kernel)
set_option maxRecDepth 65536 in
theorem w_c18 : (Jvm.Cond.code ({ cls := "java/lang/StringLatin1", name := "inflate", desc := "([BI[BII)V" } : Jvm.MethodName) jdk_43_method_50_code (5 : Nat) (Option.none : Option Jvm.ClassFile.FieldType)).before args0 about1 = true := code_word (m := ⟨21, 2⟩) (meth := k21m2) (c := k21c2) (by decide +kernel) rfl rfl rfl (by decide +kernel)
set_option maxRecDepth 65536 in
theorem w_c19 : (Jvm.Cond.code ({ cls := "java/lang/StringUTF16", name := "inflate", desc := "([BI[BII)V" } : Jvm.MethodName) jdk_52_method_86_code (6 : Nat) (Option.none : Option Jvm.ClassFile.FieldType)).before args0 about1 = true := code_word (m := ⟨20, 7⟩) (meth := k20m7) (c := k20c7) (by decide +kernel) rfl rfl rfl (by decide +kernel)
set_option maxRecDepth 65536 in
theorem w_c20 : (Jvm.Cond.code ({ cls := "java/lang/StringUTF16", name := "checkBoundsOffCount", desc := "(II[B)V" } : Jvm.MethodName) jdk_52_method_94_code (3 : Nat) (Option.none : Option Jvm.ClassFile.FieldType)).before args0 about1 = true := code_word (m := ⟨20, 9⟩) (meth := k20m9) (c := k20c9) (by decide +kernel) rfl rfl rfl (by decide +kernel)
set_option maxRecDepth 65536 in
theorem w_c21 : (Jvm.Cond.code ({ cls := "java/lang/StringUTF16", name := "length", desc := "([B)I" } : Jvm.MethodName) jdk_52_method_6_code (1 : Nat) (Option.some Jvm.ClassFile.FieldType.int)).before args0 about1 = true := code_word (m := ⟨20, 5⟩) (meth := k20m5) (c := k20c5) (by decide +kernel) rfl rfl rfl (by decide +kernel)
set_option maxRecDepth 65536 in
theorem w_c22 : (Jvm.Cond.code ({ cls := "java/lang/StringUTF16", name := "putChar", desc := "([BII)V" } : Jvm.MethodName) jdk_52_method_4_code (3 : Nat) (Option.none : Option Jvm.ClassFile.FieldType)).before args0 about1 = true := code_word (m := ⟨20, 3⟩) (meth := k20m3) (c := k20c3) (by decide +kernel) rfl rfl rfl (by decide +kernel)
set_option maxRecDepth 65536 in
theorem w_c23 : (Jvm.Cond.code ({ cls := "java/lang/String", name := "decodeUTF8_UTF16", desc := "([BII[BIZ)I" } : Jvm.MethodName) jdk_42_method_38_code (11 : Nat) (Option.some Jvm.ClassFile.FieldType.int)).before args0 about1 = true := code_word (m := ⟨8, 9⟩) (meth := k8m9) (c := k8c9) (by decide +kernel) rfl rfl rfl (by decide +kernel)
set_option maxRecDepth 65536 in
theorem w_c24 : (Jvm.Cond.code ({ cls := "java/lang/String", name := "isMalformed3", desc := "(III)Z" } : Jvm.MethodName) jdk_42_method_30_code (3 : Nat) (Option.some Jvm.ClassFile.FieldType.boolean)).before args0 about1 = true := code_word (m := ⟨8, 4⟩) (meth := k8m4) (c := k8c4) (by decide +kernel) rfl rfl rfl (by decide +kernel)
set_option maxRecDepth 65536 in
theorem w_c25 : (Jvm.Cond.code ({ cls := "java/lang/String", name := "decode3", desc := "(III)C" } : Jvm.MethodName) jdk_42_method_36_code (3 : Nat) (Option.some Jvm.ClassFile.FieldType.char)).before args0 about1 = true := code_word (m := ⟨8, 7⟩) (meth := k8m7) (c := k8c7) (by decide +kernel) rfl rfl rfl (by decide +kernel)
set_option maxRecDepth 65536 in
theorem w_c26 : (Jvm.Cond.code ({ cls := "java/lang/Character", name := "isSurrogate", desc := "(C)Z" } : Jvm.MethodName) jdk_89_method_16_code (1 : Nat) (Option.some Jvm.ClassFile.FieldType.boolean)).before args0 about1 = true := code_word (m := ⟨22, 1⟩) (meth := k22m1) (c := k22c1) (by decide +kernel) rfl rfl rfl (by decide +kernel)
set_option maxRecDepth 65536 in
theorem w_c27 : (Jvm.Cond.code ({ cls := "java/util/Arrays", name := "copyOf", desc := "([BI)[B" } : Jvm.MethodName) jdk_65_method_121_code (3 : Nat) (Option.some (Jvm.ClassFile.FieldType.array Jvm.ClassFile.FieldType.byte))).before args0 about1 = true := code_word (m := ⟨17, 1⟩) (meth := k17m1) (c := k17c1) (by decide +kernel) rfl rfl rfl (by decide +kernel)
set_option maxRecDepth 65536 in
theorem w_c28 : (Jvm.Cond.code ({ cls := "java/lang/String", name := "length", desc := "()I" } : Jvm.MethodName) jdk_42_method_54_code (1 : Nat) (Option.some Jvm.ClassFile.FieldType.int)).before args0 about1 = true := code_word (m := ⟨8, 10⟩) (meth := k8m10) (c := k8c10) (by decide +kernel) rfl rfl rfl (by decide +kernel)
set_option maxRecDepth 65536 in
theorem w_c29 : (Jvm.Cond.code ({ cls := "java/lang/String", name := "coder", desc := "()B" } : Jvm.MethodName) jdk_42_method_152_code (1 : Nat) (Option.some Jvm.ClassFile.FieldType.byte)).before args0 about1 = true := code_word (m := ⟨8, 12⟩) (meth := k8m12) (c := k8c12) (by decide +kernel) rfl rfl rfl (by decide +kernel)
set_option maxRecDepth 65536 in
theorem w_c30 : (Jvm.Cond.code ({ cls := "java/lang/String", name := "charAt", desc := "(I)C" } : Jvm.MethodName) jdk_42_method_56_code (2 : Nat) (Option.some Jvm.ClassFile.FieldType.char)).before args0 about1 = true := code_word (m := ⟨8, 11⟩) (meth := k8m11) (c := k8c11) (by decide +kernel) rfl rfl rfl (by decide +kernel)
set_option maxRecDepth 65536 in
theorem w_c31 : (Jvm.Cond.code ({ cls := "java/lang/String", name := "isLatin1", desc := "()Z" } : Jvm.MethodName) jdk_42_method_154_code (1 : Nat) (Option.some Jvm.ClassFile.FieldType.boolean)).before args0 about1 = true := code_word (m := ⟨8, 13⟩) (meth := k8m13) (c := k8c13) (by decide +kernel) rfl rfl rfl (by decide +kernel)
set_option maxRecDepth 65536 in
theorem w_c32 : (Jvm.Cond.code ({ cls := "java/lang/StringUTF16", name := "charAt", desc := "([BI)C" } : Jvm.MethodName) jdk_52_method_83_code (2 : Nat) (Option.some Jvm.ClassFile.FieldType.char)).before args0 about1 = true := code_word (m := ⟨20, 6⟩) (meth := k20m6) (c := k20c6) (by decide +kernel) rfl rfl rfl (by decide +kernel)
set_option maxRecDepth 65536 in
theorem w_c33 : (Jvm.Cond.code ({ cls := "java/lang/StringUTF16", name := "checkIndex", desc := "(I[B)V" } : Jvm.MethodName) jdk_52_method_91_code (2 : Nat) (Option.none : Option Jvm.ClassFile.FieldType)).before args0 about1 = true := code_word (m := ⟨20, 8⟩) (meth := k20m8) (c := k20c8) (by decide +kernel) rfl rfl rfl (by decide +kernel)
set_option maxRecDepth 65536 in
theorem w_c34 : (Jvm.Cond.code ({ cls := "java/lang/String", name := "checkIndex", desc := "(II)V" } : Jvm.MethodName) jdk_42_method_155_code (2 : Nat) (Option.none : Option Jvm.ClassFile.FieldType)).before args0 about1 = true := code_word (m := ⟨8, 14⟩) (meth := k8m14) (c := k8c14) (by decide +kernel) rfl rfl rfl (by decide +kernel)
set_option maxRecDepth 65536 in
theorem w_c35 : (Jvm.Cond.code ({ cls := "jdk/internal/util/Preconditions", name := "checkIndex", desc := "(IILjava/util/function/BiFunction;)I" } : Jvm.MethodName) jdk_41_method_11_code (3 : Nat) (Option.some Jvm.ClassFile.FieldType.int)).before args0 about1 = true := code_word (m := ⟨15, 1⟩) (meth := k15m1) (c := k15c1) (by decide +kernel) rfl rfl rfl (by decide +kernel)
set_option maxRecDepth 65536 in
theorem w_c36 : (Jvm.Cond.code ({ cls := "java/lang/StringUTF16", name := "getChar", desc := "([BI)C" } : Jvm.MethodName) jdk_52_method_5_code (2 : Nat) (Option.some Jvm.ClassFile.FieldType.char)).before args0 about1 = true := code_word (m := ⟨20, 4⟩) (meth := k20m4) (c := k20c4) (by decide +kernel) rfl rfl rfl (by decide +kernel)
set_option maxRecDepth 65536 in
theorem w_c37 : (Jvm.Cond.code ({ cls := "java/lang/String", name := "decode4", desc := "(IIII)I" } : Jvm.MethodName) jdk_42_method_37_code (4 : Nat) (Option.some Jvm.ClassFile.FieldType.int)).before args0 about1 = true := code_word (m := ⟨8, 8⟩) (meth := k8m8) (c := k8c8) (by decide +kernel) rfl rfl rfl (by decide +kernel)
set_option maxRecDepth 65536 in
theorem w_c38 : (Jvm.Cond.code ({ cls := "java/lang/String", name := "isMalformed4", desc := "(III)Z" } : Jvm.MethodName) jdk_42_method_32_code (3 : Nat) (Option.some Jvm.ClassFile.FieldType.boolean)).before args0 about1 = true := code_word (m := ⟨8, 5⟩) (meth := k8m5) (c := k8c5) (by decide +kernel) rfl rfl rfl (by decide +kernel)
set_option maxRecDepth 65536 in
theorem w_c39 : (Jvm.Cond.code ({ cls := "java/lang/Character", name := "isSupplementaryCodePoint", desc := "(I)Z" } : Jvm.MethodName) jdk_89_method_13_code (1 : Nat) (Option.some Jvm.ClassFile.FieldType.boolean)).before args0 about1 = true := code_word (m := ⟨22, 0⟩) (meth := k22m0) (c := k22c0) (by decide +kernel) rfl rfl rfl (by decide +kernel)
set_option maxRecDepth 65536 in
theorem w_c40 : (Jvm.Cond.code ({ cls := "java/lang/Character", name := "highSurrogate", desc := "(I)C" } : Jvm.MethodName) jdk_89_method_28_code (1 : Nat) (Option.some Jvm.ClassFile.FieldType.char)).before args0 about1 = true := code_word (m := ⟨22, 2⟩) (meth := k22m2) (c := k22c2) (by decide +kernel) rfl rfl rfl (by decide +kernel)
set_option maxRecDepth 65536 in
theorem w_c41 : (Jvm.Cond.code ({ cls := "java/lang/Character", name := "lowSurrogate", desc := "(I)C" } : Jvm.MethodName) jdk_89_method_29_code (1 : Nat) (Option.some Jvm.ClassFile.FieldType.char)).before args0 about1 = true := code_word (m := ⟨22, 3⟩) (meth := k22m3) (c := k22c3) (by decide +kernel) rfl rfl rfl (by decide +kernel)
set_option maxRecDepth 65536 in
theorem w_c42 : (Jvm.Cond.code ({ cls := "java/lang/String", name := "decode2", desc := "(II)C" } : Jvm.MethodName) jdk_42_method_35_code (2 : Nat) (Option.some Jvm.ClassFile.FieldType.char)).before args0 about1 = true := code_word (m := ⟨8, 6⟩) (meth := k8m6) (c := k8c6) (by decide +kernel) rfl rfl rfl (by decide +kernel)
set_option maxRecDepth 65536 in
theorem w_c43 : (Jvm.Cond.code ({ cls := "java/lang/StringLatin1", name := "charAt", desc := "([BI)C" } : Jvm.MethodName) jdk_43_method_2_code (2 : Nat) (Option.some Jvm.ClassFile.FieldType.char)).before args0 about1 = true := code_word (m := ⟨21, 1⟩) (meth := k21m1) (c := k21c1) (by decide +kernel) rfl rfl rfl (by decide +kernel)
set_option maxRecDepth 65536 in
theorem w_c44 : (Jvm.Cond.code ({ cls := "java/lang/String", name := "isNotContinuation", desc := "(I)Z" } : Jvm.MethodName) jdk_42_method_29_code (1 : Nat) (Option.some Jvm.ClassFile.FieldType.boolean)).before args0 about1 = true := code_word (m := ⟨8, 3⟩) (meth := k8m3) (c := k8c3) (by decide +kernel) rfl rfl rfl (by decide +kernel)
def codes1 : List Jvm.Cond := [Jvm.Cond.code x code maxLocals ret, Jvm.Cond.code ({ cls := "com/example/dyadloom/dyadloom/core/TripletRowIdPinLaw", name := "cp", desc := "(I)I" } : Jvm.MethodName) method_3_code (3 : Nat) (Option.some Jvm.ClassFile.FieldType.int), Jvm.Cond.code ({ cls := "com/example/dyadloom/dyadloom/core/TripletRowIdPinLaw", name := "put", desc := "([BII)I" } : Jvm.MethodName) method_4_code (3 : Nat) (Option.some Jvm.ClassFile.FieldType.int), Jvm.Cond.code ({ cls := "com/example/dyadloom/dyadloom/core/TripletRowIdPinLaw", name := "chars", desc := "([CII)I" } : Jvm.MethodName) method_5_code (4 : Nat) (Option.some Jvm.ClassFile.FieldType.int), Jvm.Cond.code ({ cls := "com/example/dyadloom/dyadloom/core/TripletReader$Triplet", name := "<init>", desc := "()V" } : Jvm.MethodName) prog_33_method_1_code (1 : Nat) (Option.none : Option Jvm.ClassFile.FieldType), Jvm.Cond.code ({ cls := "java/lang/Object", name := "<init>", desc := "()V" } : Jvm.MethodName) object_method_1_code (1 : Nat) (Option.none : Option Jvm.ClassFile.FieldType), Jvm.Cond.code ({ cls := "com/example/dyadloom/dyadloom/core/TripletReader$Triplet", name := "rowId", desc := "()Ljava/lang/String;" } : Jvm.MethodName) prog_33_method_2_code (1 : Nat) (Option.some (Jvm.ClassFile.FieldType.object "java/lang/String")), Jvm.Cond.code ({ cls := "java/lang/String", name := "<init>", desc := "([BIILjava/nio/charset/Charset;)V" } : Jvm.MethodName) jdk_42_method_10_code (5 : Nat) (Option.none : Option Jvm.ClassFile.FieldType), Jvm.Cond.code ({ cls := "java/util/Objects", name := "requireNonNull", desc := "(Ljava/lang/Object;)Ljava/lang/Object;" } : Jvm.MethodName) jdk_31_method_10_code (1 : Nat) (Option.some (Jvm.ClassFile.FieldType.object "java/lang/Object")), Jvm.Cond.code ({ cls := "java/lang/String", name := "checkBoundsOffCount", desc := "(III)I" } : Jvm.MethodName) jdk_42_method_157_code (3 : Nat) (Option.some Jvm.ClassFile.FieldType.int), Jvm.Cond.code ({ cls := "jdk/internal/util/Preconditions", name := "checkFromIndexSize", desc := "(IIILjava/util/function/BiFunction;)I" } : Jvm.MethodName) jdk_41_method_13_code (4 : Nat) (Option.some Jvm.ClassFile.FieldType.int), Jvm.Cond.code ({ cls := "java/lang/StringCoding", name := "countPositives", desc := "([BII)I" } : Jvm.MethodName) jdk_123_method_3_code (5 : Nat) (Option.some Jvm.ClassFile.FieldType.int), Jvm.Cond.code ({ cls := "java/util/Arrays", name := "copyOfRange", desc := "([BII)[B" } : Jvm.MethodName) jdk_65_method_132_code (3 : Nat) (Option.some (Jvm.ClassFile.FieldType.array Jvm.ClassFile.FieldType.byte)), Jvm.Cond.code ({ cls := "java/util/Arrays", name := "copyOfRangeByte", desc := "([BII)[B" } : Jvm.MethodName) jdk_65_method_133_code (5 : Nat) (Option.some (Jvm.ClassFile.FieldType.array Jvm.ClassFile.FieldType.byte)), Jvm.Cond.code ({ cls := "java/util/Arrays", name := "checkLength", desc := "(II)V" } : Jvm.MethodName) jdk_65_method_131_code (2 : Nat) (Option.none : Option Jvm.ClassFile.FieldType), Jvm.Cond.code ({ cls := "java/lang/Math", name := "min", desc := "(II)I" } : Jvm.MethodName) jdk_29_method_69_code (2 : Nat) (Option.some Jvm.ClassFile.FieldType.int), Jvm.Cond.code ({ cls := "java/lang/StringUTF16", name := "newBytesFor", desc := "(I)[B" } : Jvm.MethodName) jdk_52_method_2_code (1 : Nat) (Option.some (Jvm.ClassFile.FieldType.array Jvm.ClassFile.FieldType.byte)), Jvm.Cond.code ({ cls := "java/lang/StringUTF16", name := "newBytesLength", desc := "(I)I" } : Jvm.MethodName) jdk_52_method_3_code (1 : Nat) (Option.some Jvm.ClassFile.FieldType.int), Jvm.Cond.code ({ cls := "java/lang/StringLatin1", name := "inflate", desc := "([BI[BII)V" } : Jvm.MethodName) jdk_43_method_50_code (5 : Nat) (Option.none : Option Jvm.ClassFile.FieldType), Jvm.Cond.code ({ cls := "java/lang/StringUTF16", name := "inflate", desc := "([BI[BII)V" } : Jvm.MethodName) jdk_52_method_86_code (6 : Nat) (Option.none : Option Jvm.ClassFile.FieldType), Jvm.Cond.code ({ cls := "java/lang/StringUTF16", name := "checkBoundsOffCount", desc := "(II[B)V" } : Jvm.MethodName) jdk_52_method_94_code (3 : Nat) (Option.none : Option Jvm.ClassFile.FieldType), Jvm.Cond.code ({ cls := "java/lang/StringUTF16", name := "length", desc := "([B)I" } : Jvm.MethodName) jdk_52_method_6_code (1 : Nat) (Option.some Jvm.ClassFile.FieldType.int), Jvm.Cond.code ({ cls := "java/lang/StringUTF16", name := "putChar", desc := "([BII)V" } : Jvm.MethodName) jdk_52_method_4_code (3 : Nat) (Option.none : Option Jvm.ClassFile.FieldType), Jvm.Cond.code ({ cls := "java/lang/String", name := "decodeUTF8_UTF16", desc := "([BII[BIZ)I" } : Jvm.MethodName) jdk_42_method_38_code (11 : Nat) (Option.some Jvm.ClassFile.FieldType.int), Jvm.Cond.code ({ cls := "java/lang/String", name := "isMalformed3", desc := "(III)Z" } : Jvm.MethodName) jdk_42_method_30_code (3 : Nat) (Option.some Jvm.ClassFile.FieldType.boolean), Jvm.Cond.code ({ cls := "java/lang/String", name := "decode3", desc := "(III)C" } : Jvm.MethodName) jdk_42_method_36_code (3 : Nat) (Option.some Jvm.ClassFile.FieldType.char), Jvm.Cond.code ({ cls := "java/lang/Character", name := "isSurrogate", desc := "(C)Z" } : Jvm.MethodName) jdk_89_method_16_code (1 : Nat) (Option.some Jvm.ClassFile.FieldType.boolean), Jvm.Cond.code ({ cls := "java/util/Arrays", name := "copyOf", desc := "([BI)[B" } : Jvm.MethodName) jdk_65_method_121_code (3 : Nat) (Option.some (Jvm.ClassFile.FieldType.array Jvm.ClassFile.FieldType.byte)), Jvm.Cond.code ({ cls := "java/lang/String", name := "length", desc := "()I" } : Jvm.MethodName) jdk_42_method_54_code (1 : Nat) (Option.some Jvm.ClassFile.FieldType.int), Jvm.Cond.code ({ cls := "java/lang/String", name := "coder", desc := "()B" } : Jvm.MethodName) jdk_42_method_152_code (1 : Nat) (Option.some Jvm.ClassFile.FieldType.byte), Jvm.Cond.code ({ cls := "java/lang/String", name := "charAt", desc := "(I)C" } : Jvm.MethodName) jdk_42_method_56_code (2 : Nat) (Option.some Jvm.ClassFile.FieldType.char), Jvm.Cond.code ({ cls := "java/lang/String", name := "isLatin1", desc := "()Z" } : Jvm.MethodName) jdk_42_method_154_code (1 : Nat) (Option.some Jvm.ClassFile.FieldType.boolean), Jvm.Cond.code ({ cls := "java/lang/StringUTF16", name := "charAt", desc := "([BI)C" } : Jvm.MethodName) jdk_52_method_83_code (2 : Nat) (Option.some Jvm.ClassFile.FieldType.char), Jvm.Cond.code ({ cls := "java/lang/StringUTF16", name := "checkIndex", desc := "(I[B)V" } : Jvm.MethodName) jdk_52_method_91_code (2 : Nat) (Option.none : Option Jvm.ClassFile.FieldType), Jvm.Cond.code ({ cls := "java/lang/String", name := "checkIndex", desc := "(II)V" } : Jvm.MethodName) jdk_42_method_155_code (2 : Nat) (Option.none : Option Jvm.ClassFile.FieldType), Jvm.Cond.code ({ cls := "jdk/internal/util/Preconditions", name := "checkIndex", desc := "(IILjava/util/function/BiFunction;)I" } : Jvm.MethodName) jdk_41_method_11_code (3 : Nat) (Option.some Jvm.ClassFile.FieldType.int), Jvm.Cond.code ({ cls := "java/lang/StringUTF16", name := "getChar", desc := "([BI)C" } : Jvm.MethodName) jdk_52_method_5_code (2 : Nat) (Option.some Jvm.ClassFile.FieldType.char), Jvm.Cond.code ({ cls := "java/lang/String", name := "decode4", desc := "(IIII)I" } : Jvm.MethodName) jdk_42_method_37_code (4 : Nat) (Option.some Jvm.ClassFile.FieldType.int), Jvm.Cond.code ({ cls := "java/lang/String", name := "isMalformed4", desc := "(III)Z" } : Jvm.MethodName) jdk_42_method_32_code (3 : Nat) (Option.some Jvm.ClassFile.FieldType.boolean), Jvm.Cond.code ({ cls := "java/lang/Character", name := "isSupplementaryCodePoint", desc := "(I)Z" } : Jvm.MethodName) jdk_89_method_13_code (1 : Nat) (Option.some Jvm.ClassFile.FieldType.boolean), Jvm.Cond.code ({ cls := "java/lang/Character", name := "highSurrogate", desc := "(I)C" } : Jvm.MethodName) jdk_89_method_28_code (1 : Nat) (Option.some Jvm.ClassFile.FieldType.char), Jvm.Cond.code ({ cls := "java/lang/Character", name := "lowSurrogate", desc := "(I)C" } : Jvm.MethodName) jdk_89_method_29_code (1 : Nat) (Option.some Jvm.ClassFile.FieldType.char), Jvm.Cond.code ({ cls := "java/lang/String", name := "decode2", desc := "(II)C" } : Jvm.MethodName) jdk_42_method_35_code (2 : Nat) (Option.some Jvm.ClassFile.FieldType.char), Jvm.Cond.code ({ cls := "java/lang/StringLatin1", name := "charAt", desc := "([BI)C" } : Jvm.MethodName) jdk_43_method_2_code (2 : Nat) (Option.some Jvm.ClassFile.FieldType.char), Jvm.Cond.code ({ cls := "java/lang/String", name := "isNotContinuation", desc := "(I)Z" } : Jvm.MethodName) jdk_42_method_29_code (1 : Nat) (Option.some Jvm.ClassFile.FieldType.boolean)]
set_option maxRecDepth 65536 in
theorem codes_eq : words1.filter isCode = codes1 := rfl
theorem w_codes : ∀ c ∈ words1.filter isCode, c.before args0 about1 = true := by
  rw [codes_eq]
  intro c hc
  simp only [codes1, List.mem_cons, List.not_mem_nil, or_false] at hc
  rcases hc with rfl | rfl | rfl | rfl | rfl | rfl | rfl | rfl | rfl | rfl | rfl | rfl | rfl | rfl | rfl | rfl | rfl | rfl | rfl | rfl | rfl | rfl | rfl | rfl | rfl | rfl | rfl | rfl | rfl | rfl | rfl | rfl | rfl | rfl | rfl | rfl | rfl | rfl | rfl | rfl | rfl | rfl | rfl | rfl | rfl
  · exact w_c0
  · exact w_c1
  · exact w_c2
  · exact w_c3
  · exact w_c4
  · exact w_c5
  · exact w_c6
  · exact w_c7
  · exact w_c8
  · exact w_c9
  · exact w_c10
  · exact w_c11
  · exact w_c12
  · exact w_c13
  · exact w_c14
  · exact w_c15
  · exact w_c16
  · exact w_c17
  · exact w_c18
  · exact w_c19
  · exact w_c20
  · exact w_c21
  · exact w_c22
  · exact w_c23
  · exact w_c24
  · exact w_c25
  · exact w_c26
  · exact w_c27
  · exact w_c28
  · exact w_c29
  · exact w_c30
  · exact w_c31
  · exact w_c32
  · exact w_c33
  · exact w_c34
  · exact w_c35
  · exact w_c36
  · exact w_c37
  · exact w_c38
  · exact w_c39
  · exact w_c40
  · exact w_c41
  · exact w_c42
  · exact w_c43
  · exact w_c44
set_option maxRecDepth 65536 in
theorem w_t1 : (words1.take 24).all (fun c => isCode c || c.before args0 about1) = true := by decide +kernel
set_option maxRecDepth 65536 in
theorem w_t2 : ((words1.drop 24).take 24).all (fun c => isCode c || c.before args0 about1) = true := by decide +kernel
theorem own_cw {y : MethodName} {bytes : ByteArray} {mx : Nat} {rt : Option FieldType} {hs : List (Nat × Nat × Nat × Nat)} {a : Array Value} {s : State} {m : MethodId} {meth : Method} {c : Code} (h1 : s.methodNamed? y = some m) (h2 : s.vm.method? m = some meth) (h3 : meth.code = some c) (h4 : c.code = bytes)
    (h5 : (c.maxLocals == mx && decide (c.exceptionTable.toList.map (fun h => (h.startPc, h.endPc, h.handlerPc, h.catchType)) = hs) && decide (c.maxStack ≤ mostOperands) && decide (meth.sig.returnType = rt) && !meth.locks && decide (parseMethodDescriptor y.desc = some meth.sig)) = true) : (Jvm.Cond.codeWith y bytes mx rt hs).before a s = true := by
  simp only [Bool.and_eq_true, beq_iff_eq, Bool.not_eq_true', decide_eq_true_eq] at h5
  obtain ⟨⟨⟨⟨⟨g1, g2⟩, g3⟩, g4⟩, g5⟩, g6⟩ := h5
  simp [Cond.before, Cond.holds, Cond.value, h1, h2, h3, h4, g1, g2, g3, g4, g5, g6]
set_option maxRecDepth 65536 in
theorem w_t3_0a : ((((words1.drop 24).drop 24).drop 0).take 21).all (fun c => isCode c || c.before args0 about1) = true := by decide +kernel
set_option maxRecDepth 65536 in
theorem w_t3_0b : (Jvm.Cond.codeWith ({ cls := "java/lang/String", name := "<init>", desc := "(Ljava/nio/charset/Charset;[BII)V" } : Jvm.MethodName) jdk_42_method_11_code (11 : Nat) (Option.none : Option Jvm.ClassFile.FieldType) [((800 : Nat), (813 : Nat), (816 : Nat), (202 : Nat))]).before args0 about1 = true := own_cw (m := ⟨8, 2⟩) (meth := k8m2) (c := k8c2) (by decide +kernel) rfl rfl rfl (by decide +kernel)
set_option maxRecDepth 65536 in
theorem w_t3_z : ((((words1.drop 24).drop 24).drop 22).take 2).all (fun c => isCode c || c.before args0 about1) = true := by decide +kernel
set_option maxRecDepth 65536 in
theorem w_t3 : (((words1.drop 24).drop 24).take 24).all (fun c => isCode c || c.before args0 about1) = true := by
  have e : ((words1.drop 24).drop 24).take 24 = (((words1.drop 24).drop 24).drop 0).take 21 ++ ((Jvm.Cond.codeWith ({ cls := "java/lang/String", name := "<init>", desc := "(Ljava/nio/charset/Charset;[BII)V" } : Jvm.MethodName) jdk_42_method_11_code (11 : Nat) (Option.none : Option Jvm.ClassFile.FieldType) [((800 : Nat), (813 : Nat), (816 : Nat), (202 : Nat))]) :: ((((words1.drop 24).drop 24).drop 22).take 2)) := rfl
  rw [e, List.all_append, w_t3_0a, List.all_cons, w_t3_0b, w_t3_z]
  rfl
set_option maxRecDepth 65536 in
theorem w_t4 : ((((words1.drop 24).drop 24).drop 24).take 24).all (fun c => isCode c || c.before args0 about1) = true := by decide +kernel
set_option maxRecDepth 65536 in
theorem w_t5 : (((((words1.drop 24).drop 24).drop 24).drop 24).take 24).all (fun c => isCode c || c.before args0 about1) = true := by decide +kernel
set_option maxRecDepth 65536 in
theorem w_t6 : ((((((words1.drop 24).drop 24).drop 24).drop 24).drop 24).take 24).all (fun c => isCode c || c.before args0 about1) = true := by decide +kernel
set_option maxRecDepth 65536 in
theorem w_t7 : (((((((words1.drop 24).drop 24).drop 24).drop 24).drop 24).drop 24).take 24).all (fun c => isCode c || c.before args0 about1) = true := by decide +kernel
set_option maxRecDepth 65536 in
theorem w_t8 : ((((((((words1.drop 24).drop 24).drop 24).drop 24).drop 24).drop 24).drop 24).take 24).all (fun c => isCode c || c.before args0 about1) = true := by decide +kernel
set_option maxRecDepth 65536 in
theorem w_t9 : (((((((((words1.drop 24).drop 24).drop 24).drop 24).drop 24).drop 24).drop 24).drop 24).take 24).all (fun c => isCode c || c.before args0 about1) = true := by decide +kernel
set_option maxRecDepth 65536 in
theorem w_t10 : (((((((((words1.drop 24).drop 24).drop 24).drop 24).drop 24).drop 24).drop 24).drop 24).drop 24).all (fun c => isCode c || c.before args0 about1) = true := by decide +kernel
theorem w_tables : (allAtoms (Jvm.Cond.code x code maxLocals ret :: tables_1)).before args0 about1 = true := by
  rw [allAtoms_all]
  show words1.all (fun c => c.before args0 about1) = true
  refine all_split ?_ w_codes
  rw [← List.take_append_drop 24 words1, List.all_append, w_t1, ← List.take_append_drop 24 (words1.drop 24), List.all_append, w_t2, ← List.take_append_drop 24 ((words1.drop 24).drop 24), List.all_append, w_t3, ← List.take_append_drop 24 (((words1.drop 24).drop 24).drop 24), List.all_append, w_t4, ← List.take_append_drop 24 ((((words1.drop 24).drop 24).drop 24).drop 24), List.all_append, w_t5, ← List.take_append_drop 24 (((((words1.drop 24).drop 24).drop 24).drop 24).drop 24), List.all_append, w_t6, ← List.take_append_drop 24 ((((((words1.drop 24).drop 24).drop 24).drop 24).drop 24).drop 24), List.all_append, w_t7, ← List.take_append_drop 24 (((((((words1.drop 24).drop 24).drop 24).drop 24).drop 24).drop 24).drop 24), List.all_append, w_t8, ← List.take_append_drop 24 ((((((((words1.drop 24).drop 24).drop 24).drop 24).drop 24).drop 24).drop 24).drop 24), List.all_append, w_t9, w_t10]
  rfl
set_option maxRecDepth 65536 in
theorem w_rest : rest_1_c.before args0 about1 = true := by decide +kernel
set_option maxRecDepth 65536 in
theorem w_case : (Jvm.Cond.and given_1 narrow_1).before args0 about1 = true := by decide +kernel
set_option maxRecDepth 65536 in
theorem w_consts : constsHeld consts_1 about1 := Jvm.Lit.constsHeldB_iff.mp (by decide +kernel)
theorem w_applies : (headSpec (Jvm.Cond.code x code maxLocals ret :: tables_1) room_1).applies x e0.platform about1 = true :=
  (Spec.applies_iff w_frames).mpr ⟨w_running, w_runnable, w_alone, w_named, w_hears, w_ripe, w_room, w_tables⟩
theorem atStart : AtStart classFile x code maxLocals ret World_1 tables_1 room_1 Calls_1 rest_1 Pre_1 launch0 p0 e0 about1 theMethod args0 below0 :=
  ⟨lists_1, trivial, launch0.admits_env _ _ _, launch0.least_env, fairChoices_fair.cas, fairChoices_fair.clock, w_frames, w_args, w_heap, w_applies, ⟨w_consts, trivial⟩, w_rest, w_case⟩
end start1
theorem witness_1 : WitnessClaimed_1 := ⟨start1.p0, start1.e0, start1.about1, start1.theMethod, start1.args0, start1.below0, start1.atStart⟩
end Jvm.Pilot.@@N@@
