import JvmDerived
import JvmDerived.Pilot.@@N@@Statement
import JvmDerived.Pilot.@@N@@Code
set_option linter.unusedVariables false
set_option linter.unusedSimpArgs false
@@BLOCK:NumsL.lean.txt@@
namespace Jvm.RoadKit
open Sem ClassFile Op Lib Jvm.Stand Jvm.Free Jvm.LawKit
/-- from the state S the run comes to an end that P holds of -/
def own_Out (p : Program) (e : Env) (below : List Frame) (P : Outcome → State → Prop) (S : State) : Prop := ∃ s₂ o, Steps p.tables e below S s₂ ∧ s₂.status = .running ∧ Ended s₂ below o ∧ P o s₂
theorem own_of {p : Program} {e : Env} {below : List Frame} {P : Outcome → State → Prop} {S S' : State} (h : ∀ t, Steps p.tables e below S' t → Steps p.tables e below S t) (k : own_Out p e below P S') : own_Out p e below P S := by
  obtain ⟨a, b, c, d⟩ := k
  exact ⟨a, b, h a c, d⟩
section New
variable {p : Program} {l : Launch} {e : Env} {R : Room} {s : State} {m : MethodId} {args : Array Value} {below : List Frame} {meth : Method} {c : Code} {T : State} {locs : List Loc} {cells slots : Nat}
theorem own_retI (X : Stand p l e R s m args below meth c T locs cells slots) (hx : p.tables.exec = Jvm.exec) {pc : Nat} {Ls : Array Slot} {z : Int32} {rest : List Value} (hret : meth.sig.returnType = some .int) (hd : decode c.code pc = .ok (.ireturn, 1)) {fs : List Frame}
    (hl : ∀ (f : JFrame) (acts : List Action), f.method = m → f.locked = none → f.entered = [] → (doReturn e (T.setTop f) acts (some (.int z))).1 = T.setFrames fs) : Steps p.tables e below (T.setTop (mkF m pc Ls (.int z :: rest))) (T.setFrames fs) := retOut X hx hret rfl (Or.inl ⟨rfl, Or.inl rfl, z, rfl⟩) hd hl
theorem own_end (X : Stand p l e R s m args below meth c T locs cells slots) (hlk : meth.locks = false) {v : Option Value} (hv : meth.sig.returnType = none → v = none) {g : JFrame}
    (hs : ∀ fs, (∀ (f : JFrame) (acts : List Action), f.method = m → f.locked = none → f.entered = [] → (doReturn e (T.setTop f) acts v).1 = T.setFrames fs) → Steps p.tables e below (T.setTop g) (T.setFrames fs))
    {Q : Option Value → Heap → List Loc → Prop} (hQ : Q v T.heap locs) {C N : Nat} (hC : cells ≤ C) (hN : slots ≤ N) :
    own_Out p e below (fun o U' => ∃ v L, o = .returned v ∧ Q v U'.heap L ∧ FrameEnd s o U' L C N) (T.setTop g) := by
  obtain ⟨fs, hr, hrun, hended, hW, hsame⟩ := X.leave (v := v) hv hlk
  exact ⟨_, _, hs fs hr, hrun, hended, _, _, rfl, hQ, ⟨_, rfl⟩, hW, hsame.mono hC hN⟩
theorem own_outI (X : Stand p l e R s m args below meth c T locs cells slots) (hx : p.tables.exec = Jvm.exec) (hlk : meth.locks = false) {pc : Nat} {Ls : Array Slot} {z : Int32} {rest : List Value} (hret : meth.sig.returnType = some .int) (hd : decode c.code pc = .ok (.ireturn, 1))
    {Q : Option Value → Heap → List Loc → Prop} (hQ : Q (some (.int z)) T.heap locs) {C N : Nat} (hC : cells ≤ C) (hN : slots ≤ N) :
    own_Out p e below (fun o U' => ∃ v L, o = .returned v ∧ Q v U'.heap L ∧ FrameEnd s o U' L C N) (T.setTop (mkF m pc Ls (.int z :: rest))) :=
  own_end X hlk (fun h => by rw [hret] at h; cases h) (fun fs hr => own_retI X hx hret hd hr) hQ hC hN
theorem own_outN (X : Stand p l e R s m args below meth c T locs cells slots) (hx : p.tables.exec = Jvm.exec) (hlk : meth.locks = false) {pc : Nat} {Ls : Array Slot} {z z' : Int32} {t : FieldType} {rest : List Value} (hret : meth.sig.returnType = some t) (ht : t = .boolean ∨ t = .byte ∨ t = .char ∨ t = .short) (hd : decode c.code pc = .ok (.ireturn, 1)) (hz : nar t z = z')
    {Q : Option Value → Heap → List Loc → Prop} (hQ : Q (some (.int z')) T.heap locs) {C N : Nat} (hC : cells ≤ C) (hN : slots ≤ N) :
    own_Out p e below (fun o U' => ∃ v L, o = .returned v ∧ Q v U'.heap L ∧ FrameEnd s o U' L C N) (T.setTop (mkF m pc Ls (.int z :: rest))) :=
  own_end X hlk (fun h => by rw [hret] at h; cases h) (fun fs hr => retN X hx hret ht hd (by rw [hz]; exact hr)) hQ hC hN
theorem own_outL (X : Stand p l e R s m args below meth c T locs cells slots) (hx : p.tables.exec = Jvm.exec) (hlk : meth.locks = false) {pc : Nat} {Ls : Array Slot} {z : Int64} {rest : List Value} (hret : meth.sig.returnType = some .long) (hd : decode c.code pc = .ok (.lreturn, 1))
    {Q : Option Value → Heap → List Loc → Prop} (hQ : Q (some (.long z)) T.heap locs) {C N : Nat} (hC : cells ≤ C) (hN : slots ≤ N) :
    own_Out p e below (fun o U' => ∃ v L, o = .returned v ∧ Q v U'.heap L ∧ FrameEnd s o U' L C N) (T.setTop (mkF m pc Ls (.long z :: rest))) :=
  own_end X hlk (fun h => by rw [hret] at h; cases h) (fun fs hr => retOut X hx hret rfl (Or.inr (Or.inl ⟨rfl, rfl, z, rfl⟩)) hd hr) hQ hC hN
theorem own_outD (X : Stand p l e R s m args below meth c T locs cells slots) (hx : p.tables.exec = Jvm.exec) (hlk : meth.locks = false) {pc : Nat} {Ls : Array Slot} {z : UInt64} {rest : List Value} (hret : meth.sig.returnType = some .double) (hd : decode c.code pc = .ok (.dreturn, 1))
    {Q : Option Value → Heap → List Loc → Prop} (hQ : Q (some (.double z)) T.heap locs) {C N : Nat} (hC : cells ≤ C) (hN : slots ≤ N) :
    own_Out p e below (fun o U' => ∃ v L, o = .returned v ∧ Q v U'.heap L ∧ FrameEnd s o U' L C N) (T.setTop (mkF m pc Ls (.double z :: rest))) :=
  own_end X hlk (fun h => by rw [hret] at h; cases h) (fun fs hr => retOut X hx hret rfl (Or.inr (Or.inr (Or.inl ⟨rfl, rfl, z, rfl⟩))) hd hr) hQ hC hN
theorem own_outR (X : Stand p l e R s m args below meth c T locs cells slots) (hx : p.tables.exec = Jvm.exec) (hlk : meth.locks = false) {pc : Nat} {Ls : Array Slot} {w : Value} {t : FieldType} {rest : List Value} (hret : meth.sig.returnType = some t) (ht : t.isReference = true) (hw : w.isRef = true) (hn : narrow t w = w) (hd : decode c.code pc = .ok (.areturn, 1))
    {Q : Option Value → Heap → List Loc → Prop} (hQ : Q (some w) T.heap locs) {C N : Nat} (hC : cells ≤ C) (hN : slots ≤ N) :
    own_Out p e below (fun o U' => ∃ v L, o = .returned v ∧ Q v U'.heap L ∧ FrameEnd s o U' L C N) (T.setTop (mkF m pc Ls (w :: rest))) :=
  own_end X hlk (fun h => by rw [hret] at h; cases h) (fun fs hr => retOut X hx hret hn (Or.inr (Or.inr (Or.inr (Or.inr ⟨rfl, ht, hw⟩)))) hd hr) hQ hC hN
theorem own_outV (X : Stand p l e R s m args below meth c T locs cells slots) (hx : p.tables.exec = Jvm.exec) (hlk : meth.locks = false) {pc : Nat} {Ls : Array Slot} (hret : meth.sig.returnType = none) (hd : decode c.code pc = .ok (.return_, 1))
    {Q : Option Value → Heap → List Loc → Prop} (hQ : Q none T.heap locs) {C N : Nat} (hC : cells ≤ C) (hN : slots ≤ N) :
    own_Out p e below (fun o U' => ∃ v L, o = .returned v ∧ Q v U'.heap L ∧ FrameEnd s o U' L C N) (T.setTop (mkF m pc Ls [])) :=
  own_end X hlk (fun _ => rfl) (fun fs hr => X.returnOut hx hret hd hr) hQ hC hN
end New
theorem own_ltlt {x y : Int64} (h : x < y) : ifCond.holds .lt (lcmpW x y) = true ∧ ifCond.holds .ge (lcmpW x y) = false ∧ ifCond.holds .gt (lcmpW y x) = true ∧ ifCond.holds .le (lcmpW y x) = false := by
  have h1 : ¬ x > y := fun q => by rw [gt_iff_lt, Int64.lt_iff_toInt_lt] at q; rw [Int64.lt_iff_toInt_lt] at h; omega
  have h2 : ¬ x = y := fun q => by subst q; rw [Int64.lt_iff_toInt_lt] at h; omega
  have e1 : lcmpW x y = -1 := by simp only [lcmpW, if_neg h1, if_neg h2]
  have e2 : lcmpW y x = 1 := by simp only [lcmpW, if_pos (show y > x from h)]
  rw [e1, e2]; decide
theorem own_leq {x y : Int64} (h : x = y) : ifCond.holds .eq (lcmpW x y) = true ∧ ifCond.holds .ne (lcmpW x y) = false := by
  subst h
  have h1 : ¬ x > x := fun q => by rw [gt_iff_lt, Int64.lt_iff_toInt_lt] at q; omega
  have e1 : lcmpW x x = 0 := by simp only [lcmpW, if_neg h1, if_pos]
  rw [e1]; decide
theorem own_lfeq {x y : Int64} (h : ¬ x = y) : ifCond.holds .eq (lcmpW x y) = false ∧ ifCond.holds .ne (lcmpW x y) = true := by
  by_cases h1 : x > y
  · have e1 : lcmpW x y = 1 := by simp only [lcmpW, if_pos h1]
    rw [e1]; decide
  · have e1 : lcmpW x y = -1 := by simp only [lcmpW, if_neg h1, if_neg h]
    rw [e1]; decide
theorem own_lflt {x y : Int64} (h : ¬ x < y) : ifCond.holds .lt (lcmpW x y) = false ∧ ifCond.holds .ge (lcmpW x y) = true ∧ ifCond.holds .gt (lcmpW y x) = false ∧ ifCond.holds .le (lcmpW y x) = true := by
  by_cases h1 : x = y
  · subst h1
    have h1 : ¬ x > x := fun q => by rw [gt_iff_lt, Int64.lt_iff_toInt_lt] at q; omega
    have e1 : lcmpW x x = 0 := by simp only [lcmpW, if_neg h1, if_pos]
    rw [e1]; decide
  · have h2 : x > y := by
      rw [gt_iff_lt, Int64.lt_iff_toInt_lt]; rw [Int64.lt_iff_toInt_lt] at h
      have h3 : ¬ x.toInt = y.toInt := fun q => h1 (Int64.toInt_inj.mp q)
      omega
    have h3 : ¬ y > x := fun q => by rw [gt_iff_lt, Int64.lt_iff_toInt_lt] at q h2; omega
    have e1 : lcmpW x y = 1 := by simp only [lcmpW, if_pos h2]
    have e2 : lcmpW y x = -1 := by simp only [lcmpW, if_neg h3, if_neg (fun q => h1 (Eq.symm q))]
    rw [e1, e2]; decide
theorem own_staK0 {Z : State} {h h' : Heap} {C n d : String} {v : Value} (F : Sta Z h C n d v) (K : Keep h h' []) : Sta Z h' C n d v := by
  obtain ⟨cf, i, k, f, st, cell, h1, h2, h3, h4, h5, r⟩ := F
  exact ⟨cf, i, k, f, st, cell, h1, h2, h3, h4, K.2.1 st cell h5 nin0, r⟩
theorem own_staK1 {Z : State} {h h' : Heap} {C n d : String} {v : Value} {a : Addr} (F : Sta Z h C n d v) (K : Keep h h' [a]) (q : ∀ cell : Cell, h[a]? = some cell → cell.vm.isStatics = false) : Sta Z h' C n d v := by
  obtain ⟨cf, i, k, f, st, cell, h1, h2, h3, h4, h5, h6, h7⟩ := F
  have ne : st ≠ a := fun e => by subst e; rw [q _ h5] at h6; cases h6
  exact ⟨cf, i, k, f, st, cell, h1, h2, h3, h4, K.2.1 st cell h5 (ninS ne nin0), h6, h7⟩
theorem own_plainE {Z : State} {h : Heap} {a : Addr} {C : String} (E : Exa Z h a C) : ∀ cell : Cell, h[a]? = some cell → cell.vm.isStatics = false := fun cell hc => by
  obtain ⟨c, k, h1, -, -, h4, -⟩ := E; cases h1.symm.trans hc; exact h4
theorem own_plainV {Z : State} {h : Heap} {a : Addr} {k : ClassId} {ty : FieldType} {z : Int32} {vs : List Value} {dv : Value} (F : Arv Z h a k ty z vs dv) : ∀ cell : Cell, h[a]? = some cell → cell.vm.isStatics = false := fun cell hc => by
  obtain ⟨c, A, -⟩ := F; cases A.1.symm.trans hc; exact A.plain
section Bounds
variable {x a k : Int32} {u : Int}
theorem own_L1 (h : ¬ (x < a)) : a.toInt ≤ x.toInt := by rw [Int32.lt_iff_toInt_lt] at h; omega
theorem own_L2 (h : a < x) : a.toInt + 1 ≤ x.toInt := by rw [Int32.lt_iff_toInt_lt] at h; omega
theorem own_L3 (h : x = a) : a.toInt ≤ x.toInt := by subst h; omega
theorem own_U1 (h : x < a) : x.toInt ≤ a.toInt - 1 := by rw [Int32.lt_iff_toInt_lt] at h; omega
theorem own_U2 (h : ¬ (a < x)) : x.toInt ≤ a.toInt := by rw [Int32.lt_iff_toInt_lt] at h; omega
theorem own_U3 (h : x = a) : x.toInt ≤ a.toInt := by subst h; omega
theorem own_T1 (h : x.toInt ≤ u) (d : u < k.toInt) : x < k := by rw [Int32.lt_iff_toInt_lt]; omega
theorem own_T2 (h : u ≤ x.toInt) (d : k.toInt ≤ u) : ¬ (x < k) := by rw [Int32.lt_iff_toInt_lt]; omega
theorem own_T3 (h : u ≤ x.toInt) (d : k.toInt < u) : k < x := by rw [Int32.lt_iff_toInt_lt]; omega
theorem own_T4 (h : x.toInt ≤ u) (d : u ≤ k.toInt) : ¬ (k < x) := by rw [Int32.lt_iff_toInt_lt]; omega
theorem own_T5 (h : x.toInt ≤ u) (d : u < k.toInt) : ¬ (x = k) := fun q => by subst q; omega
theorem own_T6 (h : u ≤ x.toInt) (d : k.toInt < u) : ¬ (x = k) := fun q => by subst q; omega
theorem own_T7 {u' : Int} (h : u ≤ x.toInt) (h' : x.toInt ≤ u') (d : k.toInt ≤ u ∧ u' ≤ k.toInt) : x = k := Int32.toInt_inj.mp (by omega)
end Bounds
section Rel
theorem own_JR1 {a b : Int64} (h : a < b) : ¬ (b < a) := by rw [Int64.lt_iff_toInt_lt] at *; omega
theorem own_JR2 {a b : Int64} (h : a < b) : ¬ (a = b) := fun q => by subst q; rw [Int64.lt_iff_toInt_lt] at h; omega
theorem own_JR2' {a b : Int64} (h : a < b) : ¬ (b = a) := fun q => by subst q; rw [Int64.lt_iff_toInt_lt] at h; omega
theorem own_JR3 {a b : Int64} (h : a = b) : ¬ (a < b) := fun q => by subst h; rw [Int64.lt_iff_toInt_lt] at q; omega
theorem own_JR3' {a b : Int64} (h : a = b) : ¬ (b < a) := fun q => by subst h; rw [Int64.lt_iff_toInt_lt] at q; omega
theorem own_JR4 {a b : Int64} (h : ¬ (a < b)) (h' : ¬ (b < a)) : a = b := by rw [Int64.lt_iff_toInt_lt] at h h'; exact Int64.toInt_inj.mp (by omega)
theorem own_JR5 {a b : Int64} (h : ¬ (a < b)) (h' : ¬ (a = b)) : b < a := by rw [← Int64.toInt_inj] at h'; rw [Int64.lt_iff_toInt_lt] at *; omega
theorem own_JR5' {a b : Int64} (h : ¬ (a < b)) (h' : ¬ (b = a)) : b < a := by rw [← Int64.toInt_inj] at h'; rw [Int64.lt_iff_toInt_lt] at *; omega
theorem own_IR1 {a b : Int32} (h : a < b) : ¬ (b < a) := by rw [Int32.lt_iff_toInt_lt] at *; omega
theorem own_IR2 {a b : Int32} (h : a < b) : ¬ (a = b) := fun q => by subst q; rw [Int32.lt_iff_toInt_lt] at h; omega
theorem own_IR2' {a b : Int32} (h : a < b) : ¬ (b = a) := fun q => by subst q; rw [Int32.lt_iff_toInt_lt] at h; omega
theorem own_IR3 {a b : Int32} (h : a = b) : ¬ (a < b) := fun q => by subst h; rw [Int32.lt_iff_toInt_lt] at q; omega
theorem own_IR3' {a b : Int32} (h : a = b) : ¬ (b < a) := fun q => by subst h; rw [Int32.lt_iff_toInt_lt] at q; omega
theorem own_IR4 {a b : Int32} (h : ¬ (a < b)) (h' : ¬ (b < a)) : a = b := by rw [Int32.lt_iff_toInt_lt] at h h'; exact Int32.toInt_inj.mp (by omega)
theorem own_IR5 {a b : Int32} (h : ¬ (a < b)) (h' : ¬ (a = b)) : b < a := by rw [← Int32.toInt_inj] at h'; rw [Int32.lt_iff_toInt_lt] at *; omega
theorem own_IR5' {a b : Int32} (h : ¬ (a < b)) (h' : ¬ (b = a)) : b < a := by rw [← Int32.toInt_inj] at h'; rw [Int32.lt_iff_toInt_lt] at *; omega
end Rel
end Jvm.RoadKit
namespace Jvm.Pilot.@@N@@
open Jvm Jvm.ClassFile Sem Op Lib Jvm.Free Jvm.Stand Jvm.LawKit Jvm.RoadKit Bundle Jvm.Pilot.@@N@@.Jvm.D
theorem d1_0 : decode method_2_code 0 = .ok (.iload_n 0, 1) := by decide +kernel
theorem d1_1 : decode method_2_code 1 = .ok (.iconst 1, 1) := by decide +kernel
theorem d1_2 : decode method_2_code 2 = .ok (.if_icmp .ne 5, 3) := by decide +kernel
theorem d1_5 : decode method_2_code 5 = .ok (.lload_n 1, 1) := by decide +kernel
theorem d1_6 : decode method_2_code 6 = .ok (.lreturn, 1) := by decide +kernel
theorem d1_7 : decode method_2_code 7 = .ok (.iload_n 0, 1) := by decide +kernel
theorem d1_8 : decode method_2_code 8 = .ok (.iconst 2, 1) := by decide +kernel
theorem d1_9 : decode method_2_code 9 = .ok (.if_icmp .ne 5, 3) := by decide +kernel
theorem d1_12 : decode method_2_code 12 = .ok (.lload_n 3, 1) := by decide +kernel
theorem d1_13 : decode method_2_code 13 = .ok (.lreturn, 1) := by decide +kernel
theorem d1_14 : decode method_2_code 14 = .ok (.iload_n 0, 1) := by decide +kernel
theorem d1_15 : decode method_2_code 15 = .ok (.iconst 3, 1) := by decide +kernel
theorem d1_16 : decode method_2_code 16 = .ok (.if_icmp .ne 7, 3) := by decide +kernel
theorem d1_19 : decode method_2_code 19 = .ok (.lload_n 1, 1) := by decide +kernel
theorem d1_20 : decode method_2_code 20 = .ok (.lconst 1, 1) := by decide +kernel
theorem d1_21 : decode method_2_code 21 = .ok (.ladd, 1) := by decide +kernel
theorem d1_22 : decode method_2_code 22 = .ok (.lreturn, 1) := by decide +kernel
theorem d1_23 : decode method_2_code 23 = .ok (.iload_n 0, 1) := by decide +kernel
theorem d1_24 : decode method_2_code 24 = .ok (.iconst 4, 1) := by decide +kernel
theorem d1_25 : decode method_2_code 25 = .ok (.if_icmp .ne 7, 3) := by decide +kernel
theorem d1_28 : decode method_2_code 28 = .ok (.lload_n 1, 1) := by decide +kernel
theorem d1_29 : decode method_2_code 29 = .ok (.lconst 1, 1) := by decide +kernel
theorem d1_30 : decode method_2_code 30 = .ok (.lsub, 1) := by decide +kernel
theorem d1_31 : decode method_2_code 31 = .ok (.lreturn, 1) := by decide +kernel
theorem d1_32 : decode method_2_code 32 = .ok (.iload_n 0, 1) := by decide +kernel
theorem d1_33 : decode method_2_code 33 = .ok (.iconst 5, 1) := by decide +kernel
theorem d1_34 : decode method_2_code 34 = .ok (.if_icmp .ne 7, 3) := by decide +kernel
theorem d1_37 : decode method_2_code 37 = .ok (.lload_n 3, 1) := by decide +kernel
theorem d1_38 : decode method_2_code 38 = .ok (.lconst 1, 1) := by decide +kernel
theorem d1_39 : decode method_2_code 39 = .ok (.ladd, 1) := by decide +kernel
theorem d1_40 : decode method_2_code 40 = .ok (.lreturn, 1) := by decide +kernel
theorem d1_41 : decode method_2_code 41 = .ok (.iload_n 0, 1) := by decide +kernel
theorem d1_42 : decode method_2_code 42 = .ok (.bipush 6, 2) := by decide +kernel
theorem d1_44 : decode method_2_code 44 = .ok (.if_icmp .ne 7, 3) := by decide +kernel
theorem d1_47 : decode method_2_code 47 = .ok (.lload_n 3, 1) := by decide +kernel
theorem d1_48 : decode method_2_code 48 = .ok (.lconst 1, 1) := by decide +kernel
theorem d1_49 : decode method_2_code 49 = .ok (.lsub, 1) := by decide +kernel
theorem d1_50 : decode method_2_code 50 = .ok (.lreturn, 1) := by decide +kernel
theorem d1_51 : decode method_2_code 51 = .ok (.lload 5, 2) := by decide +kernel
theorem d1_53 : decode method_2_code 53 = .ok (.lreturn, 1) := by decide +kernel
theorem pn_0 : plainName "com/example/headway/headway/engine/IntervalContainsPinLaw" = true := by first | (simp [plainName, overriddenIn]; done) | decide +kernel
theorem ef_1 (m : MethodId) (x0 : Int32) (x1 : Int64) (x2 : Int64) (x3 : Int64) : entryFrame m #[(.int x0), (.long x1), (.long x2), (.long x3)] 7 = mkF m 0 #[.val (.int x0), .val (.long x1), .second, .val (.long x2), .second, .val (.long x3), .second] [] := by first | (simp [entryFrame, mkF, argsToLocals, Value.category]; done) | rfl
def f1 (p0 : Int32) (q1 : Int64) (q2 : Int64) (q3 : Int64) : Int64 := if p0 = (1 : Int32) then q1
  else if p0 = (2 : Int32) then q2
    else if p0 = (3 : Int32) then (q1 + (1 : Int64))
      else if p0 = (4 : Int32) then (q1 - (1 : Int64))
        else if p0 = (5 : Int32) then (q2 + (1 : Int64))
          else if p0 = (6 : Int32) then (q2 - (1 : Int64))
            else q3
def Q1 (Z : State) (p0 : Int32) (q1 : Int64) (q2 : Int64) (q3 : Int64) (h0 : Heap) (n0 : Nat) (v : Option Value) (h : Heap) (L : List Loc) : Prop := v = some (.long (f1 p0 q1 q2 q3)) ∧ Fr n0 L ∧ h = h0
set_option maxRecDepth 65536 in
set_option maxHeartbeats 40000000 in
theorem rm1 (l : Launch) (Z : State) (a0 : Array Value) (hw : ∀ d ∈ tables_1, d.before a0 Z = true) (ws : List Jvm.Cond) (p0 : Int32) (q1 : Int64) (q2 : Int64) (q3 : Int64) (h0 : Heap) (n0 : Nat) (Z0 : n0 ≤ h0.size) :
    MetFree l (⟨"com/example/headway/headway/engine/IntervalContainsPinLaw", "pick", "(IJJJ)J"⟩ : MethodName) (head1 (Jvm.Cond.code (⟨"com/example/headway/headway/engine/IntervalContainsPinLaw", "pick", "(IJJJ)J"⟩ : MethodName) method_2_code 7 (some .long) :: ws) ({ frames := 0, cells := 0, slots := 0, locals := 0 } : Room)) (fun a U => a = #[(.int p0), (.long q1), (.long q2), (.long q3)] ∧ Z.Warmed39 U.vm ∧ U.heap = h0) (fun _ _ _ _ _ => True) (fun _ U o U' => ∃ v L, o = .returned v ∧ Q1 Z p0 q1 q2 q3 h0 n0 v U'.heap L ∧ FrameEnd U o U' L ({ frames := 0, cells := 0, slots := 0, locals := 0 } : Room).cells ({ frames := 0, cells := 0, slots := 0, locals := 0 } : Room).slots) := by
  refine MetFree.of_bodySF (plainFor_of_name pn_0) hisR ?_
  intro p e s m args below meth c s₁ Bd hml0 hP hK
  obtain ⟨rfl, hZ, hh⟩ := hP
  have hx := Bd.exec
  have hby := Bd.bytes
  have hml : c.maxLocals = 7 := hml0
  have hown : s.vm.findClass "com/example/headway/headway/engine/IntervalContainsPinLaw" = some m.cls := findClass_of_methodNamed Bd.named
  have hnm := (name_of_methodNamed Bd.named Bd.method).1
  have X0 : Stand p l e ({ frames := 0, cells := 0, slots := 0, locals := 0 } : Room) s m #[(.int p0), (.long q1), (.long q2), (.long q3)] below meth c s₁ [] 0 0 := Stand.of_body Bd
  have e0 : s₁.heap = h0 := by rw [← hh, Bd.state]; rfl
  have N0 := Fr.nil n0
  have hret := Bd.returns
  have hlk := BodyLoose.notSynchronized Bd
  show own_Out p e below (fun o U' => ∃ v L, o = .returned v ∧ Q1 Z p0 q1 q2 q3 h0 n0 v U'.heap L ∧ FrameEnd s o U' L ({ frames := 0, cells := 0, slots := 0, locals := 0 } : Room).cells ({ frames := 0, cells := 0, slots := 0, locals := 0 } : Room).slots) (s₁.setTop (entryFrame m #[(.int p0), (.long q1), (.long q2), (.long q3)] 7))
  refine own_of (fun t k => castTop (ef_1 m p0 q1 q2 q3) k) ?_
  show own_Out p e below _ (s₁.setTop (mkF m 0 #[.val (.int p0), .val (.long q1), .second, .val (.long q2), .second, .val (.long q3), .second] []))
  refine own_of (fun _ k => XS.iloadN X0.here hx rfl (hb hby d1_0) rfl k) ?_
  show own_Out p e below _ (s₁.setTop (mkF m 1 #[.val (.int p0), .val (.long q1), .second, .val (.long q2), .second, .val (.long q3), .second] [(.int p0)]))
  refine own_of (fun _ k => XS.iconst X0.here hx rfl (hb hby d1_1) k) ?_
  show own_Out p e below _ (s₁.setTop (mkF m 2 #[.val (.int p0), .val (.long q1), .second, .val (.long q2), .second, .val (.long q3), .second] [(.int (1 : Int32)), (.int p0)]))
  by_cases hc2_1 : p0 = (1 : Int32)
  · skip
    refine own_of (fun _ k => XS.icmpNo X0.here hx rfl (hb hby d1_2) rfl (teq hc2_1).2 k) ?_
    show own_Out p e below _ (s₁.setTop (mkF m 5 #[.val (.int p0), .val (.long q1), .second, .val (.long q2), .second, .val (.long q3), .second] []))
    refine own_of (fun _ k => XS.lloadN X0.here hx rfl (hb hby d1_5) rfl k) ?_
    show own_Out p e below _ (s₁.setTop (mkF m 6 #[.val (.int p0), .val (.long q1), .second, .val (.long q2), .second, .val (.long q3), .second] [(.long q1)]))
    exact own_outL X0 hx hlk hret (hb hby d1_6) (Q := Q1 Z p0 q1 q2 q3 h0 n0) ⟨by simp only [f1, if_pos hc2_1], N0, e0⟩ (by decide) (by decide)
  · skip
    refine own_of (fun _ k => XS.icmpYes X0.here hx rfl (pc0 := 2) (pc' := 7) rfl (hb hby d1_2) rfl (feq hc2_1).2 (by decide) (by decide) k) ?_
    show own_Out p e below _ (s₁.setTop (mkF m 7 #[.val (.int p0), .val (.long q1), .second, .val (.long q2), .second, .val (.long q3), .second] []))
    refine own_of (fun _ k => XS.iloadN X0.here hx rfl (hb hby d1_7) rfl k) ?_
    show own_Out p e below _ (s₁.setTop (mkF m 8 #[.val (.int p0), .val (.long q1), .second, .val (.long q2), .second, .val (.long q3), .second] [(.int p0)]))
    refine own_of (fun _ k => XS.iconst X0.here hx rfl (hb hby d1_8) k) ?_
    show own_Out p e below _ (s₁.setTop (mkF m 9 #[.val (.int p0), .val (.long q1), .second, .val (.long q2), .second, .val (.long q3), .second] [(.int (2 : Int32)), (.int p0)]))
    by_cases hc9_2 : p0 = (2 : Int32)
    · skip
      refine own_of (fun _ k => XS.icmpNo X0.here hx rfl (hb hby d1_9) rfl (teq hc9_2).2 k) ?_
      show own_Out p e below _ (s₁.setTop (mkF m 12 #[.val (.int p0), .val (.long q1), .second, .val (.long q2), .second, .val (.long q3), .second] []))
      refine own_of (fun _ k => XS.lloadN X0.here hx rfl (hb hby d1_12) rfl k) ?_
      show own_Out p e below _ (s₁.setTop (mkF m 13 #[.val (.int p0), .val (.long q1), .second, .val (.long q2), .second, .val (.long q3), .second] [(.long q2)]))
      exact own_outL X0 hx hlk hret (hb hby d1_13) (Q := Q1 Z p0 q1 q2 q3 h0 n0) ⟨by simp only [f1, if_neg hc2_1, if_pos hc9_2], N0, e0⟩ (by decide) (by decide)
    · skip
      refine own_of (fun _ k => XS.icmpYes X0.here hx rfl (pc0 := 9) (pc' := 14) rfl (hb hby d1_9) rfl (feq hc9_2).2 (by decide) (by decide) k) ?_
      show own_Out p e below _ (s₁.setTop (mkF m 14 #[.val (.int p0), .val (.long q1), .second, .val (.long q2), .second, .val (.long q3), .second] []))
      refine own_of (fun _ k => XS.iloadN X0.here hx rfl (hb hby d1_14) rfl k) ?_
      show own_Out p e below _ (s₁.setTop (mkF m 15 #[.val (.int p0), .val (.long q1), .second, .val (.long q2), .second, .val (.long q3), .second] [(.int p0)]))
      refine own_of (fun _ k => XS.iconst X0.here hx rfl (hb hby d1_15) k) ?_
      show own_Out p e below _ (s₁.setTop (mkF m 16 #[.val (.int p0), .val (.long q1), .second, .val (.long q2), .second, .val (.long q3), .second] [(.int (3 : Int32)), (.int p0)]))
      by_cases hc16_3 : p0 = (3 : Int32)
      · skip
        refine own_of (fun _ k => XS.icmpNo X0.here hx rfl (hb hby d1_16) rfl (teq hc16_3).2 k) ?_
        show own_Out p e below _ (s₁.setTop (mkF m 19 #[.val (.int p0), .val (.long q1), .second, .val (.long q2), .second, .val (.long q3), .second] []))
        refine own_of (fun _ k => XS.lloadN X0.here hx rfl (hb hby d1_19) rfl k) ?_
        show own_Out p e below _ (s₁.setTop (mkF m 20 #[.val (.int p0), .val (.long q1), .second, .val (.long q2), .second, .val (.long q3), .second] [(.long q1)]))
        refine own_of (fun _ k => XS.lconst X0.here hx rfl (hb hby d1_20) k) ?_
        show own_Out p e below _ (s₁.setTop (mkF m 21 #[.val (.int p0), .val (.long q1), .second, .val (.long q2), .second, .val (.long q3), .second] [(.long (1 : Int64)), (.long q1)]))
        refine own_of (fun _ k => XS.ladd X0.here hx rfl (hb hby d1_21) rfl k) ?_
        show own_Out p e below _ (s₁.setTop (mkF m 22 #[.val (.int p0), .val (.long q1), .second, .val (.long q2), .second, .val (.long q3), .second] [(.long (q1 + (1 : Int64)))]))
        exact own_outL X0 hx hlk hret (hb hby d1_22) (Q := Q1 Z p0 q1 q2 q3 h0 n0) ⟨by simp only [f1, if_neg hc2_1, if_neg hc9_2, if_pos hc16_3], N0, e0⟩ (by decide) (by decide)
      · skip
        refine own_of (fun _ k => XS.icmpYes X0.here hx rfl (pc0 := 16) (pc' := 23) rfl (hb hby d1_16) rfl (feq hc16_3).2 (by decide) (by decide) k) ?_
        show own_Out p e below _ (s₁.setTop (mkF m 23 #[.val (.int p0), .val (.long q1), .second, .val (.long q2), .second, .val (.long q3), .second] []))
        refine own_of (fun _ k => XS.iloadN X0.here hx rfl (hb hby d1_23) rfl k) ?_
        show own_Out p e below _ (s₁.setTop (mkF m 24 #[.val (.int p0), .val (.long q1), .second, .val (.long q2), .second, .val (.long q3), .second] [(.int p0)]))
        refine own_of (fun _ k => XS.iconst X0.here hx rfl (hb hby d1_24) k) ?_
        show own_Out p e below _ (s₁.setTop (mkF m 25 #[.val (.int p0), .val (.long q1), .second, .val (.long q2), .second, .val (.long q3), .second] [(.int (4 : Int32)), (.int p0)]))
        by_cases hc25_4 : p0 = (4 : Int32)
        · skip
          refine own_of (fun _ k => XS.icmpNo X0.here hx rfl (hb hby d1_25) rfl (teq hc25_4).2 k) ?_
          show own_Out p e below _ (s₁.setTop (mkF m 28 #[.val (.int p0), .val (.long q1), .second, .val (.long q2), .second, .val (.long q3), .second] []))
          refine own_of (fun _ k => XS.lloadN X0.here hx rfl (hb hby d1_28) rfl k) ?_
          show own_Out p e below _ (s₁.setTop (mkF m 29 #[.val (.int p0), .val (.long q1), .second, .val (.long q2), .second, .val (.long q3), .second] [(.long q1)]))
          refine own_of (fun _ k => XS.lconst X0.here hx rfl (hb hby d1_29) k) ?_
          show own_Out p e below _ (s₁.setTop (mkF m 30 #[.val (.int p0), .val (.long q1), .second, .val (.long q2), .second, .val (.long q3), .second] [(.long (1 : Int64)), (.long q1)]))
          refine own_of (fun _ k => XS.lsub X0.here hx rfl (hb hby d1_30) rfl k) ?_
          show own_Out p e below _ (s₁.setTop (mkF m 31 #[.val (.int p0), .val (.long q1), .second, .val (.long q2), .second, .val (.long q3), .second] [(.long (q1 - (1 : Int64)))]))
          exact own_outL X0 hx hlk hret (hb hby d1_31) (Q := Q1 Z p0 q1 q2 q3 h0 n0) ⟨by simp only [f1, if_neg hc2_1, if_neg hc9_2, if_neg hc16_3, if_pos hc25_4], N0, e0⟩ (by decide) (by decide)
        · skip
          refine own_of (fun _ k => XS.icmpYes X0.here hx rfl (pc0 := 25) (pc' := 32) rfl (hb hby d1_25) rfl (feq hc25_4).2 (by decide) (by decide) k) ?_
          show own_Out p e below _ (s₁.setTop (mkF m 32 #[.val (.int p0), .val (.long q1), .second, .val (.long q2), .second, .val (.long q3), .second] []))
          refine own_of (fun _ k => XS.iloadN X0.here hx rfl (hb hby d1_32) rfl k) ?_
          show own_Out p e below _ (s₁.setTop (mkF m 33 #[.val (.int p0), .val (.long q1), .second, .val (.long q2), .second, .val (.long q3), .second] [(.int p0)]))
          refine own_of (fun _ k => XS.iconst X0.here hx rfl (hb hby d1_33) k) ?_
          show own_Out p e below _ (s₁.setTop (mkF m 34 #[.val (.int p0), .val (.long q1), .second, .val (.long q2), .second, .val (.long q3), .second] [(.int (5 : Int32)), (.int p0)]))
          by_cases hc34_5 : p0 = (5 : Int32)
          · skip
            refine own_of (fun _ k => XS.icmpNo X0.here hx rfl (hb hby d1_34) rfl (teq hc34_5).2 k) ?_
            show own_Out p e below _ (s₁.setTop (mkF m 37 #[.val (.int p0), .val (.long q1), .second, .val (.long q2), .second, .val (.long q3), .second] []))
            refine own_of (fun _ k => XS.lloadN X0.here hx rfl (hb hby d1_37) rfl k) ?_
            show own_Out p e below _ (s₁.setTop (mkF m 38 #[.val (.int p0), .val (.long q1), .second, .val (.long q2), .second, .val (.long q3), .second] [(.long q2)]))
            refine own_of (fun _ k => XS.lconst X0.here hx rfl (hb hby d1_38) k) ?_
            show own_Out p e below _ (s₁.setTop (mkF m 39 #[.val (.int p0), .val (.long q1), .second, .val (.long q2), .second, .val (.long q3), .second] [(.long (1 : Int64)), (.long q2)]))
            refine own_of (fun _ k => XS.ladd X0.here hx rfl (hb hby d1_39) rfl k) ?_
            show own_Out p e below _ (s₁.setTop (mkF m 40 #[.val (.int p0), .val (.long q1), .second, .val (.long q2), .second, .val (.long q3), .second] [(.long (q2 + (1 : Int64)))]))
            exact own_outL X0 hx hlk hret (hb hby d1_40) (Q := Q1 Z p0 q1 q2 q3 h0 n0) ⟨by simp only [f1, if_neg hc2_1, if_neg hc9_2, if_neg hc16_3, if_neg hc25_4, if_pos hc34_5], N0, e0⟩ (by decide) (by decide)
          · skip
            refine own_of (fun _ k => XS.icmpYes X0.here hx rfl (pc0 := 34) (pc' := 41) rfl (hb hby d1_34) rfl (feq hc34_5).2 (by decide) (by decide) k) ?_
            show own_Out p e below _ (s₁.setTop (mkF m 41 #[.val (.int p0), .val (.long q1), .second, .val (.long q2), .second, .val (.long q3), .second] []))
            refine own_of (fun _ k => XS.iloadN X0.here hx rfl (hb hby d1_41) rfl k) ?_
            show own_Out p e below _ (s₁.setTop (mkF m 42 #[.val (.int p0), .val (.long q1), .second, .val (.long q2), .second, .val (.long q3), .second] [(.int p0)]))
            refine own_of (fun _ k => XS.bipush X0.here hx rfl (hb hby d1_42) k) ?_
            show own_Out p e below _ (s₁.setTop (mkF m 44 #[.val (.int p0), .val (.long q1), .second, .val (.long q2), .second, .val (.long q3), .second] [(.int (6 : Int32)), (.int p0)]))
            by_cases hc44_6 : p0 = (6 : Int32)
            · skip
              refine own_of (fun _ k => XS.icmpNo X0.here hx rfl (hb hby d1_44) rfl (teq hc44_6).2 k) ?_
              show own_Out p e below _ (s₁.setTop (mkF m 47 #[.val (.int p0), .val (.long q1), .second, .val (.long q2), .second, .val (.long q3), .second] []))
              refine own_of (fun _ k => XS.lloadN X0.here hx rfl (hb hby d1_47) rfl k) ?_
              show own_Out p e below _ (s₁.setTop (mkF m 48 #[.val (.int p0), .val (.long q1), .second, .val (.long q2), .second, .val (.long q3), .second] [(.long q2)]))
              refine own_of (fun _ k => XS.lconst X0.here hx rfl (hb hby d1_48) k) ?_
              show own_Out p e below _ (s₁.setTop (mkF m 49 #[.val (.int p0), .val (.long q1), .second, .val (.long q2), .second, .val (.long q3), .second] [(.long (1 : Int64)), (.long q2)]))
              refine own_of (fun _ k => XS.lsub X0.here hx rfl (hb hby d1_49) rfl k) ?_
              show own_Out p e below _ (s₁.setTop (mkF m 50 #[.val (.int p0), .val (.long q1), .second, .val (.long q2), .second, .val (.long q3), .second] [(.long (q2 - (1 : Int64)))]))
              exact own_outL X0 hx hlk hret (hb hby d1_50) (Q := Q1 Z p0 q1 q2 q3 h0 n0) ⟨by simp only [f1, if_neg hc2_1, if_neg hc9_2, if_neg hc16_3, if_neg hc25_4, if_neg hc34_5, if_pos hc44_6], N0, e0⟩ (by decide) (by decide)
            · skip
              refine own_of (fun _ k => XS.icmpYes X0.here hx rfl (pc0 := 44) (pc' := 51) rfl (hb hby d1_44) rfl (feq hc44_6).2 (by decide) (by decide) k) ?_
              show own_Out p e below _ (s₁.setTop (mkF m 51 #[.val (.int p0), .val (.long q1), .second, .val (.long q2), .second, .val (.long q3), .second] []))
              refine own_of (fun _ k => XS.lload X0.here hx rfl (hb hby d1_51) rfl k) ?_
              show own_Out p e below _ (s₁.setTop (mkF m 53 #[.val (.int p0), .val (.long q1), .second, .val (.long q2), .second, .val (.long q3), .second] [(.long q3)]))
              exact own_outL X0 hx hlk hret (hb hby d1_53) (Q := Q1 Z p0 q1 q2 q3 h0 n0) ⟨by simp only [f1, if_neg hc2_1, if_neg hc9_2, if_neg hc16_3, if_neg hc25_4, if_neg hc34_5, if_neg hc44_6], N0, e0⟩ (by decide) (by decide)
theorem d3_0 : decode jdk_30_method_1_code 0 = .ok (.aload_n 0, 1) := by decide +kernel
theorem d3_1 : decode jdk_30_method_1_code 1 = .ok (.invokespecial 1, 3) := by decide +kernel
theorem d3_4 : decode jdk_30_method_1_code 4 = .ok (.return_, 1) := by decide +kernel
theorem pn_1 : plainName "java/lang/Record" = true := by first | (simp [plainName, overriddenIn]; done) | decide +kernel
theorem ef_3 (m : MethodId) (x0 : Addr) : entryFrame m #[(.ref x0)] 1 = mkF m 0 #[.val (.ref x0)] [] := by first | (simp [entryFrame, mkF, argsToLocals, Value.category]; done) | rfl
def Q3 (Z : State) (o0 : Addr) (h0 : Heap) (n0 : Nat) (v : Option Value) (h : Heap) (L : List Loc) : Prop := v = none ∧ Fr n0 L ∧ h = h0
set_option maxRecDepth 65536 in
set_option maxHeartbeats 40000000 in
theorem rm3 (l : Launch) (Z : State) (a0 : Array Value) (hw : ∀ d ∈ tables_1, d.before a0 Z = true) (ws : List Jvm.Cond) (o0 : Addr) (h0 : Heap) (n0 : Nat) (Z0 : n0 ≤ h0.size) :
    MetFree l (⟨"java/lang/Record", "<init>", "()V"⟩ : MethodName) (head1 (Jvm.Cond.code (⟨"java/lang/Record", "<init>", "()V"⟩ : MethodName) jdk_30_method_1_code 1 none :: ws) ({ frames := 1, cells := 0, slots := 0, locals := 12 } : Room)) (fun a U => a = #[(.ref o0)] ∧ Z.Warmed39 U.vm ∧ U.heap = h0) (fun _ _ _ _ _ => True) (fun _ U o U' => ∃ v L, o = .returned v ∧ Q3 Z o0 h0 n0 v U'.heap L ∧ FrameEnd U o U' L ({ frames := 1, cells := 0, slots := 0, locals := 12 } : Room).cells ({ frames := 1, cells := 0, slots := 0, locals := 12 } : Room).slots) := by
  refine MetFree.of_bodySF (plainFor_of_name pn_1) hisR ?_
  intro p e s m args below meth c s₁ Bd hml0 hP hK
  obtain ⟨rfl, hZ, hh⟩ := hP
  have hx := Bd.exec
  have hby := Bd.bytes
  have hml : c.maxLocals = 1 := hml0
  have hown : s.vm.findClass "java/lang/Record" = some m.cls := findClass_of_methodNamed Bd.named
  have hnm := (name_of_methodNamed Bd.named Bd.method).1
  have X0 : Stand p l e ({ frames := 1, cells := 0, slots := 0, locals := 12 } : Room) s m #[(.ref o0)] below meth c s₁ [] 0 0 := Stand.of_body Bd
  have e0 : s₁.heap = h0 := by rw [← hh, Bd.state]; rfl
  have N0 := Fr.nil n0
  have hret := Bd.returns
  have hlk := BodyLoose.notSynchronized Bd
  show own_Out p e below (fun o U' => ∃ v L, o = .returned v ∧ Q3 Z o0 h0 n0 v U'.heap L ∧ FrameEnd s o U' L ({ frames := 1, cells := 0, slots := 0, locals := 12 } : Room).cells ({ frames := 1, cells := 0, slots := 0, locals := 12 } : Room).slots) (s₁.setTop (entryFrame m #[(.ref o0)] 1))
  refine own_of (fun t k => castTop (ef_3 m o0) k) ?_
  show own_Out p e below _ (s₁.setTop (mkF m 0 #[.val (.ref o0)] []))
  refine own_of (fun _ k => XS.aloadN X0.here hx rfl (hb hby d3_0) rfl rfl k) ?_
  show own_Out p e below _ (s₁.setTop (mkF m 1 #[.val (.ref o0)] [(.ref o0)]))
  obtain ⟨T1, X1, e1, st1⟩ := initO X0 hx hZ hown (hw _ (List.mem_of_getElem? (i := 15) rfl)) (hw _ (List.mem_of_getElem? (i := 16) rfl)) (hw _ (List.mem_of_getElem? (i := 17) rfl)) e0 (g := (mkF m 1 #[.val (.ref o0)] [(.ref o0)])) rfl (by rw [hml]; rfl) rfl (hb hby d3_1) (by decide) (W := 0) (by show 2 * 0 + _ ≤ _; exact Nat.le_of_eq rfl) (by decide)
  refine own_of st1 ?_
  show own_Out p e below _ (T1.setTop (mkF m 4 #[.val (.ref o0)] []))
  exact own_outV X1 hx hlk hret (hb hby d3_4) (Q := Q3 Z o0 h0 n0) ⟨rfl, N0, e1⟩ (by decide) (by decide)
theorem pd_0 : parseMethodDescriptor "()V" = some ⟨[], none⟩ := by decide +kernel
theorem d2_0 : decode prog_63_method_1_code 0 = .ok (.aload_n 0, 1) := by decide +kernel
theorem d2_1 : decode prog_63_method_1_code 1 = .ok (.invokespecial 1, 3) := by decide +kernel
theorem d2_4 : decode prog_63_method_1_code 4 = .ok (.aload_n 0, 1) := by decide +kernel
theorem d2_5 : decode prog_63_method_1_code 5 = .ok (.lload_n 1, 1) := by decide +kernel
theorem d2_6 : decode prog_63_method_1_code 6 = .ok (.putfield 7, 3) := by decide +kernel
theorem d2_9 : decode prog_63_method_1_code 9 = .ok (.aload_n 0, 1) := by decide +kernel
theorem d2_10 : decode prog_63_method_1_code 10 = .ok (.iload_n 3, 1) := by decide +kernel
theorem d2_11 : decode prog_63_method_1_code 11 = .ok (.putfield 13, 3) := by decide +kernel
theorem d2_14 : decode prog_63_method_1_code 14 = .ok (.aload_n 0, 1) := by decide +kernel
theorem d2_15 : decode prog_63_method_1_code 15 = .ok (.lload 4, 2) := by decide +kernel
theorem d2_17 : decode prog_63_method_1_code 17 = .ok (.putfield 17, 3) := by decide +kernel
theorem d2_20 : decode prog_63_method_1_code 20 = .ok (.aload_n 0, 1) := by decide +kernel
theorem d2_21 : decode prog_63_method_1_code 21 = .ok (.iload 6, 2) := by decide +kernel
theorem d2_23 : decode prog_63_method_1_code 23 = .ok (.putfield 20, 3) := by decide +kernel
theorem d2_26 : decode prog_63_method_1_code 26 = .ok (.return_, 1) := by decide +kernel
theorem pn_2 : plainName "com/example/headway/headway/engine/Interval" = true := by first | (simp [plainName, overriddenIn]; done) | decide +kernel
theorem ef_2 (m : MethodId) (x0 : Addr) (x1 : Int64) (x2 : Int32) (x3 : Int64) (x4 : Int32) : entryFrame m #[(.ref x0), (.long x1), (.int x2), (.long x3), (.int x4)] 7 = mkF m 0 #[.val (.ref x0), .val (.long x1), .second, .val (.int x2), .val (.long x3), .second, .val (.int x4)] [] := by first | (simp [entryFrame, mkF, argsToLocals, Value.category]; done) | rfl
def Q2 (Z : State) (o0 : Addr) (q1 : Int64) (p2 : Int32) (q3 : Int64) (p4 : Int32) (h0 : Heap) (n0 : Nat) (v : Option Value) (h : Heap) (L : List Loc) : Prop := v = none ∧ Fr n0 L ∧ Keep h0 h [o0] ∧ Exa Z h o0 "com/example/headway/headway/engine/Interval" ∧ Fld Z h o0 "com/example/headway/headway/engine/Interval" "low" "J" (.long q1) ∧ Fld Z h o0 "com/example/headway/headway/engine/Interval" "lowPasses" "Z" (.int (p2 &&& 1)) ∧ Fld Z h o0 "com/example/headway/headway/engine/Interval" "high" "J" (.long q3) ∧ Fld Z h o0 "com/example/headway/headway/engine/Interval" "highPasses" "Z" (.int (p4 &&& 1))
set_option maxRecDepth 65536 in
set_option maxHeartbeats 40000000 in
theorem rm2 (l : Launch) (Z : State) (a0 : Array Value) (hw : ∀ d ∈ tables_1, d.before a0 Z = true) (ws : List Jvm.Cond) (o0 : Addr) (q1 : Int64) (p2 : Int32) (q3 : Int64) (p4 : Int32) (h0 : Heap) (n0 : Nat) (Z0 : n0 ≤ h0.size) (E : Exa Z h0 o0 "com/example/headway/headway/engine/Interval") (F_low : Fld Z h0 o0 "com/example/headway/headway/engine/Interval" "low" "J" (.long (0 : Int64))) (F_lowPasses : Fld Z h0 o0 "com/example/headway/headway/engine/Interval" "lowPasses" "Z" (.int (0 : Int32))) (F_high : Fld Z h0 o0 "com/example/headway/headway/engine/Interval" "high" "J" (.long (0 : Int64))) (F_highPasses : Fld Z h0 o0 "com/example/headway/headway/engine/Interval" "highPasses" "Z" (.int (0 : Int32))) (g_o0 : n0 ≤ o0) :
    MetFree l (⟨"com/example/headway/headway/engine/Interval", "<init>", "(JZJZ)V"⟩ : MethodName) (head1 (Jvm.Cond.code (⟨"com/example/headway/headway/engine/Interval", "<init>", "(JZJZ)V"⟩ : MethodName) prog_63_method_1_code 7 none :: ws) ({ frames := 2, cells := 0, slots := 0, locals := 24 } : Room)) (fun a U => a = #[(.ref o0), (.long q1), (.int p2), (.long q3), (.int p4)] ∧ Z.Warmed39 U.vm ∧ U.heap = h0) (fun _ _ _ _ _ => True) (fun _ U o U' => ∃ v L, o = .returned v ∧ Q2 Z o0 q1 p2 q3 p4 h0 n0 v U'.heap L ∧ FrameEnd U o U' L ({ frames := 2, cells := 0, slots := 0, locals := 24 } : Room).cells ({ frames := 2, cells := 0, slots := 0, locals := 24 } : Room).slots) := by
  refine MetFree.of_bodySF (plainFor_of_name pn_2) hisR ?_
  intro p e s m args below meth c s₁ Bd hml0 hP hK
  obtain ⟨rfl, hZ, hh⟩ := hP
  have hx := Bd.exec
  have hby := Bd.bytes
  have hml : c.maxLocals = 7 := hml0
  have hown : s.vm.findClass "com/example/headway/headway/engine/Interval" = some m.cls := findClass_of_methodNamed Bd.named
  have hnm := (name_of_methodNamed Bd.named Bd.method).1
  have X0 : Stand p l e ({ frames := 2, cells := 0, slots := 0, locals := 24 } : Room) s m #[(.ref o0), (.long q1), (.int p2), (.long q3), (.int p4)] below meth c s₁ [] 0 0 := Stand.of_body Bd
  have e0 : s₁.heap = h0 := by rw [← hh, Bd.state]; rfl
  have N0 := Fr.nil n0
  have hret := Bd.returns
  have hlk := BodyLoose.notSynchronized Bd
  show own_Out p e below (fun o U' => ∃ v L, o = .returned v ∧ Q2 Z o0 q1 p2 q3 p4 h0 n0 v U'.heap L ∧ FrameEnd s o U' L ({ frames := 2, cells := 0, slots := 0, locals := 24 } : Room).cells ({ frames := 2, cells := 0, slots := 0, locals := 24 } : Room).slots) (s₁.setTop (entryFrame m #[(.ref o0), (.long q1), (.int p2), (.long q3), (.int p4)] 7))
  refine own_of (fun t k => castTop (ef_2 m o0 q1 p2 q3 p4) k) ?_
  show own_Out p e below _ (s₁.setTop (mkF m 0 #[.val (.ref o0), .val (.long q1), .second, .val (.int p2), .val (.long q3), .second, .val (.int p4)] []))
  refine own_of (fun _ k => XS.aloadN X0.here hx rfl (hb hby d2_0) rfl rfl k) ?_
  show own_Out p e below _ (s₁.setTop (mkF m 1 #[.val (.ref o0), .val (.long q1), .second, .val (.int p2), .val (.long q3), .second, .val (.int p4)] [(.ref o0)]))
  obtain ⟨_, _, ⟨T1, L1, k1, n1⟩, -, X1, ⟨Lc1, hQ1, l1, y1, z1⟩, st1⟩ := X0.specialBack hx (y := (⟨"java/lang/Record", "<init>", "()V"⟩ : MethodName)) rfl hown (mvT hZ (hw _ (List.mem_of_getElem? (i := 10) rfl))) (mvT hZ (hw _ (List.mem_of_getElem? (i := 11) rfl))) (mvT hZ (hw _ (List.mem_of_getElem? (i := 14) rfl))) (by decide) (backOf (W := 0) (rm3 l Z a0 hw [] o0 h0 n0 Z0 ) hZ (hw _ (List.mem_of_getElem? (i := 14) rfl)) (hw _ (List.mem_of_getElem? (i := 13) rfl)) (by decide) (by decide)) (g := (mkF m 1 #[.val (.ref o0), .val (.long q1), .second, .val (.int p2), .val (.long q3), .second, .val (.int p4)] [(.ref o0)])) rfl (by rw [hml]; rfl) (Steps.refl _) (a := o0) (argsL := []) (rest := []) (lenOf pd_0 rfl) rfl (by show 2 * 0 + _ ≤ _; exact Nat.le_of_eq rfl) (hb hby d2_1) (fun _ _ => ⟨rfl, e0, (by decide : 0 + 0 ≤ _), (by decide : 0 + 0 ≤ _)⟩)
  dsimp only [Pt.U, Pt.locs, Pt.cells, Pt.slots] at X1 l1 y1 z1 st1 hQ1
  subst l1 y1 z1
  obtain ⟨rfl, N1q, hh1⟩ := hQ1
  have N1 := Fr.app N0 N1q
  refine own_of (fun _ k => st1.trans k) ?_
  show own_Out p e below _ (T1.setTop (mkF m 4 #[.val (.ref o0), .val (.long q1), .second, .val (.int p2), .val (.long q3), .second, .val (.int p4)] []))
  refine own_of (fun _ k => XS.aloadN X1.here hx rfl (hb hby d2_4) rfl rfl k) ?_
  show own_Out p e below _ (T1.setTop (mkF m 5 #[.val (.ref o0), .val (.long q1), .second, .val (.int p2), .val (.long q3), .second, .val (.int p4)] [(.ref o0)]))
  refine own_of (fun _ k => XS.lloadN X1.here hx rfl (hb hby d2_5) rfl k) ?_
  show own_Out p e below _ (T1.setTop (mkF m 6 #[.val (.ref o0), .val (.long q1), .second, .val (.int p2), .val (.long q3), .second, .val (.int p4)] [(.long q1), (.ref o0)]))
  obtain ⟨T2, h2, X2, e2, W2, st2⟩ := putF X1 hx hZ hown (host := "") (Or.inl (hw _ (List.mem_of_getElem? (i := 18) rfl))) Via.refl hh1 F_low E (Or.inr ⟨(hw _ (List.mem_of_getElem? (i := 19) rfl)), rfl, hnm⟩) (hw _ (List.mem_of_getElem? (i := 5) rfl)) (ty := .long) (by decide) rfl rfl (g := (mkF m 6 #[.val (.ref o0), .val (.long q1), .second, .val (.int p2), .val (.long q3), .second, .val (.int p4)] [(.long q1), (.ref o0)])) rfl rfl (hb hby d2_6)
  have Fw2 := F_low.same W2
  have E_o0_2 := E.wr W2
  have F_o0_lowPasses_2 := F_lowPasses.other W2 (Or.inr (slot_ne (Or.inr (hw _ (List.mem_of_getElem? (i := 21) rfl))) (Or.inr (hw _ (List.mem_of_getElem? (i := 19) rfl))) (by decide) (t := .boolean) (t' := .long) (by decide) (by decide)))
  have F_o0_high_2 := F_high.other W2 (Or.inr (slot_ne (Or.inr (hw _ (List.mem_of_getElem? (i := 23) rfl))) (Or.inr (hw _ (List.mem_of_getElem? (i := 19) rfl))) (by decide) (t := .long) (t' := .long) (by decide) (by decide)))
  have F_o0_highPasses_2 := F_highPasses.other W2 (Or.inr (slot_ne (Or.inr (hw _ (List.mem_of_getElem? (i := 25) rfl))) (Or.inr (hw _ (List.mem_of_getElem? (i := 19) rfl))) (by decide) (t := .boolean) (t' := .long) (by decide) (by decide)))
  have N2 := Fr.snoc X2 N1 g_o0
  have Zl2 : n0 ≤ h2.size := Nat.le_trans Z0 (Keep.of_wr W2).1
  have Kp2 := (Keep.refl h0 [o0]).wr W2 (Or.inl (List.mem_of_getElem? (i := 0) rfl))
  refine own_of st2 ?_
  show own_Out p e below _ (T2.setTop (mkF m 9 #[.val (.ref o0), .val (.long q1), .second, .val (.int p2), .val (.long q3), .second, .val (.int p4)] []))
  refine own_of (fun _ k => XS.aloadN X2.here hx rfl (hb hby d2_9) rfl rfl k) ?_
  show own_Out p e below _ (T2.setTop (mkF m 10 #[.val (.ref o0), .val (.long q1), .second, .val (.int p2), .val (.long q3), .second, .val (.int p4)] [(.ref o0)]))
  refine own_of (fun _ k => XS.iloadN X2.here hx rfl (hb hby d2_10) rfl k) ?_
  show own_Out p e below _ (T2.setTop (mkF m 11 #[.val (.ref o0), .val (.long q1), .second, .val (.int p2), .val (.long q3), .second, .val (.int p4)] [(.int p2), (.ref o0)]))
  obtain ⟨T3, h3, X3, e3, W3, st3⟩ := putFN X2 hx hZ hown (hw _ (List.mem_of_getElem? (i := 20) rfl)) Via.refl e2 F_o0_lowPasses_2 E_o0_2 (Or.inr ⟨(hw _ (List.mem_of_getElem? (i := 21) rfl)), rfl, hnm⟩) (hw _ (List.mem_of_getElem? (i := 5) rfl)) (ty := .boolean) (v' := (.int (p2 &&& 1))) (by decide) rfl (fits_nar_bool _) (g := (mkF m 11 #[.val (.ref o0), .val (.long q1), .second, .val (.int p2), .val (.long q3), .second, .val (.int p4)] [(.int p2), (.ref o0)])) rfl rfl (hb hby d2_11)
  have Fw3 := F_o0_lowPasses_2.same W3
  have E_o0_3 := E_o0_2.wr W3
  have F_o0_high_3 := F_o0_high_2.other W3 (Or.inr (slot_ne (Or.inr (hw _ (List.mem_of_getElem? (i := 23) rfl))) (Or.inr (hw _ (List.mem_of_getElem? (i := 21) rfl))) (by decide) (t := .long) (t' := .boolean) (by decide) (by decide)))
  have F_o0_highPasses_3 := F_o0_highPasses_2.other W3 (Or.inr (slot_ne (Or.inr (hw _ (List.mem_of_getElem? (i := 25) rfl))) (Or.inr (hw _ (List.mem_of_getElem? (i := 21) rfl))) (by decide) (t := .boolean) (t' := .boolean) (by decide) (by decide)))
  have F_o0_low_3 := Fw2.other W3 (Or.inr (slot_ne (Or.inr (hw _ (List.mem_of_getElem? (i := 19) rfl))) (Or.inr (hw _ (List.mem_of_getElem? (i := 21) rfl))) (by decide) (t := .long) (t' := .boolean) (by decide) (by decide)))
  have N3 := Fr.snoc X3 N2 g_o0
  have Zl3 : n0 ≤ h3.size := Nat.le_trans Zl2 (Keep.of_wr W3).1
  have Kp3 := Kp2.wr W3 (Or.inl (List.mem_of_getElem? (i := 0) rfl))
  refine own_of st3 ?_
  show own_Out p e below _ (T3.setTop (mkF m 14 #[.val (.ref o0), .val (.long q1), .second, .val (.int p2), .val (.long q3), .second, .val (.int p4)] []))
  refine own_of (fun _ k => XS.aloadN X3.here hx rfl (hb hby d2_14) rfl rfl k) ?_
  show own_Out p e below _ (T3.setTop (mkF m 15 #[.val (.ref o0), .val (.long q1), .second, .val (.int p2), .val (.long q3), .second, .val (.int p4)] [(.ref o0)]))
  refine own_of (fun _ k => XS.lload X3.here hx rfl (hb hby d2_15) rfl k) ?_
  show own_Out p e below _ (T3.setTop (mkF m 17 #[.val (.ref o0), .val (.long q1), .second, .val (.int p2), .val (.long q3), .second, .val (.int p4)] [(.long q3), (.ref o0)]))
  obtain ⟨T4, h4, X4, e4, W4, st4⟩ := putF X3 hx hZ hown (host := "") (Or.inl (hw _ (List.mem_of_getElem? (i := 22) rfl))) Via.refl e3 F_o0_high_3 E_o0_3 (Or.inr ⟨(hw _ (List.mem_of_getElem? (i := 23) rfl)), rfl, hnm⟩) (hw _ (List.mem_of_getElem? (i := 5) rfl)) (ty := .long) (by decide) rfl rfl (g := (mkF m 17 #[.val (.ref o0), .val (.long q1), .second, .val (.int p2), .val (.long q3), .second, .val (.int p4)] [(.long q3), (.ref o0)])) rfl rfl (hb hby d2_17)
  have Fw4 := F_o0_high_3.same W4
  have E_o0_4 := E_o0_3.wr W4
  have F_o0_highPasses_4 := F_o0_highPasses_3.other W4 (Or.inr (slot_ne (Or.inr (hw _ (List.mem_of_getElem? (i := 25) rfl))) (Or.inr (hw _ (List.mem_of_getElem? (i := 23) rfl))) (by decide) (t := .boolean) (t' := .long) (by decide) (by decide)))
  have F_o0_low_4 := F_o0_low_3.other W4 (Or.inr (slot_ne (Or.inr (hw _ (List.mem_of_getElem? (i := 19) rfl))) (Or.inr (hw _ (List.mem_of_getElem? (i := 23) rfl))) (by decide) (t := .long) (t' := .long) (by decide) (by decide)))
  have F_o0_lowPasses_4 := Fw3.other W4 (Or.inr (slot_ne (Or.inr (hw _ (List.mem_of_getElem? (i := 21) rfl))) (Or.inr (hw _ (List.mem_of_getElem? (i := 23) rfl))) (by decide) (t := .boolean) (t' := .long) (by decide) (by decide)))
  have N4 := Fr.snoc X4 N3 g_o0
  have Zl4 : n0 ≤ h4.size := Nat.le_trans Zl3 (Keep.of_wr W4).1
  have Kp4 := Kp3.wr W4 (Or.inl (List.mem_of_getElem? (i := 0) rfl))
  refine own_of st4 ?_
  show own_Out p e below _ (T4.setTop (mkF m 20 #[.val (.ref o0), .val (.long q1), .second, .val (.int p2), .val (.long q3), .second, .val (.int p4)] []))
  refine own_of (fun _ k => XS.aloadN X4.here hx rfl (hb hby d2_20) rfl rfl k) ?_
  show own_Out p e below _ (T4.setTop (mkF m 21 #[.val (.ref o0), .val (.long q1), .second, .val (.int p2), .val (.long q3), .second, .val (.int p4)] [(.ref o0)]))
  refine own_of (fun _ k => XS.iload X4.here hx rfl (hb hby d2_21) rfl k) ?_
  show own_Out p e below _ (T4.setTop (mkF m 23 #[.val (.ref o0), .val (.long q1), .second, .val (.int p2), .val (.long q3), .second, .val (.int p4)] [(.int p4), (.ref o0)]))
  obtain ⟨T5, h5, X5, e5, W5, st5⟩ := putFN X4 hx hZ hown (hw _ (List.mem_of_getElem? (i := 24) rfl)) Via.refl e4 F_o0_highPasses_4 E_o0_4 (Or.inr ⟨(hw _ (List.mem_of_getElem? (i := 25) rfl)), rfl, hnm⟩) (hw _ (List.mem_of_getElem? (i := 5) rfl)) (ty := .boolean) (v' := (.int (p4 &&& 1))) (by decide) rfl (fits_nar_bool _) (g := (mkF m 23 #[.val (.ref o0), .val (.long q1), .second, .val (.int p2), .val (.long q3), .second, .val (.int p4)] [(.int p4), (.ref o0)])) rfl rfl (hb hby d2_23)
  have Fw5 := F_o0_highPasses_4.same W5
  have E_o0_5 := E_o0_4.wr W5
  have F_o0_low_5 := F_o0_low_4.other W5 (Or.inr (slot_ne (Or.inr (hw _ (List.mem_of_getElem? (i := 19) rfl))) (Or.inr (hw _ (List.mem_of_getElem? (i := 25) rfl))) (by decide) (t := .long) (t' := .boolean) (by decide) (by decide)))
  have F_o0_lowPasses_5 := F_o0_lowPasses_4.other W5 (Or.inr (slot_ne (Or.inr (hw _ (List.mem_of_getElem? (i := 21) rfl))) (Or.inr (hw _ (List.mem_of_getElem? (i := 25) rfl))) (by decide) (t := .boolean) (t' := .boolean) (by decide) (by decide)))
  have F_o0_high_5 := Fw4.other W5 (Or.inr (slot_ne (Or.inr (hw _ (List.mem_of_getElem? (i := 23) rfl))) (Or.inr (hw _ (List.mem_of_getElem? (i := 25) rfl))) (by decide) (t := .long) (t' := .boolean) (by decide) (by decide)))
  have N5 := Fr.snoc X5 N4 g_o0
  have Zl5 : n0 ≤ h5.size := Nat.le_trans Zl4 (Keep.of_wr W5).1
  have Kp5 := Kp4.wr W5 (Or.inl (List.mem_of_getElem? (i := 0) rfl))
  refine own_of st5 ?_
  show own_Out p e below _ (T5.setTop (mkF m 26 #[.val (.ref o0), .val (.long q1), .second, .val (.int p2), .val (.long q3), .second, .val (.int p4)] []))
  exact own_outV X5 hx hlk hret (hb hby d2_26) (Q := Q2 Z o0 q1 p2 q3 p4 h0 n0) (by rw [e5]; exact ⟨rfl, N5, Kp5, E_o0_5, F_o0_low_5, F_o0_lowPasses_5, F_o0_high_5, Fw5⟩) (by decide) (by decide)
theorem d5_0 : decode prog_63_method_5_code 0 = .ok (.lload_n 1, 1) := by decide +kernel
theorem d5_1 : decode prog_63_method_5_code 1 = .ok (.aload_n 0, 1) := by decide +kernel
theorem d5_2 : decode prog_63_method_5_code 2 = .ok (.getfield 7, 3) := by decide +kernel
theorem d5_5 : decode prog_63_method_5_code 5 = .ok (.lcmp, 1) := by decide +kernel
theorem d5_6 : decode prog_63_method_5_code 6 = .ok (.ifCond .gt 19, 3) := by decide +kernel
theorem d5_9 : decode prog_63_method_5_code 9 = .ok (.aload_n 0, 1) := by decide +kernel
theorem d5_10 : decode prog_63_method_5_code 10 = .ok (.getfield 13, 3) := by decide +kernel
theorem d5_13 : decode prog_63_method_5_code 13 = .ok (.ifCond .eq 16, 3) := by decide +kernel
theorem d5_16 : decode prog_63_method_5_code 16 = .ok (.lload_n 1, 1) := by decide +kernel
theorem d5_17 : decode prog_63_method_5_code 17 = .ok (.aload_n 0, 1) := by decide +kernel
theorem d5_18 : decode prog_63_method_5_code 18 = .ok (.getfield 7, 3) := by decide +kernel
theorem d5_21 : decode prog_63_method_5_code 21 = .ok (.lcmp, 1) := by decide +kernel
theorem d5_22 : decode prog_63_method_5_code 22 = .ok (.ifCond .ne 7, 3) := by decide +kernel
theorem d5_25 : decode prog_63_method_5_code 25 = .ok (.iconst 1, 1) := by decide +kernel
theorem d5_26 : decode prog_63_method_5_code 26 = .ok (.goto 4, 3) := by decide +kernel
theorem d5_29 : decode prog_63_method_5_code 29 = .ok (.iconst 0, 1) := by decide +kernel
theorem d5_30 : decode prog_63_method_5_code 30 = .ok (.istore_n 3, 1) := by decide +kernel
theorem d5_31 : decode prog_63_method_5_code 31 = .ok (.lload_n 1, 1) := by decide +kernel
theorem d5_32 : decode prog_63_method_5_code 32 = .ok (.aload_n 0, 1) := by decide +kernel
theorem d5_33 : decode prog_63_method_5_code 33 = .ok (.getfield 17, 3) := by decide +kernel
theorem d5_36 : decode prog_63_method_5_code 36 = .ok (.lcmp, 1) := by decide +kernel
theorem d5_37 : decode prog_63_method_5_code 37 = .ok (.ifCond .lt 19, 3) := by decide +kernel
theorem d5_40 : decode prog_63_method_5_code 40 = .ok (.aload_n 0, 1) := by decide +kernel
theorem d5_41 : decode prog_63_method_5_code 41 = .ok (.getfield 20, 3) := by decide +kernel
theorem d5_44 : decode prog_63_method_5_code 44 = .ok (.ifCond .eq 16, 3) := by decide +kernel
theorem d5_47 : decode prog_63_method_5_code 47 = .ok (.lload_n 1, 1) := by decide +kernel
theorem d5_48 : decode prog_63_method_5_code 48 = .ok (.aload_n 0, 1) := by decide +kernel
theorem d5_49 : decode prog_63_method_5_code 49 = .ok (.getfield 17, 3) := by decide +kernel
theorem d5_52 : decode prog_63_method_5_code 52 = .ok (.lcmp, 1) := by decide +kernel
theorem d5_53 : decode prog_63_method_5_code 53 = .ok (.ifCond .ne 7, 3) := by decide +kernel
theorem d5_56 : decode prog_63_method_5_code 56 = .ok (.iconst 1, 1) := by decide +kernel
theorem d5_57 : decode prog_63_method_5_code 57 = .ok (.goto 4, 3) := by decide +kernel
theorem d5_60 : decode prog_63_method_5_code 60 = .ok (.iconst 0, 1) := by decide +kernel
theorem d5_61 : decode prog_63_method_5_code 61 = .ok (.istore 4, 2) := by decide +kernel
theorem d5_63 : decode prog_63_method_5_code 63 = .ok (.iload_n 3, 1) := by decide +kernel
theorem d5_64 : decode prog_63_method_5_code 64 = .ok (.ifCond .eq 12, 3) := by decide +kernel
theorem d5_67 : decode prog_63_method_5_code 67 = .ok (.iload 4, 2) := by decide +kernel
theorem d5_69 : decode prog_63_method_5_code 69 = .ok (.ifCond .eq 7, 3) := by decide +kernel
theorem d5_72 : decode prog_63_method_5_code 72 = .ok (.iconst 1, 1) := by decide +kernel
theorem d5_73 : decode prog_63_method_5_code 73 = .ok (.goto 4, 3) := by decide +kernel
theorem d5_76 : decode prog_63_method_5_code 76 = .ok (.iconst 0, 1) := by decide +kernel
theorem d5_77 : decode prog_63_method_5_code 77 = .ok (.ireturn, 1) := by decide +kernel
theorem ef_5 (m : MethodId) (x0 : Addr) (x1 : Int64) : entryFrame m #[(.ref x0), (.long x1)] 5 = mkF m 0 #[.val (.ref x0), .val (.long x1), .second, .unset, .unset] [] := by first | (simp [entryFrame, mkF, argsToLocals, Value.category]; done) | rfl
def f5 (q1 : Int64) (lo : Int64) (lp : Int32) (hi : Int64) (hp : Int32) : Int32 := if lo < q1 then (if q1 < hi then (1 : Int32)
    else if hp = (0 : Int32) then (0 : Int32)
      else if q1 = hi then (1 : Int32)
        else (0 : Int32))
  else if lp = (0 : Int32) then (if q1 < hi then (0 : Int32)
      else if hp = (0 : Int32) then (0 : Int32)
        else if q1 = hi then (0 : Int32)
          else (0 : Int32))
    else if q1 = lo then (if q1 < hi then (1 : Int32)
        else if hp = (0 : Int32) then (0 : Int32)
          else if q1 = hi then (1 : Int32)
            else (0 : Int32))
      else if q1 < hi then (0 : Int32)
        else if hp = (0 : Int32) then (0 : Int32)
          else if q1 = hi then (0 : Int32)
            else (0 : Int32)
def Q5 (Z : State) (o0 : Addr) (q1 : Int64) (lo : Int64) (lp : Int32) (hi : Int64) (hp : Int32) (h0 : Heap) (n0 : Nat) (v : Option Value) (h : Heap) (L : List Loc) : Prop := v = some (.int (f5 q1 lo lp hi hp)) ∧ Fr n0 L ∧ h = h0
set_option maxRecDepth 65536 in
set_option maxHeartbeats 40000000 in
theorem rm5 (l : Launch) (Z : State) (a0 : Array Value) (hw : ∀ d ∈ tables_1, d.before a0 Z = true) (ws : List Jvm.Cond) (o0 : Addr) (q1 : Int64) (lo : Int64) (lp : Int32) (hi : Int64) (hp : Int32) (h0 : Heap) (n0 : Nat) (Z0 : n0 ≤ h0.size) (F_low : Fld Z h0 o0 "com/example/headway/headway/engine/Interval" "low" "J" (.long lo)) (F_lowPasses : Fld Z h0 o0 "com/example/headway/headway/engine/Interval" "lowPasses" "Z" (.int lp)) (F_high : Fld Z h0 o0 "com/example/headway/headway/engine/Interval" "high" "J" (.long hi)) (F_highPasses : Fld Z h0 o0 "com/example/headway/headway/engine/Interval" "highPasses" "Z" (.int hp)) :
    MetFree l (⟨"com/example/headway/headway/engine/Interval", "contains", "(J)Z"⟩ : MethodName) (head1 (Jvm.Cond.code (⟨"com/example/headway/headway/engine/Interval", "contains", "(J)Z"⟩ : MethodName) prog_63_method_5_code 5 (some .boolean) :: ws) ({ frames := 0, cells := 0, slots := 0, locals := 0 } : Room)) (fun a U => a = #[(.ref o0), (.long q1)] ∧ Z.Warmed39 U.vm ∧ U.heap = h0) (fun _ _ _ _ _ => True) (fun _ U o U' => ∃ v L, o = .returned v ∧ Q5 Z o0 q1 lo lp hi hp h0 n0 v U'.heap L ∧ FrameEnd U o U' L ({ frames := 0, cells := 0, slots := 0, locals := 0 } : Room).cells ({ frames := 0, cells := 0, slots := 0, locals := 0 } : Room).slots) := by
  refine MetFree.of_bodySF (plainFor_of_name pn_2) hisR ?_
  intro p e s m args below meth c s₁ Bd hml0 hP hK
  obtain ⟨rfl, hZ, hh⟩ := hP
  have hx := Bd.exec
  have hby := Bd.bytes
  have hml : c.maxLocals = 5 := hml0
  have hown : s.vm.findClass "com/example/headway/headway/engine/Interval" = some m.cls := findClass_of_methodNamed Bd.named
  have hnm := (name_of_methodNamed Bd.named Bd.method).1
  have X0 : Stand p l e ({ frames := 0, cells := 0, slots := 0, locals := 0 } : Room) s m #[(.ref o0), (.long q1)] below meth c s₁ [] 0 0 := Stand.of_body Bd
  have e0 : s₁.heap = h0 := by rw [← hh, Bd.state]; rfl
  have N0 := Fr.nil n0
  have hret := Bd.returns
  have hlk := BodyLoose.notSynchronized Bd
  show own_Out p e below (fun o U' => ∃ v L, o = .returned v ∧ Q5 Z o0 q1 lo lp hi hp h0 n0 v U'.heap L ∧ FrameEnd s o U' L ({ frames := 0, cells := 0, slots := 0, locals := 0 } : Room).cells ({ frames := 0, cells := 0, slots := 0, locals := 0 } : Room).slots) (s₁.setTop (entryFrame m #[(.ref o0), (.long q1)] 5))
  refine own_of (fun t k => castTop (ef_5 m o0 q1) k) ?_
  show own_Out p e below _ (s₁.setTop (mkF m 0 #[.val (.ref o0), .val (.long q1), .second, .unset, .unset] []))
  refine own_of (fun _ k => XS.lloadN X0.here hx rfl (hb hby d5_0) rfl k) ?_
  show own_Out p e below _ (s₁.setTop (mkF m 1 #[.val (.ref o0), .val (.long q1), .second, .unset, .unset] [(.long q1)]))
  refine own_of (fun _ k => XS.aloadN X0.here hx rfl (hb hby d5_1) rfl rfl k) ?_
  show own_Out p e below _ (s₁.setTop (mkF m 2 #[.val (.ref o0), .val (.long q1), .second, .unset, .unset] [(.ref o0), (.long q1)]))
  obtain ⟨T1, X1, e1, st1⟩ := getF X0 hx hZ hown (host := "") (Or.inl (hw _ (List.mem_of_getElem? (i := 18) rfl))) Via.refl e0 F_low (g := (mkF m 2 #[.val (.ref o0), .val (.long q1), .second, .unset, .unset] [(.ref o0), (.long q1)])) rfl rfl (hb hby d5_2)
  refine own_of st1 ?_
  show own_Out p e below _ (T1.setTop (mkF m 5 #[.val (.ref o0), .val (.long q1), .second, .unset, .unset] [(.long lo), (.long q1)]))
  refine own_of (fun _ k => XS.lcmp X1.here hx rfl (hb hby d5_5) rfl k) ?_
  show own_Out p e below _ (T1.setTop (mkF m 6 #[.val (.ref o0), .val (.long q1), .second, .unset, .unset] [(.int (lcmpW q1 lo))]))
  by_cases hc6_2 : lo < q1
  · skip
    refine own_of (fun _ k => XS.ifYes X1.here hx rfl (pc0 := 6) (pc' := 25) rfl (hb hby d5_6) rfl (own_ltlt hc6_2).2.2.1 (by decide) (by decide) k) ?_
    show own_Out p e below _ (T1.setTop (mkF m 25 #[.val (.ref o0), .val (.long q1), .second, .unset, .unset] []))
    refine own_of (fun _ k => XS.iconst X1.here hx rfl (hb hby d5_25) k) ?_
    show own_Out p e below _ (T1.setTop (mkF m 26 #[.val (.ref o0), .val (.long q1), .second, .unset, .unset] [(.int (1 : Int32))]))
    refine own_of (fun _ k => XS.goto X1.here hx rfl (pc0 := 26) (pc' := 30) rfl (hb hby d5_26) (by decide) (by decide) k) ?_
    show own_Out p e below _ (T1.setTop (mkF m 30 #[.val (.ref o0), .val (.long q1), .second, .unset, .unset] [(.int (1 : Int32))]))
    refine own_of (fun _ k => XS.istoreN X1.here hx rfl (hb hby d5_30) rfl (l' := #[.val (.ref o0), .val (.long q1), .second, .val (.int (1 : Int32)), .unset]) rfl k) ?_
    show own_Out p e below _ (T1.setTop (mkF m 31 #[.val (.ref o0), .val (.long q1), .second, .val (.int (1 : Int32)), .unset] []))
    refine own_of (fun _ k => XS.lloadN X1.here hx rfl (hb hby d5_31) rfl k) ?_
    show own_Out p e below _ (T1.setTop (mkF m 32 #[.val (.ref o0), .val (.long q1), .second, .val (.int (1 : Int32)), .unset] [(.long q1)]))
    refine own_of (fun _ k => XS.aloadN X1.here hx rfl (hb hby d5_32) rfl rfl k) ?_
    show own_Out p e below _ (T1.setTop (mkF m 33 #[.val (.ref o0), .val (.long q1), .second, .val (.int (1 : Int32)), .unset] [(.ref o0), (.long q1)]))
    obtain ⟨T3, X3, e3, st3⟩ := getF X1 hx hZ hown (host := "") (Or.inl (hw _ (List.mem_of_getElem? (i := 22) rfl))) Via.refl e1 F_high (g := (mkF m 33 #[.val (.ref o0), .val (.long q1), .second, .val (.int (1 : Int32)), .unset] [(.ref o0), (.long q1)])) rfl rfl (hb hby d5_33)
    refine own_of st3 ?_
    show own_Out p e below _ (T3.setTop (mkF m 36 #[.val (.ref o0), .val (.long q1), .second, .val (.int (1 : Int32)), .unset] [(.long hi), (.long q1)]))
    refine own_of (fun _ k => XS.lcmp X3.here hx rfl (hb hby d5_36) rfl k) ?_
    show own_Out p e below _ (T3.setTop (mkF m 37 #[.val (.ref o0), .val (.long q1), .second, .val (.int (1 : Int32)), .unset] [(.int (lcmpW q1 hi))]))
    by_cases hc37_4 : q1 < hi
    · skip
      refine own_of (fun _ k => XS.ifYes X3.here hx rfl (pc0 := 37) (pc' := 56) rfl (hb hby d5_37) rfl (own_ltlt hc37_4).1 (by decide) (by decide) k) ?_
      show own_Out p e below _ (T3.setTop (mkF m 56 #[.val (.ref o0), .val (.long q1), .second, .val (.int (1 : Int32)), .unset] []))
      refine own_of (fun _ k => XS.iconst X3.here hx rfl (hb hby d5_56) k) ?_
      show own_Out p e below _ (T3.setTop (mkF m 57 #[.val (.ref o0), .val (.long q1), .second, .val (.int (1 : Int32)), .unset] [(.int (1 : Int32))]))
      refine own_of (fun _ k => XS.goto X3.here hx rfl (pc0 := 57) (pc' := 61) rfl (hb hby d5_57) (by decide) (by decide) k) ?_
      show own_Out p e below _ (T3.setTop (mkF m 61 #[.val (.ref o0), .val (.long q1), .second, .val (.int (1 : Int32)), .unset] [(.int (1 : Int32))]))
      refine own_of (fun _ k => XS.istore X3.here hx rfl (hb hby d5_61) rfl (l' := #[.val (.ref o0), .val (.long q1), .second, .val (.int (1 : Int32)), .val (.int (1 : Int32))]) rfl k) ?_
      show own_Out p e below _ (T3.setTop (mkF m 63 #[.val (.ref o0), .val (.long q1), .second, .val (.int (1 : Int32)), .val (.int (1 : Int32))] []))
      refine own_of (fun _ k => XS.iloadN X3.here hx rfl (hb hby d5_63) rfl k) ?_
      show own_Out p e below _ (T3.setTop (mkF m 64 #[.val (.ref o0), .val (.long q1), .second, .val (.int (1 : Int32)), .val (.int (1 : Int32))] [(.int (1 : Int32))]))
      refine own_of (fun _ k => XS.ifNo X3.here hx rfl (hb hby d5_64) rfl ((if0 _ _).trans (feq (by decide : ¬ ((1 : Int32) = (0 : Int32)))).1) k) ?_
      show own_Out p e below _ (T3.setTop (mkF m 67 #[.val (.ref o0), .val (.long q1), .second, .val (.int (1 : Int32)), .val (.int (1 : Int32))] []))
      refine own_of (fun _ k => XS.iload X3.here hx rfl (hb hby d5_67) rfl k) ?_
      show own_Out p e below _ (T3.setTop (mkF m 69 #[.val (.ref o0), .val (.long q1), .second, .val (.int (1 : Int32)), .val (.int (1 : Int32))] [(.int (1 : Int32))]))
      refine own_of (fun _ k => XS.ifNo X3.here hx rfl (hb hby d5_69) rfl ((if0 _ _).trans (feq (by decide : ¬ ((1 : Int32) = (0 : Int32)))).1) k) ?_
      show own_Out p e below _ (T3.setTop (mkF m 72 #[.val (.ref o0), .val (.long q1), .second, .val (.int (1 : Int32)), .val (.int (1 : Int32))] []))
      refine own_of (fun _ k => XS.iconst X3.here hx rfl (hb hby d5_72) k) ?_
      show own_Out p e below _ (T3.setTop (mkF m 73 #[.val (.ref o0), .val (.long q1), .second, .val (.int (1 : Int32)), .val (.int (1 : Int32))] [(.int (1 : Int32))]))
      refine own_of (fun _ k => XS.goto X3.here hx rfl (pc0 := 73) (pc' := 77) rfl (hb hby d5_73) (by decide) (by decide) k) ?_
      show own_Out p e below _ (T3.setTop (mkF m 77 #[.val (.ref o0), .val (.long q1), .second, .val (.int (1 : Int32)), .val (.int (1 : Int32))] [(.int (1 : Int32))]))
      exact own_outN X3 hx hlk (t := .boolean) hret (by simp) (hb hby d5_77) (z' := (1 : Int32)) rfl (Q := Q5 Z o0 q1 lo lp hi hp h0 n0) ⟨by simp only [f5, if_pos hc6_2, if_pos hc37_4], N0, e3⟩ (by decide) (by decide)
    · skip
      refine own_of (fun _ k => XS.ifNo X3.here hx rfl (hb hby d5_37) rfl (own_lflt hc37_4).1 k) ?_
      show own_Out p e below _ (T3.setTop (mkF m 40 #[.val (.ref o0), .val (.long q1), .second, .val (.int (1 : Int32)), .unset] []))
      refine own_of (fun _ k => XS.aloadN X3.here hx rfl (hb hby d5_40) rfl rfl k) ?_
      show own_Out p e below _ (T3.setTop (mkF m 41 #[.val (.ref o0), .val (.long q1), .second, .val (.int (1 : Int32)), .unset] [(.ref o0)]))
      obtain ⟨T5, X5, e5, st5⟩ := getF X3 hx hZ hown (host := "") (Or.inl (hw _ (List.mem_of_getElem? (i := 24) rfl))) Via.refl e3 F_highPasses (g := (mkF m 41 #[.val (.ref o0), .val (.long q1), .second, .val (.int (1 : Int32)), .unset] [(.ref o0)])) rfl rfl (hb hby d5_41)
      refine own_of st5 ?_
      show own_Out p e below _ (T5.setTop (mkF m 44 #[.val (.ref o0), .val (.long q1), .second, .val (.int (1 : Int32)), .unset] [(.int hp)]))
      by_cases hc44_6 : hp = (0 : Int32)
      · skip
        refine own_of (fun _ k => XS.ifYes X5.here hx rfl (pc0 := 44) (pc' := 60) rfl (hb hby d5_44) rfl ((if0 _ _).trans (teq hc44_6).1) (by decide) (by decide) k) ?_
        show own_Out p e below _ (T5.setTop (mkF m 60 #[.val (.ref o0), .val (.long q1), .second, .val (.int (1 : Int32)), .unset] []))
        refine own_of (fun _ k => XS.iconst X5.here hx rfl (hb hby d5_60) k) ?_
        show own_Out p e below _ (T5.setTop (mkF m 61 #[.val (.ref o0), .val (.long q1), .second, .val (.int (1 : Int32)), .unset] [(.int (0 : Int32))]))
        refine own_of (fun _ k => XS.istore X5.here hx rfl (hb hby d5_61) rfl (l' := #[.val (.ref o0), .val (.long q1), .second, .val (.int (1 : Int32)), .val (.int (0 : Int32))]) rfl k) ?_
        show own_Out p e below _ (T5.setTop (mkF m 63 #[.val (.ref o0), .val (.long q1), .second, .val (.int (1 : Int32)), .val (.int (0 : Int32))] []))
        refine own_of (fun _ k => XS.iloadN X5.here hx rfl (hb hby d5_63) rfl k) ?_
        show own_Out p e below _ (T5.setTop (mkF m 64 #[.val (.ref o0), .val (.long q1), .second, .val (.int (1 : Int32)), .val (.int (0 : Int32))] [(.int (1 : Int32))]))
        refine own_of (fun _ k => XS.ifNo X5.here hx rfl (hb hby d5_64) rfl ((if0 _ _).trans (feq (by decide : ¬ ((1 : Int32) = (0 : Int32)))).1) k) ?_
        show own_Out p e below _ (T5.setTop (mkF m 67 #[.val (.ref o0), .val (.long q1), .second, .val (.int (1 : Int32)), .val (.int (0 : Int32))] []))
        refine own_of (fun _ k => XS.iload X5.here hx rfl (hb hby d5_67) rfl k) ?_
        show own_Out p e below _ (T5.setTop (mkF m 69 #[.val (.ref o0), .val (.long q1), .second, .val (.int (1 : Int32)), .val (.int (0 : Int32))] [(.int (0 : Int32))]))
        refine own_of (fun _ k => XS.ifYes X5.here hx rfl (pc0 := 69) (pc' := 76) rfl (hb hby d5_69) rfl ((if0 _ _).trans (teq (by decide : (0 : Int32) = (0 : Int32))).1) (by decide) (by decide) k) ?_
        show own_Out p e below _ (T5.setTop (mkF m 76 #[.val (.ref o0), .val (.long q1), .second, .val (.int (1 : Int32)), .val (.int (0 : Int32))] []))
        refine own_of (fun _ k => XS.iconst X5.here hx rfl (hb hby d5_76) k) ?_
        show own_Out p e below _ (T5.setTop (mkF m 77 #[.val (.ref o0), .val (.long q1), .second, .val (.int (1 : Int32)), .val (.int (0 : Int32))] [(.int (0 : Int32))]))
        exact own_outN X5 hx hlk (t := .boolean) hret (by simp) (hb hby d5_77) (z' := (0 : Int32)) rfl (Q := Q5 Z o0 q1 lo lp hi hp h0 n0) ⟨by simp only [f5, if_pos hc6_2, if_neg hc37_4, if_pos hc44_6], N0, e5⟩ (by decide) (by decide)
      · skip
        refine own_of (fun _ k => XS.ifNo X5.here hx rfl (hb hby d5_44) rfl ((if0 _ _).trans (feq hc44_6).1) k) ?_
        show own_Out p e below _ (T5.setTop (mkF m 47 #[.val (.ref o0), .val (.long q1), .second, .val (.int (1 : Int32)), .unset] []))
        refine own_of (fun _ k => XS.lloadN X5.here hx rfl (hb hby d5_47) rfl k) ?_
        show own_Out p e below _ (T5.setTop (mkF m 48 #[.val (.ref o0), .val (.long q1), .second, .val (.int (1 : Int32)), .unset] [(.long q1)]))
        refine own_of (fun _ k => XS.aloadN X5.here hx rfl (hb hby d5_48) rfl rfl k) ?_
        show own_Out p e below _ (T5.setTop (mkF m 49 #[.val (.ref o0), .val (.long q1), .second, .val (.int (1 : Int32)), .unset] [(.ref o0), (.long q1)]))
        obtain ⟨T7, X7, e7, st7⟩ := getF X5 hx hZ hown (host := "") (Or.inl (hw _ (List.mem_of_getElem? (i := 22) rfl))) Via.refl e5 F_high (g := (mkF m 49 #[.val (.ref o0), .val (.long q1), .second, .val (.int (1 : Int32)), .unset] [(.ref o0), (.long q1)])) rfl rfl (hb hby d5_49)
        refine own_of st7 ?_
        show own_Out p e below _ (T7.setTop (mkF m 52 #[.val (.ref o0), .val (.long q1), .second, .val (.int (1 : Int32)), .unset] [(.long hi), (.long q1)]))
        refine own_of (fun _ k => XS.lcmp X7.here hx rfl (hb hby d5_52) rfl k) ?_
        show own_Out p e below _ (T7.setTop (mkF m 53 #[.val (.ref o0), .val (.long q1), .second, .val (.int (1 : Int32)), .unset] [(.int (lcmpW q1 hi))]))
        by_cases hc53_8 : q1 = hi
        · skip
          refine own_of (fun _ k => XS.ifNo X7.here hx rfl (hb hby d5_53) rfl (own_leq hc53_8).2 k) ?_
          show own_Out p e below _ (T7.setTop (mkF m 56 #[.val (.ref o0), .val (.long q1), .second, .val (.int (1 : Int32)), .unset] []))
          refine own_of (fun _ k => XS.iconst X7.here hx rfl (hb hby d5_56) k) ?_
          show own_Out p e below _ (T7.setTop (mkF m 57 #[.val (.ref o0), .val (.long q1), .second, .val (.int (1 : Int32)), .unset] [(.int (1 : Int32))]))
          refine own_of (fun _ k => XS.goto X7.here hx rfl (pc0 := 57) (pc' := 61) rfl (hb hby d5_57) (by decide) (by decide) k) ?_
          show own_Out p e below _ (T7.setTop (mkF m 61 #[.val (.ref o0), .val (.long q1), .second, .val (.int (1 : Int32)), .unset] [(.int (1 : Int32))]))
          refine own_of (fun _ k => XS.istore X7.here hx rfl (hb hby d5_61) rfl (l' := #[.val (.ref o0), .val (.long q1), .second, .val (.int (1 : Int32)), .val (.int (1 : Int32))]) rfl k) ?_
          show own_Out p e below _ (T7.setTop (mkF m 63 #[.val (.ref o0), .val (.long q1), .second, .val (.int (1 : Int32)), .val (.int (1 : Int32))] []))
          refine own_of (fun _ k => XS.iloadN X7.here hx rfl (hb hby d5_63) rfl k) ?_
          show own_Out p e below _ (T7.setTop (mkF m 64 #[.val (.ref o0), .val (.long q1), .second, .val (.int (1 : Int32)), .val (.int (1 : Int32))] [(.int (1 : Int32))]))
          refine own_of (fun _ k => XS.ifNo X7.here hx rfl (hb hby d5_64) rfl ((if0 _ _).trans (feq (by decide : ¬ ((1 : Int32) = (0 : Int32)))).1) k) ?_
          show own_Out p e below _ (T7.setTop (mkF m 67 #[.val (.ref o0), .val (.long q1), .second, .val (.int (1 : Int32)), .val (.int (1 : Int32))] []))
          refine own_of (fun _ k => XS.iload X7.here hx rfl (hb hby d5_67) rfl k) ?_
          show own_Out p e below _ (T7.setTop (mkF m 69 #[.val (.ref o0), .val (.long q1), .second, .val (.int (1 : Int32)), .val (.int (1 : Int32))] [(.int (1 : Int32))]))
          refine own_of (fun _ k => XS.ifNo X7.here hx rfl (hb hby d5_69) rfl ((if0 _ _).trans (feq (by decide : ¬ ((1 : Int32) = (0 : Int32)))).1) k) ?_
          show own_Out p e below _ (T7.setTop (mkF m 72 #[.val (.ref o0), .val (.long q1), .second, .val (.int (1 : Int32)), .val (.int (1 : Int32))] []))
          refine own_of (fun _ k => XS.iconst X7.here hx rfl (hb hby d5_72) k) ?_
          show own_Out p e below _ (T7.setTop (mkF m 73 #[.val (.ref o0), .val (.long q1), .second, .val (.int (1 : Int32)), .val (.int (1 : Int32))] [(.int (1 : Int32))]))
          refine own_of (fun _ k => XS.goto X7.here hx rfl (pc0 := 73) (pc' := 77) rfl (hb hby d5_73) (by decide) (by decide) k) ?_
          show own_Out p e below _ (T7.setTop (mkF m 77 #[.val (.ref o0), .val (.long q1), .second, .val (.int (1 : Int32)), .val (.int (1 : Int32))] [(.int (1 : Int32))]))
          exact own_outN X7 hx hlk (t := .boolean) hret (by simp) (hb hby d5_77) (z' := (1 : Int32)) rfl (Q := Q5 Z o0 q1 lo lp hi hp h0 n0) ⟨by simp only [f5, if_pos hc6_2, if_neg hc37_4, if_neg hc44_6, if_pos hc53_8], N0, e7⟩ (by decide) (by decide)
        · skip
          refine own_of (fun _ k => XS.ifYes X7.here hx rfl (pc0 := 53) (pc' := 60) rfl (hb hby d5_53) rfl (own_lfeq hc53_8).2 (by decide) (by decide) k) ?_
          show own_Out p e below _ (T7.setTop (mkF m 60 #[.val (.ref o0), .val (.long q1), .second, .val (.int (1 : Int32)), .unset] []))
          refine own_of (fun _ k => XS.iconst X7.here hx rfl (hb hby d5_60) k) ?_
          show own_Out p e below _ (T7.setTop (mkF m 61 #[.val (.ref o0), .val (.long q1), .second, .val (.int (1 : Int32)), .unset] [(.int (0 : Int32))]))
          refine own_of (fun _ k => XS.istore X7.here hx rfl (hb hby d5_61) rfl (l' := #[.val (.ref o0), .val (.long q1), .second, .val (.int (1 : Int32)), .val (.int (0 : Int32))]) rfl k) ?_
          show own_Out p e below _ (T7.setTop (mkF m 63 #[.val (.ref o0), .val (.long q1), .second, .val (.int (1 : Int32)), .val (.int (0 : Int32))] []))
          refine own_of (fun _ k => XS.iloadN X7.here hx rfl (hb hby d5_63) rfl k) ?_
          show own_Out p e below _ (T7.setTop (mkF m 64 #[.val (.ref o0), .val (.long q1), .second, .val (.int (1 : Int32)), .val (.int (0 : Int32))] [(.int (1 : Int32))]))
          refine own_of (fun _ k => XS.ifNo X7.here hx rfl (hb hby d5_64) rfl ((if0 _ _).trans (feq (by decide : ¬ ((1 : Int32) = (0 : Int32)))).1) k) ?_
          show own_Out p e below _ (T7.setTop (mkF m 67 #[.val (.ref o0), .val (.long q1), .second, .val (.int (1 : Int32)), .val (.int (0 : Int32))] []))
          refine own_of (fun _ k => XS.iload X7.here hx rfl (hb hby d5_67) rfl k) ?_
          show own_Out p e below _ (T7.setTop (mkF m 69 #[.val (.ref o0), .val (.long q1), .second, .val (.int (1 : Int32)), .val (.int (0 : Int32))] [(.int (0 : Int32))]))
          refine own_of (fun _ k => XS.ifYes X7.here hx rfl (pc0 := 69) (pc' := 76) rfl (hb hby d5_69) rfl ((if0 _ _).trans (teq (by decide : (0 : Int32) = (0 : Int32))).1) (by decide) (by decide) k) ?_
          show own_Out p e below _ (T7.setTop (mkF m 76 #[.val (.ref o0), .val (.long q1), .second, .val (.int (1 : Int32)), .val (.int (0 : Int32))] []))
          refine own_of (fun _ k => XS.iconst X7.here hx rfl (hb hby d5_76) k) ?_
          show own_Out p e below _ (T7.setTop (mkF m 77 #[.val (.ref o0), .val (.long q1), .second, .val (.int (1 : Int32)), .val (.int (0 : Int32))] [(.int (0 : Int32))]))
          exact own_outN X7 hx hlk (t := .boolean) hret (by simp) (hb hby d5_77) (z' := (0 : Int32)) rfl (Q := Q5 Z o0 q1 lo lp hi hp h0 n0) ⟨by simp only [f5, if_pos hc6_2, if_neg hc37_4, if_neg hc44_6, if_neg hc53_8], N0, e7⟩ (by decide) (by decide)
  · skip
    refine own_of (fun _ k => XS.ifNo X1.here hx rfl (hb hby d5_6) rfl (own_lflt hc6_2).2.2.1 k) ?_
    show own_Out p e below _ (T1.setTop (mkF m 9 #[.val (.ref o0), .val (.long q1), .second, .unset, .unset] []))
    refine own_of (fun _ k => XS.aloadN X1.here hx rfl (hb hby d5_9) rfl rfl k) ?_
    show own_Out p e below _ (T1.setTop (mkF m 10 #[.val (.ref o0), .val (.long q1), .second, .unset, .unset] [(.ref o0)]))
    obtain ⟨T9, X9, e9, st9⟩ := getF X1 hx hZ hown (host := "") (Or.inl (hw _ (List.mem_of_getElem? (i := 20) rfl))) Via.refl e1 F_lowPasses (g := (mkF m 10 #[.val (.ref o0), .val (.long q1), .second, .unset, .unset] [(.ref o0)])) rfl rfl (hb hby d5_10)
    refine own_of st9 ?_
    show own_Out p e below _ (T9.setTop (mkF m 13 #[.val (.ref o0), .val (.long q1), .second, .unset, .unset] [(.int lp)]))
    by_cases hc13_10 : lp = (0 : Int32)
    · skip
      refine own_of (fun _ k => XS.ifYes X9.here hx rfl (pc0 := 13) (pc' := 29) rfl (hb hby d5_13) rfl ((if0 _ _).trans (teq hc13_10).1) (by decide) (by decide) k) ?_
      show own_Out p e below _ (T9.setTop (mkF m 29 #[.val (.ref o0), .val (.long q1), .second, .unset, .unset] []))
      refine own_of (fun _ k => XS.iconst X9.here hx rfl (hb hby d5_29) k) ?_
      show own_Out p e below _ (T9.setTop (mkF m 30 #[.val (.ref o0), .val (.long q1), .second, .unset, .unset] [(.int (0 : Int32))]))
      refine own_of (fun _ k => XS.istoreN X9.here hx rfl (hb hby d5_30) rfl (l' := #[.val (.ref o0), .val (.long q1), .second, .val (.int (0 : Int32)), .unset]) rfl k) ?_
      show own_Out p e below _ (T9.setTop (mkF m 31 #[.val (.ref o0), .val (.long q1), .second, .val (.int (0 : Int32)), .unset] []))
      refine own_of (fun _ k => XS.lloadN X9.here hx rfl (hb hby d5_31) rfl k) ?_
      show own_Out p e below _ (T9.setTop (mkF m 32 #[.val (.ref o0), .val (.long q1), .second, .val (.int (0 : Int32)), .unset] [(.long q1)]))
      refine own_of (fun _ k => XS.aloadN X9.here hx rfl (hb hby d5_32) rfl rfl k) ?_
      show own_Out p e below _ (T9.setTop (mkF m 33 #[.val (.ref o0), .val (.long q1), .second, .val (.int (0 : Int32)), .unset] [(.ref o0), (.long q1)]))
      obtain ⟨T11, X11, e11, st11⟩ := getF X9 hx hZ hown (host := "") (Or.inl (hw _ (List.mem_of_getElem? (i := 22) rfl))) Via.refl e9 F_high (g := (mkF m 33 #[.val (.ref o0), .val (.long q1), .second, .val (.int (0 : Int32)), .unset] [(.ref o0), (.long q1)])) rfl rfl (hb hby d5_33)
      refine own_of st11 ?_
      show own_Out p e below _ (T11.setTop (mkF m 36 #[.val (.ref o0), .val (.long q1), .second, .val (.int (0 : Int32)), .unset] [(.long hi), (.long q1)]))
      refine own_of (fun _ k => XS.lcmp X11.here hx rfl (hb hby d5_36) rfl k) ?_
      show own_Out p e below _ (T11.setTop (mkF m 37 #[.val (.ref o0), .val (.long q1), .second, .val (.int (0 : Int32)), .unset] [(.int (lcmpW q1 hi))]))
      by_cases hc37_12 : q1 < hi
      · skip
        refine own_of (fun _ k => XS.ifYes X11.here hx rfl (pc0 := 37) (pc' := 56) rfl (hb hby d5_37) rfl (own_ltlt hc37_12).1 (by decide) (by decide) k) ?_
        show own_Out p e below _ (T11.setTop (mkF m 56 #[.val (.ref o0), .val (.long q1), .second, .val (.int (0 : Int32)), .unset] []))
        refine own_of (fun _ k => XS.iconst X11.here hx rfl (hb hby d5_56) k) ?_
        show own_Out p e below _ (T11.setTop (mkF m 57 #[.val (.ref o0), .val (.long q1), .second, .val (.int (0 : Int32)), .unset] [(.int (1 : Int32))]))
        refine own_of (fun _ k => XS.goto X11.here hx rfl (pc0 := 57) (pc' := 61) rfl (hb hby d5_57) (by decide) (by decide) k) ?_
        show own_Out p e below _ (T11.setTop (mkF m 61 #[.val (.ref o0), .val (.long q1), .second, .val (.int (0 : Int32)), .unset] [(.int (1 : Int32))]))
        refine own_of (fun _ k => XS.istore X11.here hx rfl (hb hby d5_61) rfl (l' := #[.val (.ref o0), .val (.long q1), .second, .val (.int (0 : Int32)), .val (.int (1 : Int32))]) rfl k) ?_
        show own_Out p e below _ (T11.setTop (mkF m 63 #[.val (.ref o0), .val (.long q1), .second, .val (.int (0 : Int32)), .val (.int (1 : Int32))] []))
        refine own_of (fun _ k => XS.iloadN X11.here hx rfl (hb hby d5_63) rfl k) ?_
        show own_Out p e below _ (T11.setTop (mkF m 64 #[.val (.ref o0), .val (.long q1), .second, .val (.int (0 : Int32)), .val (.int (1 : Int32))] [(.int (0 : Int32))]))
        refine own_of (fun _ k => XS.ifYes X11.here hx rfl (pc0 := 64) (pc' := 76) rfl (hb hby d5_64) rfl ((if0 _ _).trans (teq (by decide : (0 : Int32) = (0 : Int32))).1) (by decide) (by decide) k) ?_
        show own_Out p e below _ (T11.setTop (mkF m 76 #[.val (.ref o0), .val (.long q1), .second, .val (.int (0 : Int32)), .val (.int (1 : Int32))] []))
        refine own_of (fun _ k => XS.iconst X11.here hx rfl (hb hby d5_76) k) ?_
        show own_Out p e below _ (T11.setTop (mkF m 77 #[.val (.ref o0), .val (.long q1), .second, .val (.int (0 : Int32)), .val (.int (1 : Int32))] [(.int (0 : Int32))]))
        exact own_outN X11 hx hlk (t := .boolean) hret (by simp) (hb hby d5_77) (z' := (0 : Int32)) rfl (Q := Q5 Z o0 q1 lo lp hi hp h0 n0) ⟨by simp only [f5, if_neg hc6_2, if_pos hc13_10, if_pos hc37_12], N0, e11⟩ (by decide) (by decide)
      · skip
        refine own_of (fun _ k => XS.ifNo X11.here hx rfl (hb hby d5_37) rfl (own_lflt hc37_12).1 k) ?_
        show own_Out p e below _ (T11.setTop (mkF m 40 #[.val (.ref o0), .val (.long q1), .second, .val (.int (0 : Int32)), .unset] []))
        refine own_of (fun _ k => XS.aloadN X11.here hx rfl (hb hby d5_40) rfl rfl k) ?_
        show own_Out p e below _ (T11.setTop (mkF m 41 #[.val (.ref o0), .val (.long q1), .second, .val (.int (0 : Int32)), .unset] [(.ref o0)]))
        obtain ⟨T13, X13, e13, st13⟩ := getF X11 hx hZ hown (host := "") (Or.inl (hw _ (List.mem_of_getElem? (i := 24) rfl))) Via.refl e11 F_highPasses (g := (mkF m 41 #[.val (.ref o0), .val (.long q1), .second, .val (.int (0 : Int32)), .unset] [(.ref o0)])) rfl rfl (hb hby d5_41)
        refine own_of st13 ?_
        show own_Out p e below _ (T13.setTop (mkF m 44 #[.val (.ref o0), .val (.long q1), .second, .val (.int (0 : Int32)), .unset] [(.int hp)]))
        by_cases hc44_14 : hp = (0 : Int32)
        · skip
          refine own_of (fun _ k => XS.ifYes X13.here hx rfl (pc0 := 44) (pc' := 60) rfl (hb hby d5_44) rfl ((if0 _ _).trans (teq hc44_14).1) (by decide) (by decide) k) ?_
          show own_Out p e below _ (T13.setTop (mkF m 60 #[.val (.ref o0), .val (.long q1), .second, .val (.int (0 : Int32)), .unset] []))
          refine own_of (fun _ k => XS.iconst X13.here hx rfl (hb hby d5_60) k) ?_
          show own_Out p e below _ (T13.setTop (mkF m 61 #[.val (.ref o0), .val (.long q1), .second, .val (.int (0 : Int32)), .unset] [(.int (0 : Int32))]))
          refine own_of (fun _ k => XS.istore X13.here hx rfl (hb hby d5_61) rfl (l' := #[.val (.ref o0), .val (.long q1), .second, .val (.int (0 : Int32)), .val (.int (0 : Int32))]) rfl k) ?_
          show own_Out p e below _ (T13.setTop (mkF m 63 #[.val (.ref o0), .val (.long q1), .second, .val (.int (0 : Int32)), .val (.int (0 : Int32))] []))
          refine own_of (fun _ k => XS.iloadN X13.here hx rfl (hb hby d5_63) rfl k) ?_
          show own_Out p e below _ (T13.setTop (mkF m 64 #[.val (.ref o0), .val (.long q1), .second, .val (.int (0 : Int32)), .val (.int (0 : Int32))] [(.int (0 : Int32))]))
          refine own_of (fun _ k => XS.ifYes X13.here hx rfl (pc0 := 64) (pc' := 76) rfl (hb hby d5_64) rfl ((if0 _ _).trans (teq (by decide : (0 : Int32) = (0 : Int32))).1) (by decide) (by decide) k) ?_
          show own_Out p e below _ (T13.setTop (mkF m 76 #[.val (.ref o0), .val (.long q1), .second, .val (.int (0 : Int32)), .val (.int (0 : Int32))] []))
          refine own_of (fun _ k => XS.iconst X13.here hx rfl (hb hby d5_76) k) ?_
          show own_Out p e below _ (T13.setTop (mkF m 77 #[.val (.ref o0), .val (.long q1), .second, .val (.int (0 : Int32)), .val (.int (0 : Int32))] [(.int (0 : Int32))]))
          exact own_outN X13 hx hlk (t := .boolean) hret (by simp) (hb hby d5_77) (z' := (0 : Int32)) rfl (Q := Q5 Z o0 q1 lo lp hi hp h0 n0) ⟨by simp only [f5, if_neg hc6_2, if_pos hc13_10, if_neg hc37_12, if_pos hc44_14], N0, e13⟩ (by decide) (by decide)
        · skip
          refine own_of (fun _ k => XS.ifNo X13.here hx rfl (hb hby d5_44) rfl ((if0 _ _).trans (feq hc44_14).1) k) ?_
          show own_Out p e below _ (T13.setTop (mkF m 47 #[.val (.ref o0), .val (.long q1), .second, .val (.int (0 : Int32)), .unset] []))
          refine own_of (fun _ k => XS.lloadN X13.here hx rfl (hb hby d5_47) rfl k) ?_
          show own_Out p e below _ (T13.setTop (mkF m 48 #[.val (.ref o0), .val (.long q1), .second, .val (.int (0 : Int32)), .unset] [(.long q1)]))
          refine own_of (fun _ k => XS.aloadN X13.here hx rfl (hb hby d5_48) rfl rfl k) ?_
          show own_Out p e below _ (T13.setTop (mkF m 49 #[.val (.ref o0), .val (.long q1), .second, .val (.int (0 : Int32)), .unset] [(.ref o0), (.long q1)]))
          obtain ⟨T15, X15, e15, st15⟩ := getF X13 hx hZ hown (host := "") (Or.inl (hw _ (List.mem_of_getElem? (i := 22) rfl))) Via.refl e13 F_high (g := (mkF m 49 #[.val (.ref o0), .val (.long q1), .second, .val (.int (0 : Int32)), .unset] [(.ref o0), (.long q1)])) rfl rfl (hb hby d5_49)
          refine own_of st15 ?_
          show own_Out p e below _ (T15.setTop (mkF m 52 #[.val (.ref o0), .val (.long q1), .second, .val (.int (0 : Int32)), .unset] [(.long hi), (.long q1)]))
          refine own_of (fun _ k => XS.lcmp X15.here hx rfl (hb hby d5_52) rfl k) ?_
          show own_Out p e below _ (T15.setTop (mkF m 53 #[.val (.ref o0), .val (.long q1), .second, .val (.int (0 : Int32)), .unset] [(.int (lcmpW q1 hi))]))
          by_cases hc53_16 : q1 = hi
          · skip
            refine own_of (fun _ k => XS.ifNo X15.here hx rfl (hb hby d5_53) rfl (own_leq hc53_16).2 k) ?_
            show own_Out p e below _ (T15.setTop (mkF m 56 #[.val (.ref o0), .val (.long q1), .second, .val (.int (0 : Int32)), .unset] []))
            refine own_of (fun _ k => XS.iconst X15.here hx rfl (hb hby d5_56) k) ?_
            show own_Out p e below _ (T15.setTop (mkF m 57 #[.val (.ref o0), .val (.long q1), .second, .val (.int (0 : Int32)), .unset] [(.int (1 : Int32))]))
            refine own_of (fun _ k => XS.goto X15.here hx rfl (pc0 := 57) (pc' := 61) rfl (hb hby d5_57) (by decide) (by decide) k) ?_
            show own_Out p e below _ (T15.setTop (mkF m 61 #[.val (.ref o0), .val (.long q1), .second, .val (.int (0 : Int32)), .unset] [(.int (1 : Int32))]))
            refine own_of (fun _ k => XS.istore X15.here hx rfl (hb hby d5_61) rfl (l' := #[.val (.ref o0), .val (.long q1), .second, .val (.int (0 : Int32)), .val (.int (1 : Int32))]) rfl k) ?_
            show own_Out p e below _ (T15.setTop (mkF m 63 #[.val (.ref o0), .val (.long q1), .second, .val (.int (0 : Int32)), .val (.int (1 : Int32))] []))
            refine own_of (fun _ k => XS.iloadN X15.here hx rfl (hb hby d5_63) rfl k) ?_
            show own_Out p e below _ (T15.setTop (mkF m 64 #[.val (.ref o0), .val (.long q1), .second, .val (.int (0 : Int32)), .val (.int (1 : Int32))] [(.int (0 : Int32))]))
            refine own_of (fun _ k => XS.ifYes X15.here hx rfl (pc0 := 64) (pc' := 76) rfl (hb hby d5_64) rfl ((if0 _ _).trans (teq (by decide : (0 : Int32) = (0 : Int32))).1) (by decide) (by decide) k) ?_
            show own_Out p e below _ (T15.setTop (mkF m 76 #[.val (.ref o0), .val (.long q1), .second, .val (.int (0 : Int32)), .val (.int (1 : Int32))] []))
            refine own_of (fun _ k => XS.iconst X15.here hx rfl (hb hby d5_76) k) ?_
            show own_Out p e below _ (T15.setTop (mkF m 77 #[.val (.ref o0), .val (.long q1), .second, .val (.int (0 : Int32)), .val (.int (1 : Int32))] [(.int (0 : Int32))]))
            exact own_outN X15 hx hlk (t := .boolean) hret (by simp) (hb hby d5_77) (z' := (0 : Int32)) rfl (Q := Q5 Z o0 q1 lo lp hi hp h0 n0) ⟨by simp only [f5, if_neg hc6_2, if_pos hc13_10, if_neg hc37_12, if_neg hc44_14, if_pos hc53_16], N0, e15⟩ (by decide) (by decide)
          · skip
            refine own_of (fun _ k => XS.ifYes X15.here hx rfl (pc0 := 53) (pc' := 60) rfl (hb hby d5_53) rfl (own_lfeq hc53_16).2 (by decide) (by decide) k) ?_
            show own_Out p e below _ (T15.setTop (mkF m 60 #[.val (.ref o0), .val (.long q1), .second, .val (.int (0 : Int32)), .unset] []))
            refine own_of (fun _ k => XS.iconst X15.here hx rfl (hb hby d5_60) k) ?_
            show own_Out p e below _ (T15.setTop (mkF m 61 #[.val (.ref o0), .val (.long q1), .second, .val (.int (0 : Int32)), .unset] [(.int (0 : Int32))]))
            refine own_of (fun _ k => XS.istore X15.here hx rfl (hb hby d5_61) rfl (l' := #[.val (.ref o0), .val (.long q1), .second, .val (.int (0 : Int32)), .val (.int (0 : Int32))]) rfl k) ?_
            show own_Out p e below _ (T15.setTop (mkF m 63 #[.val (.ref o0), .val (.long q1), .second, .val (.int (0 : Int32)), .val (.int (0 : Int32))] []))
            refine own_of (fun _ k => XS.iloadN X15.here hx rfl (hb hby d5_63) rfl k) ?_
            show own_Out p e below _ (T15.setTop (mkF m 64 #[.val (.ref o0), .val (.long q1), .second, .val (.int (0 : Int32)), .val (.int (0 : Int32))] [(.int (0 : Int32))]))
            refine own_of (fun _ k => XS.ifYes X15.here hx rfl (pc0 := 64) (pc' := 76) rfl (hb hby d5_64) rfl ((if0 _ _).trans (teq (by decide : (0 : Int32) = (0 : Int32))).1) (by decide) (by decide) k) ?_
            show own_Out p e below _ (T15.setTop (mkF m 76 #[.val (.ref o0), .val (.long q1), .second, .val (.int (0 : Int32)), .val (.int (0 : Int32))] []))
            refine own_of (fun _ k => XS.iconst X15.here hx rfl (hb hby d5_76) k) ?_
            show own_Out p e below _ (T15.setTop (mkF m 77 #[.val (.ref o0), .val (.long q1), .second, .val (.int (0 : Int32)), .val (.int (0 : Int32))] [(.int (0 : Int32))]))
            exact own_outN X15 hx hlk (t := .boolean) hret (by simp) (hb hby d5_77) (z' := (0 : Int32)) rfl (Q := Q5 Z o0 q1 lo lp hi hp h0 n0) ⟨by simp only [f5, if_neg hc6_2, if_pos hc13_10, if_neg hc37_12, if_neg hc44_14, if_neg hc53_16], N0, e15⟩ (by decide) (by decide)
    · skip
      refine own_of (fun _ k => XS.ifNo X9.here hx rfl (hb hby d5_13) rfl ((if0 _ _).trans (feq hc13_10).1) k) ?_
      show own_Out p e below _ (T9.setTop (mkF m 16 #[.val (.ref o0), .val (.long q1), .second, .unset, .unset] []))
      refine own_of (fun _ k => XS.lloadN X9.here hx rfl (hb hby d5_16) rfl k) ?_
      show own_Out p e below _ (T9.setTop (mkF m 17 #[.val (.ref o0), .val (.long q1), .second, .unset, .unset] [(.long q1)]))
      refine own_of (fun _ k => XS.aloadN X9.here hx rfl (hb hby d5_17) rfl rfl k) ?_
      show own_Out p e below _ (T9.setTop (mkF m 18 #[.val (.ref o0), .val (.long q1), .second, .unset, .unset] [(.ref o0), (.long q1)]))
      obtain ⟨T17, X17, e17, st17⟩ := getF X9 hx hZ hown (host := "") (Or.inl (hw _ (List.mem_of_getElem? (i := 18) rfl))) Via.refl e9 F_low (g := (mkF m 18 #[.val (.ref o0), .val (.long q1), .second, .unset, .unset] [(.ref o0), (.long q1)])) rfl rfl (hb hby d5_18)
      refine own_of st17 ?_
      show own_Out p e below _ (T17.setTop (mkF m 21 #[.val (.ref o0), .val (.long q1), .second, .unset, .unset] [(.long lo), (.long q1)]))
      refine own_of (fun _ k => XS.lcmp X17.here hx rfl (hb hby d5_21) rfl k) ?_
      show own_Out p e below _ (T17.setTop (mkF m 22 #[.val (.ref o0), .val (.long q1), .second, .unset, .unset] [(.int (lcmpW q1 lo))]))
      by_cases hc22_18 : q1 = lo
      · skip
        refine own_of (fun _ k => XS.ifNo X17.here hx rfl (hb hby d5_22) rfl (own_leq hc22_18).2 k) ?_
        show own_Out p e below _ (T17.setTop (mkF m 25 #[.val (.ref o0), .val (.long q1), .second, .unset, .unset] []))
        refine own_of (fun _ k => XS.iconst X17.here hx rfl (hb hby d5_25) k) ?_
        show own_Out p e below _ (T17.setTop (mkF m 26 #[.val (.ref o0), .val (.long q1), .second, .unset, .unset] [(.int (1 : Int32))]))
        refine own_of (fun _ k => XS.goto X17.here hx rfl (pc0 := 26) (pc' := 30) rfl (hb hby d5_26) (by decide) (by decide) k) ?_
        show own_Out p e below _ (T17.setTop (mkF m 30 #[.val (.ref o0), .val (.long q1), .second, .unset, .unset] [(.int (1 : Int32))]))
        refine own_of (fun _ k => XS.istoreN X17.here hx rfl (hb hby d5_30) rfl (l' := #[.val (.ref o0), .val (.long q1), .second, .val (.int (1 : Int32)), .unset]) rfl k) ?_
        show own_Out p e below _ (T17.setTop (mkF m 31 #[.val (.ref o0), .val (.long q1), .second, .val (.int (1 : Int32)), .unset] []))
        refine own_of (fun _ k => XS.lloadN X17.here hx rfl (hb hby d5_31) rfl k) ?_
        show own_Out p e below _ (T17.setTop (mkF m 32 #[.val (.ref o0), .val (.long q1), .second, .val (.int (1 : Int32)), .unset] [(.long q1)]))
        refine own_of (fun _ k => XS.aloadN X17.here hx rfl (hb hby d5_32) rfl rfl k) ?_
        show own_Out p e below _ (T17.setTop (mkF m 33 #[.val (.ref o0), .val (.long q1), .second, .val (.int (1 : Int32)), .unset] [(.ref o0), (.long q1)]))
        obtain ⟨T19, X19, e19, st19⟩ := getF X17 hx hZ hown (host := "") (Or.inl (hw _ (List.mem_of_getElem? (i := 22) rfl))) Via.refl e17 F_high (g := (mkF m 33 #[.val (.ref o0), .val (.long q1), .second, .val (.int (1 : Int32)), .unset] [(.ref o0), (.long q1)])) rfl rfl (hb hby d5_33)
        refine own_of st19 ?_
        show own_Out p e below _ (T19.setTop (mkF m 36 #[.val (.ref o0), .val (.long q1), .second, .val (.int (1 : Int32)), .unset] [(.long hi), (.long q1)]))
        refine own_of (fun _ k => XS.lcmp X19.here hx rfl (hb hby d5_36) rfl k) ?_
        show own_Out p e below _ (T19.setTop (mkF m 37 #[.val (.ref o0), .val (.long q1), .second, .val (.int (1 : Int32)), .unset] [(.int (lcmpW q1 hi))]))
        by_cases hc37_20 : q1 < hi
        · skip
          refine own_of (fun _ k => XS.ifYes X19.here hx rfl (pc0 := 37) (pc' := 56) rfl (hb hby d5_37) rfl (own_ltlt hc37_20).1 (by decide) (by decide) k) ?_
          show own_Out p e below _ (T19.setTop (mkF m 56 #[.val (.ref o0), .val (.long q1), .second, .val (.int (1 : Int32)), .unset] []))
          refine own_of (fun _ k => XS.iconst X19.here hx rfl (hb hby d5_56) k) ?_
          show own_Out p e below _ (T19.setTop (mkF m 57 #[.val (.ref o0), .val (.long q1), .second, .val (.int (1 : Int32)), .unset] [(.int (1 : Int32))]))
          refine own_of (fun _ k => XS.goto X19.here hx rfl (pc0 := 57) (pc' := 61) rfl (hb hby d5_57) (by decide) (by decide) k) ?_
          show own_Out p e below _ (T19.setTop (mkF m 61 #[.val (.ref o0), .val (.long q1), .second, .val (.int (1 : Int32)), .unset] [(.int (1 : Int32))]))
          refine own_of (fun _ k => XS.istore X19.here hx rfl (hb hby d5_61) rfl (l' := #[.val (.ref o0), .val (.long q1), .second, .val (.int (1 : Int32)), .val (.int (1 : Int32))]) rfl k) ?_
          show own_Out p e below _ (T19.setTop (mkF m 63 #[.val (.ref o0), .val (.long q1), .second, .val (.int (1 : Int32)), .val (.int (1 : Int32))] []))
          refine own_of (fun _ k => XS.iloadN X19.here hx rfl (hb hby d5_63) rfl k) ?_
          show own_Out p e below _ (T19.setTop (mkF m 64 #[.val (.ref o0), .val (.long q1), .second, .val (.int (1 : Int32)), .val (.int (1 : Int32))] [(.int (1 : Int32))]))
          refine own_of (fun _ k => XS.ifNo X19.here hx rfl (hb hby d5_64) rfl ((if0 _ _).trans (feq (by decide : ¬ ((1 : Int32) = (0 : Int32)))).1) k) ?_
          show own_Out p e below _ (T19.setTop (mkF m 67 #[.val (.ref o0), .val (.long q1), .second, .val (.int (1 : Int32)), .val (.int (1 : Int32))] []))
          refine own_of (fun _ k => XS.iload X19.here hx rfl (hb hby d5_67) rfl k) ?_
          show own_Out p e below _ (T19.setTop (mkF m 69 #[.val (.ref o0), .val (.long q1), .second, .val (.int (1 : Int32)), .val (.int (1 : Int32))] [(.int (1 : Int32))]))
          refine own_of (fun _ k => XS.ifNo X19.here hx rfl (hb hby d5_69) rfl ((if0 _ _).trans (feq (by decide : ¬ ((1 : Int32) = (0 : Int32)))).1) k) ?_
          show own_Out p e below _ (T19.setTop (mkF m 72 #[.val (.ref o0), .val (.long q1), .second, .val (.int (1 : Int32)), .val (.int (1 : Int32))] []))
          refine own_of (fun _ k => XS.iconst X19.here hx rfl (hb hby d5_72) k) ?_
          show own_Out p e below _ (T19.setTop (mkF m 73 #[.val (.ref o0), .val (.long q1), .second, .val (.int (1 : Int32)), .val (.int (1 : Int32))] [(.int (1 : Int32))]))
          refine own_of (fun _ k => XS.goto X19.here hx rfl (pc0 := 73) (pc' := 77) rfl (hb hby d5_73) (by decide) (by decide) k) ?_
          show own_Out p e below _ (T19.setTop (mkF m 77 #[.val (.ref o0), .val (.long q1), .second, .val (.int (1 : Int32)), .val (.int (1 : Int32))] [(.int (1 : Int32))]))
          exact own_outN X19 hx hlk (t := .boolean) hret (by simp) (hb hby d5_77) (z' := (1 : Int32)) rfl (Q := Q5 Z o0 q1 lo lp hi hp h0 n0) ⟨by simp only [f5, if_neg hc6_2, if_neg hc13_10, if_pos hc22_18, if_pos hc37_20], N0, e19⟩ (by decide) (by decide)
        · skip
          refine own_of (fun _ k => XS.ifNo X19.here hx rfl (hb hby d5_37) rfl (own_lflt hc37_20).1 k) ?_
          show own_Out p e below _ (T19.setTop (mkF m 40 #[.val (.ref o0), .val (.long q1), .second, .val (.int (1 : Int32)), .unset] []))
          refine own_of (fun _ k => XS.aloadN X19.here hx rfl (hb hby d5_40) rfl rfl k) ?_
          show own_Out p e below _ (T19.setTop (mkF m 41 #[.val (.ref o0), .val (.long q1), .second, .val (.int (1 : Int32)), .unset] [(.ref o0)]))
          obtain ⟨T21, X21, e21, st21⟩ := getF X19 hx hZ hown (host := "") (Or.inl (hw _ (List.mem_of_getElem? (i := 24) rfl))) Via.refl e19 F_highPasses (g := (mkF m 41 #[.val (.ref o0), .val (.long q1), .second, .val (.int (1 : Int32)), .unset] [(.ref o0)])) rfl rfl (hb hby d5_41)
          refine own_of st21 ?_
          show own_Out p e below _ (T21.setTop (mkF m 44 #[.val (.ref o0), .val (.long q1), .second, .val (.int (1 : Int32)), .unset] [(.int hp)]))
          by_cases hc44_22 : hp = (0 : Int32)
          · skip
            refine own_of (fun _ k => XS.ifYes X21.here hx rfl (pc0 := 44) (pc' := 60) rfl (hb hby d5_44) rfl ((if0 _ _).trans (teq hc44_22).1) (by decide) (by decide) k) ?_
            show own_Out p e below _ (T21.setTop (mkF m 60 #[.val (.ref o0), .val (.long q1), .second, .val (.int (1 : Int32)), .unset] []))
            refine own_of (fun _ k => XS.iconst X21.here hx rfl (hb hby d5_60) k) ?_
            show own_Out p e below _ (T21.setTop (mkF m 61 #[.val (.ref o0), .val (.long q1), .second, .val (.int (1 : Int32)), .unset] [(.int (0 : Int32))]))
            refine own_of (fun _ k => XS.istore X21.here hx rfl (hb hby d5_61) rfl (l' := #[.val (.ref o0), .val (.long q1), .second, .val (.int (1 : Int32)), .val (.int (0 : Int32))]) rfl k) ?_
            show own_Out p e below _ (T21.setTop (mkF m 63 #[.val (.ref o0), .val (.long q1), .second, .val (.int (1 : Int32)), .val (.int (0 : Int32))] []))
            refine own_of (fun _ k => XS.iloadN X21.here hx rfl (hb hby d5_63) rfl k) ?_
            show own_Out p e below _ (T21.setTop (mkF m 64 #[.val (.ref o0), .val (.long q1), .second, .val (.int (1 : Int32)), .val (.int (0 : Int32))] [(.int (1 : Int32))]))
            refine own_of (fun _ k => XS.ifNo X21.here hx rfl (hb hby d5_64) rfl ((if0 _ _).trans (feq (by decide : ¬ ((1 : Int32) = (0 : Int32)))).1) k) ?_
            show own_Out p e below _ (T21.setTop (mkF m 67 #[.val (.ref o0), .val (.long q1), .second, .val (.int (1 : Int32)), .val (.int (0 : Int32))] []))
            refine own_of (fun _ k => XS.iload X21.here hx rfl (hb hby d5_67) rfl k) ?_
            show own_Out p e below _ (T21.setTop (mkF m 69 #[.val (.ref o0), .val (.long q1), .second, .val (.int (1 : Int32)), .val (.int (0 : Int32))] [(.int (0 : Int32))]))
            refine own_of (fun _ k => XS.ifYes X21.here hx rfl (pc0 := 69) (pc' := 76) rfl (hb hby d5_69) rfl ((if0 _ _).trans (teq (by decide : (0 : Int32) = (0 : Int32))).1) (by decide) (by decide) k) ?_
            show own_Out p e below _ (T21.setTop (mkF m 76 #[.val (.ref o0), .val (.long q1), .second, .val (.int (1 : Int32)), .val (.int (0 : Int32))] []))
            refine own_of (fun _ k => XS.iconst X21.here hx rfl (hb hby d5_76) k) ?_
            show own_Out p e below _ (T21.setTop (mkF m 77 #[.val (.ref o0), .val (.long q1), .second, .val (.int (1 : Int32)), .val (.int (0 : Int32))] [(.int (0 : Int32))]))
            exact own_outN X21 hx hlk (t := .boolean) hret (by simp) (hb hby d5_77) (z' := (0 : Int32)) rfl (Q := Q5 Z o0 q1 lo lp hi hp h0 n0) ⟨by simp only [f5, if_neg hc6_2, if_neg hc13_10, if_pos hc22_18, if_neg hc37_20, if_pos hc44_22], N0, e21⟩ (by decide) (by decide)
          · skip
            refine own_of (fun _ k => XS.ifNo X21.here hx rfl (hb hby d5_44) rfl ((if0 _ _).trans (feq hc44_22).1) k) ?_
            show own_Out p e below _ (T21.setTop (mkF m 47 #[.val (.ref o0), .val (.long q1), .second, .val (.int (1 : Int32)), .unset] []))
            refine own_of (fun _ k => XS.lloadN X21.here hx rfl (hb hby d5_47) rfl k) ?_
            show own_Out p e below _ (T21.setTop (mkF m 48 #[.val (.ref o0), .val (.long q1), .second, .val (.int (1 : Int32)), .unset] [(.long q1)]))
            refine own_of (fun _ k => XS.aloadN X21.here hx rfl (hb hby d5_48) rfl rfl k) ?_
            show own_Out p e below _ (T21.setTop (mkF m 49 #[.val (.ref o0), .val (.long q1), .second, .val (.int (1 : Int32)), .unset] [(.ref o0), (.long q1)]))
            obtain ⟨T23, X23, e23, st23⟩ := getF X21 hx hZ hown (host := "") (Or.inl (hw _ (List.mem_of_getElem? (i := 22) rfl))) Via.refl e21 F_high (g := (mkF m 49 #[.val (.ref o0), .val (.long q1), .second, .val (.int (1 : Int32)), .unset] [(.ref o0), (.long q1)])) rfl rfl (hb hby d5_49)
            refine own_of st23 ?_
            show own_Out p e below _ (T23.setTop (mkF m 52 #[.val (.ref o0), .val (.long q1), .second, .val (.int (1 : Int32)), .unset] [(.long hi), (.long q1)]))
            refine own_of (fun _ k => XS.lcmp X23.here hx rfl (hb hby d5_52) rfl k) ?_
            show own_Out p e below _ (T23.setTop (mkF m 53 #[.val (.ref o0), .val (.long q1), .second, .val (.int (1 : Int32)), .unset] [(.int (lcmpW q1 hi))]))
            by_cases hc53_24 : q1 = hi
            · skip
              refine own_of (fun _ k => XS.ifNo X23.here hx rfl (hb hby d5_53) rfl (own_leq hc53_24).2 k) ?_
              show own_Out p e below _ (T23.setTop (mkF m 56 #[.val (.ref o0), .val (.long q1), .second, .val (.int (1 : Int32)), .unset] []))
              refine own_of (fun _ k => XS.iconst X23.here hx rfl (hb hby d5_56) k) ?_
              show own_Out p e below _ (T23.setTop (mkF m 57 #[.val (.ref o0), .val (.long q1), .second, .val (.int (1 : Int32)), .unset] [(.int (1 : Int32))]))
              refine own_of (fun _ k => XS.goto X23.here hx rfl (pc0 := 57) (pc' := 61) rfl (hb hby d5_57) (by decide) (by decide) k) ?_
              show own_Out p e below _ (T23.setTop (mkF m 61 #[.val (.ref o0), .val (.long q1), .second, .val (.int (1 : Int32)), .unset] [(.int (1 : Int32))]))
              refine own_of (fun _ k => XS.istore X23.here hx rfl (hb hby d5_61) rfl (l' := #[.val (.ref o0), .val (.long q1), .second, .val (.int (1 : Int32)), .val (.int (1 : Int32))]) rfl k) ?_
              show own_Out p e below _ (T23.setTop (mkF m 63 #[.val (.ref o0), .val (.long q1), .second, .val (.int (1 : Int32)), .val (.int (1 : Int32))] []))
              refine own_of (fun _ k => XS.iloadN X23.here hx rfl (hb hby d5_63) rfl k) ?_
              show own_Out p e below _ (T23.setTop (mkF m 64 #[.val (.ref o0), .val (.long q1), .second, .val (.int (1 : Int32)), .val (.int (1 : Int32))] [(.int (1 : Int32))]))
              refine own_of (fun _ k => XS.ifNo X23.here hx rfl (hb hby d5_64) rfl ((if0 _ _).trans (feq (by decide : ¬ ((1 : Int32) = (0 : Int32)))).1) k) ?_
              show own_Out p e below _ (T23.setTop (mkF m 67 #[.val (.ref o0), .val (.long q1), .second, .val (.int (1 : Int32)), .val (.int (1 : Int32))] []))
              refine own_of (fun _ k => XS.iload X23.here hx rfl (hb hby d5_67) rfl k) ?_
              show own_Out p e below _ (T23.setTop (mkF m 69 #[.val (.ref o0), .val (.long q1), .second, .val (.int (1 : Int32)), .val (.int (1 : Int32))] [(.int (1 : Int32))]))
              refine own_of (fun _ k => XS.ifNo X23.here hx rfl (hb hby d5_69) rfl ((if0 _ _).trans (feq (by decide : ¬ ((1 : Int32) = (0 : Int32)))).1) k) ?_
              show own_Out p e below _ (T23.setTop (mkF m 72 #[.val (.ref o0), .val (.long q1), .second, .val (.int (1 : Int32)), .val (.int (1 : Int32))] []))
              refine own_of (fun _ k => XS.iconst X23.here hx rfl (hb hby d5_72) k) ?_
              show own_Out p e below _ (T23.setTop (mkF m 73 #[.val (.ref o0), .val (.long q1), .second, .val (.int (1 : Int32)), .val (.int (1 : Int32))] [(.int (1 : Int32))]))
              refine own_of (fun _ k => XS.goto X23.here hx rfl (pc0 := 73) (pc' := 77) rfl (hb hby d5_73) (by decide) (by decide) k) ?_
              show own_Out p e below _ (T23.setTop (mkF m 77 #[.val (.ref o0), .val (.long q1), .second, .val (.int (1 : Int32)), .val (.int (1 : Int32))] [(.int (1 : Int32))]))
              exact own_outN X23 hx hlk (t := .boolean) hret (by simp) (hb hby d5_77) (z' := (1 : Int32)) rfl (Q := Q5 Z o0 q1 lo lp hi hp h0 n0) ⟨by simp only [f5, if_neg hc6_2, if_neg hc13_10, if_pos hc22_18, if_neg hc37_20, if_neg hc44_22, if_pos hc53_24], N0, e23⟩ (by decide) (by decide)
            · skip
              refine own_of (fun _ k => XS.ifYes X23.here hx rfl (pc0 := 53) (pc' := 60) rfl (hb hby d5_53) rfl (own_lfeq hc53_24).2 (by decide) (by decide) k) ?_
              show own_Out p e below _ (T23.setTop (mkF m 60 #[.val (.ref o0), .val (.long q1), .second, .val (.int (1 : Int32)), .unset] []))
              refine own_of (fun _ k => XS.iconst X23.here hx rfl (hb hby d5_60) k) ?_
              show own_Out p e below _ (T23.setTop (mkF m 61 #[.val (.ref o0), .val (.long q1), .second, .val (.int (1 : Int32)), .unset] [(.int (0 : Int32))]))
              refine own_of (fun _ k => XS.istore X23.here hx rfl (hb hby d5_61) rfl (l' := #[.val (.ref o0), .val (.long q1), .second, .val (.int (1 : Int32)), .val (.int (0 : Int32))]) rfl k) ?_
              show own_Out p e below _ (T23.setTop (mkF m 63 #[.val (.ref o0), .val (.long q1), .second, .val (.int (1 : Int32)), .val (.int (0 : Int32))] []))
              refine own_of (fun _ k => XS.iloadN X23.here hx rfl (hb hby d5_63) rfl k) ?_
              show own_Out p e below _ (T23.setTop (mkF m 64 #[.val (.ref o0), .val (.long q1), .second, .val (.int (1 : Int32)), .val (.int (0 : Int32))] [(.int (1 : Int32))]))
              refine own_of (fun _ k => XS.ifNo X23.here hx rfl (hb hby d5_64) rfl ((if0 _ _).trans (feq (by decide : ¬ ((1 : Int32) = (0 : Int32)))).1) k) ?_
              show own_Out p e below _ (T23.setTop (mkF m 67 #[.val (.ref o0), .val (.long q1), .second, .val (.int (1 : Int32)), .val (.int (0 : Int32))] []))
              refine own_of (fun _ k => XS.iload X23.here hx rfl (hb hby d5_67) rfl k) ?_
              show own_Out p e below _ (T23.setTop (mkF m 69 #[.val (.ref o0), .val (.long q1), .second, .val (.int (1 : Int32)), .val (.int (0 : Int32))] [(.int (0 : Int32))]))
              refine own_of (fun _ k => XS.ifYes X23.here hx rfl (pc0 := 69) (pc' := 76) rfl (hb hby d5_69) rfl ((if0 _ _).trans (teq (by decide : (0 : Int32) = (0 : Int32))).1) (by decide) (by decide) k) ?_
              show own_Out p e below _ (T23.setTop (mkF m 76 #[.val (.ref o0), .val (.long q1), .second, .val (.int (1 : Int32)), .val (.int (0 : Int32))] []))
              refine own_of (fun _ k => XS.iconst X23.here hx rfl (hb hby d5_76) k) ?_
              show own_Out p e below _ (T23.setTop (mkF m 77 #[.val (.ref o0), .val (.long q1), .second, .val (.int (1 : Int32)), .val (.int (0 : Int32))] [(.int (0 : Int32))]))
              exact own_outN X23 hx hlk (t := .boolean) hret (by simp) (hb hby d5_77) (z' := (0 : Int32)) rfl (Q := Q5 Z o0 q1 lo lp hi hp h0 n0) ⟨by simp only [f5, if_neg hc6_2, if_neg hc13_10, if_pos hc22_18, if_neg hc37_20, if_neg hc44_22, if_neg hc53_24], N0, e23⟩ (by decide) (by decide)
      · skip
        refine own_of (fun _ k => XS.ifYes X17.here hx rfl (pc0 := 22) (pc' := 29) rfl (hb hby d5_22) rfl (own_lfeq hc22_18).2 (by decide) (by decide) k) ?_
        show own_Out p e below _ (T17.setTop (mkF m 29 #[.val (.ref o0), .val (.long q1), .second, .unset, .unset] []))
        refine own_of (fun _ k => XS.iconst X17.here hx rfl (hb hby d5_29) k) ?_
        show own_Out p e below _ (T17.setTop (mkF m 30 #[.val (.ref o0), .val (.long q1), .second, .unset, .unset] [(.int (0 : Int32))]))
        refine own_of (fun _ k => XS.istoreN X17.here hx rfl (hb hby d5_30) rfl (l' := #[.val (.ref o0), .val (.long q1), .second, .val (.int (0 : Int32)), .unset]) rfl k) ?_
        show own_Out p e below _ (T17.setTop (mkF m 31 #[.val (.ref o0), .val (.long q1), .second, .val (.int (0 : Int32)), .unset] []))
        refine own_of (fun _ k => XS.lloadN X17.here hx rfl (hb hby d5_31) rfl k) ?_
        show own_Out p e below _ (T17.setTop (mkF m 32 #[.val (.ref o0), .val (.long q1), .second, .val (.int (0 : Int32)), .unset] [(.long q1)]))
        refine own_of (fun _ k => XS.aloadN X17.here hx rfl (hb hby d5_32) rfl rfl k) ?_
        show own_Out p e below _ (T17.setTop (mkF m 33 #[.val (.ref o0), .val (.long q1), .second, .val (.int (0 : Int32)), .unset] [(.ref o0), (.long q1)]))
        obtain ⟨T25, X25, e25, st25⟩ := getF X17 hx hZ hown (host := "") (Or.inl (hw _ (List.mem_of_getElem? (i := 22) rfl))) Via.refl e17 F_high (g := (mkF m 33 #[.val (.ref o0), .val (.long q1), .second, .val (.int (0 : Int32)), .unset] [(.ref o0), (.long q1)])) rfl rfl (hb hby d5_33)
        refine own_of st25 ?_
        show own_Out p e below _ (T25.setTop (mkF m 36 #[.val (.ref o0), .val (.long q1), .second, .val (.int (0 : Int32)), .unset] [(.long hi), (.long q1)]))
        refine own_of (fun _ k => XS.lcmp X25.here hx rfl (hb hby d5_36) rfl k) ?_
        show own_Out p e below _ (T25.setTop (mkF m 37 #[.val (.ref o0), .val (.long q1), .second, .val (.int (0 : Int32)), .unset] [(.int (lcmpW q1 hi))]))
        by_cases hc37_26 : q1 < hi
        · skip
          refine own_of (fun _ k => XS.ifYes X25.here hx rfl (pc0 := 37) (pc' := 56) rfl (hb hby d5_37) rfl (own_ltlt hc37_26).1 (by decide) (by decide) k) ?_
          show own_Out p e below _ (T25.setTop (mkF m 56 #[.val (.ref o0), .val (.long q1), .second, .val (.int (0 : Int32)), .unset] []))
          refine own_of (fun _ k => XS.iconst X25.here hx rfl (hb hby d5_56) k) ?_
          show own_Out p e below _ (T25.setTop (mkF m 57 #[.val (.ref o0), .val (.long q1), .second, .val (.int (0 : Int32)), .unset] [(.int (1 : Int32))]))
          refine own_of (fun _ k => XS.goto X25.here hx rfl (pc0 := 57) (pc' := 61) rfl (hb hby d5_57) (by decide) (by decide) k) ?_
          show own_Out p e below _ (T25.setTop (mkF m 61 #[.val (.ref o0), .val (.long q1), .second, .val (.int (0 : Int32)), .unset] [(.int (1 : Int32))]))
          refine own_of (fun _ k => XS.istore X25.here hx rfl (hb hby d5_61) rfl (l' := #[.val (.ref o0), .val (.long q1), .second, .val (.int (0 : Int32)), .val (.int (1 : Int32))]) rfl k) ?_
          show own_Out p e below _ (T25.setTop (mkF m 63 #[.val (.ref o0), .val (.long q1), .second, .val (.int (0 : Int32)), .val (.int (1 : Int32))] []))
          refine own_of (fun _ k => XS.iloadN X25.here hx rfl (hb hby d5_63) rfl k) ?_
          show own_Out p e below _ (T25.setTop (mkF m 64 #[.val (.ref o0), .val (.long q1), .second, .val (.int (0 : Int32)), .val (.int (1 : Int32))] [(.int (0 : Int32))]))
          refine own_of (fun _ k => XS.ifYes X25.here hx rfl (pc0 := 64) (pc' := 76) rfl (hb hby d5_64) rfl ((if0 _ _).trans (teq (by decide : (0 : Int32) = (0 : Int32))).1) (by decide) (by decide) k) ?_
          show own_Out p e below _ (T25.setTop (mkF m 76 #[.val (.ref o0), .val (.long q1), .second, .val (.int (0 : Int32)), .val (.int (1 : Int32))] []))
          refine own_of (fun _ k => XS.iconst X25.here hx rfl (hb hby d5_76) k) ?_
          show own_Out p e below _ (T25.setTop (mkF m 77 #[.val (.ref o0), .val (.long q1), .second, .val (.int (0 : Int32)), .val (.int (1 : Int32))] [(.int (0 : Int32))]))
          exact own_outN X25 hx hlk (t := .boolean) hret (by simp) (hb hby d5_77) (z' := (0 : Int32)) rfl (Q := Q5 Z o0 q1 lo lp hi hp h0 n0) ⟨by simp only [f5, if_neg hc6_2, if_neg hc13_10, if_neg hc22_18, if_pos hc37_26], N0, e25⟩ (by decide) (by decide)
        · skip
          refine own_of (fun _ k => XS.ifNo X25.here hx rfl (hb hby d5_37) rfl (own_lflt hc37_26).1 k) ?_
          show own_Out p e below _ (T25.setTop (mkF m 40 #[.val (.ref o0), .val (.long q1), .second, .val (.int (0 : Int32)), .unset] []))
          refine own_of (fun _ k => XS.aloadN X25.here hx rfl (hb hby d5_40) rfl rfl k) ?_
          show own_Out p e below _ (T25.setTop (mkF m 41 #[.val (.ref o0), .val (.long q1), .second, .val (.int (0 : Int32)), .unset] [(.ref o0)]))
          obtain ⟨T27, X27, e27, st27⟩ := getF X25 hx hZ hown (host := "") (Or.inl (hw _ (List.mem_of_getElem? (i := 24) rfl))) Via.refl e25 F_highPasses (g := (mkF m 41 #[.val (.ref o0), .val (.long q1), .second, .val (.int (0 : Int32)), .unset] [(.ref o0)])) rfl rfl (hb hby d5_41)
          refine own_of st27 ?_
          show own_Out p e below _ (T27.setTop (mkF m 44 #[.val (.ref o0), .val (.long q1), .second, .val (.int (0 : Int32)), .unset] [(.int hp)]))
          by_cases hc44_28 : hp = (0 : Int32)
          · skip
            refine own_of (fun _ k => XS.ifYes X27.here hx rfl (pc0 := 44) (pc' := 60) rfl (hb hby d5_44) rfl ((if0 _ _).trans (teq hc44_28).1) (by decide) (by decide) k) ?_
            show own_Out p e below _ (T27.setTop (mkF m 60 #[.val (.ref o0), .val (.long q1), .second, .val (.int (0 : Int32)), .unset] []))
            refine own_of (fun _ k => XS.iconst X27.here hx rfl (hb hby d5_60) k) ?_
            show own_Out p e below _ (T27.setTop (mkF m 61 #[.val (.ref o0), .val (.long q1), .second, .val (.int (0 : Int32)), .unset] [(.int (0 : Int32))]))
            refine own_of (fun _ k => XS.istore X27.here hx rfl (hb hby d5_61) rfl (l' := #[.val (.ref o0), .val (.long q1), .second, .val (.int (0 : Int32)), .val (.int (0 : Int32))]) rfl k) ?_
            show own_Out p e below _ (T27.setTop (mkF m 63 #[.val (.ref o0), .val (.long q1), .second, .val (.int (0 : Int32)), .val (.int (0 : Int32))] []))
            refine own_of (fun _ k => XS.iloadN X27.here hx rfl (hb hby d5_63) rfl k) ?_
            show own_Out p e below _ (T27.setTop (mkF m 64 #[.val (.ref o0), .val (.long q1), .second, .val (.int (0 : Int32)), .val (.int (0 : Int32))] [(.int (0 : Int32))]))
            refine own_of (fun _ k => XS.ifYes X27.here hx rfl (pc0 := 64) (pc' := 76) rfl (hb hby d5_64) rfl ((if0 _ _).trans (teq (by decide : (0 : Int32) = (0 : Int32))).1) (by decide) (by decide) k) ?_
            show own_Out p e below _ (T27.setTop (mkF m 76 #[.val (.ref o0), .val (.long q1), .second, .val (.int (0 : Int32)), .val (.int (0 : Int32))] []))
            refine own_of (fun _ k => XS.iconst X27.here hx rfl (hb hby d5_76) k) ?_
            show own_Out p e below _ (T27.setTop (mkF m 77 #[.val (.ref o0), .val (.long q1), .second, .val (.int (0 : Int32)), .val (.int (0 : Int32))] [(.int (0 : Int32))]))
            exact own_outN X27 hx hlk (t := .boolean) hret (by simp) (hb hby d5_77) (z' := (0 : Int32)) rfl (Q := Q5 Z o0 q1 lo lp hi hp h0 n0) ⟨by simp only [f5, if_neg hc6_2, if_neg hc13_10, if_neg hc22_18, if_neg hc37_26, if_pos hc44_28], N0, e27⟩ (by decide) (by decide)
          · skip
            refine own_of (fun _ k => XS.ifNo X27.here hx rfl (hb hby d5_44) rfl ((if0 _ _).trans (feq hc44_28).1) k) ?_
            show own_Out p e below _ (T27.setTop (mkF m 47 #[.val (.ref o0), .val (.long q1), .second, .val (.int (0 : Int32)), .unset] []))
            refine own_of (fun _ k => XS.lloadN X27.here hx rfl (hb hby d5_47) rfl k) ?_
            show own_Out p e below _ (T27.setTop (mkF m 48 #[.val (.ref o0), .val (.long q1), .second, .val (.int (0 : Int32)), .unset] [(.long q1)]))
            refine own_of (fun _ k => XS.aloadN X27.here hx rfl (hb hby d5_48) rfl rfl k) ?_
            show own_Out p e below _ (T27.setTop (mkF m 49 #[.val (.ref o0), .val (.long q1), .second, .val (.int (0 : Int32)), .unset] [(.ref o0), (.long q1)]))
            obtain ⟨T29, X29, e29, st29⟩ := getF X27 hx hZ hown (host := "") (Or.inl (hw _ (List.mem_of_getElem? (i := 22) rfl))) Via.refl e27 F_high (g := (mkF m 49 #[.val (.ref o0), .val (.long q1), .second, .val (.int (0 : Int32)), .unset] [(.ref o0), (.long q1)])) rfl rfl (hb hby d5_49)
            refine own_of st29 ?_
            show own_Out p e below _ (T29.setTop (mkF m 52 #[.val (.ref o0), .val (.long q1), .second, .val (.int (0 : Int32)), .unset] [(.long hi), (.long q1)]))
            refine own_of (fun _ k => XS.lcmp X29.here hx rfl (hb hby d5_52) rfl k) ?_
            show own_Out p e below _ (T29.setTop (mkF m 53 #[.val (.ref o0), .val (.long q1), .second, .val (.int (0 : Int32)), .unset] [(.int (lcmpW q1 hi))]))
            by_cases hc53_30 : q1 = hi
            · skip
              refine own_of (fun _ k => XS.ifNo X29.here hx rfl (hb hby d5_53) rfl (own_leq hc53_30).2 k) ?_
              show own_Out p e below _ (T29.setTop (mkF m 56 #[.val (.ref o0), .val (.long q1), .second, .val (.int (0 : Int32)), .unset] []))
              refine own_of (fun _ k => XS.iconst X29.here hx rfl (hb hby d5_56) k) ?_
              show own_Out p e below _ (T29.setTop (mkF m 57 #[.val (.ref o0), .val (.long q1), .second, .val (.int (0 : Int32)), .unset] [(.int (1 : Int32))]))
              refine own_of (fun _ k => XS.goto X29.here hx rfl (pc0 := 57) (pc' := 61) rfl (hb hby d5_57) (by decide) (by decide) k) ?_
              show own_Out p e below _ (T29.setTop (mkF m 61 #[.val (.ref o0), .val (.long q1), .second, .val (.int (0 : Int32)), .unset] [(.int (1 : Int32))]))
              refine own_of (fun _ k => XS.istore X29.here hx rfl (hb hby d5_61) rfl (l' := #[.val (.ref o0), .val (.long q1), .second, .val (.int (0 : Int32)), .val (.int (1 : Int32))]) rfl k) ?_
              show own_Out p e below _ (T29.setTop (mkF m 63 #[.val (.ref o0), .val (.long q1), .second, .val (.int (0 : Int32)), .val (.int (1 : Int32))] []))
              refine own_of (fun _ k => XS.iloadN X29.here hx rfl (hb hby d5_63) rfl k) ?_
              show own_Out p e below _ (T29.setTop (mkF m 64 #[.val (.ref o0), .val (.long q1), .second, .val (.int (0 : Int32)), .val (.int (1 : Int32))] [(.int (0 : Int32))]))
              refine own_of (fun _ k => XS.ifYes X29.here hx rfl (pc0 := 64) (pc' := 76) rfl (hb hby d5_64) rfl ((if0 _ _).trans (teq (by decide : (0 : Int32) = (0 : Int32))).1) (by decide) (by decide) k) ?_
              show own_Out p e below _ (T29.setTop (mkF m 76 #[.val (.ref o0), .val (.long q1), .second, .val (.int (0 : Int32)), .val (.int (1 : Int32))] []))
              refine own_of (fun _ k => XS.iconst X29.here hx rfl (hb hby d5_76) k) ?_
              show own_Out p e below _ (T29.setTop (mkF m 77 #[.val (.ref o0), .val (.long q1), .second, .val (.int (0 : Int32)), .val (.int (1 : Int32))] [(.int (0 : Int32))]))
              exact own_outN X29 hx hlk (t := .boolean) hret (by simp) (hb hby d5_77) (z' := (0 : Int32)) rfl (Q := Q5 Z o0 q1 lo lp hi hp h0 n0) ⟨by simp only [f5, if_neg hc6_2, if_neg hc13_10, if_neg hc22_18, if_neg hc37_26, if_neg hc44_28, if_pos hc53_30], N0, e29⟩ (by decide) (by decide)
            · skip
              refine own_of (fun _ k => XS.ifYes X29.here hx rfl (pc0 := 53) (pc' := 60) rfl (hb hby d5_53) rfl (own_lfeq hc53_30).2 (by decide) (by decide) k) ?_
              show own_Out p e below _ (T29.setTop (mkF m 60 #[.val (.ref o0), .val (.long q1), .second, .val (.int (0 : Int32)), .unset] []))
              refine own_of (fun _ k => XS.iconst X29.here hx rfl (hb hby d5_60) k) ?_
              show own_Out p e below _ (T29.setTop (mkF m 61 #[.val (.ref o0), .val (.long q1), .second, .val (.int (0 : Int32)), .unset] [(.int (0 : Int32))]))
              refine own_of (fun _ k => XS.istore X29.here hx rfl (hb hby d5_61) rfl (l' := #[.val (.ref o0), .val (.long q1), .second, .val (.int (0 : Int32)), .val (.int (0 : Int32))]) rfl k) ?_
              show own_Out p e below _ (T29.setTop (mkF m 63 #[.val (.ref o0), .val (.long q1), .second, .val (.int (0 : Int32)), .val (.int (0 : Int32))] []))
              refine own_of (fun _ k => XS.iloadN X29.here hx rfl (hb hby d5_63) rfl k) ?_
              show own_Out p e below _ (T29.setTop (mkF m 64 #[.val (.ref o0), .val (.long q1), .second, .val (.int (0 : Int32)), .val (.int (0 : Int32))] [(.int (0 : Int32))]))
              refine own_of (fun _ k => XS.ifYes X29.here hx rfl (pc0 := 64) (pc' := 76) rfl (hb hby d5_64) rfl ((if0 _ _).trans (teq (by decide : (0 : Int32) = (0 : Int32))).1) (by decide) (by decide) k) ?_
              show own_Out p e below _ (T29.setTop (mkF m 76 #[.val (.ref o0), .val (.long q1), .second, .val (.int (0 : Int32)), .val (.int (0 : Int32))] []))
              refine own_of (fun _ k => XS.iconst X29.here hx rfl (hb hby d5_76) k) ?_
              show own_Out p e below _ (T29.setTop (mkF m 77 #[.val (.ref o0), .val (.long q1), .second, .val (.int (0 : Int32)), .val (.int (0 : Int32))] [(.int (0 : Int32))]))
              exact own_outN X29 hx hlk (t := .boolean) hret (by simp) (hb hby d5_77) (z' := (0 : Int32)) rfl (Q := Q5 Z o0 q1 lo lp hi hp h0 n0) ⟨by simp only [f5, if_neg hc6_2, if_neg hc13_10, if_neg hc22_18, if_neg hc37_26, if_neg hc44_28, if_neg hc53_30], N0, e29⟩ (by decide) (by decide)
theorem d6_0 : decode method_3_code 0 = .ok (.iload_n 2, 1) := by decide +kernel
theorem d6_1 : decode method_3_code 1 = .ok (.ifCond .eq 20, 3) := by decide +kernel
theorem d6_4 : decode method_3_code 4 = .ok (.lload 6, 2) := by decide +kernel
theorem d6_6 : decode method_3_code 6 = .ok (.lload_n 0, 1) := by decide +kernel
theorem d6_7 : decode method_3_code 7 = .ok (.lcmp, 1) := by decide +kernel
theorem d6_8 : decode method_3_code 8 = .ok (.ifCond .lt 7, 3) := by decide +kernel
theorem d6_11 : decode method_3_code 11 = .ok (.iconst 1, 1) := by decide +kernel
theorem d6_12 : decode method_3_code 12 = .ok (.goto 4, 3) := by decide +kernel
theorem d6_15 : decode method_3_code 15 = .ok (.iconst 0, 1) := by decide +kernel
theorem d6_16 : decode method_3_code 16 = .ok (.istore 8, 2) := by decide +kernel
theorem d6_18 : decode method_3_code 18 = .ok (.goto 17, 3) := by decide +kernel
theorem d6_21 : decode method_3_code 21 = .ok (.lload 6, 2) := by decide +kernel
theorem d6_23 : decode method_3_code 23 = .ok (.lload_n 0, 1) := by decide +kernel
theorem d6_24 : decode method_3_code 24 = .ok (.lcmp, 1) := by decide +kernel
theorem d6_25 : decode method_3_code 25 = .ok (.ifCond .le 7, 3) := by decide +kernel
theorem d6_28 : decode method_3_code 28 = .ok (.iconst 1, 1) := by decide +kernel
theorem d6_29 : decode method_3_code 29 = .ok (.goto 4, 3) := by decide +kernel
theorem d6_32 : decode method_3_code 32 = .ok (.iconst 0, 1) := by decide +kernel
theorem d6_33 : decode method_3_code 33 = .ok (.istore 8, 2) := by decide +kernel
theorem d6_35 : decode method_3_code 35 = .ok (.iload 5, 2) := by decide +kernel
theorem d6_37 : decode method_3_code 37 = .ok (.ifCond .eq 20, 3) := by decide +kernel
theorem d6_40 : decode method_3_code 40 = .ok (.lload 6, 2) := by decide +kernel
theorem d6_42 : decode method_3_code 42 = .ok (.lload_n 3, 1) := by decide +kernel
theorem d6_43 : decode method_3_code 43 = .ok (.lcmp, 1) := by decide +kernel
theorem d6_44 : decode method_3_code 44 = .ok (.ifCond .gt 7, 3) := by decide +kernel
theorem d6_47 : decode method_3_code 47 = .ok (.iconst 1, 1) := by decide +kernel
theorem d6_48 : decode method_3_code 48 = .ok (.goto 4, 3) := by decide +kernel
theorem d6_51 : decode method_3_code 51 = .ok (.iconst 0, 1) := by decide +kernel
theorem d6_52 : decode method_3_code 52 = .ok (.istore 9, 2) := by decide +kernel
theorem d6_54 : decode method_3_code 54 = .ok (.goto 17, 3) := by decide +kernel
theorem d6_57 : decode method_3_code 57 = .ok (.lload 6, 2) := by decide +kernel
theorem d6_59 : decode method_3_code 59 = .ok (.lload_n 3, 1) := by decide +kernel
theorem d6_60 : decode method_3_code 60 = .ok (.lcmp, 1) := by decide +kernel
theorem d6_61 : decode method_3_code 61 = .ok (.ifCond .ge 7, 3) := by decide +kernel
theorem d6_64 : decode method_3_code 64 = .ok (.iconst 1, 1) := by decide +kernel
theorem d6_65 : decode method_3_code 65 = .ok (.goto 4, 3) := by decide +kernel
theorem d6_68 : decode method_3_code 68 = .ok (.iconst 0, 1) := by decide +kernel
theorem d6_69 : decode method_3_code 69 = .ok (.istore 9, 2) := by decide +kernel
theorem d6_71 : decode method_3_code 71 = .ok (.iload 8, 2) := by decide +kernel
theorem d6_73 : decode method_3_code 73 = .ok (.ifCond .eq 12, 3) := by decide +kernel
theorem d6_76 : decode method_3_code 76 = .ok (.iload 9, 2) := by decide +kernel
theorem d6_78 : decode method_3_code 78 = .ok (.ifCond .eq 7, 3) := by decide +kernel
theorem d6_81 : decode method_3_code 81 = .ok (.iconst 1, 1) := by decide +kernel
theorem d6_82 : decode method_3_code 82 = .ok (.goto 4, 3) := by decide +kernel
theorem d6_85 : decode method_3_code 85 = .ok (.iconst 0, 1) := by decide +kernel
theorem d6_86 : decode method_3_code 86 = .ok (.ireturn, 1) := by decide +kernel
theorem ef_6 (m : MethodId) (x0 : Int64) (x1 : Int32) (x2 : Int64) (x3 : Int32) (x4 : Int64) : entryFrame m #[(.long x0), (.int x1), (.long x2), (.int x3), (.long x4)] 10 = mkF m 0 #[.val (.long x0), .second, .val (.int x1), .val (.long x2), .second, .val (.int x3), .val (.long x4), .second, .unset, .unset] [] := by first | (simp [entryFrame, mkF, argsToLocals, Value.category]; done) | rfl
def f6 (q0 : Int64) (p1 : Int32) (q2 : Int64) (p3 : Int32) (q4 : Int64) : Int32 := if p1 = (0 : Int32) then (if q0 < q4 then (if p3 = (0 : Int32) then (if q4 < q2 then (1 : Int32)
        else (0 : Int32))
      else if q2 < q4 then (0 : Int32)
        else (1 : Int32))
    else if p3 = (0 : Int32) then (if q4 < q2 then (0 : Int32)
        else (0 : Int32))
      else if q2 < q4 then (0 : Int32)
        else (0 : Int32))
  else if q4 < q0 then (if p3 = (0 : Int32) then (if q4 < q2 then (0 : Int32)
        else (0 : Int32))
      else if q2 < q4 then (0 : Int32)
        else (0 : Int32))
    else if p3 = (0 : Int32) then (if q4 < q2 then (1 : Int32)
        else (0 : Int32))
      else if q2 < q4 then (0 : Int32)
        else (1 : Int32)
def Q6 (Z : State) (q0 : Int64) (p1 : Int32) (q2 : Int64) (p3 : Int32) (q4 : Int64) (h0 : Heap) (n0 : Nat) (v : Option Value) (h : Heap) (L : List Loc) : Prop := v = some (.int (f6 q0 p1 q2 p3 q4)) ∧ Fr n0 L ∧ h = h0
set_option maxRecDepth 65536 in
set_option maxHeartbeats 40000000 in
theorem rm6 (l : Launch) (Z : State) (a0 : Array Value) (hw : ∀ d ∈ tables_1, d.before a0 Z = true) (ws : List Jvm.Cond) (q0 : Int64) (p1 : Int32) (q2 : Int64) (p3 : Int32) (q4 : Int64) (h0 : Heap) (n0 : Nat) (Z0 : n0 ≤ h0.size) :
    MetFree l (⟨"com/example/headway/headway/engine/IntervalContainsPinLaw", "expected", "(JZJZJ)Z"⟩ : MethodName) (head1 (Jvm.Cond.code (⟨"com/example/headway/headway/engine/IntervalContainsPinLaw", "expected", "(JZJZJ)Z"⟩ : MethodName) method_3_code 10 (some .boolean) :: ws) ({ frames := 0, cells := 0, slots := 0, locals := 0 } : Room)) (fun a U => a = #[(.long q0), (.int p1), (.long q2), (.int p3), (.long q4)] ∧ Z.Warmed39 U.vm ∧ U.heap = h0) (fun _ _ _ _ _ => True) (fun _ U o U' => ∃ v L, o = .returned v ∧ Q6 Z q0 p1 q2 p3 q4 h0 n0 v U'.heap L ∧ FrameEnd U o U' L ({ frames := 0, cells := 0, slots := 0, locals := 0 } : Room).cells ({ frames := 0, cells := 0, slots := 0, locals := 0 } : Room).slots) := by
  refine MetFree.of_bodySF (plainFor_of_name pn_0) hisR ?_
  intro p e s m args below meth c s₁ Bd hml0 hP hK
  obtain ⟨rfl, hZ, hh⟩ := hP
  have hx := Bd.exec
  have hby := Bd.bytes
  have hml : c.maxLocals = 10 := hml0
  have hown : s.vm.findClass "com/example/headway/headway/engine/IntervalContainsPinLaw" = some m.cls := findClass_of_methodNamed Bd.named
  have hnm := (name_of_methodNamed Bd.named Bd.method).1
  have X0 : Stand p l e ({ frames := 0, cells := 0, slots := 0, locals := 0 } : Room) s m #[(.long q0), (.int p1), (.long q2), (.int p3), (.long q4)] below meth c s₁ [] 0 0 := Stand.of_body Bd
  have e0 : s₁.heap = h0 := by rw [← hh, Bd.state]; rfl
  have N0 := Fr.nil n0
  have hret := Bd.returns
  have hlk := BodyLoose.notSynchronized Bd
  show own_Out p e below (fun o U' => ∃ v L, o = .returned v ∧ Q6 Z q0 p1 q2 p3 q4 h0 n0 v U'.heap L ∧ FrameEnd s o U' L ({ frames := 0, cells := 0, slots := 0, locals := 0 } : Room).cells ({ frames := 0, cells := 0, slots := 0, locals := 0 } : Room).slots) (s₁.setTop (entryFrame m #[(.long q0), (.int p1), (.long q2), (.int p3), (.long q4)] 10))
  refine own_of (fun t k => castTop (ef_6 m q0 p1 q2 p3 q4) k) ?_
  show own_Out p e below _ (s₁.setTop (mkF m 0 #[.val (.long q0), .second, .val (.int p1), .val (.long q2), .second, .val (.int p3), .val (.long q4), .second, .unset, .unset] []))
  refine own_of (fun _ k => XS.iloadN X0.here hx rfl (hb hby d6_0) rfl k) ?_
  show own_Out p e below _ (s₁.setTop (mkF m 1 #[.val (.long q0), .second, .val (.int p1), .val (.long q2), .second, .val (.int p3), .val (.long q4), .second, .unset, .unset] [(.int p1)]))
  by_cases hc1_1 : p1 = (0 : Int32)
  · skip
    refine own_of (fun _ k => XS.ifYes X0.here hx rfl (pc0 := 1) (pc' := 21) rfl (hb hby d6_1) rfl ((if0 _ _).trans (teq hc1_1).1) (by decide) (by decide) k) ?_
    show own_Out p e below _ (s₁.setTop (mkF m 21 #[.val (.long q0), .second, .val (.int p1), .val (.long q2), .second, .val (.int p3), .val (.long q4), .second, .unset, .unset] []))
    refine own_of (fun _ k => XS.lload X0.here hx rfl (hb hby d6_21) rfl k) ?_
    show own_Out p e below _ (s₁.setTop (mkF m 23 #[.val (.long q0), .second, .val (.int p1), .val (.long q2), .second, .val (.int p3), .val (.long q4), .second, .unset, .unset] [(.long q4)]))
    refine own_of (fun _ k => XS.lloadN X0.here hx rfl (hb hby d6_23) rfl k) ?_
    show own_Out p e below _ (s₁.setTop (mkF m 24 #[.val (.long q0), .second, .val (.int p1), .val (.long q2), .second, .val (.int p3), .val (.long q4), .second, .unset, .unset] [(.long q0), (.long q4)]))
    refine own_of (fun _ k => XS.lcmp X0.here hx rfl (hb hby d6_24) rfl k) ?_
    show own_Out p e below _ (s₁.setTop (mkF m 25 #[.val (.long q0), .second, .val (.int p1), .val (.long q2), .second, .val (.int p3), .val (.long q4), .second, .unset, .unset] [(.int (lcmpW q4 q0))]))
    by_cases hc25_2 : q0 < q4
    · skip
      refine own_of (fun _ k => XS.ifNo X0.here hx rfl (hb hby d6_25) rfl (own_ltlt hc25_2).2.2.2 k) ?_
      show own_Out p e below _ (s₁.setTop (mkF m 28 #[.val (.long q0), .second, .val (.int p1), .val (.long q2), .second, .val (.int p3), .val (.long q4), .second, .unset, .unset] []))
      refine own_of (fun _ k => XS.iconst X0.here hx rfl (hb hby d6_28) k) ?_
      show own_Out p e below _ (s₁.setTop (mkF m 29 #[.val (.long q0), .second, .val (.int p1), .val (.long q2), .second, .val (.int p3), .val (.long q4), .second, .unset, .unset] [(.int (1 : Int32))]))
      refine own_of (fun _ k => XS.goto X0.here hx rfl (pc0 := 29) (pc' := 33) rfl (hb hby d6_29) (by decide) (by decide) k) ?_
      show own_Out p e below _ (s₁.setTop (mkF m 33 #[.val (.long q0), .second, .val (.int p1), .val (.long q2), .second, .val (.int p3), .val (.long q4), .second, .unset, .unset] [(.int (1 : Int32))]))
      refine own_of (fun _ k => XS.istore X0.here hx rfl (hb hby d6_33) rfl (l' := #[.val (.long q0), .second, .val (.int p1), .val (.long q2), .second, .val (.int p3), .val (.long q4), .second, .val (.int (1 : Int32)), .unset]) rfl k) ?_
      show own_Out p e below _ (s₁.setTop (mkF m 35 #[.val (.long q0), .second, .val (.int p1), .val (.long q2), .second, .val (.int p3), .val (.long q4), .second, .val (.int (1 : Int32)), .unset] []))
      refine own_of (fun _ k => XS.iload X0.here hx rfl (hb hby d6_35) rfl k) ?_
      show own_Out p e below _ (s₁.setTop (mkF m 37 #[.val (.long q0), .second, .val (.int p1), .val (.long q2), .second, .val (.int p3), .val (.long q4), .second, .val (.int (1 : Int32)), .unset] [(.int p3)]))
      by_cases hc37_3 : p3 = (0 : Int32)
      · skip
        refine own_of (fun _ k => XS.ifYes X0.here hx rfl (pc0 := 37) (pc' := 57) rfl (hb hby d6_37) rfl ((if0 _ _).trans (teq hc37_3).1) (by decide) (by decide) k) ?_
        show own_Out p e below _ (s₁.setTop (mkF m 57 #[.val (.long q0), .second, .val (.int p1), .val (.long q2), .second, .val (.int p3), .val (.long q4), .second, .val (.int (1 : Int32)), .unset] []))
        refine own_of (fun _ k => XS.lload X0.here hx rfl (hb hby d6_57) rfl k) ?_
        show own_Out p e below _ (s₁.setTop (mkF m 59 #[.val (.long q0), .second, .val (.int p1), .val (.long q2), .second, .val (.int p3), .val (.long q4), .second, .val (.int (1 : Int32)), .unset] [(.long q4)]))
        refine own_of (fun _ k => XS.lloadN X0.here hx rfl (hb hby d6_59) rfl k) ?_
        show own_Out p e below _ (s₁.setTop (mkF m 60 #[.val (.long q0), .second, .val (.int p1), .val (.long q2), .second, .val (.int p3), .val (.long q4), .second, .val (.int (1 : Int32)), .unset] [(.long q2), (.long q4)]))
        refine own_of (fun _ k => XS.lcmp X0.here hx rfl (hb hby d6_60) rfl k) ?_
        show own_Out p e below _ (s₁.setTop (mkF m 61 #[.val (.long q0), .second, .val (.int p1), .val (.long q2), .second, .val (.int p3), .val (.long q4), .second, .val (.int (1 : Int32)), .unset] [(.int (lcmpW q4 q2))]))
        by_cases hc61_4 : q4 < q2
        · skip
          refine own_of (fun _ k => XS.ifNo X0.here hx rfl (hb hby d6_61) rfl (own_ltlt hc61_4).2.1 k) ?_
          show own_Out p e below _ (s₁.setTop (mkF m 64 #[.val (.long q0), .second, .val (.int p1), .val (.long q2), .second, .val (.int p3), .val (.long q4), .second, .val (.int (1 : Int32)), .unset] []))
          refine own_of (fun _ k => XS.iconst X0.here hx rfl (hb hby d6_64) k) ?_
          show own_Out p e below _ (s₁.setTop (mkF m 65 #[.val (.long q0), .second, .val (.int p1), .val (.long q2), .second, .val (.int p3), .val (.long q4), .second, .val (.int (1 : Int32)), .unset] [(.int (1 : Int32))]))
          refine own_of (fun _ k => XS.goto X0.here hx rfl (pc0 := 65) (pc' := 69) rfl (hb hby d6_65) (by decide) (by decide) k) ?_
          show own_Out p e below _ (s₁.setTop (mkF m 69 #[.val (.long q0), .second, .val (.int p1), .val (.long q2), .second, .val (.int p3), .val (.long q4), .second, .val (.int (1 : Int32)), .unset] [(.int (1 : Int32))]))
          refine own_of (fun _ k => XS.istore X0.here hx rfl (hb hby d6_69) rfl (l' := #[.val (.long q0), .second, .val (.int p1), .val (.long q2), .second, .val (.int p3), .val (.long q4), .second, .val (.int (1 : Int32)), .val (.int (1 : Int32))]) rfl k) ?_
          show own_Out p e below _ (s₁.setTop (mkF m 71 #[.val (.long q0), .second, .val (.int p1), .val (.long q2), .second, .val (.int p3), .val (.long q4), .second, .val (.int (1 : Int32)), .val (.int (1 : Int32))] []))
          refine own_of (fun _ k => XS.iload X0.here hx rfl (hb hby d6_71) rfl k) ?_
          show own_Out p e below _ (s₁.setTop (mkF m 73 #[.val (.long q0), .second, .val (.int p1), .val (.long q2), .second, .val (.int p3), .val (.long q4), .second, .val (.int (1 : Int32)), .val (.int (1 : Int32))] [(.int (1 : Int32))]))
          refine own_of (fun _ k => XS.ifNo X0.here hx rfl (hb hby d6_73) rfl ((if0 _ _).trans (feq (by decide : ¬ ((1 : Int32) = (0 : Int32)))).1) k) ?_
          show own_Out p e below _ (s₁.setTop (mkF m 76 #[.val (.long q0), .second, .val (.int p1), .val (.long q2), .second, .val (.int p3), .val (.long q4), .second, .val (.int (1 : Int32)), .val (.int (1 : Int32))] []))
          refine own_of (fun _ k => XS.iload X0.here hx rfl (hb hby d6_76) rfl k) ?_
          show own_Out p e below _ (s₁.setTop (mkF m 78 #[.val (.long q0), .second, .val (.int p1), .val (.long q2), .second, .val (.int p3), .val (.long q4), .second, .val (.int (1 : Int32)), .val (.int (1 : Int32))] [(.int (1 : Int32))]))
          refine own_of (fun _ k => XS.ifNo X0.here hx rfl (hb hby d6_78) rfl ((if0 _ _).trans (feq (by decide : ¬ ((1 : Int32) = (0 : Int32)))).1) k) ?_
          show own_Out p e below _ (s₁.setTop (mkF m 81 #[.val (.long q0), .second, .val (.int p1), .val (.long q2), .second, .val (.int p3), .val (.long q4), .second, .val (.int (1 : Int32)), .val (.int (1 : Int32))] []))
          refine own_of (fun _ k => XS.iconst X0.here hx rfl (hb hby d6_81) k) ?_
          show own_Out p e below _ (s₁.setTop (mkF m 82 #[.val (.long q0), .second, .val (.int p1), .val (.long q2), .second, .val (.int p3), .val (.long q4), .second, .val (.int (1 : Int32)), .val (.int (1 : Int32))] [(.int (1 : Int32))]))
          refine own_of (fun _ k => XS.goto X0.here hx rfl (pc0 := 82) (pc' := 86) rfl (hb hby d6_82) (by decide) (by decide) k) ?_
          show own_Out p e below _ (s₁.setTop (mkF m 86 #[.val (.long q0), .second, .val (.int p1), .val (.long q2), .second, .val (.int p3), .val (.long q4), .second, .val (.int (1 : Int32)), .val (.int (1 : Int32))] [(.int (1 : Int32))]))
          exact own_outN X0 hx hlk (t := .boolean) hret (by simp) (hb hby d6_86) (z' := (1 : Int32)) rfl (Q := Q6 Z q0 p1 q2 p3 q4 h0 n0) ⟨by simp only [f6, if_pos hc1_1, if_pos hc25_2, if_pos hc37_3, if_pos hc61_4], N0, e0⟩ (by decide) (by decide)
        · skip
          refine own_of (fun _ k => XS.ifYes X0.here hx rfl (pc0 := 61) (pc' := 68) rfl (hb hby d6_61) rfl (own_lflt hc61_4).2.1 (by decide) (by decide) k) ?_
          show own_Out p e below _ (s₁.setTop (mkF m 68 #[.val (.long q0), .second, .val (.int p1), .val (.long q2), .second, .val (.int p3), .val (.long q4), .second, .val (.int (1 : Int32)), .unset] []))
          refine own_of (fun _ k => XS.iconst X0.here hx rfl (hb hby d6_68) k) ?_
          show own_Out p e below _ (s₁.setTop (mkF m 69 #[.val (.long q0), .second, .val (.int p1), .val (.long q2), .second, .val (.int p3), .val (.long q4), .second, .val (.int (1 : Int32)), .unset] [(.int (0 : Int32))]))
          refine own_of (fun _ k => XS.istore X0.here hx rfl (hb hby d6_69) rfl (l' := #[.val (.long q0), .second, .val (.int p1), .val (.long q2), .second, .val (.int p3), .val (.long q4), .second, .val (.int (1 : Int32)), .val (.int (0 : Int32))]) rfl k) ?_
          show own_Out p e below _ (s₁.setTop (mkF m 71 #[.val (.long q0), .second, .val (.int p1), .val (.long q2), .second, .val (.int p3), .val (.long q4), .second, .val (.int (1 : Int32)), .val (.int (0 : Int32))] []))
          refine own_of (fun _ k => XS.iload X0.here hx rfl (hb hby d6_71) rfl k) ?_
          show own_Out p e below _ (s₁.setTop (mkF m 73 #[.val (.long q0), .second, .val (.int p1), .val (.long q2), .second, .val (.int p3), .val (.long q4), .second, .val (.int (1 : Int32)), .val (.int (0 : Int32))] [(.int (1 : Int32))]))
          refine own_of (fun _ k => XS.ifNo X0.here hx rfl (hb hby d6_73) rfl ((if0 _ _).trans (feq (by decide : ¬ ((1 : Int32) = (0 : Int32)))).1) k) ?_
          show own_Out p e below _ (s₁.setTop (mkF m 76 #[.val (.long q0), .second, .val (.int p1), .val (.long q2), .second, .val (.int p3), .val (.long q4), .second, .val (.int (1 : Int32)), .val (.int (0 : Int32))] []))
          refine own_of (fun _ k => XS.iload X0.here hx rfl (hb hby d6_76) rfl k) ?_
          show own_Out p e below _ (s₁.setTop (mkF m 78 #[.val (.long q0), .second, .val (.int p1), .val (.long q2), .second, .val (.int p3), .val (.long q4), .second, .val (.int (1 : Int32)), .val (.int (0 : Int32))] [(.int (0 : Int32))]))
          refine own_of (fun _ k => XS.ifYes X0.here hx rfl (pc0 := 78) (pc' := 85) rfl (hb hby d6_78) rfl ((if0 _ _).trans (teq (by decide : (0 : Int32) = (0 : Int32))).1) (by decide) (by decide) k) ?_
          show own_Out p e below _ (s₁.setTop (mkF m 85 #[.val (.long q0), .second, .val (.int p1), .val (.long q2), .second, .val (.int p3), .val (.long q4), .second, .val (.int (1 : Int32)), .val (.int (0 : Int32))] []))
          refine own_of (fun _ k => XS.iconst X0.here hx rfl (hb hby d6_85) k) ?_
          show own_Out p e below _ (s₁.setTop (mkF m 86 #[.val (.long q0), .second, .val (.int p1), .val (.long q2), .second, .val (.int p3), .val (.long q4), .second, .val (.int (1 : Int32)), .val (.int (0 : Int32))] [(.int (0 : Int32))]))
          exact own_outN X0 hx hlk (t := .boolean) hret (by simp) (hb hby d6_86) (z' := (0 : Int32)) rfl (Q := Q6 Z q0 p1 q2 p3 q4 h0 n0) ⟨by simp only [f6, if_pos hc1_1, if_pos hc25_2, if_pos hc37_3, if_neg hc61_4], N0, e0⟩ (by decide) (by decide)
      · skip
        refine own_of (fun _ k => XS.ifNo X0.here hx rfl (hb hby d6_37) rfl ((if0 _ _).trans (feq hc37_3).1) k) ?_
        show own_Out p e below _ (s₁.setTop (mkF m 40 #[.val (.long q0), .second, .val (.int p1), .val (.long q2), .second, .val (.int p3), .val (.long q4), .second, .val (.int (1 : Int32)), .unset] []))
        refine own_of (fun _ k => XS.lload X0.here hx rfl (hb hby d6_40) rfl k) ?_
        show own_Out p e below _ (s₁.setTop (mkF m 42 #[.val (.long q0), .second, .val (.int p1), .val (.long q2), .second, .val (.int p3), .val (.long q4), .second, .val (.int (1 : Int32)), .unset] [(.long q4)]))
        refine own_of (fun _ k => XS.lloadN X0.here hx rfl (hb hby d6_42) rfl k) ?_
        show own_Out p e below _ (s₁.setTop (mkF m 43 #[.val (.long q0), .second, .val (.int p1), .val (.long q2), .second, .val (.int p3), .val (.long q4), .second, .val (.int (1 : Int32)), .unset] [(.long q2), (.long q4)]))
        refine own_of (fun _ k => XS.lcmp X0.here hx rfl (hb hby d6_43) rfl k) ?_
        show own_Out p e below _ (s₁.setTop (mkF m 44 #[.val (.long q0), .second, .val (.int p1), .val (.long q2), .second, .val (.int p3), .val (.long q4), .second, .val (.int (1 : Int32)), .unset] [(.int (lcmpW q4 q2))]))
        by_cases hc44_5 : q2 < q4
        · skip
          refine own_of (fun _ k => XS.ifYes X0.here hx rfl (pc0 := 44) (pc' := 51) rfl (hb hby d6_44) rfl (own_ltlt hc44_5).2.2.1 (by decide) (by decide) k) ?_
          show own_Out p e below _ (s₁.setTop (mkF m 51 #[.val (.long q0), .second, .val (.int p1), .val (.long q2), .second, .val (.int p3), .val (.long q4), .second, .val (.int (1 : Int32)), .unset] []))
          refine own_of (fun _ k => XS.iconst X0.here hx rfl (hb hby d6_51) k) ?_
          show own_Out p e below _ (s₁.setTop (mkF m 52 #[.val (.long q0), .second, .val (.int p1), .val (.long q2), .second, .val (.int p3), .val (.long q4), .second, .val (.int (1 : Int32)), .unset] [(.int (0 : Int32))]))
          refine own_of (fun _ k => XS.istore X0.here hx rfl (hb hby d6_52) rfl (l' := #[.val (.long q0), .second, .val (.int p1), .val (.long q2), .second, .val (.int p3), .val (.long q4), .second, .val (.int (1 : Int32)), .val (.int (0 : Int32))]) rfl k) ?_
          show own_Out p e below _ (s₁.setTop (mkF m 54 #[.val (.long q0), .second, .val (.int p1), .val (.long q2), .second, .val (.int p3), .val (.long q4), .second, .val (.int (1 : Int32)), .val (.int (0 : Int32))] []))
          refine own_of (fun _ k => XS.goto X0.here hx rfl (pc0 := 54) (pc' := 71) rfl (hb hby d6_54) (by decide) (by decide) k) ?_
          show own_Out p e below _ (s₁.setTop (mkF m 71 #[.val (.long q0), .second, .val (.int p1), .val (.long q2), .second, .val (.int p3), .val (.long q4), .second, .val (.int (1 : Int32)), .val (.int (0 : Int32))] []))
          refine own_of (fun _ k => XS.iload X0.here hx rfl (hb hby d6_71) rfl k) ?_
          show own_Out p e below _ (s₁.setTop (mkF m 73 #[.val (.long q0), .second, .val (.int p1), .val (.long q2), .second, .val (.int p3), .val (.long q4), .second, .val (.int (1 : Int32)), .val (.int (0 : Int32))] [(.int (1 : Int32))]))
          refine own_of (fun _ k => XS.ifNo X0.here hx rfl (hb hby d6_73) rfl ((if0 _ _).trans (feq (by decide : ¬ ((1 : Int32) = (0 : Int32)))).1) k) ?_
          show own_Out p e below _ (s₁.setTop (mkF m 76 #[.val (.long q0), .second, .val (.int p1), .val (.long q2), .second, .val (.int p3), .val (.long q4), .second, .val (.int (1 : Int32)), .val (.int (0 : Int32))] []))
          refine own_of (fun _ k => XS.iload X0.here hx rfl (hb hby d6_76) rfl k) ?_
          show own_Out p e below _ (s₁.setTop (mkF m 78 #[.val (.long q0), .second, .val (.int p1), .val (.long q2), .second, .val (.int p3), .val (.long q4), .second, .val (.int (1 : Int32)), .val (.int (0 : Int32))] [(.int (0 : Int32))]))
          refine own_of (fun _ k => XS.ifYes X0.here hx rfl (pc0 := 78) (pc' := 85) rfl (hb hby d6_78) rfl ((if0 _ _).trans (teq (by decide : (0 : Int32) = (0 : Int32))).1) (by decide) (by decide) k) ?_
          show own_Out p e below _ (s₁.setTop (mkF m 85 #[.val (.long q0), .second, .val (.int p1), .val (.long q2), .second, .val (.int p3), .val (.long q4), .second, .val (.int (1 : Int32)), .val (.int (0 : Int32))] []))
          refine own_of (fun _ k => XS.iconst X0.here hx rfl (hb hby d6_85) k) ?_
          show own_Out p e below _ (s₁.setTop (mkF m 86 #[.val (.long q0), .second, .val (.int p1), .val (.long q2), .second, .val (.int p3), .val (.long q4), .second, .val (.int (1 : Int32)), .val (.int (0 : Int32))] [(.int (0 : Int32))]))
          exact own_outN X0 hx hlk (t := .boolean) hret (by simp) (hb hby d6_86) (z' := (0 : Int32)) rfl (Q := Q6 Z q0 p1 q2 p3 q4 h0 n0) ⟨by simp only [f6, if_pos hc1_1, if_pos hc25_2, if_neg hc37_3, if_pos hc44_5], N0, e0⟩ (by decide) (by decide)
        · skip
          refine own_of (fun _ k => XS.ifNo X0.here hx rfl (hb hby d6_44) rfl (own_lflt hc44_5).2.2.1 k) ?_
          show own_Out p e below _ (s₁.setTop (mkF m 47 #[.val (.long q0), .second, .val (.int p1), .val (.long q2), .second, .val (.int p3), .val (.long q4), .second, .val (.int (1 : Int32)), .unset] []))
          refine own_of (fun _ k => XS.iconst X0.here hx rfl (hb hby d6_47) k) ?_
          show own_Out p e below _ (s₁.setTop (mkF m 48 #[.val (.long q0), .second, .val (.int p1), .val (.long q2), .second, .val (.int p3), .val (.long q4), .second, .val (.int (1 : Int32)), .unset] [(.int (1 : Int32))]))
          refine own_of (fun _ k => XS.goto X0.here hx rfl (pc0 := 48) (pc' := 52) rfl (hb hby d6_48) (by decide) (by decide) k) ?_
          show own_Out p e below _ (s₁.setTop (mkF m 52 #[.val (.long q0), .second, .val (.int p1), .val (.long q2), .second, .val (.int p3), .val (.long q4), .second, .val (.int (1 : Int32)), .unset] [(.int (1 : Int32))]))
          refine own_of (fun _ k => XS.istore X0.here hx rfl (hb hby d6_52) rfl (l' := #[.val (.long q0), .second, .val (.int p1), .val (.long q2), .second, .val (.int p3), .val (.long q4), .second, .val (.int (1 : Int32)), .val (.int (1 : Int32))]) rfl k) ?_
          show own_Out p e below _ (s₁.setTop (mkF m 54 #[.val (.long q0), .second, .val (.int p1), .val (.long q2), .second, .val (.int p3), .val (.long q4), .second, .val (.int (1 : Int32)), .val (.int (1 : Int32))] []))
          refine own_of (fun _ k => XS.goto X0.here hx rfl (pc0 := 54) (pc' := 71) rfl (hb hby d6_54) (by decide) (by decide) k) ?_
          show own_Out p e below _ (s₁.setTop (mkF m 71 #[.val (.long q0), .second, .val (.int p1), .val (.long q2), .second, .val (.int p3), .val (.long q4), .second, .val (.int (1 : Int32)), .val (.int (1 : Int32))] []))
          refine own_of (fun _ k => XS.iload X0.here hx rfl (hb hby d6_71) rfl k) ?_
          show own_Out p e below _ (s₁.setTop (mkF m 73 #[.val (.long q0), .second, .val (.int p1), .val (.long q2), .second, .val (.int p3), .val (.long q4), .second, .val (.int (1 : Int32)), .val (.int (1 : Int32))] [(.int (1 : Int32))]))
          refine own_of (fun _ k => XS.ifNo X0.here hx rfl (hb hby d6_73) rfl ((if0 _ _).trans (feq (by decide : ¬ ((1 : Int32) = (0 : Int32)))).1) k) ?_
          show own_Out p e below _ (s₁.setTop (mkF m 76 #[.val (.long q0), .second, .val (.int p1), .val (.long q2), .second, .val (.int p3), .val (.long q4), .second, .val (.int (1 : Int32)), .val (.int (1 : Int32))] []))
          refine own_of (fun _ k => XS.iload X0.here hx rfl (hb hby d6_76) rfl k) ?_
          show own_Out p e below _ (s₁.setTop (mkF m 78 #[.val (.long q0), .second, .val (.int p1), .val (.long q2), .second, .val (.int p3), .val (.long q4), .second, .val (.int (1 : Int32)), .val (.int (1 : Int32))] [(.int (1 : Int32))]))
          refine own_of (fun _ k => XS.ifNo X0.here hx rfl (hb hby d6_78) rfl ((if0 _ _).trans (feq (by decide : ¬ ((1 : Int32) = (0 : Int32)))).1) k) ?_
          show own_Out p e below _ (s₁.setTop (mkF m 81 #[.val (.long q0), .second, .val (.int p1), .val (.long q2), .second, .val (.int p3), .val (.long q4), .second, .val (.int (1 : Int32)), .val (.int (1 : Int32))] []))
          refine own_of (fun _ k => XS.iconst X0.here hx rfl (hb hby d6_81) k) ?_
          show own_Out p e below _ (s₁.setTop (mkF m 82 #[.val (.long q0), .second, .val (.int p1), .val (.long q2), .second, .val (.int p3), .val (.long q4), .second, .val (.int (1 : Int32)), .val (.int (1 : Int32))] [(.int (1 : Int32))]))
          refine own_of (fun _ k => XS.goto X0.here hx rfl (pc0 := 82) (pc' := 86) rfl (hb hby d6_82) (by decide) (by decide) k) ?_
          show own_Out p e below _ (s₁.setTop (mkF m 86 #[.val (.long q0), .second, .val (.int p1), .val (.long q2), .second, .val (.int p3), .val (.long q4), .second, .val (.int (1 : Int32)), .val (.int (1 : Int32))] [(.int (1 : Int32))]))
          exact own_outN X0 hx hlk (t := .boolean) hret (by simp) (hb hby d6_86) (z' := (1 : Int32)) rfl (Q := Q6 Z q0 p1 q2 p3 q4 h0 n0) ⟨by simp only [f6, if_pos hc1_1, if_pos hc25_2, if_neg hc37_3, if_neg hc44_5], N0, e0⟩ (by decide) (by decide)
    · skip
      refine own_of (fun _ k => XS.ifYes X0.here hx rfl (pc0 := 25) (pc' := 32) rfl (hb hby d6_25) rfl (own_lflt hc25_2).2.2.2 (by decide) (by decide) k) ?_
      show own_Out p e below _ (s₁.setTop (mkF m 32 #[.val (.long q0), .second, .val (.int p1), .val (.long q2), .second, .val (.int p3), .val (.long q4), .second, .unset, .unset] []))
      refine own_of (fun _ k => XS.iconst X0.here hx rfl (hb hby d6_32) k) ?_
      show own_Out p e below _ (s₁.setTop (mkF m 33 #[.val (.long q0), .second, .val (.int p1), .val (.long q2), .second, .val (.int p3), .val (.long q4), .second, .unset, .unset] [(.int (0 : Int32))]))
      refine own_of (fun _ k => XS.istore X0.here hx rfl (hb hby d6_33) rfl (l' := #[.val (.long q0), .second, .val (.int p1), .val (.long q2), .second, .val (.int p3), .val (.long q4), .second, .val (.int (0 : Int32)), .unset]) rfl k) ?_
      show own_Out p e below _ (s₁.setTop (mkF m 35 #[.val (.long q0), .second, .val (.int p1), .val (.long q2), .second, .val (.int p3), .val (.long q4), .second, .val (.int (0 : Int32)), .unset] []))
      refine own_of (fun _ k => XS.iload X0.here hx rfl (hb hby d6_35) rfl k) ?_
      show own_Out p e below _ (s₁.setTop (mkF m 37 #[.val (.long q0), .second, .val (.int p1), .val (.long q2), .second, .val (.int p3), .val (.long q4), .second, .val (.int (0 : Int32)), .unset] [(.int p3)]))
      by_cases hc37_6 : p3 = (0 : Int32)
      · skip
        refine own_of (fun _ k => XS.ifYes X0.here hx rfl (pc0 := 37) (pc' := 57) rfl (hb hby d6_37) rfl ((if0 _ _).trans (teq hc37_6).1) (by decide) (by decide) k) ?_
        show own_Out p e below _ (s₁.setTop (mkF m 57 #[.val (.long q0), .second, .val (.int p1), .val (.long q2), .second, .val (.int p3), .val (.long q4), .second, .val (.int (0 : Int32)), .unset] []))
        refine own_of (fun _ k => XS.lload X0.here hx rfl (hb hby d6_57) rfl k) ?_
        show own_Out p e below _ (s₁.setTop (mkF m 59 #[.val (.long q0), .second, .val (.int p1), .val (.long q2), .second, .val (.int p3), .val (.long q4), .second, .val (.int (0 : Int32)), .unset] [(.long q4)]))
        refine own_of (fun _ k => XS.lloadN X0.here hx rfl (hb hby d6_59) rfl k) ?_
        show own_Out p e below _ (s₁.setTop (mkF m 60 #[.val (.long q0), .second, .val (.int p1), .val (.long q2), .second, .val (.int p3), .val (.long q4), .second, .val (.int (0 : Int32)), .unset] [(.long q2), (.long q4)]))
        refine own_of (fun _ k => XS.lcmp X0.here hx rfl (hb hby d6_60) rfl k) ?_
        show own_Out p e below _ (s₁.setTop (mkF m 61 #[.val (.long q0), .second, .val (.int p1), .val (.long q2), .second, .val (.int p3), .val (.long q4), .second, .val (.int (0 : Int32)), .unset] [(.int (lcmpW q4 q2))]))
        by_cases hc61_7 : q4 < q2
        · skip
          refine own_of (fun _ k => XS.ifNo X0.here hx rfl (hb hby d6_61) rfl (own_ltlt hc61_7).2.1 k) ?_
          show own_Out p e below _ (s₁.setTop (mkF m 64 #[.val (.long q0), .second, .val (.int p1), .val (.long q2), .second, .val (.int p3), .val (.long q4), .second, .val (.int (0 : Int32)), .unset] []))
          refine own_of (fun _ k => XS.iconst X0.here hx rfl (hb hby d6_64) k) ?_
          show own_Out p e below _ (s₁.setTop (mkF m 65 #[.val (.long q0), .second, .val (.int p1), .val (.long q2), .second, .val (.int p3), .val (.long q4), .second, .val (.int (0 : Int32)), .unset] [(.int (1 : Int32))]))
          refine own_of (fun _ k => XS.goto X0.here hx rfl (pc0 := 65) (pc' := 69) rfl (hb hby d6_65) (by decide) (by decide) k) ?_
          show own_Out p e below _ (s₁.setTop (mkF m 69 #[.val (.long q0), .second, .val (.int p1), .val (.long q2), .second, .val (.int p3), .val (.long q4), .second, .val (.int (0 : Int32)), .unset] [(.int (1 : Int32))]))
          refine own_of (fun _ k => XS.istore X0.here hx rfl (hb hby d6_69) rfl (l' := #[.val (.long q0), .second, .val (.int p1), .val (.long q2), .second, .val (.int p3), .val (.long q4), .second, .val (.int (0 : Int32)), .val (.int (1 : Int32))]) rfl k) ?_
          show own_Out p e below _ (s₁.setTop (mkF m 71 #[.val (.long q0), .second, .val (.int p1), .val (.long q2), .second, .val (.int p3), .val (.long q4), .second, .val (.int (0 : Int32)), .val (.int (1 : Int32))] []))
          refine own_of (fun _ k => XS.iload X0.here hx rfl (hb hby d6_71) rfl k) ?_
          show own_Out p e below _ (s₁.setTop (mkF m 73 #[.val (.long q0), .second, .val (.int p1), .val (.long q2), .second, .val (.int p3), .val (.long q4), .second, .val (.int (0 : Int32)), .val (.int (1 : Int32))] [(.int (0 : Int32))]))
          refine own_of (fun _ k => XS.ifYes X0.here hx rfl (pc0 := 73) (pc' := 85) rfl (hb hby d6_73) rfl ((if0 _ _).trans (teq (by decide : (0 : Int32) = (0 : Int32))).1) (by decide) (by decide) k) ?_
          show own_Out p e below _ (s₁.setTop (mkF m 85 #[.val (.long q0), .second, .val (.int p1), .val (.long q2), .second, .val (.int p3), .val (.long q4), .second, .val (.int (0 : Int32)), .val (.int (1 : Int32))] []))
          refine own_of (fun _ k => XS.iconst X0.here hx rfl (hb hby d6_85) k) ?_
          show own_Out p e below _ (s₁.setTop (mkF m 86 #[.val (.long q0), .second, .val (.int p1), .val (.long q2), .second, .val (.int p3), .val (.long q4), .second, .val (.int (0 : Int32)), .val (.int (1 : Int32))] [(.int (0 : Int32))]))
          exact own_outN X0 hx hlk (t := .boolean) hret (by simp) (hb hby d6_86) (z' := (0 : Int32)) rfl (Q := Q6 Z q0 p1 q2 p3 q4 h0 n0) ⟨by simp only [f6, if_pos hc1_1, if_neg hc25_2, if_pos hc37_6, if_pos hc61_7], N0, e0⟩ (by decide) (by decide)
        · skip
          refine own_of (fun _ k => XS.ifYes X0.here hx rfl (pc0 := 61) (pc' := 68) rfl (hb hby d6_61) rfl (own_lflt hc61_7).2.1 (by decide) (by decide) k) ?_
          show own_Out p e below _ (s₁.setTop (mkF m 68 #[.val (.long q0), .second, .val (.int p1), .val (.long q2), .second, .val (.int p3), .val (.long q4), .second, .val (.int (0 : Int32)), .unset] []))
          refine own_of (fun _ k => XS.iconst X0.here hx rfl (hb hby d6_68) k) ?_
          show own_Out p e below _ (s₁.setTop (mkF m 69 #[.val (.long q0), .second, .val (.int p1), .val (.long q2), .second, .val (.int p3), .val (.long q4), .second, .val (.int (0 : Int32)), .unset] [(.int (0 : Int32))]))
          refine own_of (fun _ k => XS.istore X0.here hx rfl (hb hby d6_69) rfl (l' := #[.val (.long q0), .second, .val (.int p1), .val (.long q2), .second, .val (.int p3), .val (.long q4), .second, .val (.int (0 : Int32)), .val (.int (0 : Int32))]) rfl k) ?_
          show own_Out p e below _ (s₁.setTop (mkF m 71 #[.val (.long q0), .second, .val (.int p1), .val (.long q2), .second, .val (.int p3), .val (.long q4), .second, .val (.int (0 : Int32)), .val (.int (0 : Int32))] []))
          refine own_of (fun _ k => XS.iload X0.here hx rfl (hb hby d6_71) rfl k) ?_
          show own_Out p e below _ (s₁.setTop (mkF m 73 #[.val (.long q0), .second, .val (.int p1), .val (.long q2), .second, .val (.int p3), .val (.long q4), .second, .val (.int (0 : Int32)), .val (.int (0 : Int32))] [(.int (0 : Int32))]))
          refine own_of (fun _ k => XS.ifYes X0.here hx rfl (pc0 := 73) (pc' := 85) rfl (hb hby d6_73) rfl ((if0 _ _).trans (teq (by decide : (0 : Int32) = (0 : Int32))).1) (by decide) (by decide) k) ?_
          show own_Out p e below _ (s₁.setTop (mkF m 85 #[.val (.long q0), .second, .val (.int p1), .val (.long q2), .second, .val (.int p3), .val (.long q4), .second, .val (.int (0 : Int32)), .val (.int (0 : Int32))] []))
          refine own_of (fun _ k => XS.iconst X0.here hx rfl (hb hby d6_85) k) ?_
          show own_Out p e below _ (s₁.setTop (mkF m 86 #[.val (.long q0), .second, .val (.int p1), .val (.long q2), .second, .val (.int p3), .val (.long q4), .second, .val (.int (0 : Int32)), .val (.int (0 : Int32))] [(.int (0 : Int32))]))
          exact own_outN X0 hx hlk (t := .boolean) hret (by simp) (hb hby d6_86) (z' := (0 : Int32)) rfl (Q := Q6 Z q0 p1 q2 p3 q4 h0 n0) ⟨by simp only [f6, if_pos hc1_1, if_neg hc25_2, if_pos hc37_6, if_neg hc61_7], N0, e0⟩ (by decide) (by decide)
      · skip
        refine own_of (fun _ k => XS.ifNo X0.here hx rfl (hb hby d6_37) rfl ((if0 _ _).trans (feq hc37_6).1) k) ?_
        show own_Out p e below _ (s₁.setTop (mkF m 40 #[.val (.long q0), .second, .val (.int p1), .val (.long q2), .second, .val (.int p3), .val (.long q4), .second, .val (.int (0 : Int32)), .unset] []))
        refine own_of (fun _ k => XS.lload X0.here hx rfl (hb hby d6_40) rfl k) ?_
        show own_Out p e below _ (s₁.setTop (mkF m 42 #[.val (.long q0), .second, .val (.int p1), .val (.long q2), .second, .val (.int p3), .val (.long q4), .second, .val (.int (0 : Int32)), .unset] [(.long q4)]))
        refine own_of (fun _ k => XS.lloadN X0.here hx rfl (hb hby d6_42) rfl k) ?_
        show own_Out p e below _ (s₁.setTop (mkF m 43 #[.val (.long q0), .second, .val (.int p1), .val (.long q2), .second, .val (.int p3), .val (.long q4), .second, .val (.int (0 : Int32)), .unset] [(.long q2), (.long q4)]))
        refine own_of (fun _ k => XS.lcmp X0.here hx rfl (hb hby d6_43) rfl k) ?_
        show own_Out p e below _ (s₁.setTop (mkF m 44 #[.val (.long q0), .second, .val (.int p1), .val (.long q2), .second, .val (.int p3), .val (.long q4), .second, .val (.int (0 : Int32)), .unset] [(.int (lcmpW q4 q2))]))
        by_cases hc44_8 : q2 < q4
        · skip
          refine own_of (fun _ k => XS.ifYes X0.here hx rfl (pc0 := 44) (pc' := 51) rfl (hb hby d6_44) rfl (own_ltlt hc44_8).2.2.1 (by decide) (by decide) k) ?_
          show own_Out p e below _ (s₁.setTop (mkF m 51 #[.val (.long q0), .second, .val (.int p1), .val (.long q2), .second, .val (.int p3), .val (.long q4), .second, .val (.int (0 : Int32)), .unset] []))
          refine own_of (fun _ k => XS.iconst X0.here hx rfl (hb hby d6_51) k) ?_
          show own_Out p e below _ (s₁.setTop (mkF m 52 #[.val (.long q0), .second, .val (.int p1), .val (.long q2), .second, .val (.int p3), .val (.long q4), .second, .val (.int (0 : Int32)), .unset] [(.int (0 : Int32))]))
          refine own_of (fun _ k => XS.istore X0.here hx rfl (hb hby d6_52) rfl (l' := #[.val (.long q0), .second, .val (.int p1), .val (.long q2), .second, .val (.int p3), .val (.long q4), .second, .val (.int (0 : Int32)), .val (.int (0 : Int32))]) rfl k) ?_
          show own_Out p e below _ (s₁.setTop (mkF m 54 #[.val (.long q0), .second, .val (.int p1), .val (.long q2), .second, .val (.int p3), .val (.long q4), .second, .val (.int (0 : Int32)), .val (.int (0 : Int32))] []))
          refine own_of (fun _ k => XS.goto X0.here hx rfl (pc0 := 54) (pc' := 71) rfl (hb hby d6_54) (by decide) (by decide) k) ?_
          show own_Out p e below _ (s₁.setTop (mkF m 71 #[.val (.long q0), .second, .val (.int p1), .val (.long q2), .second, .val (.int p3), .val (.long q4), .second, .val (.int (0 : Int32)), .val (.int (0 : Int32))] []))
          refine own_of (fun _ k => XS.iload X0.here hx rfl (hb hby d6_71) rfl k) ?_
          show own_Out p e below _ (s₁.setTop (mkF m 73 #[.val (.long q0), .second, .val (.int p1), .val (.long q2), .second, .val (.int p3), .val (.long q4), .second, .val (.int (0 : Int32)), .val (.int (0 : Int32))] [(.int (0 : Int32))]))
          refine own_of (fun _ k => XS.ifYes X0.here hx rfl (pc0 := 73) (pc' := 85) rfl (hb hby d6_73) rfl ((if0 _ _).trans (teq (by decide : (0 : Int32) = (0 : Int32))).1) (by decide) (by decide) k) ?_
          show own_Out p e below _ (s₁.setTop (mkF m 85 #[.val (.long q0), .second, .val (.int p1), .val (.long q2), .second, .val (.int p3), .val (.long q4), .second, .val (.int (0 : Int32)), .val (.int (0 : Int32))] []))
          refine own_of (fun _ k => XS.iconst X0.here hx rfl (hb hby d6_85) k) ?_
          show own_Out p e below _ (s₁.setTop (mkF m 86 #[.val (.long q0), .second, .val (.int p1), .val (.long q2), .second, .val (.int p3), .val (.long q4), .second, .val (.int (0 : Int32)), .val (.int (0 : Int32))] [(.int (0 : Int32))]))
          exact own_outN X0 hx hlk (t := .boolean) hret (by simp) (hb hby d6_86) (z' := (0 : Int32)) rfl (Q := Q6 Z q0 p1 q2 p3 q4 h0 n0) ⟨by simp only [f6, if_pos hc1_1, if_neg hc25_2, if_neg hc37_6, if_pos hc44_8], N0, e0⟩ (by decide) (by decide)
        · skip
          refine own_of (fun _ k => XS.ifNo X0.here hx rfl (hb hby d6_44) rfl (own_lflt hc44_8).2.2.1 k) ?_
          show own_Out p e below _ (s₁.setTop (mkF m 47 #[.val (.long q0), .second, .val (.int p1), .val (.long q2), .second, .val (.int p3), .val (.long q4), .second, .val (.int (0 : Int32)), .unset] []))
          refine own_of (fun _ k => XS.iconst X0.here hx rfl (hb hby d6_47) k) ?_
          show own_Out p e below _ (s₁.setTop (mkF m 48 #[.val (.long q0), .second, .val (.int p1), .val (.long q2), .second, .val (.int p3), .val (.long q4), .second, .val (.int (0 : Int32)), .unset] [(.int (1 : Int32))]))
          refine own_of (fun _ k => XS.goto X0.here hx rfl (pc0 := 48) (pc' := 52) rfl (hb hby d6_48) (by decide) (by decide) k) ?_
          show own_Out p e below _ (s₁.setTop (mkF m 52 #[.val (.long q0), .second, .val (.int p1), .val (.long q2), .second, .val (.int p3), .val (.long q4), .second, .val (.int (0 : Int32)), .unset] [(.int (1 : Int32))]))
          refine own_of (fun _ k => XS.istore X0.here hx rfl (hb hby d6_52) rfl (l' := #[.val (.long q0), .second, .val (.int p1), .val (.long q2), .second, .val (.int p3), .val (.long q4), .second, .val (.int (0 : Int32)), .val (.int (1 : Int32))]) rfl k) ?_
          show own_Out p e below _ (s₁.setTop (mkF m 54 #[.val (.long q0), .second, .val (.int p1), .val (.long q2), .second, .val (.int p3), .val (.long q4), .second, .val (.int (0 : Int32)), .val (.int (1 : Int32))] []))
          refine own_of (fun _ k => XS.goto X0.here hx rfl (pc0 := 54) (pc' := 71) rfl (hb hby d6_54) (by decide) (by decide) k) ?_
          show own_Out p e below _ (s₁.setTop (mkF m 71 #[.val (.long q0), .second, .val (.int p1), .val (.long q2), .second, .val (.int p3), .val (.long q4), .second, .val (.int (0 : Int32)), .val (.int (1 : Int32))] []))
          refine own_of (fun _ k => XS.iload X0.here hx rfl (hb hby d6_71) rfl k) ?_
          show own_Out p e below _ (s₁.setTop (mkF m 73 #[.val (.long q0), .second, .val (.int p1), .val (.long q2), .second, .val (.int p3), .val (.long q4), .second, .val (.int (0 : Int32)), .val (.int (1 : Int32))] [(.int (0 : Int32))]))
          refine own_of (fun _ k => XS.ifYes X0.here hx rfl (pc0 := 73) (pc' := 85) rfl (hb hby d6_73) rfl ((if0 _ _).trans (teq (by decide : (0 : Int32) = (0 : Int32))).1) (by decide) (by decide) k) ?_
          show own_Out p e below _ (s₁.setTop (mkF m 85 #[.val (.long q0), .second, .val (.int p1), .val (.long q2), .second, .val (.int p3), .val (.long q4), .second, .val (.int (0 : Int32)), .val (.int (1 : Int32))] []))
          refine own_of (fun _ k => XS.iconst X0.here hx rfl (hb hby d6_85) k) ?_
          show own_Out p e below _ (s₁.setTop (mkF m 86 #[.val (.long q0), .second, .val (.int p1), .val (.long q2), .second, .val (.int p3), .val (.long q4), .second, .val (.int (0 : Int32)), .val (.int (1 : Int32))] [(.int (0 : Int32))]))
          exact own_outN X0 hx hlk (t := .boolean) hret (by simp) (hb hby d6_86) (z' := (0 : Int32)) rfl (Q := Q6 Z q0 p1 q2 p3 q4 h0 n0) ⟨by simp only [f6, if_pos hc1_1, if_neg hc25_2, if_neg hc37_6, if_neg hc44_8], N0, e0⟩ (by decide) (by decide)
  · skip
    refine own_of (fun _ k => XS.ifNo X0.here hx rfl (hb hby d6_1) rfl ((if0 _ _).trans (feq hc1_1).1) k) ?_
    show own_Out p e below _ (s₁.setTop (mkF m 4 #[.val (.long q0), .second, .val (.int p1), .val (.long q2), .second, .val (.int p3), .val (.long q4), .second, .unset, .unset] []))
    refine own_of (fun _ k => XS.lload X0.here hx rfl (hb hby d6_4) rfl k) ?_
    show own_Out p e below _ (s₁.setTop (mkF m 6 #[.val (.long q0), .second, .val (.int p1), .val (.long q2), .second, .val (.int p3), .val (.long q4), .second, .unset, .unset] [(.long q4)]))
    refine own_of (fun _ k => XS.lloadN X0.here hx rfl (hb hby d6_6) rfl k) ?_
    show own_Out p e below _ (s₁.setTop (mkF m 7 #[.val (.long q0), .second, .val (.int p1), .val (.long q2), .second, .val (.int p3), .val (.long q4), .second, .unset, .unset] [(.long q0), (.long q4)]))
    refine own_of (fun _ k => XS.lcmp X0.here hx rfl (hb hby d6_7) rfl k) ?_
    show own_Out p e below _ (s₁.setTop (mkF m 8 #[.val (.long q0), .second, .val (.int p1), .val (.long q2), .second, .val (.int p3), .val (.long q4), .second, .unset, .unset] [(.int (lcmpW q4 q0))]))
    by_cases hc8_9 : q4 < q0
    · skip
      refine own_of (fun _ k => XS.ifYes X0.here hx rfl (pc0 := 8) (pc' := 15) rfl (hb hby d6_8) rfl (own_ltlt hc8_9).1 (by decide) (by decide) k) ?_
      show own_Out p e below _ (s₁.setTop (mkF m 15 #[.val (.long q0), .second, .val (.int p1), .val (.long q2), .second, .val (.int p3), .val (.long q4), .second, .unset, .unset] []))
      refine own_of (fun _ k => XS.iconst X0.here hx rfl (hb hby d6_15) k) ?_
      show own_Out p e below _ (s₁.setTop (mkF m 16 #[.val (.long q0), .second, .val (.int p1), .val (.long q2), .second, .val (.int p3), .val (.long q4), .second, .unset, .unset] [(.int (0 : Int32))]))
      refine own_of (fun _ k => XS.istore X0.here hx rfl (hb hby d6_16) rfl (l' := #[.val (.long q0), .second, .val (.int p1), .val (.long q2), .second, .val (.int p3), .val (.long q4), .second, .val (.int (0 : Int32)), .unset]) rfl k) ?_
      show own_Out p e below _ (s₁.setTop (mkF m 18 #[.val (.long q0), .second, .val (.int p1), .val (.long q2), .second, .val (.int p3), .val (.long q4), .second, .val (.int (0 : Int32)), .unset] []))
      refine own_of (fun _ k => XS.goto X0.here hx rfl (pc0 := 18) (pc' := 35) rfl (hb hby d6_18) (by decide) (by decide) k) ?_
      show own_Out p e below _ (s₁.setTop (mkF m 35 #[.val (.long q0), .second, .val (.int p1), .val (.long q2), .second, .val (.int p3), .val (.long q4), .second, .val (.int (0 : Int32)), .unset] []))
      refine own_of (fun _ k => XS.iload X0.here hx rfl (hb hby d6_35) rfl k) ?_
      show own_Out p e below _ (s₁.setTop (mkF m 37 #[.val (.long q0), .second, .val (.int p1), .val (.long q2), .second, .val (.int p3), .val (.long q4), .second, .val (.int (0 : Int32)), .unset] [(.int p3)]))
      by_cases hc37_10 : p3 = (0 : Int32)
      · skip
        refine own_of (fun _ k => XS.ifYes X0.here hx rfl (pc0 := 37) (pc' := 57) rfl (hb hby d6_37) rfl ((if0 _ _).trans (teq hc37_10).1) (by decide) (by decide) k) ?_
        show own_Out p e below _ (s₁.setTop (mkF m 57 #[.val (.long q0), .second, .val (.int p1), .val (.long q2), .second, .val (.int p3), .val (.long q4), .second, .val (.int (0 : Int32)), .unset] []))
        refine own_of (fun _ k => XS.lload X0.here hx rfl (hb hby d6_57) rfl k) ?_
        show own_Out p e below _ (s₁.setTop (mkF m 59 #[.val (.long q0), .second, .val (.int p1), .val (.long q2), .second, .val (.int p3), .val (.long q4), .second, .val (.int (0 : Int32)), .unset] [(.long q4)]))
        refine own_of (fun _ k => XS.lloadN X0.here hx rfl (hb hby d6_59) rfl k) ?_
        show own_Out p e below _ (s₁.setTop (mkF m 60 #[.val (.long q0), .second, .val (.int p1), .val (.long q2), .second, .val (.int p3), .val (.long q4), .second, .val (.int (0 : Int32)), .unset] [(.long q2), (.long q4)]))
        refine own_of (fun _ k => XS.lcmp X0.here hx rfl (hb hby d6_60) rfl k) ?_
        show own_Out p e below _ (s₁.setTop (mkF m 61 #[.val (.long q0), .second, .val (.int p1), .val (.long q2), .second, .val (.int p3), .val (.long q4), .second, .val (.int (0 : Int32)), .unset] [(.int (lcmpW q4 q2))]))
        by_cases hc61_11 : q4 < q2
        · skip
          refine own_of (fun _ k => XS.ifNo X0.here hx rfl (hb hby d6_61) rfl (own_ltlt hc61_11).2.1 k) ?_
          show own_Out p e below _ (s₁.setTop (mkF m 64 #[.val (.long q0), .second, .val (.int p1), .val (.long q2), .second, .val (.int p3), .val (.long q4), .second, .val (.int (0 : Int32)), .unset] []))
          refine own_of (fun _ k => XS.iconst X0.here hx rfl (hb hby d6_64) k) ?_
          show own_Out p e below _ (s₁.setTop (mkF m 65 #[.val (.long q0), .second, .val (.int p1), .val (.long q2), .second, .val (.int p3), .val (.long q4), .second, .val (.int (0 : Int32)), .unset] [(.int (1 : Int32))]))
          refine own_of (fun _ k => XS.goto X0.here hx rfl (pc0 := 65) (pc' := 69) rfl (hb hby d6_65) (by decide) (by decide) k) ?_
          show own_Out p e below _ (s₁.setTop (mkF m 69 #[.val (.long q0), .second, .val (.int p1), .val (.long q2), .second, .val (.int p3), .val (.long q4), .second, .val (.int (0 : Int32)), .unset] [(.int (1 : Int32))]))
          refine own_of (fun _ k => XS.istore X0.here hx rfl (hb hby d6_69) rfl (l' := #[.val (.long q0), .second, .val (.int p1), .val (.long q2), .second, .val (.int p3), .val (.long q4), .second, .val (.int (0 : Int32)), .val (.int (1 : Int32))]) rfl k) ?_
          show own_Out p e below _ (s₁.setTop (mkF m 71 #[.val (.long q0), .second, .val (.int p1), .val (.long q2), .second, .val (.int p3), .val (.long q4), .second, .val (.int (0 : Int32)), .val (.int (1 : Int32))] []))
          refine own_of (fun _ k => XS.iload X0.here hx rfl (hb hby d6_71) rfl k) ?_
          show own_Out p e below _ (s₁.setTop (mkF m 73 #[.val (.long q0), .second, .val (.int p1), .val (.long q2), .second, .val (.int p3), .val (.long q4), .second, .val (.int (0 : Int32)), .val (.int (1 : Int32))] [(.int (0 : Int32))]))
          refine own_of (fun _ k => XS.ifYes X0.here hx rfl (pc0 := 73) (pc' := 85) rfl (hb hby d6_73) rfl ((if0 _ _).trans (teq (by decide : (0 : Int32) = (0 : Int32))).1) (by decide) (by decide) k) ?_
          show own_Out p e below _ (s₁.setTop (mkF m 85 #[.val (.long q0), .second, .val (.int p1), .val (.long q2), .second, .val (.int p3), .val (.long q4), .second, .val (.int (0 : Int32)), .val (.int (1 : Int32))] []))
          refine own_of (fun _ k => XS.iconst X0.here hx rfl (hb hby d6_85) k) ?_
          show own_Out p e below _ (s₁.setTop (mkF m 86 #[.val (.long q0), .second, .val (.int p1), .val (.long q2), .second, .val (.int p3), .val (.long q4), .second, .val (.int (0 : Int32)), .val (.int (1 : Int32))] [(.int (0 : Int32))]))
          exact own_outN X0 hx hlk (t := .boolean) hret (by simp) (hb hby d6_86) (z' := (0 : Int32)) rfl (Q := Q6 Z q0 p1 q2 p3 q4 h0 n0) ⟨by simp only [f6, if_neg hc1_1, if_pos hc8_9, if_pos hc37_10, if_pos hc61_11], N0, e0⟩ (by decide) (by decide)
        · skip
          refine own_of (fun _ k => XS.ifYes X0.here hx rfl (pc0 := 61) (pc' := 68) rfl (hb hby d6_61) rfl (own_lflt hc61_11).2.1 (by decide) (by decide) k) ?_
          show own_Out p e below _ (s₁.setTop (mkF m 68 #[.val (.long q0), .second, .val (.int p1), .val (.long q2), .second, .val (.int p3), .val (.long q4), .second, .val (.int (0 : Int32)), .unset] []))
          refine own_of (fun _ k => XS.iconst X0.here hx rfl (hb hby d6_68) k) ?_
          show own_Out p e below _ (s₁.setTop (mkF m 69 #[.val (.long q0), .second, .val (.int p1), .val (.long q2), .second, .val (.int p3), .val (.long q4), .second, .val (.int (0 : Int32)), .unset] [(.int (0 : Int32))]))
          refine own_of (fun _ k => XS.istore X0.here hx rfl (hb hby d6_69) rfl (l' := #[.val (.long q0), .second, .val (.int p1), .val (.long q2), .second, .val (.int p3), .val (.long q4), .second, .val (.int (0 : Int32)), .val (.int (0 : Int32))]) rfl k) ?_
          show own_Out p e below _ (s₁.setTop (mkF m 71 #[.val (.long q0), .second, .val (.int p1), .val (.long q2), .second, .val (.int p3), .val (.long q4), .second, .val (.int (0 : Int32)), .val (.int (0 : Int32))] []))
          refine own_of (fun _ k => XS.iload X0.here hx rfl (hb hby d6_71) rfl k) ?_
          show own_Out p e below _ (s₁.setTop (mkF m 73 #[.val (.long q0), .second, .val (.int p1), .val (.long q2), .second, .val (.int p3), .val (.long q4), .second, .val (.int (0 : Int32)), .val (.int (0 : Int32))] [(.int (0 : Int32))]))
          refine own_of (fun _ k => XS.ifYes X0.here hx rfl (pc0 := 73) (pc' := 85) rfl (hb hby d6_73) rfl ((if0 _ _).trans (teq (by decide : (0 : Int32) = (0 : Int32))).1) (by decide) (by decide) k) ?_
          show own_Out p e below _ (s₁.setTop (mkF m 85 #[.val (.long q0), .second, .val (.int p1), .val (.long q2), .second, .val (.int p3), .val (.long q4), .second, .val (.int (0 : Int32)), .val (.int (0 : Int32))] []))
          refine own_of (fun _ k => XS.iconst X0.here hx rfl (hb hby d6_85) k) ?_
          show own_Out p e below _ (s₁.setTop (mkF m 86 #[.val (.long q0), .second, .val (.int p1), .val (.long q2), .second, .val (.int p3), .val (.long q4), .second, .val (.int (0 : Int32)), .val (.int (0 : Int32))] [(.int (0 : Int32))]))
          exact own_outN X0 hx hlk (t := .boolean) hret (by simp) (hb hby d6_86) (z' := (0 : Int32)) rfl (Q := Q6 Z q0 p1 q2 p3 q4 h0 n0) ⟨by simp only [f6, if_neg hc1_1, if_pos hc8_9, if_pos hc37_10, if_neg hc61_11], N0, e0⟩ (by decide) (by decide)
      · skip
        refine own_of (fun _ k => XS.ifNo X0.here hx rfl (hb hby d6_37) rfl ((if0 _ _).trans (feq hc37_10).1) k) ?_
        show own_Out p e below _ (s₁.setTop (mkF m 40 #[.val (.long q0), .second, .val (.int p1), .val (.long q2), .second, .val (.int p3), .val (.long q4), .second, .val (.int (0 : Int32)), .unset] []))
        refine own_of (fun _ k => XS.lload X0.here hx rfl (hb hby d6_40) rfl k) ?_
        show own_Out p e below _ (s₁.setTop (mkF m 42 #[.val (.long q0), .second, .val (.int p1), .val (.long q2), .second, .val (.int p3), .val (.long q4), .second, .val (.int (0 : Int32)), .unset] [(.long q4)]))
        refine own_of (fun _ k => XS.lloadN X0.here hx rfl (hb hby d6_42) rfl k) ?_
        show own_Out p e below _ (s₁.setTop (mkF m 43 #[.val (.long q0), .second, .val (.int p1), .val (.long q2), .second, .val (.int p3), .val (.long q4), .second, .val (.int (0 : Int32)), .unset] [(.long q2), (.long q4)]))
        refine own_of (fun _ k => XS.lcmp X0.here hx rfl (hb hby d6_43) rfl k) ?_
        show own_Out p e below _ (s₁.setTop (mkF m 44 #[.val (.long q0), .second, .val (.int p1), .val (.long q2), .second, .val (.int p3), .val (.long q4), .second, .val (.int (0 : Int32)), .unset] [(.int (lcmpW q4 q2))]))
        by_cases hc44_12 : q2 < q4
        · skip
          refine own_of (fun _ k => XS.ifYes X0.here hx rfl (pc0 := 44) (pc' := 51) rfl (hb hby d6_44) rfl (own_ltlt hc44_12).2.2.1 (by decide) (by decide) k) ?_
          show own_Out p e below _ (s₁.setTop (mkF m 51 #[.val (.long q0), .second, .val (.int p1), .val (.long q2), .second, .val (.int p3), .val (.long q4), .second, .val (.int (0 : Int32)), .unset] []))
          refine own_of (fun _ k => XS.iconst X0.here hx rfl (hb hby d6_51) k) ?_
          show own_Out p e below _ (s₁.setTop (mkF m 52 #[.val (.long q0), .second, .val (.int p1), .val (.long q2), .second, .val (.int p3), .val (.long q4), .second, .val (.int (0 : Int32)), .unset] [(.int (0 : Int32))]))
          refine own_of (fun _ k => XS.istore X0.here hx rfl (hb hby d6_52) rfl (l' := #[.val (.long q0), .second, .val (.int p1), .val (.long q2), .second, .val (.int p3), .val (.long q4), .second, .val (.int (0 : Int32)), .val (.int (0 : Int32))]) rfl k) ?_
          show own_Out p e below _ (s₁.setTop (mkF m 54 #[.val (.long q0), .second, .val (.int p1), .val (.long q2), .second, .val (.int p3), .val (.long q4), .second, .val (.int (0 : Int32)), .val (.int (0 : Int32))] []))
          refine own_of (fun _ k => XS.goto X0.here hx rfl (pc0 := 54) (pc' := 71) rfl (hb hby d6_54) (by decide) (by decide) k) ?_
          show own_Out p e below _ (s₁.setTop (mkF m 71 #[.val (.long q0), .second, .val (.int p1), .val (.long q2), .second, .val (.int p3), .val (.long q4), .second, .val (.int (0 : Int32)), .val (.int (0 : Int32))] []))
          refine own_of (fun _ k => XS.iload X0.here hx rfl (hb hby d6_71) rfl k) ?_
          show own_Out p e below _ (s₁.setTop (mkF m 73 #[.val (.long q0), .second, .val (.int p1), .val (.long q2), .second, .val (.int p3), .val (.long q4), .second, .val (.int (0 : Int32)), .val (.int (0 : Int32))] [(.int (0 : Int32))]))
          refine own_of (fun _ k => XS.ifYes X0.here hx rfl (pc0 := 73) (pc' := 85) rfl (hb hby d6_73) rfl ((if0 _ _).trans (teq (by decide : (0 : Int32) = (0 : Int32))).1) (by decide) (by decide) k) ?_
          show own_Out p e below _ (s₁.setTop (mkF m 85 #[.val (.long q0), .second, .val (.int p1), .val (.long q2), .second, .val (.int p3), .val (.long q4), .second, .val (.int (0 : Int32)), .val (.int (0 : Int32))] []))
          refine own_of (fun _ k => XS.iconst X0.here hx rfl (hb hby d6_85) k) ?_
          show own_Out p e below _ (s₁.setTop (mkF m 86 #[.val (.long q0), .second, .val (.int p1), .val (.long q2), .second, .val (.int p3), .val (.long q4), .second, .val (.int (0 : Int32)), .val (.int (0 : Int32))] [(.int (0 : Int32))]))
          exact own_outN X0 hx hlk (t := .boolean) hret (by simp) (hb hby d6_86) (z' := (0 : Int32)) rfl (Q := Q6 Z q0 p1 q2 p3 q4 h0 n0) ⟨by simp only [f6, if_neg hc1_1, if_pos hc8_9, if_neg hc37_10, if_pos hc44_12], N0, e0⟩ (by decide) (by decide)
        · skip
          refine own_of (fun _ k => XS.ifNo X0.here hx rfl (hb hby d6_44) rfl (own_lflt hc44_12).2.2.1 k) ?_
          show own_Out p e below _ (s₁.setTop (mkF m 47 #[.val (.long q0), .second, .val (.int p1), .val (.long q2), .second, .val (.int p3), .val (.long q4), .second, .val (.int (0 : Int32)), .unset] []))
          refine own_of (fun _ k => XS.iconst X0.here hx rfl (hb hby d6_47) k) ?_
          show own_Out p e below _ (s₁.setTop (mkF m 48 #[.val (.long q0), .second, .val (.int p1), .val (.long q2), .second, .val (.int p3), .val (.long q4), .second, .val (.int (0 : Int32)), .unset] [(.int (1 : Int32))]))
          refine own_of (fun _ k => XS.goto X0.here hx rfl (pc0 := 48) (pc' := 52) rfl (hb hby d6_48) (by decide) (by decide) k) ?_
          show own_Out p e below _ (s₁.setTop (mkF m 52 #[.val (.long q0), .second, .val (.int p1), .val (.long q2), .second, .val (.int p3), .val (.long q4), .second, .val (.int (0 : Int32)), .unset] [(.int (1 : Int32))]))
          refine own_of (fun _ k => XS.istore X0.here hx rfl (hb hby d6_52) rfl (l' := #[.val (.long q0), .second, .val (.int p1), .val (.long q2), .second, .val (.int p3), .val (.long q4), .second, .val (.int (0 : Int32)), .val (.int (1 : Int32))]) rfl k) ?_
          show own_Out p e below _ (s₁.setTop (mkF m 54 #[.val (.long q0), .second, .val (.int p1), .val (.long q2), .second, .val (.int p3), .val (.long q4), .second, .val (.int (0 : Int32)), .val (.int (1 : Int32))] []))
          refine own_of (fun _ k => XS.goto X0.here hx rfl (pc0 := 54) (pc' := 71) rfl (hb hby d6_54) (by decide) (by decide) k) ?_
          show own_Out p e below _ (s₁.setTop (mkF m 71 #[.val (.long q0), .second, .val (.int p1), .val (.long q2), .second, .val (.int p3), .val (.long q4), .second, .val (.int (0 : Int32)), .val (.int (1 : Int32))] []))
          refine own_of (fun _ k => XS.iload X0.here hx rfl (hb hby d6_71) rfl k) ?_
          show own_Out p e below _ (s₁.setTop (mkF m 73 #[.val (.long q0), .second, .val (.int p1), .val (.long q2), .second, .val (.int p3), .val (.long q4), .second, .val (.int (0 : Int32)), .val (.int (1 : Int32))] [(.int (0 : Int32))]))
          refine own_of (fun _ k => XS.ifYes X0.here hx rfl (pc0 := 73) (pc' := 85) rfl (hb hby d6_73) rfl ((if0 _ _).trans (teq (by decide : (0 : Int32) = (0 : Int32))).1) (by decide) (by decide) k) ?_
          show own_Out p e below _ (s₁.setTop (mkF m 85 #[.val (.long q0), .second, .val (.int p1), .val (.long q2), .second, .val (.int p3), .val (.long q4), .second, .val (.int (0 : Int32)), .val (.int (1 : Int32))] []))
          refine own_of (fun _ k => XS.iconst X0.here hx rfl (hb hby d6_85) k) ?_
          show own_Out p e below _ (s₁.setTop (mkF m 86 #[.val (.long q0), .second, .val (.int p1), .val (.long q2), .second, .val (.int p3), .val (.long q4), .second, .val (.int (0 : Int32)), .val (.int (1 : Int32))] [(.int (0 : Int32))]))
          exact own_outN X0 hx hlk (t := .boolean) hret (by simp) (hb hby d6_86) (z' := (0 : Int32)) rfl (Q := Q6 Z q0 p1 q2 p3 q4 h0 n0) ⟨by simp only [f6, if_neg hc1_1, if_pos hc8_9, if_neg hc37_10, if_neg hc44_12], N0, e0⟩ (by decide) (by decide)
    · skip
      refine own_of (fun _ k => XS.ifNo X0.here hx rfl (hb hby d6_8) rfl (own_lflt hc8_9).1 k) ?_
      show own_Out p e below _ (s₁.setTop (mkF m 11 #[.val (.long q0), .second, .val (.int p1), .val (.long q2), .second, .val (.int p3), .val (.long q4), .second, .unset, .unset] []))
      refine own_of (fun _ k => XS.iconst X0.here hx rfl (hb hby d6_11) k) ?_
      show own_Out p e below _ (s₁.setTop (mkF m 12 #[.val (.long q0), .second, .val (.int p1), .val (.long q2), .second, .val (.int p3), .val (.long q4), .second, .unset, .unset] [(.int (1 : Int32))]))
      refine own_of (fun _ k => XS.goto X0.here hx rfl (pc0 := 12) (pc' := 16) rfl (hb hby d6_12) (by decide) (by decide) k) ?_
      show own_Out p e below _ (s₁.setTop (mkF m 16 #[.val (.long q0), .second, .val (.int p1), .val (.long q2), .second, .val (.int p3), .val (.long q4), .second, .unset, .unset] [(.int (1 : Int32))]))
      refine own_of (fun _ k => XS.istore X0.here hx rfl (hb hby d6_16) rfl (l' := #[.val (.long q0), .second, .val (.int p1), .val (.long q2), .second, .val (.int p3), .val (.long q4), .second, .val (.int (1 : Int32)), .unset]) rfl k) ?_
      show own_Out p e below _ (s₁.setTop (mkF m 18 #[.val (.long q0), .second, .val (.int p1), .val (.long q2), .second, .val (.int p3), .val (.long q4), .second, .val (.int (1 : Int32)), .unset] []))
      refine own_of (fun _ k => XS.goto X0.here hx rfl (pc0 := 18) (pc' := 35) rfl (hb hby d6_18) (by decide) (by decide) k) ?_
      show own_Out p e below _ (s₁.setTop (mkF m 35 #[.val (.long q0), .second, .val (.int p1), .val (.long q2), .second, .val (.int p3), .val (.long q4), .second, .val (.int (1 : Int32)), .unset] []))
      refine own_of (fun _ k => XS.iload X0.here hx rfl (hb hby d6_35) rfl k) ?_
      show own_Out p e below _ (s₁.setTop (mkF m 37 #[.val (.long q0), .second, .val (.int p1), .val (.long q2), .second, .val (.int p3), .val (.long q4), .second, .val (.int (1 : Int32)), .unset] [(.int p3)]))
      by_cases hc37_13 : p3 = (0 : Int32)
      · skip
        refine own_of (fun _ k => XS.ifYes X0.here hx rfl (pc0 := 37) (pc' := 57) rfl (hb hby d6_37) rfl ((if0 _ _).trans (teq hc37_13).1) (by decide) (by decide) k) ?_
        show own_Out p e below _ (s₁.setTop (mkF m 57 #[.val (.long q0), .second, .val (.int p1), .val (.long q2), .second, .val (.int p3), .val (.long q4), .second, .val (.int (1 : Int32)), .unset] []))
        refine own_of (fun _ k => XS.lload X0.here hx rfl (hb hby d6_57) rfl k) ?_
        show own_Out p e below _ (s₁.setTop (mkF m 59 #[.val (.long q0), .second, .val (.int p1), .val (.long q2), .second, .val (.int p3), .val (.long q4), .second, .val (.int (1 : Int32)), .unset] [(.long q4)]))
        refine own_of (fun _ k => XS.lloadN X0.here hx rfl (hb hby d6_59) rfl k) ?_
        show own_Out p e below _ (s₁.setTop (mkF m 60 #[.val (.long q0), .second, .val (.int p1), .val (.long q2), .second, .val (.int p3), .val (.long q4), .second, .val (.int (1 : Int32)), .unset] [(.long q2), (.long q4)]))
        refine own_of (fun _ k => XS.lcmp X0.here hx rfl (hb hby d6_60) rfl k) ?_
        show own_Out p e below _ (s₁.setTop (mkF m 61 #[.val (.long q0), .second, .val (.int p1), .val (.long q2), .second, .val (.int p3), .val (.long q4), .second, .val (.int (1 : Int32)), .unset] [(.int (lcmpW q4 q2))]))
        by_cases hc61_14 : q4 < q2
        · skip
          refine own_of (fun _ k => XS.ifNo X0.here hx rfl (hb hby d6_61) rfl (own_ltlt hc61_14).2.1 k) ?_
          show own_Out p e below _ (s₁.setTop (mkF m 64 #[.val (.long q0), .second, .val (.int p1), .val (.long q2), .second, .val (.int p3), .val (.long q4), .second, .val (.int (1 : Int32)), .unset] []))
          refine own_of (fun _ k => XS.iconst X0.here hx rfl (hb hby d6_64) k) ?_
          show own_Out p e below _ (s₁.setTop (mkF m 65 #[.val (.long q0), .second, .val (.int p1), .val (.long q2), .second, .val (.int p3), .val (.long q4), .second, .val (.int (1 : Int32)), .unset] [(.int (1 : Int32))]))
          refine own_of (fun _ k => XS.goto X0.here hx rfl (pc0 := 65) (pc' := 69) rfl (hb hby d6_65) (by decide) (by decide) k) ?_
          show own_Out p e below _ (s₁.setTop (mkF m 69 #[.val (.long q0), .second, .val (.int p1), .val (.long q2), .second, .val (.int p3), .val (.long q4), .second, .val (.int (1 : Int32)), .unset] [(.int (1 : Int32))]))
          refine own_of (fun _ k => XS.istore X0.here hx rfl (hb hby d6_69) rfl (l' := #[.val (.long q0), .second, .val (.int p1), .val (.long q2), .second, .val (.int p3), .val (.long q4), .second, .val (.int (1 : Int32)), .val (.int (1 : Int32))]) rfl k) ?_
          show own_Out p e below _ (s₁.setTop (mkF m 71 #[.val (.long q0), .second, .val (.int p1), .val (.long q2), .second, .val (.int p3), .val (.long q4), .second, .val (.int (1 : Int32)), .val (.int (1 : Int32))] []))
          refine own_of (fun _ k => XS.iload X0.here hx rfl (hb hby d6_71) rfl k) ?_
          show own_Out p e below _ (s₁.setTop (mkF m 73 #[.val (.long q0), .second, .val (.int p1), .val (.long q2), .second, .val (.int p3), .val (.long q4), .second, .val (.int (1 : Int32)), .val (.int (1 : Int32))] [(.int (1 : Int32))]))
          refine own_of (fun _ k => XS.ifNo X0.here hx rfl (hb hby d6_73) rfl ((if0 _ _).trans (feq (by decide : ¬ ((1 : Int32) = (0 : Int32)))).1) k) ?_
          show own_Out p e below _ (s₁.setTop (mkF m 76 #[.val (.long q0), .second, .val (.int p1), .val (.long q2), .second, .val (.int p3), .val (.long q4), .second, .val (.int (1 : Int32)), .val (.int (1 : Int32))] []))
          refine own_of (fun _ k => XS.iload X0.here hx rfl (hb hby d6_76) rfl k) ?_
          show own_Out p e below _ (s₁.setTop (mkF m 78 #[.val (.long q0), .second, .val (.int p1), .val (.long q2), .second, .val (.int p3), .val (.long q4), .second, .val (.int (1 : Int32)), .val (.int (1 : Int32))] [(.int (1 : Int32))]))
          refine own_of (fun _ k => XS.ifNo X0.here hx rfl (hb hby d6_78) rfl ((if0 _ _).trans (feq (by decide : ¬ ((1 : Int32) = (0 : Int32)))).1) k) ?_
          show own_Out p e below _ (s₁.setTop (mkF m 81 #[.val (.long q0), .second, .val (.int p1), .val (.long q2), .second, .val (.int p3), .val (.long q4), .second, .val (.int (1 : Int32)), .val (.int (1 : Int32))] []))
          refine own_of (fun _ k => XS.iconst X0.here hx rfl (hb hby d6_81) k) ?_
          show own_Out p e below _ (s₁.setTop (mkF m 82 #[.val (.long q0), .second, .val (.int p1), .val (.long q2), .second, .val (.int p3), .val (.long q4), .second, .val (.int (1 : Int32)), .val (.int (1 : Int32))] [(.int (1 : Int32))]))
          refine own_of (fun _ k => XS.goto X0.here hx rfl (pc0 := 82) (pc' := 86) rfl (hb hby d6_82) (by decide) (by decide) k) ?_
          show own_Out p e below _ (s₁.setTop (mkF m 86 #[.val (.long q0), .second, .val (.int p1), .val (.long q2), .second, .val (.int p3), .val (.long q4), .second, .val (.int (1 : Int32)), .val (.int (1 : Int32))] [(.int (1 : Int32))]))
          exact own_outN X0 hx hlk (t := .boolean) hret (by simp) (hb hby d6_86) (z' := (1 : Int32)) rfl (Q := Q6 Z q0 p1 q2 p3 q4 h0 n0) ⟨by simp only [f6, if_neg hc1_1, if_neg hc8_9, if_pos hc37_13, if_pos hc61_14], N0, e0⟩ (by decide) (by decide)
        · skip
          refine own_of (fun _ k => XS.ifYes X0.here hx rfl (pc0 := 61) (pc' := 68) rfl (hb hby d6_61) rfl (own_lflt hc61_14).2.1 (by decide) (by decide) k) ?_
          show own_Out p e below _ (s₁.setTop (mkF m 68 #[.val (.long q0), .second, .val (.int p1), .val (.long q2), .second, .val (.int p3), .val (.long q4), .second, .val (.int (1 : Int32)), .unset] []))
          refine own_of (fun _ k => XS.iconst X0.here hx rfl (hb hby d6_68) k) ?_
          show own_Out p e below _ (s₁.setTop (mkF m 69 #[.val (.long q0), .second, .val (.int p1), .val (.long q2), .second, .val (.int p3), .val (.long q4), .second, .val (.int (1 : Int32)), .unset] [(.int (0 : Int32))]))
          refine own_of (fun _ k => XS.istore X0.here hx rfl (hb hby d6_69) rfl (l' := #[.val (.long q0), .second, .val (.int p1), .val (.long q2), .second, .val (.int p3), .val (.long q4), .second, .val (.int (1 : Int32)), .val (.int (0 : Int32))]) rfl k) ?_
          show own_Out p e below _ (s₁.setTop (mkF m 71 #[.val (.long q0), .second, .val (.int p1), .val (.long q2), .second, .val (.int p3), .val (.long q4), .second, .val (.int (1 : Int32)), .val (.int (0 : Int32))] []))
          refine own_of (fun _ k => XS.iload X0.here hx rfl (hb hby d6_71) rfl k) ?_
          show own_Out p e below _ (s₁.setTop (mkF m 73 #[.val (.long q0), .second, .val (.int p1), .val (.long q2), .second, .val (.int p3), .val (.long q4), .second, .val (.int (1 : Int32)), .val (.int (0 : Int32))] [(.int (1 : Int32))]))
          refine own_of (fun _ k => XS.ifNo X0.here hx rfl (hb hby d6_73) rfl ((if0 _ _).trans (feq (by decide : ¬ ((1 : Int32) = (0 : Int32)))).1) k) ?_
          show own_Out p e below _ (s₁.setTop (mkF m 76 #[.val (.long q0), .second, .val (.int p1), .val (.long q2), .second, .val (.int p3), .val (.long q4), .second, .val (.int (1 : Int32)), .val (.int (0 : Int32))] []))
          refine own_of (fun _ k => XS.iload X0.here hx rfl (hb hby d6_76) rfl k) ?_
          show own_Out p e below _ (s₁.setTop (mkF m 78 #[.val (.long q0), .second, .val (.int p1), .val (.long q2), .second, .val (.int p3), .val (.long q4), .second, .val (.int (1 : Int32)), .val (.int (0 : Int32))] [(.int (0 : Int32))]))
          refine own_of (fun _ k => XS.ifYes X0.here hx rfl (pc0 := 78) (pc' := 85) rfl (hb hby d6_78) rfl ((if0 _ _).trans (teq (by decide : (0 : Int32) = (0 : Int32))).1) (by decide) (by decide) k) ?_
          show own_Out p e below _ (s₁.setTop (mkF m 85 #[.val (.long q0), .second, .val (.int p1), .val (.long q2), .second, .val (.int p3), .val (.long q4), .second, .val (.int (1 : Int32)), .val (.int (0 : Int32))] []))
          refine own_of (fun _ k => XS.iconst X0.here hx rfl (hb hby d6_85) k) ?_
          show own_Out p e below _ (s₁.setTop (mkF m 86 #[.val (.long q0), .second, .val (.int p1), .val (.long q2), .second, .val (.int p3), .val (.long q4), .second, .val (.int (1 : Int32)), .val (.int (0 : Int32))] [(.int (0 : Int32))]))
          exact own_outN X0 hx hlk (t := .boolean) hret (by simp) (hb hby d6_86) (z' := (0 : Int32)) rfl (Q := Q6 Z q0 p1 q2 p3 q4 h0 n0) ⟨by simp only [f6, if_neg hc1_1, if_neg hc8_9, if_pos hc37_13, if_neg hc61_14], N0, e0⟩ (by decide) (by decide)
      · skip
        refine own_of (fun _ k => XS.ifNo X0.here hx rfl (hb hby d6_37) rfl ((if0 _ _).trans (feq hc37_13).1) k) ?_
        show own_Out p e below _ (s₁.setTop (mkF m 40 #[.val (.long q0), .second, .val (.int p1), .val (.long q2), .second, .val (.int p3), .val (.long q4), .second, .val (.int (1 : Int32)), .unset] []))
        refine own_of (fun _ k => XS.lload X0.here hx rfl (hb hby d6_40) rfl k) ?_
        show own_Out p e below _ (s₁.setTop (mkF m 42 #[.val (.long q0), .second, .val (.int p1), .val (.long q2), .second, .val (.int p3), .val (.long q4), .second, .val (.int (1 : Int32)), .unset] [(.long q4)]))
        refine own_of (fun _ k => XS.lloadN X0.here hx rfl (hb hby d6_42) rfl k) ?_
        show own_Out p e below _ (s₁.setTop (mkF m 43 #[.val (.long q0), .second, .val (.int p1), .val (.long q2), .second, .val (.int p3), .val (.long q4), .second, .val (.int (1 : Int32)), .unset] [(.long q2), (.long q4)]))
        refine own_of (fun _ k => XS.lcmp X0.here hx rfl (hb hby d6_43) rfl k) ?_
        show own_Out p e below _ (s₁.setTop (mkF m 44 #[.val (.long q0), .second, .val (.int p1), .val (.long q2), .second, .val (.int p3), .val (.long q4), .second, .val (.int (1 : Int32)), .unset] [(.int (lcmpW q4 q2))]))
        by_cases hc44_15 : q2 < q4
        · skip
          refine own_of (fun _ k => XS.ifYes X0.here hx rfl (pc0 := 44) (pc' := 51) rfl (hb hby d6_44) rfl (own_ltlt hc44_15).2.2.1 (by decide) (by decide) k) ?_
          show own_Out p e below _ (s₁.setTop (mkF m 51 #[.val (.long q0), .second, .val (.int p1), .val (.long q2), .second, .val (.int p3), .val (.long q4), .second, .val (.int (1 : Int32)), .unset] []))
          refine own_of (fun _ k => XS.iconst X0.here hx rfl (hb hby d6_51) k) ?_
          show own_Out p e below _ (s₁.setTop (mkF m 52 #[.val (.long q0), .second, .val (.int p1), .val (.long q2), .second, .val (.int p3), .val (.long q4), .second, .val (.int (1 : Int32)), .unset] [(.int (0 : Int32))]))
          refine own_of (fun _ k => XS.istore X0.here hx rfl (hb hby d6_52) rfl (l' := #[.val (.long q0), .second, .val (.int p1), .val (.long q2), .second, .val (.int p3), .val (.long q4), .second, .val (.int (1 : Int32)), .val (.int (0 : Int32))]) rfl k) ?_
          show own_Out p e below _ (s₁.setTop (mkF m 54 #[.val (.long q0), .second, .val (.int p1), .val (.long q2), .second, .val (.int p3), .val (.long q4), .second, .val (.int (1 : Int32)), .val (.int (0 : Int32))] []))
          refine own_of (fun _ k => XS.goto X0.here hx rfl (pc0 := 54) (pc' := 71) rfl (hb hby d6_54) (by decide) (by decide) k) ?_
          show own_Out p e below _ (s₁.setTop (mkF m 71 #[.val (.long q0), .second, .val (.int p1), .val (.long q2), .second, .val (.int p3), .val (.long q4), .second, .val (.int (1 : Int32)), .val (.int (0 : Int32))] []))
          refine own_of (fun _ k => XS.iload X0.here hx rfl (hb hby d6_71) rfl k) ?_
          show own_Out p e below _ (s₁.setTop (mkF m 73 #[.val (.long q0), .second, .val (.int p1), .val (.long q2), .second, .val (.int p3), .val (.long q4), .second, .val (.int (1 : Int32)), .val (.int (0 : Int32))] [(.int (1 : Int32))]))
          refine own_of (fun _ k => XS.ifNo X0.here hx rfl (hb hby d6_73) rfl ((if0 _ _).trans (feq (by decide : ¬ ((1 : Int32) = (0 : Int32)))).1) k) ?_
          show own_Out p e below _ (s₁.setTop (mkF m 76 #[.val (.long q0), .second, .val (.int p1), .val (.long q2), .second, .val (.int p3), .val (.long q4), .second, .val (.int (1 : Int32)), .val (.int (0 : Int32))] []))
          refine own_of (fun _ k => XS.iload X0.here hx rfl (hb hby d6_76) rfl k) ?_
          show own_Out p e below _ (s₁.setTop (mkF m 78 #[.val (.long q0), .second, .val (.int p1), .val (.long q2), .second, .val (.int p3), .val (.long q4), .second, .val (.int (1 : Int32)), .val (.int (0 : Int32))] [(.int (0 : Int32))]))
          refine own_of (fun _ k => XS.ifYes X0.here hx rfl (pc0 := 78) (pc' := 85) rfl (hb hby d6_78) rfl ((if0 _ _).trans (teq (by decide : (0 : Int32) = (0 : Int32))).1) (by decide) (by decide) k) ?_
          show own_Out p e below _ (s₁.setTop (mkF m 85 #[.val (.long q0), .second, .val (.int p1), .val (.long q2), .second, .val (.int p3), .val (.long q4), .second, .val (.int (1 : Int32)), .val (.int (0 : Int32))] []))
          refine own_of (fun _ k => XS.iconst X0.here hx rfl (hb hby d6_85) k) ?_
          show own_Out p e below _ (s₁.setTop (mkF m 86 #[.val (.long q0), .second, .val (.int p1), .val (.long q2), .second, .val (.int p3), .val (.long q4), .second, .val (.int (1 : Int32)), .val (.int (0 : Int32))] [(.int (0 : Int32))]))
          exact own_outN X0 hx hlk (t := .boolean) hret (by simp) (hb hby d6_86) (z' := (0 : Int32)) rfl (Q := Q6 Z q0 p1 q2 p3 q4 h0 n0) ⟨by simp only [f6, if_neg hc1_1, if_neg hc8_9, if_neg hc37_13, if_pos hc44_15], N0, e0⟩ (by decide) (by decide)
        · skip
          refine own_of (fun _ k => XS.ifNo X0.here hx rfl (hb hby d6_44) rfl (own_lflt hc44_15).2.2.1 k) ?_
          show own_Out p e below _ (s₁.setTop (mkF m 47 #[.val (.long q0), .second, .val (.int p1), .val (.long q2), .second, .val (.int p3), .val (.long q4), .second, .val (.int (1 : Int32)), .unset] []))
          refine own_of (fun _ k => XS.iconst X0.here hx rfl (hb hby d6_47) k) ?_
          show own_Out p e below _ (s₁.setTop (mkF m 48 #[.val (.long q0), .second, .val (.int p1), .val (.long q2), .second, .val (.int p3), .val (.long q4), .second, .val (.int (1 : Int32)), .unset] [(.int (1 : Int32))]))
          refine own_of (fun _ k => XS.goto X0.here hx rfl (pc0 := 48) (pc' := 52) rfl (hb hby d6_48) (by decide) (by decide) k) ?_
          show own_Out p e below _ (s₁.setTop (mkF m 52 #[.val (.long q0), .second, .val (.int p1), .val (.long q2), .second, .val (.int p3), .val (.long q4), .second, .val (.int (1 : Int32)), .unset] [(.int (1 : Int32))]))
          refine own_of (fun _ k => XS.istore X0.here hx rfl (hb hby d6_52) rfl (l' := #[.val (.long q0), .second, .val (.int p1), .val (.long q2), .second, .val (.int p3), .val (.long q4), .second, .val (.int (1 : Int32)), .val (.int (1 : Int32))]) rfl k) ?_
          show own_Out p e below _ (s₁.setTop (mkF m 54 #[.val (.long q0), .second, .val (.int p1), .val (.long q2), .second, .val (.int p3), .val (.long q4), .second, .val (.int (1 : Int32)), .val (.int (1 : Int32))] []))
          refine own_of (fun _ k => XS.goto X0.here hx rfl (pc0 := 54) (pc' := 71) rfl (hb hby d6_54) (by decide) (by decide) k) ?_
          show own_Out p e below _ (s₁.setTop (mkF m 71 #[.val (.long q0), .second, .val (.int p1), .val (.long q2), .second, .val (.int p3), .val (.long q4), .second, .val (.int (1 : Int32)), .val (.int (1 : Int32))] []))
          refine own_of (fun _ k => XS.iload X0.here hx rfl (hb hby d6_71) rfl k) ?_
          show own_Out p e below _ (s₁.setTop (mkF m 73 #[.val (.long q0), .second, .val (.int p1), .val (.long q2), .second, .val (.int p3), .val (.long q4), .second, .val (.int (1 : Int32)), .val (.int (1 : Int32))] [(.int (1 : Int32))]))
          refine own_of (fun _ k => XS.ifNo X0.here hx rfl (hb hby d6_73) rfl ((if0 _ _).trans (feq (by decide : ¬ ((1 : Int32) = (0 : Int32)))).1) k) ?_
          show own_Out p e below _ (s₁.setTop (mkF m 76 #[.val (.long q0), .second, .val (.int p1), .val (.long q2), .second, .val (.int p3), .val (.long q4), .second, .val (.int (1 : Int32)), .val (.int (1 : Int32))] []))
          refine own_of (fun _ k => XS.iload X0.here hx rfl (hb hby d6_76) rfl k) ?_
          show own_Out p e below _ (s₁.setTop (mkF m 78 #[.val (.long q0), .second, .val (.int p1), .val (.long q2), .second, .val (.int p3), .val (.long q4), .second, .val (.int (1 : Int32)), .val (.int (1 : Int32))] [(.int (1 : Int32))]))
          refine own_of (fun _ k => XS.ifNo X0.here hx rfl (hb hby d6_78) rfl ((if0 _ _).trans (feq (by decide : ¬ ((1 : Int32) = (0 : Int32)))).1) k) ?_
          show own_Out p e below _ (s₁.setTop (mkF m 81 #[.val (.long q0), .second, .val (.int p1), .val (.long q2), .second, .val (.int p3), .val (.long q4), .second, .val (.int (1 : Int32)), .val (.int (1 : Int32))] []))
          refine own_of (fun _ k => XS.iconst X0.here hx rfl (hb hby d6_81) k) ?_
          show own_Out p e below _ (s₁.setTop (mkF m 82 #[.val (.long q0), .second, .val (.int p1), .val (.long q2), .second, .val (.int p3), .val (.long q4), .second, .val (.int (1 : Int32)), .val (.int (1 : Int32))] [(.int (1 : Int32))]))
          refine own_of (fun _ k => XS.goto X0.here hx rfl (pc0 := 82) (pc' := 86) rfl (hb hby d6_82) (by decide) (by decide) k) ?_
          show own_Out p e below _ (s₁.setTop (mkF m 86 #[.val (.long q0), .second, .val (.int p1), .val (.long q2), .second, .val (.int p3), .val (.long q4), .second, .val (.int (1 : Int32)), .val (.int (1 : Int32))] [(.int (1 : Int32))]))
          exact own_outN X0 hx hlk (t := .boolean) hret (by simp) (hb hby d6_86) (z' := (1 : Int32)) rfl (Q := Q6 Z q0 p1 q2 p3 q4 h0 n0) ⟨by simp only [f6, if_neg hc1_1, if_neg hc8_9, if_neg hc37_13, if_neg hc44_15], N0, e0⟩ (by decide) (by decide)
theorem pd_1 : parseMethodDescriptor "(IJJJ)J" = some ⟨[.int, .long, .long, .long], some .long⟩ := by decide +kernel
theorem pd_2 : parseMethodDescriptor "(JZJZ)V" = some ⟨[.long, .boolean, .long, .boolean], none⟩ := by decide +kernel
theorem pd_3 : parseMethodDescriptor "(J)Z" = some ⟨[.long], some .boolean⟩ := by decide +kernel
theorem pd_4 : parseMethodDescriptor "(JZJZJ)Z" = some ⟨[.long, .boolean, .long, .boolean, .long], some .boolean⟩ := by decide +kernel
theorem ef_0 (m : MethodId) (x0 : Int64) (x1 : Int64) (x2 : Int64) (x3 : Int32) : entryFrame m #[(.long x0), (.long x1), (.long x2), (.int x3)] maxLocals = mkF m 0 #[.val (.long x0), .second, .val (.long x1), .second, .val (.long x2), .second, .val (.int x3), .unset, .unset, .unset, .unset, .unset, .unset, .unset] [] := by first | (simp [entryFrame, mkF, argsToLocals, Value.category, maxLocals]; done) | rfl
theorem own_main (q1 lo hi : Int64) (lp hp : Int32) : f5 q1 lo lp hi hp = f6 lo lp hi hp q1 := by
  by_cases c1 : lo < q1
  · skip
    by_cases c2 : q1 < hi
    · skip
      by_cases c3 : lp = (0 : Int32)
      · skip
        by_cases c4 : hp = (0 : Int32)
        · skip
          simp only [f5, f6, if_pos c1, if_pos c2, if_pos c3, if_pos c1, if_pos c4, if_pos c2]
        · skip
          simp only [f5, f6, if_pos c1, if_pos c2, if_pos c3, if_pos c1, if_neg c4, if_neg (own_JR1 c2 : ¬ (hi < q1))]
      · skip
        by_cases c5 : hp = (0 : Int32)
        · skip
          simp only [f5, f6, if_pos c1, if_pos c2, if_neg c3, if_neg (own_JR1 c1 : ¬ (q1 < lo)), if_pos c5, if_pos c2]
        · skip
          simp only [f5, f6, if_pos c1, if_pos c2, if_neg c3, if_neg (own_JR1 c1 : ¬ (q1 < lo)), if_neg c5, if_neg (own_JR1 c2 : ¬ (hi < q1))]
    · skip
      by_cases c6 : hp = (0 : Int32)
      · skip
        by_cases c7 : lp = (0 : Int32)
        · skip
          simp only [f5, f6, if_pos c1, if_neg c2, if_pos c6, if_pos c7, if_pos c1, if_pos c6, if_neg c2]
        · skip
          simp only [f5, f6, if_pos c1, if_neg c2, if_pos c6, if_neg c7, if_neg (own_JR1 c1 : ¬ (q1 < lo)), if_pos c6, if_neg c2]
      · skip
        by_cases c8 : q1 = hi
        · skip
          by_cases c9 : lp = (0 : Int32)
          · skip
            simp only [f5, f6, if_pos c1, if_neg c2, if_neg c6, if_pos c8, if_pos c9, if_pos c1, if_neg c6, if_neg (own_JR3' c8 : ¬ (hi < q1))]
          · skip
            simp only [f5, f6, if_pos c1, if_neg c2, if_neg c6, if_pos c8, if_neg c9, if_neg (own_JR1 c1 : ¬ (q1 < lo)), if_neg c6, if_neg (own_JR3' c8 : ¬ (hi < q1))]
        · skip
          by_cases c10 : lp = (0 : Int32)
          · skip
            simp only [f5, f6, if_pos c1, if_neg c2, if_neg c6, if_neg c8, if_pos c10, if_pos c1, if_neg c6, if_pos (own_JR5 c2 c8 : hi < q1)]
          · skip
            simp only [f5, f6, if_pos c1, if_neg c2, if_neg c6, if_neg c8, if_neg c10, if_neg (own_JR1 c1 : ¬ (q1 < lo)), if_neg c6, if_pos (own_JR5 c2 c8 : hi < q1)]
  · skip
    by_cases c11 : lp = (0 : Int32)
    · skip
      by_cases c12 : q1 < hi
      · skip
        by_cases c13 : hp = (0 : Int32)
        · skip
          simp only [f5, f6, if_neg c1, if_pos c11, if_pos c12, if_pos c11, if_neg c1, if_pos c13, if_pos c12]
        · skip
          simp only [f5, f6, if_neg c1, if_pos c11, if_pos c12, if_pos c11, if_neg c1, if_neg c13, if_neg (own_JR1 c12 : ¬ (hi < q1))]
      · skip
        by_cases c14 : hp = (0 : Int32)
        · skip
          simp only [f5, f6, if_neg c1, if_pos c11, if_neg c12, if_pos c14, if_pos c11, if_neg c1, if_pos c14, if_neg c12]
        · skip
          by_cases c15 : q1 = hi
          · skip
            simp only [f5, f6, if_neg c1, if_pos c11, if_neg c12, if_neg c14, if_pos c15, if_pos c11, if_neg c1, if_neg c14, if_neg (own_JR3' c15 : ¬ (hi < q1))]
          · skip
            simp only [f5, f6, if_neg c1, if_pos c11, if_neg c12, if_neg c14, if_neg c15, if_pos c11, if_neg c1, if_neg c14, if_pos (own_JR5 c12 c15 : hi < q1)]
    · skip
      by_cases c16 : q1 = lo
      · skip
        by_cases c17 : q1 < hi
        · skip
          by_cases c18 : hp = (0 : Int32)
          · skip
            simp only [f5, f6, if_neg c1, if_neg c11, if_pos c16, if_pos c17, if_neg c11, if_neg (own_JR3 c16 : ¬ (q1 < lo)), if_pos c18, if_pos c17]
          · skip
            simp only [f5, f6, if_neg c1, if_neg c11, if_pos c16, if_pos c17, if_neg c11, if_neg (own_JR3 c16 : ¬ (q1 < lo)), if_neg c18, if_neg (own_JR1 c17 : ¬ (hi < q1))]
        · skip
          by_cases c19 : hp = (0 : Int32)
          · skip
            simp only [f5, f6, if_neg c1, if_neg c11, if_pos c16, if_neg c17, if_pos c19, if_neg c11, if_neg (own_JR3 c16 : ¬ (q1 < lo)), if_pos c19, if_neg c17]
          · skip
            by_cases c20 : q1 = hi
            · skip
              simp only [f5, f6, if_neg c1, if_neg c11, if_pos c16, if_neg c17, if_neg c19, if_pos c20, if_neg c11, if_neg (own_JR3 c16 : ¬ (q1 < lo)), if_neg c19, if_neg (own_JR3' c20 : ¬ (hi < q1))]
            · skip
              simp only [f5, f6, if_neg c1, if_neg c11, if_pos c16, if_neg c17, if_neg c19, if_neg c20, if_neg c11, if_neg (own_JR3 c16 : ¬ (q1 < lo)), if_neg c19, if_pos (own_JR5 c17 c20 : hi < q1)]
      · skip
        by_cases c21 : q1 < hi
        · skip
          by_cases c22 : hp = (0 : Int32)
          · skip
            simp only [f5, f6, if_neg c1, if_neg c11, if_neg c16, if_pos c21, if_neg c11, if_pos (own_JR5' c1 c16 : q1 < lo), if_pos c22, if_pos c21]
          · skip
            simp only [f5, f6, if_neg c1, if_neg c11, if_neg c16, if_pos c21, if_neg c11, if_pos (own_JR5' c1 c16 : q1 < lo), if_neg c22, if_neg (own_JR1 c21 : ¬ (hi < q1))]
        · skip
          by_cases c23 : hp = (0 : Int32)
          · skip
            simp only [f5, f6, if_neg c1, if_neg c11, if_neg c16, if_neg c21, if_pos c23, if_neg c11, if_pos (own_JR5' c1 c16 : q1 < lo), if_pos c23, if_neg c21]
          · skip
            by_cases c24 : q1 = hi
            · skip
              simp only [f5, f6, if_neg c1, if_neg c11, if_neg c16, if_neg c21, if_neg c23, if_pos c24, if_neg c11, if_pos (own_JR5' c1 c16 : q1 < lo), if_neg c23, if_neg (own_JR3' c24 : ¬ (hi < q1))]
            · skip
              simp only [f5, f6, if_neg c1, if_neg c11, if_neg c16, if_neg c21, if_neg c23, if_neg c24, if_neg c11, if_pos (own_JR5' c1 c16 : q1 < lo), if_neg c23, if_pos (own_JR5 c21 c24 : hi < q1)]
theorem dead0_0 (q0 : Int64) (q1 : Int64) (q2 : Int64) (p3 : Int32) (hc5_1 : (p3 &&& (8 : Int32)) = (0 : Int32)) (hc20_2 : (p3 &&& (16 : Int32)) = (0 : Int32)) (hc85_8 : ¬ ((f5 (f1 (p3 &&& (7 : Int32)) q0 q1 q2) q0 ((0 : Int32) &&& 1) q1 ((0 : Int32) &&& 1)) = (f6 q0 (0 : Int32) q1 (0 : Int32) (f1 (p3 &&& (7 : Int32)) q0 q1 q2)))) : False := by
  refine hc85_8 ?_
  have e := own_main (f1 (p3 &&& (7 : Int32)) q0 q1 q2) q0 q1 (0 : Int32) (0 : Int32)
  exact e
theorem dead0_1 (q0 : Int64) (q1 : Int64) (q2 : Int64) (p3 : Int32) (hc5_1 : (p3 &&& (8 : Int32)) = (0 : Int32)) (hc20_2 : ¬ ((p3 &&& (16 : Int32)) = (0 : Int32))) (hc85_14 : ¬ ((f5 (f1 (p3 &&& (7 : Int32)) q0 q1 q2) q0 ((0 : Int32) &&& 1) q1 ((1 : Int32) &&& 1)) = (f6 q0 (0 : Int32) q1 (1 : Int32) (f1 (p3 &&& (7 : Int32)) q0 q1 q2)))) : False := by
  refine hc85_14 ?_
  have e := own_main (f1 (p3 &&& (7 : Int32)) q0 q1 q2) q0 q1 (0 : Int32) (1 : Int32)
  exact e
theorem dead0_2 (q0 : Int64) (q1 : Int64) (q2 : Int64) (p3 : Int32) (hc5_1 : ¬ ((p3 &&& (8 : Int32)) = (0 : Int32))) (hc20_15 : (p3 &&& (16 : Int32)) = (0 : Int32)) (hc85_21 : ¬ ((f5 (f1 (p3 &&& (7 : Int32)) q0 q1 q2) q0 ((1 : Int32) &&& 1) q1 ((0 : Int32) &&& 1)) = (f6 q0 (1 : Int32) q1 (0 : Int32) (f1 (p3 &&& (7 : Int32)) q0 q1 q2)))) : False := by
  refine hc85_21 ?_
  have e := own_main (f1 (p3 &&& (7 : Int32)) q0 q1 q2) q0 q1 (1 : Int32) (0 : Int32)
  exact e
theorem dead0_3 (q0 : Int64) (q1 : Int64) (q2 : Int64) (p3 : Int32) (hc5_1 : ¬ ((p3 &&& (8 : Int32)) = (0 : Int32))) (hc20_15 : ¬ ((p3 &&& (16 : Int32)) = (0 : Int32))) (hc85_27 : ¬ ((f5 (f1 (p3 &&& (7 : Int32)) q0 q1 q2) q0 ((1 : Int32) &&& 1) q1 ((1 : Int32) &&& 1)) = (f6 q0 (1 : Int32) q1 (1 : Int32) (f1 (p3 &&& (7 : Int32)) q0 q1 q2)))) : False := by
  refine hc85_27 ?_
  have e := own_main (f1 (p3 &&& (7 : Int32)) q0 q1 q2) q0 q1 (1 : Int32) (1 : Int32)
  exact e
def Q0 (Z : State) (q0 : Int64) (q1 : Int64) (q2 : Int64) (p3 : Int32) (h0 : Heap) (n0 : Nat) (v : Option Value) (h : Heap) (L : List Loc) : Prop := v = some (.int 1) ∧ Fr n0 L
set_option maxRecDepth 65536 in
set_option maxHeartbeats 40000000 in
theorem rm0 (l : Launch) (Z : State) (a0 : Array Value) (hw : ∀ d ∈ tables_1, d.before a0 Z = true) (ws : List Jvm.Cond) (q0 : Int64) (q1 : Int64) (q2 : Int64) (p3 : Int32) (h0 : Heap) (n0 : Nat) (Z0 : n0 ≤ h0.size) :
    MetFree l x (head1 (Jvm.Cond.code x code maxLocals ret :: ws) room_1) (fun a U => a = #[(.long q0), (.long q1), (.long q2), (.int p3)] ∧ Z.Warmed39 U.vm ∧ U.heap = h0) (fun _ _ _ _ _ => True) (fun _ U o U' => ∃ v L, o = .returned v ∧ Q0 Z q0 q1 q2 p3 h0 n0 v U'.heap L ∧ FrameEnd U o U' L 1 4) := by
  refine MetFree.of_bodySF (plainFor_of_name pn_0) hisR ?_
  intro p e s m args below meth c s₁ Bd hml0 hP hK
  obtain ⟨rfl, hZ, hh⟩ := hP
  have hx := Bd.exec
  have hby := Bd.bytes
  have hml : c.maxLocals = 14 := hml0
  have hown : s.vm.findClass "com/example/headway/headway/engine/IntervalContainsPinLaw" = some m.cls := findClass_of_methodNamed Bd.named
  have hnm := (name_of_methodNamed Bd.named Bd.method).1
  have X0 : Stand p l e room_1 s m #[(.long q0), (.long q1), (.long q2), (.int p3)] below meth c s₁ [] 0 0 := Stand.of_body Bd
  have e0 : s₁.heap = h0 := by rw [← hh, Bd.state]; rfl
  have N0 := Fr.nil n0
  have hret := Bd.returns
  have hlk := BodyLoose.notSynchronized Bd
  show own_Out p e below (fun o U' => ∃ v L, o = .returned v ∧ Q0 Z q0 q1 q2 p3 h0 n0 v U'.heap L ∧ FrameEnd s o U' L 1 4) (s₁.setTop (entryFrame m #[(.long q0), (.long q1), (.long q2), (.int p3)] maxLocals))
  refine own_of (fun t k => castTop (ef_0 m q0 q1 q2 p3) k) ?_
  show own_Out p e below _ (s₁.setTop (mkF m 0 #[.val (.long q0), .second, .val (.long q1), .second, .val (.long q2), .second, .val (.int p3), .unset, .unset, .unset, .unset, .unset, .unset, .unset] []))
  refine own_of (fun _ k => XS.iload X0.here hx rfl (hb hby at_0) rfl k) ?_
  show own_Out p e below _ (s₁.setTop (mkF m 2 #[.val (.long q0), .second, .val (.long q1), .second, .val (.long q2), .second, .val (.int p3), .unset, .unset, .unset, .unset, .unset, .unset, .unset] [(.int p3)]))
  refine own_of (fun _ k => XS.bipush X0.here hx rfl (hb hby at_2) k) ?_
  show own_Out p e below _ (s₁.setTop (mkF m 4 #[.val (.long q0), .second, .val (.long q1), .second, .val (.long q2), .second, .val (.int p3), .unset, .unset, .unset, .unset, .unset, .unset, .unset] [(.int (8 : Int32)), (.int p3)]))
  refine own_of (fun _ k => XS.iand X0.here hx rfl (hb hby at_4) rfl k) ?_
  show own_Out p e below _ (s₁.setTop (mkF m 5 #[.val (.long q0), .second, .val (.long q1), .second, .val (.long q2), .second, .val (.int p3), .unset, .unset, .unset, .unset, .unset, .unset, .unset] [(.int (p3 &&& (8 : Int32)))]))
  by_cases hc5_1 : (p3 &&& (8 : Int32)) = (0 : Int32)
  · skip
    refine own_of (fun _ k => XS.ifYes X0.here hx rfl (pc0 := 5) (pc' := 12) rfl (hb hby at_5) rfl ((if0 _ _).trans (teq hc5_1).1) (by decide) (by decide) k) ?_
    show own_Out p e below _ (s₁.setTop (mkF m 12 #[.val (.long q0), .second, .val (.long q1), .second, .val (.long q2), .second, .val (.int p3), .unset, .unset, .unset, .unset, .unset, .unset, .unset] []))
    refine own_of (fun _ k => XS.iconst X0.here hx rfl (hb hby at_12) k) ?_
    show own_Out p e below _ (s₁.setTop (mkF m 13 #[.val (.long q0), .second, .val (.long q1), .second, .val (.long q2), .second, .val (.int p3), .unset, .unset, .unset, .unset, .unset, .unset, .unset] [(.int (0 : Int32))]))
    refine own_of (fun _ k => XS.istore X0.here hx rfl (hb hby at_13) rfl (l' := #[.val (.long q0), .second, .val (.long q1), .second, .val (.long q2), .second, .val (.int p3), .val (.int (0 : Int32)), .unset, .unset, .unset, .unset, .unset, .unset]) rfl k) ?_
    show own_Out p e below _ (s₁.setTop (mkF m 15 #[.val (.long q0), .second, .val (.long q1), .second, .val (.long q2), .second, .val (.int p3), .val (.int (0 : Int32)), .unset, .unset, .unset, .unset, .unset, .unset] []))
    refine own_of (fun _ k => XS.iload X0.here hx rfl (hb hby at_15) rfl k) ?_
    show own_Out p e below _ (s₁.setTop (mkF m 17 #[.val (.long q0), .second, .val (.long q1), .second, .val (.long q2), .second, .val (.int p3), .val (.int (0 : Int32)), .unset, .unset, .unset, .unset, .unset, .unset] [(.int p3)]))
    refine own_of (fun _ k => XS.bipush X0.here hx rfl (hb hby at_17) k) ?_
    show own_Out p e below _ (s₁.setTop (mkF m 19 #[.val (.long q0), .second, .val (.long q1), .second, .val (.long q2), .second, .val (.int p3), .val (.int (0 : Int32)), .unset, .unset, .unset, .unset, .unset, .unset] [(.int (16 : Int32)), (.int p3)]))
    refine own_of (fun _ k => XS.iand X0.here hx rfl (hb hby at_19) rfl k) ?_
    show own_Out p e below _ (s₁.setTop (mkF m 20 #[.val (.long q0), .second, .val (.long q1), .second, .val (.long q2), .second, .val (.int p3), .val (.int (0 : Int32)), .unset, .unset, .unset, .unset, .unset, .unset] [(.int (p3 &&& (16 : Int32)))]))
    by_cases hc20_2 : (p3 &&& (16 : Int32)) = (0 : Int32)
    · skip
      refine own_of (fun _ k => XS.ifYes X0.here hx rfl (pc0 := 20) (pc' := 27) rfl (hb hby at_20) rfl ((if0 _ _).trans (teq hc20_2).1) (by decide) (by decide) k) ?_
      show own_Out p e below _ (s₁.setTop (mkF m 27 #[.val (.long q0), .second, .val (.long q1), .second, .val (.long q2), .second, .val (.int p3), .val (.int (0 : Int32)), .unset, .unset, .unset, .unset, .unset, .unset] []))
      refine own_of (fun _ k => XS.iconst X0.here hx rfl (hb hby at_27) k) ?_
      show own_Out p e below _ (s₁.setTop (mkF m 28 #[.val (.long q0), .second, .val (.long q1), .second, .val (.long q2), .second, .val (.int p3), .val (.int (0 : Int32)), .unset, .unset, .unset, .unset, .unset, .unset] [(.int (0 : Int32))]))
      refine own_of (fun _ k => XS.istore X0.here hx rfl (hb hby at_28) rfl (l' := #[.val (.long q0), .second, .val (.long q1), .second, .val (.long q2), .second, .val (.int p3), .val (.int (0 : Int32)), .val (.int (0 : Int32)), .unset, .unset, .unset, .unset, .unset]) rfl k) ?_
      show own_Out p e below _ (s₁.setTop (mkF m 30 #[.val (.long q0), .second, .val (.long q1), .second, .val (.long q2), .second, .val (.int p3), .val (.int (0 : Int32)), .val (.int (0 : Int32)), .unset, .unset, .unset, .unset, .unset] []))
      refine own_of (fun _ k => XS.iload X0.here hx rfl (hb hby at_30) rfl k) ?_
      show own_Out p e below _ (s₁.setTop (mkF m 32 #[.val (.long q0), .second, .val (.long q1), .second, .val (.long q2), .second, .val (.int p3), .val (.int (0 : Int32)), .val (.int (0 : Int32)), .unset, .unset, .unset, .unset, .unset] [(.int p3)]))
      refine own_of (fun _ k => XS.bipush X0.here hx rfl (hb hby at_32) k) ?_
      show own_Out p e below _ (s₁.setTop (mkF m 34 #[.val (.long q0), .second, .val (.long q1), .second, .val (.long q2), .second, .val (.int p3), .val (.int (0 : Int32)), .val (.int (0 : Int32)), .unset, .unset, .unset, .unset, .unset] [(.int (7 : Int32)), (.int p3)]))
      refine own_of (fun _ k => XS.iand X0.here hx rfl (hb hby at_34) rfl k) ?_
      show own_Out p e below _ (s₁.setTop (mkF m 35 #[.val (.long q0), .second, .val (.long q1), .second, .val (.long q2), .second, .val (.int p3), .val (.int (0 : Int32)), .val (.int (0 : Int32)), .unset, .unset, .unset, .unset, .unset] [(.int (p3 &&& (7 : Int32)))]))
      refine own_of (fun _ k => XS.istore X0.here hx rfl (hb hby at_35) rfl (l' := #[.val (.long q0), .second, .val (.long q1), .second, .val (.long q2), .second, .val (.int p3), .val (.int (0 : Int32)), .val (.int (0 : Int32)), .val (.int (p3 &&& (7 : Int32))), .unset, .unset, .unset, .unset]) rfl k) ?_
      show own_Out p e below _ (s₁.setTop (mkF m 37 #[.val (.long q0), .second, .val (.long q1), .second, .val (.long q2), .second, .val (.int p3), .val (.int (0 : Int32)), .val (.int (0 : Int32)), .val (.int (p3 &&& (7 : Int32))), .unset, .unset, .unset, .unset] []))
      refine own_of (fun _ k => XS.iload X0.here hx rfl (hb hby at_37) rfl k) ?_
      show own_Out p e below _ (s₁.setTop (mkF m 39 #[.val (.long q0), .second, .val (.long q1), .second, .val (.long q2), .second, .val (.int p3), .val (.int (0 : Int32)), .val (.int (0 : Int32)), .val (.int (p3 &&& (7 : Int32))), .unset, .unset, .unset, .unset] [(.int (p3 &&& (7 : Int32)))]))
      refine own_of (fun _ k => XS.lloadN X0.here hx rfl (hb hby at_39) rfl k) ?_
      show own_Out p e below _ (s₁.setTop (mkF m 40 #[.val (.long q0), .second, .val (.long q1), .second, .val (.long q2), .second, .val (.int p3), .val (.int (0 : Int32)), .val (.int (0 : Int32)), .val (.int (p3 &&& (7 : Int32))), .unset, .unset, .unset, .unset] [(.long q0), (.int (p3 &&& (7 : Int32)))]))
      refine own_of (fun _ k => XS.lloadN X0.here hx rfl (hb hby at_40) rfl k) ?_
      show own_Out p e below _ (s₁.setTop (mkF m 41 #[.val (.long q0), .second, .val (.long q1), .second, .val (.long q2), .second, .val (.int p3), .val (.int (0 : Int32)), .val (.int (0 : Int32)), .val (.int (p3 &&& (7 : Int32))), .unset, .unset, .unset, .unset] [(.long q1), (.long q0), (.int (p3 &&& (7 : Int32)))]))
      refine own_of (fun _ k => XS.lload X0.here hx rfl (hb hby at_41) rfl k) ?_
      show own_Out p e below _ (s₁.setTop (mkF m 43 #[.val (.long q0), .second, .val (.long q1), .second, .val (.long q2), .second, .val (.int p3), .val (.int (0 : Int32)), .val (.int (0 : Int32)), .val (.int (p3 &&& (7 : Int32))), .unset, .unset, .unset, .unset] [(.long q2), (.long q1), (.long q0), (.int (p3 &&& (7 : Int32)))]))
      obtain ⟨_, _, ⟨T3, L3, k3, n3⟩, -, X3, ⟨Lc3, hQ3, l3, y3, z3⟩, st3⟩ := Jvm.LawKit.callS X0 hx (y := (⟨"com/example/headway/headway/engine/IntervalContainsPinLaw", "pick", "(IJJJ)J"⟩ : MethodName)) hown (mvT hZ (hw _ (List.mem_of_getElem? (i := 0) rfl))) (mvT hZ (hw _ (List.mem_of_getElem? (i := 1) rfl))) (mvT hZ (hw _ (List.mem_of_getElem? (i := 2) rfl))) (mvT hZ (hw _ (List.mem_of_getElem? (i := 3) rfl))) (by decide) (backOf (W := 0) (rm1 l Z a0 hw [] (p3 &&& (7 : Int32)) q0 q1 q2 h0 n0 Z0 ) hZ (hw _ (List.mem_of_getElem? (i := 3) rfl)) (hw _ (List.mem_of_getElem? (i := 2) rfl)) (by decide) (by decide)) (g := (mkF m 43 #[.val (.long q0), .second, .val (.long q1), .second, .val (.long q2), .second, .val (.int p3), .val (.int (0 : Int32)), .val (.int (0 : Int32)), .val (.int (p3 &&& (7 : Int32))), .unset, .unset, .unset, .unset] [(.long q2), (.long q1), (.long q0), (.int (p3 &&& (7 : Int32)))])) rfl (by rw [hml]; rfl) (argsL := [(.int (p3 &&& (7 : Int32))), (.long q0), (.long q1), (.long q2)]) (rest := []) (lenOf pd_1 rfl) rfl (by show 2 * 0 + _ ≤ _; exact Nat.le_of_eq rfl) (hb hby at_43) (fun _ _ => ⟨rfl, e0, (by decide : 0 + 0 ≤ _), (by decide : 0 + 0 ≤ _)⟩)
      dsimp only [Pt.U, Pt.locs, Pt.cells, Pt.slots] at X3 l3 y3 z3 st3 hQ3
      subst l3 y3 z3
      obtain ⟨rfl, N3q, hh3⟩ := hQ3
      have N3 := Fr.app N0 N3q
      refine own_of st3 ?_
      show own_Out p e below _ (T3.setTop (mkF m 46 #[.val (.long q0), .second, .val (.long q1), .second, .val (.long q2), .second, .val (.int p3), .val (.int (0 : Int32)), .val (.int (0 : Int32)), .val (.int (p3 &&& (7 : Int32))), .unset, .unset, .unset, .unset] [(.long (f1 (p3 &&& (7 : Int32)) q0 q1 q2))]))
      refine own_of (fun _ k => XS.lstore X3.here hx rfl (hb hby at_46) rfl (l' := #[.val (.long q0), .second, .val (.long q1), .second, .val (.long q2), .second, .val (.int p3), .val (.int (0 : Int32)), .val (.int (0 : Int32)), .val (.int (p3 &&& (7 : Int32))), .val (.long (f1 (p3 &&& (7 : Int32)) q0 q1 q2)), .second, .unset, .unset]) rfl k) ?_
      show own_Out p e below _ (T3.setTop (mkF m 48 #[.val (.long q0), .second, .val (.long q1), .second, .val (.long q2), .second, .val (.int p3), .val (.int (0 : Int32)), .val (.int (0 : Int32)), .val (.int (p3 &&& (7 : Int32))), .val (.long (f1 (p3 &&& (7 : Int32)) q0 q1 q2)), .second, .unset, .unset] []))
      obtain ⟨T4, h4, X4, e4, E4, A4, D4, -, st4⟩ := newO X3 hx hZ hown (hw _ (List.mem_of_getElem? (i := 4) rfl)) (hw _ (List.mem_of_getElem? (i := 5) rfl)) (hw _ (List.mem_of_getElem? (i := 6) rfl)) hh3 (g := (mkF m 48 #[.val (.long q0), .second, .val (.long q1), .second, .val (.long q2), .second, .val (.int p3), .val (.int (0 : Int32)), .val (.int (0 : Int32)), .val (.int (p3 &&& (7 : Int32))), .val (.long (f1 (p3 &&& (7 : Int32)) q0 q1 q2)), .second, .unset, .unset] [])) rfl (hb hby at_48) (by decide) (by decide)
      obtain ⟨b4, g4⟩ : ∃ z, z = h0.size := ⟨_, rfl⟩
      rw [← g4] at A4 D4 st4
      have g_b4 : n0 ≤ b4 := Nat.le_trans Z0 (Nat.le_of_eq g4.symm)
      have Zl4 : n0 ≤ h4.size := Nat.le_trans Z0 E4.1
      have F_b4_low : Fld Z h4 b4 "com/example/headway/headway/engine/Interval" "low" "J" (.long (0 : Int64)) := D4 (Or.inr (hw _ (List.mem_of_getElem? (i := 19) rfl))) (ty := .long) (by decide)
      have F_b4_lowPasses : Fld Z h4 b4 "com/example/headway/headway/engine/Interval" "lowPasses" "Z" (.int (0 : Int32)) := D4 (Or.inr (hw _ (List.mem_of_getElem? (i := 21) rfl))) (ty := .boolean) (by decide)
      have F_b4_high : Fld Z h4 b4 "com/example/headway/headway/engine/Interval" "high" "J" (.long (0 : Int64)) := D4 (Or.inr (hw _ (List.mem_of_getElem? (i := 23) rfl))) (ty := .long) (by decide)
      have F_b4_highPasses : Fld Z h4 b4 "com/example/headway/headway/engine/Interval" "highPasses" "Z" (.int (0 : Int32)) := D4 (Or.inr (hw _ (List.mem_of_getElem? (i := 25) rfl))) (ty := .boolean) (by decide)
      refine own_of st4 ?_
      show own_Out p e below _ (T4.setTop (mkF m 51 #[.val (.long q0), .second, .val (.long q1), .second, .val (.long q2), .second, .val (.int p3), .val (.int (0 : Int32)), .val (.int (0 : Int32)), .val (.int (p3 &&& (7 : Int32))), .val (.long (f1 (p3 &&& (7 : Int32)) q0 q1 q2)), .second, .unset, .unset] [(.ref b4)]))
      refine own_of (fun _ k => XS.dup X4.here hx rfl (hb hby at_51) rfl rfl k) ?_
      show own_Out p e below _ (T4.setTop (mkF m 52 #[.val (.long q0), .second, .val (.long q1), .second, .val (.long q2), .second, .val (.int p3), .val (.int (0 : Int32)), .val (.int (0 : Int32)), .val (.int (p3 &&& (7 : Int32))), .val (.long (f1 (p3 &&& (7 : Int32)) q0 q1 q2)), .second, .unset, .unset] [(.ref b4), (.ref b4)]))
      refine own_of (fun _ k => XS.lloadN X4.here hx rfl (hb hby at_52) rfl k) ?_
      show own_Out p e below _ (T4.setTop (mkF m 53 #[.val (.long q0), .second, .val (.long q1), .second, .val (.long q2), .second, .val (.int p3), .val (.int (0 : Int32)), .val (.int (0 : Int32)), .val (.int (p3 &&& (7 : Int32))), .val (.long (f1 (p3 &&& (7 : Int32)) q0 q1 q2)), .second, .unset, .unset] [(.long q0), (.ref b4), (.ref b4)]))
      refine own_of (fun _ k => XS.iload X4.here hx rfl (hb hby at_53) rfl k) ?_
      show own_Out p e below _ (T4.setTop (mkF m 55 #[.val (.long q0), .second, .val (.long q1), .second, .val (.long q2), .second, .val (.int p3), .val (.int (0 : Int32)), .val (.int (0 : Int32)), .val (.int (p3 &&& (7 : Int32))), .val (.long (f1 (p3 &&& (7 : Int32)) q0 q1 q2)), .second, .unset, .unset] [(.int (0 : Int32)), (.long q0), (.ref b4), (.ref b4)]))
      refine own_of (fun _ k => XS.lloadN X4.here hx rfl (hb hby at_55) rfl k) ?_
      show own_Out p e below _ (T4.setTop (mkF m 56 #[.val (.long q0), .second, .val (.long q1), .second, .val (.long q2), .second, .val (.int p3), .val (.int (0 : Int32)), .val (.int (0 : Int32)), .val (.int (p3 &&& (7 : Int32))), .val (.long (f1 (p3 &&& (7 : Int32)) q0 q1 q2)), .second, .unset, .unset] [(.long q1), (.int (0 : Int32)), (.long q0), (.ref b4), (.ref b4)]))
      refine own_of (fun _ k => XS.iload X4.here hx rfl (hb hby at_56) rfl k) ?_
      show own_Out p e below _ (T4.setTop (mkF m 58 #[.val (.long q0), .second, .val (.long q1), .second, .val (.long q2), .second, .val (.int p3), .val (.int (0 : Int32)), .val (.int (0 : Int32)), .val (.int (p3 &&& (7 : Int32))), .val (.long (f1 (p3 &&& (7 : Int32)) q0 q1 q2)), .second, .unset, .unset] [(.int (0 : Int32)), (.long q1), (.int (0 : Int32)), (.long q0), (.ref b4), (.ref b4)]))
      obtain ⟨_, _, ⟨T5, L5, k5, n5⟩, -, X5, ⟨Lc5, hQ5, l5, y5, z5⟩, st5⟩ := X4.specialBack hx (y := (⟨"com/example/headway/headway/engine/Interval", "<init>", "(JZJZ)V"⟩ : MethodName)) rfl hown (mvT hZ (hw _ (List.mem_of_getElem? (i := 7) rfl))) (mvT hZ (hw _ (List.mem_of_getElem? (i := 8) rfl))) (mvT hZ (hw _ (List.mem_of_getElem? (i := 9) rfl))) (by decide) (backOf (W := 1) (rm2 l Z a0 hw [] b4 q0 (0 : Int32) q1 (0 : Int32) h4 n0 Zl4 A4 F_b4_low F_b4_lowPasses F_b4_high F_b4_highPasses g_b4) hZ (hw _ (List.mem_of_getElem? (i := 9) rfl)) (hw _ (List.mem_of_getElem? (i := 6) rfl)) (by decide) (by decide)) (g := (mkF m 58 #[.val (.long q0), .second, .val (.long q1), .second, .val (.long q2), .second, .val (.int p3), .val (.int (0 : Int32)), .val (.int (0 : Int32)), .val (.int (p3 &&& (7 : Int32))), .val (.long (f1 (p3 &&& (7 : Int32)) q0 q1 q2)), .second, .unset, .unset] [(.int (0 : Int32)), (.long q1), (.int (0 : Int32)), (.long q0), (.ref b4), (.ref b4)])) rfl (by rw [hml]; rfl) (Steps.refl _) (a := b4) (argsL := [(.long q0), (.int (0 : Int32)), (.long q1), (.int (0 : Int32))]) (rest := [(.ref b4)]) (lenOf pd_2 rfl) rfl (by show 2 * 0 + _ ≤ _; exact Nat.le_of_eq rfl) (hb hby at_58) (fun _ _ => ⟨rfl, e4, (by decide : 1 + 0 ≤ _), (by decide : 4 + 0 ≤ _)⟩)
      dsimp only [Pt.U, Pt.locs, Pt.cells, Pt.slots] at X5 l5 y5 z5 st5 hQ5
      subst l5 y5 z5
      obtain ⟨rfl, N5q, K5, E5, F5_low, F5_lowPasses, F5_high, F5_highPasses⟩ := hQ5
      have N5 := Fr.app N3 N5q
      have Zl5 : n0 ≤ T5.heap.size := Nat.le_trans Zl4 K5.1
      refine own_of (fun _ k => st5.trans k) ?_
      show own_Out p e below _ (T5.setTop (mkF m 61 #[.val (.long q0), .second, .val (.long q1), .second, .val (.long q2), .second, .val (.int p3), .val (.int (0 : Int32)), .val (.int (0 : Int32)), .val (.int (p3 &&& (7 : Int32))), .val (.long (f1 (p3 &&& (7 : Int32)) q0 q1 q2)), .second, .unset, .unset] [(.ref b4)]))
      refine own_of (fun _ k => XS.astore X5.here hx rfl (hb hby at_61) rfl rfl (l' := #[.val (.long q0), .second, .val (.long q1), .second, .val (.long q2), .second, .val (.int p3), .val (.int (0 : Int32)), .val (.int (0 : Int32)), .val (.int (p3 &&& (7 : Int32))), .val (.long (f1 (p3 &&& (7 : Int32)) q0 q1 q2)), .second, .val (.ref b4), .unset]) rfl k) ?_
      show own_Out p e below _ (T5.setTop (mkF m 63 #[.val (.long q0), .second, .val (.long q1), .second, .val (.long q2), .second, .val (.int p3), .val (.int (0 : Int32)), .val (.int (0 : Int32)), .val (.int (p3 &&& (7 : Int32))), .val (.long (f1 (p3 &&& (7 : Int32)) q0 q1 q2)), .second, .val (.ref b4), .unset] []))
      refine own_of (fun _ k => XS.aload X5.here hx rfl (hb hby at_63) rfl rfl k) ?_
      show own_Out p e below _ (T5.setTop (mkF m 65 #[.val (.long q0), .second, .val (.long q1), .second, .val (.long q2), .second, .val (.int p3), .val (.int (0 : Int32)), .val (.int (0 : Int32)), .val (.int (p3 &&& (7 : Int32))), .val (.long (f1 (p3 &&& (7 : Int32)) q0 q1 q2)), .second, .val (.ref b4), .unset] [(.ref b4)]))
      refine own_of (fun _ k => XS.lload X5.here hx rfl (hb hby at_65) rfl k) ?_
      show own_Out p e below _ (T5.setTop (mkF m 67 #[.val (.long q0), .second, .val (.long q1), .second, .val (.long q2), .second, .val (.int p3), .val (.int (0 : Int32)), .val (.int (0 : Int32)), .val (.int (p3 &&& (7 : Int32))), .val (.long (f1 (p3 &&& (7 : Int32)) q0 q1 q2)), .second, .val (.ref b4), .unset] [(.long (f1 (p3 &&& (7 : Int32)) q0 q1 q2)), (.ref b4)]))
      obtain ⟨cq6, kq6, q6a, q6b, q6c⟩ := isOf hZ rfl E5
      obtain ⟨_, _, ⟨T6, L6, k6, n6⟩, -, X6, ⟨Lc6, hQ6, l6, y6, z6⟩, st6⟩ := X5.virtualBack hx (y := (⟨"com/example/headway/headway/engine/Interval", "contains", "(J)Z"⟩ : MethodName)) (z := (⟨"com/example/headway/headway/engine/Interval", "contains", "(J)Z"⟩ : MethodName)) hown (mvT hZ (hw _ (List.mem_of_getElem? (i := 26) rfl))) (mvT hZ (hw _ (List.mem_of_getElem? (i := 27) rfl))) (notFace_of_selects (args := #[]) (mvT hZ (hw _ (List.mem_of_getElem? (i := 29) rfl)))) (mvT hZ (hw _ (List.mem_of_getElem? (i := 29) rfl))) (mvT hZ (hw _ (List.mem_of_getElem? (i := 28) rfl))) (by decide) (backOf (W := 0) (rm5 l Z a0 hw [] b4 (f1 (p3 &&& (7 : Int32)) q0 q1 q2) q0 ((0 : Int32) &&& 1) q1 ((0 : Int32) &&& 1) T5.heap n0 Zl5 F5_low F5_lowPasses F5_high F5_highPasses) hZ (hw _ (List.mem_of_getElem? (i := 30) rfl)) (hw _ (List.mem_of_getElem? (i := 6) rfl)) (by decide) (by decide)) q6a q6c (g := (mkF m 67 #[.val (.long q0), .second, .val (.long q1), .second, .val (.long q2), .second, .val (.int p3), .val (.int (0 : Int32)), .val (.int (0 : Int32)), .val (.int (p3 &&& (7 : Int32))), .val (.long (f1 (p3 &&& (7 : Int32)) q0 q1 q2)), .second, .val (.ref b4), .unset] [(.long (f1 (p3 &&& (7 : Int32)) q0 q1 q2)), (.ref b4)])) rfl (by rw [hml]; rfl) (Steps.refl _) (argsL := [(.long (f1 (p3 &&& (7 : Int32)) q0 q1 q2))]) (rest := []) (lenOf pd_3 rfl) rfl (by show 2 * 0 + _ ≤ _; exact Nat.le_of_eq rfl) (hb hby at_67) (fun _ _ => ⟨rfl, rfl, (by decide : 1 + 0 ≤ _), (by decide : 4 + 0 ≤ _)⟩)
      dsimp only [Pt.U, Pt.locs, Pt.cells, Pt.slots] at X6 l6 y6 z6 st6 hQ6
      subst l6 y6 z6
      obtain ⟨rfl, N6q, hh6⟩ := hQ6
      have N6 := Fr.app N5 N6q
      refine own_of (fun _ k => st6.trans k) ?_
      show own_Out p e below _ (T6.setTop (mkF m 70 #[.val (.long q0), .second, .val (.long q1), .second, .val (.long q2), .second, .val (.int p3), .val (.int (0 : Int32)), .val (.int (0 : Int32)), .val (.int (p3 &&& (7 : Int32))), .val (.long (f1 (p3 &&& (7 : Int32)) q0 q1 q2)), .second, .val (.ref b4), .unset] [(.int (f5 (f1 (p3 &&& (7 : Int32)) q0 q1 q2) q0 ((0 : Int32) &&& 1) q1 ((0 : Int32) &&& 1)))]))
      refine own_of (fun _ k => XS.istore X6.here hx rfl (hb hby at_70) rfl (l' := #[.val (.long q0), .second, .val (.long q1), .second, .val (.long q2), .second, .val (.int p3), .val (.int (0 : Int32)), .val (.int (0 : Int32)), .val (.int (p3 &&& (7 : Int32))), .val (.long (f1 (p3 &&& (7 : Int32)) q0 q1 q2)), .second, .val (.ref b4), .val (.int (f5 (f1 (p3 &&& (7 : Int32)) q0 q1 q2) q0 ((0 : Int32) &&& 1) q1 ((0 : Int32) &&& 1)))]) rfl k) ?_
      show own_Out p e below _ (T6.setTop (mkF m 72 #[.val (.long q0), .second, .val (.long q1), .second, .val (.long q2), .second, .val (.int p3), .val (.int (0 : Int32)), .val (.int (0 : Int32)), .val (.int (p3 &&& (7 : Int32))), .val (.long (f1 (p3 &&& (7 : Int32)) q0 q1 q2)), .second, .val (.ref b4), .val (.int (f5 (f1 (p3 &&& (7 : Int32)) q0 q1 q2) q0 ((0 : Int32) &&& 1) q1 ((0 : Int32) &&& 1)))] []))
      refine own_of (fun _ k => XS.iload X6.here hx rfl (hb hby at_72) rfl k) ?_
      show own_Out p e below _ (T6.setTop (mkF m 74 #[.val (.long q0), .second, .val (.long q1), .second, .val (.long q2), .second, .val (.int p3), .val (.int (0 : Int32)), .val (.int (0 : Int32)), .val (.int (p3 &&& (7 : Int32))), .val (.long (f1 (p3 &&& (7 : Int32)) q0 q1 q2)), .second, .val (.ref b4), .val (.int (f5 (f1 (p3 &&& (7 : Int32)) q0 q1 q2) q0 ((0 : Int32) &&& 1) q1 ((0 : Int32) &&& 1)))] [(.int (f5 (f1 (p3 &&& (7 : Int32)) q0 q1 q2) q0 ((0 : Int32) &&& 1) q1 ((0 : Int32) &&& 1)))]))
      refine own_of (fun _ k => XS.lloadN X6.here hx rfl (hb hby at_74) rfl k) ?_
      show own_Out p e below _ (T6.setTop (mkF m 75 #[.val (.long q0), .second, .val (.long q1), .second, .val (.long q2), .second, .val (.int p3), .val (.int (0 : Int32)), .val (.int (0 : Int32)), .val (.int (p3 &&& (7 : Int32))), .val (.long (f1 (p3 &&& (7 : Int32)) q0 q1 q2)), .second, .val (.ref b4), .val (.int (f5 (f1 (p3 &&& (7 : Int32)) q0 q1 q2) q0 ((0 : Int32) &&& 1) q1 ((0 : Int32) &&& 1)))] [(.long q0), (.int (f5 (f1 (p3 &&& (7 : Int32)) q0 q1 q2) q0 ((0 : Int32) &&& 1) q1 ((0 : Int32) &&& 1)))]))
      refine own_of (fun _ k => XS.iload X6.here hx rfl (hb hby at_75) rfl k) ?_
      show own_Out p e below _ (T6.setTop (mkF m 77 #[.val (.long q0), .second, .val (.long q1), .second, .val (.long q2), .second, .val (.int p3), .val (.int (0 : Int32)), .val (.int (0 : Int32)), .val (.int (p3 &&& (7 : Int32))), .val (.long (f1 (p3 &&& (7 : Int32)) q0 q1 q2)), .second, .val (.ref b4), .val (.int (f5 (f1 (p3 &&& (7 : Int32)) q0 q1 q2) q0 ((0 : Int32) &&& 1) q1 ((0 : Int32) &&& 1)))] [(.int (0 : Int32)), (.long q0), (.int (f5 (f1 (p3 &&& (7 : Int32)) q0 q1 q2) q0 ((0 : Int32) &&& 1) q1 ((0 : Int32) &&& 1)))]))
      refine own_of (fun _ k => XS.lloadN X6.here hx rfl (hb hby at_77) rfl k) ?_
      show own_Out p e below _ (T6.setTop (mkF m 78 #[.val (.long q0), .second, .val (.long q1), .second, .val (.long q2), .second, .val (.int p3), .val (.int (0 : Int32)), .val (.int (0 : Int32)), .val (.int (p3 &&& (7 : Int32))), .val (.long (f1 (p3 &&& (7 : Int32)) q0 q1 q2)), .second, .val (.ref b4), .val (.int (f5 (f1 (p3 &&& (7 : Int32)) q0 q1 q2) q0 ((0 : Int32) &&& 1) q1 ((0 : Int32) &&& 1)))] [(.long q1), (.int (0 : Int32)), (.long q0), (.int (f5 (f1 (p3 &&& (7 : Int32)) q0 q1 q2) q0 ((0 : Int32) &&& 1) q1 ((0 : Int32) &&& 1)))]))
      refine own_of (fun _ k => XS.iload X6.here hx rfl (hb hby at_78) rfl k) ?_
      show own_Out p e below _ (T6.setTop (mkF m 80 #[.val (.long q0), .second, .val (.long q1), .second, .val (.long q2), .second, .val (.int p3), .val (.int (0 : Int32)), .val (.int (0 : Int32)), .val (.int (p3 &&& (7 : Int32))), .val (.long (f1 (p3 &&& (7 : Int32)) q0 q1 q2)), .second, .val (.ref b4), .val (.int (f5 (f1 (p3 &&& (7 : Int32)) q0 q1 q2) q0 ((0 : Int32) &&& 1) q1 ((0 : Int32) &&& 1)))] [(.int (0 : Int32)), (.long q1), (.int (0 : Int32)), (.long q0), (.int (f5 (f1 (p3 &&& (7 : Int32)) q0 q1 q2) q0 ((0 : Int32) &&& 1) q1 ((0 : Int32) &&& 1)))]))
      refine own_of (fun _ k => XS.lload X6.here hx rfl (hb hby at_80) rfl k) ?_
      show own_Out p e below _ (T6.setTop (mkF m 82 #[.val (.long q0), .second, .val (.long q1), .second, .val (.long q2), .second, .val (.int p3), .val (.int (0 : Int32)), .val (.int (0 : Int32)), .val (.int (p3 &&& (7 : Int32))), .val (.long (f1 (p3 &&& (7 : Int32)) q0 q1 q2)), .second, .val (.ref b4), .val (.int (f5 (f1 (p3 &&& (7 : Int32)) q0 q1 q2) q0 ((0 : Int32) &&& 1) q1 ((0 : Int32) &&& 1)))] [(.long (f1 (p3 &&& (7 : Int32)) q0 q1 q2)), (.int (0 : Int32)), (.long q1), (.int (0 : Int32)), (.long q0), (.int (f5 (f1 (p3 &&& (7 : Int32)) q0 q1 q2) q0 ((0 : Int32) &&& 1) q1 ((0 : Int32) &&& 1)))]))
      obtain ⟨_, _, ⟨T7, L7, k7, n7⟩, -, X7, ⟨Lc7, hQ7, l7, y7, z7⟩, st7⟩ := Jvm.LawKit.callS X6 hx (y := (⟨"com/example/headway/headway/engine/IntervalContainsPinLaw", "expected", "(JZJZJ)Z"⟩ : MethodName)) hown (mvT hZ (hw _ (List.mem_of_getElem? (i := 31) rfl))) (mvT hZ (hw _ (List.mem_of_getElem? (i := 32) rfl))) (mvT hZ (hw _ (List.mem_of_getElem? (i := 2) rfl))) (mvT hZ (hw _ (List.mem_of_getElem? (i := 33) rfl))) (by decide) (backOf (W := 1) (rm6 l Z a0 hw [] q0 (0 : Int32) q1 (0 : Int32) (f1 (p3 &&& (7 : Int32)) q0 q1 q2) T5.heap n0 Zl5 ) hZ (hw _ (List.mem_of_getElem? (i := 33) rfl)) (hw _ (List.mem_of_getElem? (i := 2) rfl)) (by decide) (by decide)) (g := (mkF m 82 #[.val (.long q0), .second, .val (.long q1), .second, .val (.long q2), .second, .val (.int p3), .val (.int (0 : Int32)), .val (.int (0 : Int32)), .val (.int (p3 &&& (7 : Int32))), .val (.long (f1 (p3 &&& (7 : Int32)) q0 q1 q2)), .second, .val (.ref b4), .val (.int (f5 (f1 (p3 &&& (7 : Int32)) q0 q1 q2) q0 ((0 : Int32) &&& 1) q1 ((0 : Int32) &&& 1)))] [(.long (f1 (p3 &&& (7 : Int32)) q0 q1 q2)), (.int (0 : Int32)), (.long q1), (.int (0 : Int32)), (.long q0), (.int (f5 (f1 (p3 &&& (7 : Int32)) q0 q1 q2) q0 ((0 : Int32) &&& 1) q1 ((0 : Int32) &&& 1)))])) rfl (by rw [hml]; rfl) (argsL := [(.long q0), (.int (0 : Int32)), (.long q1), (.int (0 : Int32)), (.long (f1 (p3 &&& (7 : Int32)) q0 q1 q2))]) (rest := [(.int (f5 (f1 (p3 &&& (7 : Int32)) q0 q1 q2) q0 ((0 : Int32) &&& 1) q1 ((0 : Int32) &&& 1)))]) (lenOf pd_4 rfl) rfl (by show 2 * 0 + _ ≤ _; exact Nat.le_of_eq rfl) (hb hby at_82) (fun _ _ => ⟨rfl, hh6, (by decide : 1 + 0 ≤ _), (by decide : 4 + 0 ≤ _)⟩)
      dsimp only [Pt.U, Pt.locs, Pt.cells, Pt.slots] at X7 l7 y7 z7 st7 hQ7
      subst l7 y7 z7
      obtain ⟨rfl, N7q, hh7⟩ := hQ7
      have N7 := Fr.app N6 N7q
      refine own_of st7 ?_
      show own_Out p e below _ (T7.setTop (mkF m 85 #[.val (.long q0), .second, .val (.long q1), .second, .val (.long q2), .second, .val (.int p3), .val (.int (0 : Int32)), .val (.int (0 : Int32)), .val (.int (p3 &&& (7 : Int32))), .val (.long (f1 (p3 &&& (7 : Int32)) q0 q1 q2)), .second, .val (.ref b4), .val (.int (f5 (f1 (p3 &&& (7 : Int32)) q0 q1 q2) q0 ((0 : Int32) &&& 1) q1 ((0 : Int32) &&& 1)))] [(.int (f6 q0 (0 : Int32) q1 (0 : Int32) (f1 (p3 &&& (7 : Int32)) q0 q1 q2))), (.int (f5 (f1 (p3 &&& (7 : Int32)) q0 q1 q2) q0 ((0 : Int32) &&& 1) q1 ((0 : Int32) &&& 1)))]))
      by_cases hc85_8 : (f5 (f1 (p3 &&& (7 : Int32)) q0 q1 q2) q0 ((0 : Int32) &&& 1) q1 ((0 : Int32) &&& 1)) = (f6 q0 (0 : Int32) q1 (0 : Int32) (f1 (p3 &&& (7 : Int32)) q0 q1 q2))
      · skip
        refine own_of (fun _ k => XS.icmpNo X7.here hx rfl (hb hby at_85) rfl (teq hc85_8).2 k) ?_
        show own_Out p e below _ (T7.setTop (mkF m 88 #[.val (.long q0), .second, .val (.long q1), .second, .val (.long q2), .second, .val (.int p3), .val (.int (0 : Int32)), .val (.int (0 : Int32)), .val (.int (p3 &&& (7 : Int32))), .val (.long (f1 (p3 &&& (7 : Int32)) q0 q1 q2)), .second, .val (.ref b4), .val (.int (f5 (f1 (p3 &&& (7 : Int32)) q0 q1 q2) q0 ((0 : Int32) &&& 1) q1 ((0 : Int32) &&& 1)))] []))
        refine own_of (fun _ k => XS.iconst X7.here hx rfl (hb hby at_88) k) ?_
        show own_Out p e below _ (T7.setTop (mkF m 89 #[.val (.long q0), .second, .val (.long q1), .second, .val (.long q2), .second, .val (.int p3), .val (.int (0 : Int32)), .val (.int (0 : Int32)), .val (.int (p3 &&& (7 : Int32))), .val (.long (f1 (p3 &&& (7 : Int32)) q0 q1 q2)), .second, .val (.ref b4), .val (.int (f5 (f1 (p3 &&& (7 : Int32)) q0 q1 q2) q0 ((0 : Int32) &&& 1) q1 ((0 : Int32) &&& 1)))] [(.int (1 : Int32))]))
        refine own_of (fun _ k => XS.goto X7.here hx rfl (pc0 := 89) (pc' := 93) rfl (hb hby at_89) (by decide) (by decide) k) ?_
        show own_Out p e below _ (T7.setTop (mkF m 93 #[.val (.long q0), .second, .val (.long q1), .second, .val (.long q2), .second, .val (.int p3), .val (.int (0 : Int32)), .val (.int (0 : Int32)), .val (.int (p3 &&& (7 : Int32))), .val (.long (f1 (p3 &&& (7 : Int32)) q0 q1 q2)), .second, .val (.ref b4), .val (.int (f5 (f1 (p3 &&& (7 : Int32)) q0 q1 q2) q0 ((0 : Int32) &&& 1) q1 ((0 : Int32) &&& 1)))] [(.int (1 : Int32))]))
        exact own_outN X7 hx hlk (t := .boolean) hret (by simp) (hb hby at_93) (z' := (1 : Int32)) rfl (Q := Q0 Z q0 q1 q2 p3 h0 n0) ⟨rfl, N7⟩ (by decide) (by decide)
      · skip
        refine own_of (fun _ k => XS.icmpYes X7.here hx rfl (pc0 := 85) (pc' := 92) rfl (hb hby at_85) rfl (feq hc85_8).2 (by decide) (by decide) k) ?_
        show own_Out p e below _ (T7.setTop (mkF m 92 #[.val (.long q0), .second, .val (.long q1), .second, .val (.long q2), .second, .val (.int p3), .val (.int (0 : Int32)), .val (.int (0 : Int32)), .val (.int (p3 &&& (7 : Int32))), .val (.long (f1 (p3 &&& (7 : Int32)) q0 q1 q2)), .second, .val (.ref b4), .val (.int (f5 (f1 (p3 &&& (7 : Int32)) q0 q1 q2) q0 ((0 : Int32) &&& 1) q1 ((0 : Int32) &&& 1)))] []))
        refine own_of (fun _ k => XS.iconst X7.here hx rfl (hb hby at_92) k) ?_
        show own_Out p e below _ (T7.setTop (mkF m 93 #[.val (.long q0), .second, .val (.long q1), .second, .val (.long q2), .second, .val (.int p3), .val (.int (0 : Int32)), .val (.int (0 : Int32)), .val (.int (p3 &&& (7 : Int32))), .val (.long (f1 (p3 &&& (7 : Int32)) q0 q1 q2)), .second, .val (.ref b4), .val (.int (f5 (f1 (p3 &&& (7 : Int32)) q0 q1 q2) q0 ((0 : Int32) &&& 1) q1 ((0 : Int32) &&& 1)))] [(.int (0 : Int32))]))
        exact (dead0_0 q0 q1 q2 p3 hc5_1 hc20_2 hc85_8).elim
    · skip
      refine own_of (fun _ k => XS.ifNo X0.here hx rfl (hb hby at_20) rfl ((if0 _ _).trans (feq hc20_2).1) k) ?_
      show own_Out p e below _ (s₁.setTop (mkF m 23 #[.val (.long q0), .second, .val (.long q1), .second, .val (.long q2), .second, .val (.int p3), .val (.int (0 : Int32)), .unset, .unset, .unset, .unset, .unset, .unset] []))
      refine own_of (fun _ k => XS.iconst X0.here hx rfl (hb hby at_23) k) ?_
      show own_Out p e below _ (s₁.setTop (mkF m 24 #[.val (.long q0), .second, .val (.long q1), .second, .val (.long q2), .second, .val (.int p3), .val (.int (0 : Int32)), .unset, .unset, .unset, .unset, .unset, .unset] [(.int (1 : Int32))]))
      refine own_of (fun _ k => XS.goto X0.here hx rfl (pc0 := 24) (pc' := 28) rfl (hb hby at_24) (by decide) (by decide) k) ?_
      show own_Out p e below _ (s₁.setTop (mkF m 28 #[.val (.long q0), .second, .val (.long q1), .second, .val (.long q2), .second, .val (.int p3), .val (.int (0 : Int32)), .unset, .unset, .unset, .unset, .unset, .unset] [(.int (1 : Int32))]))
      refine own_of (fun _ k => XS.istore X0.here hx rfl (hb hby at_28) rfl (l' := #[.val (.long q0), .second, .val (.long q1), .second, .val (.long q2), .second, .val (.int p3), .val (.int (0 : Int32)), .val (.int (1 : Int32)), .unset, .unset, .unset, .unset, .unset]) rfl k) ?_
      show own_Out p e below _ (s₁.setTop (mkF m 30 #[.val (.long q0), .second, .val (.long q1), .second, .val (.long q2), .second, .val (.int p3), .val (.int (0 : Int32)), .val (.int (1 : Int32)), .unset, .unset, .unset, .unset, .unset] []))
      refine own_of (fun _ k => XS.iload X0.here hx rfl (hb hby at_30) rfl k) ?_
      show own_Out p e below _ (s₁.setTop (mkF m 32 #[.val (.long q0), .second, .val (.long q1), .second, .val (.long q2), .second, .val (.int p3), .val (.int (0 : Int32)), .val (.int (1 : Int32)), .unset, .unset, .unset, .unset, .unset] [(.int p3)]))
      refine own_of (fun _ k => XS.bipush X0.here hx rfl (hb hby at_32) k) ?_
      show own_Out p e below _ (s₁.setTop (mkF m 34 #[.val (.long q0), .second, .val (.long q1), .second, .val (.long q2), .second, .val (.int p3), .val (.int (0 : Int32)), .val (.int (1 : Int32)), .unset, .unset, .unset, .unset, .unset] [(.int (7 : Int32)), (.int p3)]))
      refine own_of (fun _ k => XS.iand X0.here hx rfl (hb hby at_34) rfl k) ?_
      show own_Out p e below _ (s₁.setTop (mkF m 35 #[.val (.long q0), .second, .val (.long q1), .second, .val (.long q2), .second, .val (.int p3), .val (.int (0 : Int32)), .val (.int (1 : Int32)), .unset, .unset, .unset, .unset, .unset] [(.int (p3 &&& (7 : Int32)))]))
      refine own_of (fun _ k => XS.istore X0.here hx rfl (hb hby at_35) rfl (l' := #[.val (.long q0), .second, .val (.long q1), .second, .val (.long q2), .second, .val (.int p3), .val (.int (0 : Int32)), .val (.int (1 : Int32)), .val (.int (p3 &&& (7 : Int32))), .unset, .unset, .unset, .unset]) rfl k) ?_
      show own_Out p e below _ (s₁.setTop (mkF m 37 #[.val (.long q0), .second, .val (.long q1), .second, .val (.long q2), .second, .val (.int p3), .val (.int (0 : Int32)), .val (.int (1 : Int32)), .val (.int (p3 &&& (7 : Int32))), .unset, .unset, .unset, .unset] []))
      refine own_of (fun _ k => XS.iload X0.here hx rfl (hb hby at_37) rfl k) ?_
      show own_Out p e below _ (s₁.setTop (mkF m 39 #[.val (.long q0), .second, .val (.long q1), .second, .val (.long q2), .second, .val (.int p3), .val (.int (0 : Int32)), .val (.int (1 : Int32)), .val (.int (p3 &&& (7 : Int32))), .unset, .unset, .unset, .unset] [(.int (p3 &&& (7 : Int32)))]))
      refine own_of (fun _ k => XS.lloadN X0.here hx rfl (hb hby at_39) rfl k) ?_
      show own_Out p e below _ (s₁.setTop (mkF m 40 #[.val (.long q0), .second, .val (.long q1), .second, .val (.long q2), .second, .val (.int p3), .val (.int (0 : Int32)), .val (.int (1 : Int32)), .val (.int (p3 &&& (7 : Int32))), .unset, .unset, .unset, .unset] [(.long q0), (.int (p3 &&& (7 : Int32)))]))
      refine own_of (fun _ k => XS.lloadN X0.here hx rfl (hb hby at_40) rfl k) ?_
      show own_Out p e below _ (s₁.setTop (mkF m 41 #[.val (.long q0), .second, .val (.long q1), .second, .val (.long q2), .second, .val (.int p3), .val (.int (0 : Int32)), .val (.int (1 : Int32)), .val (.int (p3 &&& (7 : Int32))), .unset, .unset, .unset, .unset] [(.long q1), (.long q0), (.int (p3 &&& (7 : Int32)))]))
      refine own_of (fun _ k => XS.lload X0.here hx rfl (hb hby at_41) rfl k) ?_
      show own_Out p e below _ (s₁.setTop (mkF m 43 #[.val (.long q0), .second, .val (.long q1), .second, .val (.long q2), .second, .val (.int p3), .val (.int (0 : Int32)), .val (.int (1 : Int32)), .val (.int (p3 &&& (7 : Int32))), .unset, .unset, .unset, .unset] [(.long q2), (.long q1), (.long q0), (.int (p3 &&& (7 : Int32)))]))
      obtain ⟨_, _, ⟨T9, L9, k9, n9⟩, -, X9, ⟨Lc9, hQ9, l9, y9, z9⟩, st9⟩ := Jvm.LawKit.callS X0 hx (y := (⟨"com/example/headway/headway/engine/IntervalContainsPinLaw", "pick", "(IJJJ)J"⟩ : MethodName)) hown (mvT hZ (hw _ (List.mem_of_getElem? (i := 0) rfl))) (mvT hZ (hw _ (List.mem_of_getElem? (i := 1) rfl))) (mvT hZ (hw _ (List.mem_of_getElem? (i := 2) rfl))) (mvT hZ (hw _ (List.mem_of_getElem? (i := 3) rfl))) (by decide) (backOf (W := 0) (rm1 l Z a0 hw [] (p3 &&& (7 : Int32)) q0 q1 q2 h0 n0 Z0 ) hZ (hw _ (List.mem_of_getElem? (i := 3) rfl)) (hw _ (List.mem_of_getElem? (i := 2) rfl)) (by decide) (by decide)) (g := (mkF m 43 #[.val (.long q0), .second, .val (.long q1), .second, .val (.long q2), .second, .val (.int p3), .val (.int (0 : Int32)), .val (.int (1 : Int32)), .val (.int (p3 &&& (7 : Int32))), .unset, .unset, .unset, .unset] [(.long q2), (.long q1), (.long q0), (.int (p3 &&& (7 : Int32)))])) rfl (by rw [hml]; rfl) (argsL := [(.int (p3 &&& (7 : Int32))), (.long q0), (.long q1), (.long q2)]) (rest := []) (lenOf pd_1 rfl) rfl (by show 2 * 0 + _ ≤ _; exact Nat.le_of_eq rfl) (hb hby at_43) (fun _ _ => ⟨rfl, e0, (by decide : 0 + 0 ≤ _), (by decide : 0 + 0 ≤ _)⟩)
      dsimp only [Pt.U, Pt.locs, Pt.cells, Pt.slots] at X9 l9 y9 z9 st9 hQ9
      subst l9 y9 z9
      obtain ⟨rfl, N9q, hh9⟩ := hQ9
      have N9 := Fr.app N0 N9q
      refine own_of st9 ?_
      show own_Out p e below _ (T9.setTop (mkF m 46 #[.val (.long q0), .second, .val (.long q1), .second, .val (.long q2), .second, .val (.int p3), .val (.int (0 : Int32)), .val (.int (1 : Int32)), .val (.int (p3 &&& (7 : Int32))), .unset, .unset, .unset, .unset] [(.long (f1 (p3 &&& (7 : Int32)) q0 q1 q2))]))
      refine own_of (fun _ k => XS.lstore X9.here hx rfl (hb hby at_46) rfl (l' := #[.val (.long q0), .second, .val (.long q1), .second, .val (.long q2), .second, .val (.int p3), .val (.int (0 : Int32)), .val (.int (1 : Int32)), .val (.int (p3 &&& (7 : Int32))), .val (.long (f1 (p3 &&& (7 : Int32)) q0 q1 q2)), .second, .unset, .unset]) rfl k) ?_
      show own_Out p e below _ (T9.setTop (mkF m 48 #[.val (.long q0), .second, .val (.long q1), .second, .val (.long q2), .second, .val (.int p3), .val (.int (0 : Int32)), .val (.int (1 : Int32)), .val (.int (p3 &&& (7 : Int32))), .val (.long (f1 (p3 &&& (7 : Int32)) q0 q1 q2)), .second, .unset, .unset] []))
      obtain ⟨T10, h10, X10, e10, E10, A10, D10, -, st10⟩ := newO X9 hx hZ hown (hw _ (List.mem_of_getElem? (i := 4) rfl)) (hw _ (List.mem_of_getElem? (i := 5) rfl)) (hw _ (List.mem_of_getElem? (i := 6) rfl)) hh9 (g := (mkF m 48 #[.val (.long q0), .second, .val (.long q1), .second, .val (.long q2), .second, .val (.int p3), .val (.int (0 : Int32)), .val (.int (1 : Int32)), .val (.int (p3 &&& (7 : Int32))), .val (.long (f1 (p3 &&& (7 : Int32)) q0 q1 q2)), .second, .unset, .unset] [])) rfl (hb hby at_48) (by decide) (by decide)
      obtain ⟨b10, g10⟩ : ∃ z, z = h0.size := ⟨_, rfl⟩
      rw [← g10] at A10 D10 st10
      have g_b10 : n0 ≤ b10 := Nat.le_trans Z0 (Nat.le_of_eq g10.symm)
      have Zl10 : n0 ≤ h10.size := Nat.le_trans Z0 E10.1
      have F_b10_low : Fld Z h10 b10 "com/example/headway/headway/engine/Interval" "low" "J" (.long (0 : Int64)) := D10 (Or.inr (hw _ (List.mem_of_getElem? (i := 19) rfl))) (ty := .long) (by decide)
      have F_b10_lowPasses : Fld Z h10 b10 "com/example/headway/headway/engine/Interval" "lowPasses" "Z" (.int (0 : Int32)) := D10 (Or.inr (hw _ (List.mem_of_getElem? (i := 21) rfl))) (ty := .boolean) (by decide)
      have F_b10_high : Fld Z h10 b10 "com/example/headway/headway/engine/Interval" "high" "J" (.long (0 : Int64)) := D10 (Or.inr (hw _ (List.mem_of_getElem? (i := 23) rfl))) (ty := .long) (by decide)
      have F_b10_highPasses : Fld Z h10 b10 "com/example/headway/headway/engine/Interval" "highPasses" "Z" (.int (0 : Int32)) := D10 (Or.inr (hw _ (List.mem_of_getElem? (i := 25) rfl))) (ty := .boolean) (by decide)
      refine own_of st10 ?_
      show own_Out p e below _ (T10.setTop (mkF m 51 #[.val (.long q0), .second, .val (.long q1), .second, .val (.long q2), .second, .val (.int p3), .val (.int (0 : Int32)), .val (.int (1 : Int32)), .val (.int (p3 &&& (7 : Int32))), .val (.long (f1 (p3 &&& (7 : Int32)) q0 q1 q2)), .second, .unset, .unset] [(.ref b10)]))
      refine own_of (fun _ k => XS.dup X10.here hx rfl (hb hby at_51) rfl rfl k) ?_
      show own_Out p e below _ (T10.setTop (mkF m 52 #[.val (.long q0), .second, .val (.long q1), .second, .val (.long q2), .second, .val (.int p3), .val (.int (0 : Int32)), .val (.int (1 : Int32)), .val (.int (p3 &&& (7 : Int32))), .val (.long (f1 (p3 &&& (7 : Int32)) q0 q1 q2)), .second, .unset, .unset] [(.ref b10), (.ref b10)]))
      refine own_of (fun _ k => XS.lloadN X10.here hx rfl (hb hby at_52) rfl k) ?_
      show own_Out p e below _ (T10.setTop (mkF m 53 #[.val (.long q0), .second, .val (.long q1), .second, .val (.long q2), .second, .val (.int p3), .val (.int (0 : Int32)), .val (.int (1 : Int32)), .val (.int (p3 &&& (7 : Int32))), .val (.long (f1 (p3 &&& (7 : Int32)) q0 q1 q2)), .second, .unset, .unset] [(.long q0), (.ref b10), (.ref b10)]))
      refine own_of (fun _ k => XS.iload X10.here hx rfl (hb hby at_53) rfl k) ?_
      show own_Out p e below _ (T10.setTop (mkF m 55 #[.val (.long q0), .second, .val (.long q1), .second, .val (.long q2), .second, .val (.int p3), .val (.int (0 : Int32)), .val (.int (1 : Int32)), .val (.int (p3 &&& (7 : Int32))), .val (.long (f1 (p3 &&& (7 : Int32)) q0 q1 q2)), .second, .unset, .unset] [(.int (0 : Int32)), (.long q0), (.ref b10), (.ref b10)]))
      refine own_of (fun _ k => XS.lloadN X10.here hx rfl (hb hby at_55) rfl k) ?_
      show own_Out p e below _ (T10.setTop (mkF m 56 #[.val (.long q0), .second, .val (.long q1), .second, .val (.long q2), .second, .val (.int p3), .val (.int (0 : Int32)), .val (.int (1 : Int32)), .val (.int (p3 &&& (7 : Int32))), .val (.long (f1 (p3 &&& (7 : Int32)) q0 q1 q2)), .second, .unset, .unset] [(.long q1), (.int (0 : Int32)), (.long q0), (.ref b10), (.ref b10)]))
      refine own_of (fun _ k => XS.iload X10.here hx rfl (hb hby at_56) rfl k) ?_
      show own_Out p e below _ (T10.setTop (mkF m 58 #[.val (.long q0), .second, .val (.long q1), .second, .val (.long q2), .second, .val (.int p3), .val (.int (0 : Int32)), .val (.int (1 : Int32)), .val (.int (p3 &&& (7 : Int32))), .val (.long (f1 (p3 &&& (7 : Int32)) q0 q1 q2)), .second, .unset, .unset] [(.int (1 : Int32)), (.long q1), (.int (0 : Int32)), (.long q0), (.ref b10), (.ref b10)]))
      obtain ⟨_, _, ⟨T11, L11, k11, n11⟩, -, X11, ⟨Lc11, hQ11, l11, y11, z11⟩, st11⟩ := X10.specialBack hx (y := (⟨"com/example/headway/headway/engine/Interval", "<init>", "(JZJZ)V"⟩ : MethodName)) rfl hown (mvT hZ (hw _ (List.mem_of_getElem? (i := 7) rfl))) (mvT hZ (hw _ (List.mem_of_getElem? (i := 8) rfl))) (mvT hZ (hw _ (List.mem_of_getElem? (i := 9) rfl))) (by decide) (backOf (W := 1) (rm2 l Z a0 hw [] b10 q0 (0 : Int32) q1 (1 : Int32) h10 n0 Zl10 A10 F_b10_low F_b10_lowPasses F_b10_high F_b10_highPasses g_b10) hZ (hw _ (List.mem_of_getElem? (i := 9) rfl)) (hw _ (List.mem_of_getElem? (i := 6) rfl)) (by decide) (by decide)) (g := (mkF m 58 #[.val (.long q0), .second, .val (.long q1), .second, .val (.long q2), .second, .val (.int p3), .val (.int (0 : Int32)), .val (.int (1 : Int32)), .val (.int (p3 &&& (7 : Int32))), .val (.long (f1 (p3 &&& (7 : Int32)) q0 q1 q2)), .second, .unset, .unset] [(.int (1 : Int32)), (.long q1), (.int (0 : Int32)), (.long q0), (.ref b10), (.ref b10)])) rfl (by rw [hml]; rfl) (Steps.refl _) (a := b10) (argsL := [(.long q0), (.int (0 : Int32)), (.long q1), (.int (1 : Int32))]) (rest := [(.ref b10)]) (lenOf pd_2 rfl) rfl (by show 2 * 0 + _ ≤ _; exact Nat.le_of_eq rfl) (hb hby at_58) (fun _ _ => ⟨rfl, e10, (by decide : 1 + 0 ≤ _), (by decide : 4 + 0 ≤ _)⟩)
      dsimp only [Pt.U, Pt.locs, Pt.cells, Pt.slots] at X11 l11 y11 z11 st11 hQ11
      subst l11 y11 z11
      obtain ⟨rfl, N11q, K11, E11, F11_low, F11_lowPasses, F11_high, F11_highPasses⟩ := hQ11
      have N11 := Fr.app N9 N11q
      have Zl11 : n0 ≤ T11.heap.size := Nat.le_trans Zl10 K11.1
      refine own_of (fun _ k => st11.trans k) ?_
      show own_Out p e below _ (T11.setTop (mkF m 61 #[.val (.long q0), .second, .val (.long q1), .second, .val (.long q2), .second, .val (.int p3), .val (.int (0 : Int32)), .val (.int (1 : Int32)), .val (.int (p3 &&& (7 : Int32))), .val (.long (f1 (p3 &&& (7 : Int32)) q0 q1 q2)), .second, .unset, .unset] [(.ref b10)]))
      refine own_of (fun _ k => XS.astore X11.here hx rfl (hb hby at_61) rfl rfl (l' := #[.val (.long q0), .second, .val (.long q1), .second, .val (.long q2), .second, .val (.int p3), .val (.int (0 : Int32)), .val (.int (1 : Int32)), .val (.int (p3 &&& (7 : Int32))), .val (.long (f1 (p3 &&& (7 : Int32)) q0 q1 q2)), .second, .val (.ref b10), .unset]) rfl k) ?_
      show own_Out p e below _ (T11.setTop (mkF m 63 #[.val (.long q0), .second, .val (.long q1), .second, .val (.long q2), .second, .val (.int p3), .val (.int (0 : Int32)), .val (.int (1 : Int32)), .val (.int (p3 &&& (7 : Int32))), .val (.long (f1 (p3 &&& (7 : Int32)) q0 q1 q2)), .second, .val (.ref b10), .unset] []))
      refine own_of (fun _ k => XS.aload X11.here hx rfl (hb hby at_63) rfl rfl k) ?_
      show own_Out p e below _ (T11.setTop (mkF m 65 #[.val (.long q0), .second, .val (.long q1), .second, .val (.long q2), .second, .val (.int p3), .val (.int (0 : Int32)), .val (.int (1 : Int32)), .val (.int (p3 &&& (7 : Int32))), .val (.long (f1 (p3 &&& (7 : Int32)) q0 q1 q2)), .second, .val (.ref b10), .unset] [(.ref b10)]))
      refine own_of (fun _ k => XS.lload X11.here hx rfl (hb hby at_65) rfl k) ?_
      show own_Out p e below _ (T11.setTop (mkF m 67 #[.val (.long q0), .second, .val (.long q1), .second, .val (.long q2), .second, .val (.int p3), .val (.int (0 : Int32)), .val (.int (1 : Int32)), .val (.int (p3 &&& (7 : Int32))), .val (.long (f1 (p3 &&& (7 : Int32)) q0 q1 q2)), .second, .val (.ref b10), .unset] [(.long (f1 (p3 &&& (7 : Int32)) q0 q1 q2)), (.ref b10)]))
      obtain ⟨cq12, kq12, q12a, q12b, q12c⟩ := isOf hZ rfl E11
      obtain ⟨_, _, ⟨T12, L12, k12, n12⟩, -, X12, ⟨Lc12, hQ12, l12, y12, z12⟩, st12⟩ := X11.virtualBack hx (y := (⟨"com/example/headway/headway/engine/Interval", "contains", "(J)Z"⟩ : MethodName)) (z := (⟨"com/example/headway/headway/engine/Interval", "contains", "(J)Z"⟩ : MethodName)) hown (mvT hZ (hw _ (List.mem_of_getElem? (i := 26) rfl))) (mvT hZ (hw _ (List.mem_of_getElem? (i := 27) rfl))) (notFace_of_selects (args := #[]) (mvT hZ (hw _ (List.mem_of_getElem? (i := 29) rfl)))) (mvT hZ (hw _ (List.mem_of_getElem? (i := 29) rfl))) (mvT hZ (hw _ (List.mem_of_getElem? (i := 28) rfl))) (by decide) (backOf (W := 0) (rm5 l Z a0 hw [] b10 (f1 (p3 &&& (7 : Int32)) q0 q1 q2) q0 ((0 : Int32) &&& 1) q1 ((1 : Int32) &&& 1) T11.heap n0 Zl11 F11_low F11_lowPasses F11_high F11_highPasses) hZ (hw _ (List.mem_of_getElem? (i := 30) rfl)) (hw _ (List.mem_of_getElem? (i := 6) rfl)) (by decide) (by decide)) q12a q12c (g := (mkF m 67 #[.val (.long q0), .second, .val (.long q1), .second, .val (.long q2), .second, .val (.int p3), .val (.int (0 : Int32)), .val (.int (1 : Int32)), .val (.int (p3 &&& (7 : Int32))), .val (.long (f1 (p3 &&& (7 : Int32)) q0 q1 q2)), .second, .val (.ref b10), .unset] [(.long (f1 (p3 &&& (7 : Int32)) q0 q1 q2)), (.ref b10)])) rfl (by rw [hml]; rfl) (Steps.refl _) (argsL := [(.long (f1 (p3 &&& (7 : Int32)) q0 q1 q2))]) (rest := []) (lenOf pd_3 rfl) rfl (by show 2 * 0 + _ ≤ _; exact Nat.le_of_eq rfl) (hb hby at_67) (fun _ _ => ⟨rfl, rfl, (by decide : 1 + 0 ≤ _), (by decide : 4 + 0 ≤ _)⟩)
      dsimp only [Pt.U, Pt.locs, Pt.cells, Pt.slots] at X12 l12 y12 z12 st12 hQ12
      subst l12 y12 z12
      obtain ⟨rfl, N12q, hh12⟩ := hQ12
      have N12 := Fr.app N11 N12q
      refine own_of (fun _ k => st12.trans k) ?_
      show own_Out p e below _ (T12.setTop (mkF m 70 #[.val (.long q0), .second, .val (.long q1), .second, .val (.long q2), .second, .val (.int p3), .val (.int (0 : Int32)), .val (.int (1 : Int32)), .val (.int (p3 &&& (7 : Int32))), .val (.long (f1 (p3 &&& (7 : Int32)) q0 q1 q2)), .second, .val (.ref b10), .unset] [(.int (f5 (f1 (p3 &&& (7 : Int32)) q0 q1 q2) q0 ((0 : Int32) &&& 1) q1 ((1 : Int32) &&& 1)))]))
      refine own_of (fun _ k => XS.istore X12.here hx rfl (hb hby at_70) rfl (l' := #[.val (.long q0), .second, .val (.long q1), .second, .val (.long q2), .second, .val (.int p3), .val (.int (0 : Int32)), .val (.int (1 : Int32)), .val (.int (p3 &&& (7 : Int32))), .val (.long (f1 (p3 &&& (7 : Int32)) q0 q1 q2)), .second, .val (.ref b10), .val (.int (f5 (f1 (p3 &&& (7 : Int32)) q0 q1 q2) q0 ((0 : Int32) &&& 1) q1 ((1 : Int32) &&& 1)))]) rfl k) ?_
      show own_Out p e below _ (T12.setTop (mkF m 72 #[.val (.long q0), .second, .val (.long q1), .second, .val (.long q2), .second, .val (.int p3), .val (.int (0 : Int32)), .val (.int (1 : Int32)), .val (.int (p3 &&& (7 : Int32))), .val (.long (f1 (p3 &&& (7 : Int32)) q0 q1 q2)), .second, .val (.ref b10), .val (.int (f5 (f1 (p3 &&& (7 : Int32)) q0 q1 q2) q0 ((0 : Int32) &&& 1) q1 ((1 : Int32) &&& 1)))] []))
      refine own_of (fun _ k => XS.iload X12.here hx rfl (hb hby at_72) rfl k) ?_
      show own_Out p e below _ (T12.setTop (mkF m 74 #[.val (.long q0), .second, .val (.long q1), .second, .val (.long q2), .second, .val (.int p3), .val (.int (0 : Int32)), .val (.int (1 : Int32)), .val (.int (p3 &&& (7 : Int32))), .val (.long (f1 (p3 &&& (7 : Int32)) q0 q1 q2)), .second, .val (.ref b10), .val (.int (f5 (f1 (p3 &&& (7 : Int32)) q0 q1 q2) q0 ((0 : Int32) &&& 1) q1 ((1 : Int32) &&& 1)))] [(.int (f5 (f1 (p3 &&& (7 : Int32)) q0 q1 q2) q0 ((0 : Int32) &&& 1) q1 ((1 : Int32) &&& 1)))]))
      refine own_of (fun _ k => XS.lloadN X12.here hx rfl (hb hby at_74) rfl k) ?_
      show own_Out p e below _ (T12.setTop (mkF m 75 #[.val (.long q0), .second, .val (.long q1), .second, .val (.long q2), .second, .val (.int p3), .val (.int (0 : Int32)), .val (.int (1 : Int32)), .val (.int (p3 &&& (7 : Int32))), .val (.long (f1 (p3 &&& (7 : Int32)) q0 q1 q2)), .second, .val (.ref b10), .val (.int (f5 (f1 (p3 &&& (7 : Int32)) q0 q1 q2) q0 ((0 : Int32) &&& 1) q1 ((1 : Int32) &&& 1)))] [(.long q0), (.int (f5 (f1 (p3 &&& (7 : Int32)) q0 q1 q2) q0 ((0 : Int32) &&& 1) q1 ((1 : Int32) &&& 1)))]))
      refine own_of (fun _ k => XS.iload X12.here hx rfl (hb hby at_75) rfl k) ?_
      show own_Out p e below _ (T12.setTop (mkF m 77 #[.val (.long q0), .second, .val (.long q1), .second, .val (.long q2), .second, .val (.int p3), .val (.int (0 : Int32)), .val (.int (1 : Int32)), .val (.int (p3 &&& (7 : Int32))), .val (.long (f1 (p3 &&& (7 : Int32)) q0 q1 q2)), .second, .val (.ref b10), .val (.int (f5 (f1 (p3 &&& (7 : Int32)) q0 q1 q2) q0 ((0 : Int32) &&& 1) q1 ((1 : Int32) &&& 1)))] [(.int (0 : Int32)), (.long q0), (.int (f5 (f1 (p3 &&& (7 : Int32)) q0 q1 q2) q0 ((0 : Int32) &&& 1) q1 ((1 : Int32) &&& 1)))]))
      refine own_of (fun _ k => XS.lloadN X12.here hx rfl (hb hby at_77) rfl k) ?_
      show own_Out p e below _ (T12.setTop (mkF m 78 #[.val (.long q0), .second, .val (.long q1), .second, .val (.long q2), .second, .val (.int p3), .val (.int (0 : Int32)), .val (.int (1 : Int32)), .val (.int (p3 &&& (7 : Int32))), .val (.long (f1 (p3 &&& (7 : Int32)) q0 q1 q2)), .second, .val (.ref b10), .val (.int (f5 (f1 (p3 &&& (7 : Int32)) q0 q1 q2) q0 ((0 : Int32) &&& 1) q1 ((1 : Int32) &&& 1)))] [(.long q1), (.int (0 : Int32)), (.long q0), (.int (f5 (f1 (p3 &&& (7 : Int32)) q0 q1 q2) q0 ((0 : Int32) &&& 1) q1 ((1 : Int32) &&& 1)))]))
      refine own_of (fun _ k => XS.iload X12.here hx rfl (hb hby at_78) rfl k) ?_
      show own_Out p e below _ (T12.setTop (mkF m 80 #[.val (.long q0), .second, .val (.long q1), .second, .val (.long q2), .second, .val (.int p3), .val (.int (0 : Int32)), .val (.int (1 : Int32)), .val (.int (p3 &&& (7 : Int32))), .val (.long (f1 (p3 &&& (7 : Int32)) q0 q1 q2)), .second, .val (.ref b10), .val (.int (f5 (f1 (p3 &&& (7 : Int32)) q0 q1 q2) q0 ((0 : Int32) &&& 1) q1 ((1 : Int32) &&& 1)))] [(.int (1 : Int32)), (.long q1), (.int (0 : Int32)), (.long q0), (.int (f5 (f1 (p3 &&& (7 : Int32)) q0 q1 q2) q0 ((0 : Int32) &&& 1) q1 ((1 : Int32) &&& 1)))]))
      refine own_of (fun _ k => XS.lload X12.here hx rfl (hb hby at_80) rfl k) ?_
      show own_Out p e below _ (T12.setTop (mkF m 82 #[.val (.long q0), .second, .val (.long q1), .second, .val (.long q2), .second, .val (.int p3), .val (.int (0 : Int32)), .val (.int (1 : Int32)), .val (.int (p3 &&& (7 : Int32))), .val (.long (f1 (p3 &&& (7 : Int32)) q0 q1 q2)), .second, .val (.ref b10), .val (.int (f5 (f1 (p3 &&& (7 : Int32)) q0 q1 q2) q0 ((0 : Int32) &&& 1) q1 ((1 : Int32) &&& 1)))] [(.long (f1 (p3 &&& (7 : Int32)) q0 q1 q2)), (.int (1 : Int32)), (.long q1), (.int (0 : Int32)), (.long q0), (.int (f5 (f1 (p3 &&& (7 : Int32)) q0 q1 q2) q0 ((0 : Int32) &&& 1) q1 ((1 : Int32) &&& 1)))]))
      obtain ⟨_, _, ⟨T13, L13, k13, n13⟩, -, X13, ⟨Lc13, hQ13, l13, y13, z13⟩, st13⟩ := Jvm.LawKit.callS X12 hx (y := (⟨"com/example/headway/headway/engine/IntervalContainsPinLaw", "expected", "(JZJZJ)Z"⟩ : MethodName)) hown (mvT hZ (hw _ (List.mem_of_getElem? (i := 31) rfl))) (mvT hZ (hw _ (List.mem_of_getElem? (i := 32) rfl))) (mvT hZ (hw _ (List.mem_of_getElem? (i := 2) rfl))) (mvT hZ (hw _ (List.mem_of_getElem? (i := 33) rfl))) (by decide) (backOf (W := 1) (rm6 l Z a0 hw [] q0 (0 : Int32) q1 (1 : Int32) (f1 (p3 &&& (7 : Int32)) q0 q1 q2) T11.heap n0 Zl11 ) hZ (hw _ (List.mem_of_getElem? (i := 33) rfl)) (hw _ (List.mem_of_getElem? (i := 2) rfl)) (by decide) (by decide)) (g := (mkF m 82 #[.val (.long q0), .second, .val (.long q1), .second, .val (.long q2), .second, .val (.int p3), .val (.int (0 : Int32)), .val (.int (1 : Int32)), .val (.int (p3 &&& (7 : Int32))), .val (.long (f1 (p3 &&& (7 : Int32)) q0 q1 q2)), .second, .val (.ref b10), .val (.int (f5 (f1 (p3 &&& (7 : Int32)) q0 q1 q2) q0 ((0 : Int32) &&& 1) q1 ((1 : Int32) &&& 1)))] [(.long (f1 (p3 &&& (7 : Int32)) q0 q1 q2)), (.int (1 : Int32)), (.long q1), (.int (0 : Int32)), (.long q0), (.int (f5 (f1 (p3 &&& (7 : Int32)) q0 q1 q2) q0 ((0 : Int32) &&& 1) q1 ((1 : Int32) &&& 1)))])) rfl (by rw [hml]; rfl) (argsL := [(.long q0), (.int (0 : Int32)), (.long q1), (.int (1 : Int32)), (.long (f1 (p3 &&& (7 : Int32)) q0 q1 q2))]) (rest := [(.int (f5 (f1 (p3 &&& (7 : Int32)) q0 q1 q2) q0 ((0 : Int32) &&& 1) q1 ((1 : Int32) &&& 1)))]) (lenOf pd_4 rfl) rfl (by show 2 * 0 + _ ≤ _; exact Nat.le_of_eq rfl) (hb hby at_82) (fun _ _ => ⟨rfl, hh12, (by decide : 1 + 0 ≤ _), (by decide : 4 + 0 ≤ _)⟩)
      dsimp only [Pt.U, Pt.locs, Pt.cells, Pt.slots] at X13 l13 y13 z13 st13 hQ13
      subst l13 y13 z13
      obtain ⟨rfl, N13q, hh13⟩ := hQ13
      have N13 := Fr.app N12 N13q
      refine own_of st13 ?_
      show own_Out p e below _ (T13.setTop (mkF m 85 #[.val (.long q0), .second, .val (.long q1), .second, .val (.long q2), .second, .val (.int p3), .val (.int (0 : Int32)), .val (.int (1 : Int32)), .val (.int (p3 &&& (7 : Int32))), .val (.long (f1 (p3 &&& (7 : Int32)) q0 q1 q2)), .second, .val (.ref b10), .val (.int (f5 (f1 (p3 &&& (7 : Int32)) q0 q1 q2) q0 ((0 : Int32) &&& 1) q1 ((1 : Int32) &&& 1)))] [(.int (f6 q0 (0 : Int32) q1 (1 : Int32) (f1 (p3 &&& (7 : Int32)) q0 q1 q2))), (.int (f5 (f1 (p3 &&& (7 : Int32)) q0 q1 q2) q0 ((0 : Int32) &&& 1) q1 ((1 : Int32) &&& 1)))]))
      by_cases hc85_14 : (f5 (f1 (p3 &&& (7 : Int32)) q0 q1 q2) q0 ((0 : Int32) &&& 1) q1 ((1 : Int32) &&& 1)) = (f6 q0 (0 : Int32) q1 (1 : Int32) (f1 (p3 &&& (7 : Int32)) q0 q1 q2))
      · skip
        refine own_of (fun _ k => XS.icmpNo X13.here hx rfl (hb hby at_85) rfl (teq hc85_14).2 k) ?_
        show own_Out p e below _ (T13.setTop (mkF m 88 #[.val (.long q0), .second, .val (.long q1), .second, .val (.long q2), .second, .val (.int p3), .val (.int (0 : Int32)), .val (.int (1 : Int32)), .val (.int (p3 &&& (7 : Int32))), .val (.long (f1 (p3 &&& (7 : Int32)) q0 q1 q2)), .second, .val (.ref b10), .val (.int (f5 (f1 (p3 &&& (7 : Int32)) q0 q1 q2) q0 ((0 : Int32) &&& 1) q1 ((1 : Int32) &&& 1)))] []))
        refine own_of (fun _ k => XS.iconst X13.here hx rfl (hb hby at_88) k) ?_
        show own_Out p e below _ (T13.setTop (mkF m 89 #[.val (.long q0), .second, .val (.long q1), .second, .val (.long q2), .second, .val (.int p3), .val (.int (0 : Int32)), .val (.int (1 : Int32)), .val (.int (p3 &&& (7 : Int32))), .val (.long (f1 (p3 &&& (7 : Int32)) q0 q1 q2)), .second, .val (.ref b10), .val (.int (f5 (f1 (p3 &&& (7 : Int32)) q0 q1 q2) q0 ((0 : Int32) &&& 1) q1 ((1 : Int32) &&& 1)))] [(.int (1 : Int32))]))
        refine own_of (fun _ k => XS.goto X13.here hx rfl (pc0 := 89) (pc' := 93) rfl (hb hby at_89) (by decide) (by decide) k) ?_
        show own_Out p e below _ (T13.setTop (mkF m 93 #[.val (.long q0), .second, .val (.long q1), .second, .val (.long q2), .second, .val (.int p3), .val (.int (0 : Int32)), .val (.int (1 : Int32)), .val (.int (p3 &&& (7 : Int32))), .val (.long (f1 (p3 &&& (7 : Int32)) q0 q1 q2)), .second, .val (.ref b10), .val (.int (f5 (f1 (p3 &&& (7 : Int32)) q0 q1 q2) q0 ((0 : Int32) &&& 1) q1 ((1 : Int32) &&& 1)))] [(.int (1 : Int32))]))
        exact own_outN X13 hx hlk (t := .boolean) hret (by simp) (hb hby at_93) (z' := (1 : Int32)) rfl (Q := Q0 Z q0 q1 q2 p3 h0 n0) ⟨rfl, N13⟩ (by decide) (by decide)
      · skip
        refine own_of (fun _ k => XS.icmpYes X13.here hx rfl (pc0 := 85) (pc' := 92) rfl (hb hby at_85) rfl (feq hc85_14).2 (by decide) (by decide) k) ?_
        show own_Out p e below _ (T13.setTop (mkF m 92 #[.val (.long q0), .second, .val (.long q1), .second, .val (.long q2), .second, .val (.int p3), .val (.int (0 : Int32)), .val (.int (1 : Int32)), .val (.int (p3 &&& (7 : Int32))), .val (.long (f1 (p3 &&& (7 : Int32)) q0 q1 q2)), .second, .val (.ref b10), .val (.int (f5 (f1 (p3 &&& (7 : Int32)) q0 q1 q2) q0 ((0 : Int32) &&& 1) q1 ((1 : Int32) &&& 1)))] []))
        refine own_of (fun _ k => XS.iconst X13.here hx rfl (hb hby at_92) k) ?_
        show own_Out p e below _ (T13.setTop (mkF m 93 #[.val (.long q0), .second, .val (.long q1), .second, .val (.long q2), .second, .val (.int p3), .val (.int (0 : Int32)), .val (.int (1 : Int32)), .val (.int (p3 &&& (7 : Int32))), .val (.long (f1 (p3 &&& (7 : Int32)) q0 q1 q2)), .second, .val (.ref b10), .val (.int (f5 (f1 (p3 &&& (7 : Int32)) q0 q1 q2) q0 ((0 : Int32) &&& 1) q1 ((1 : Int32) &&& 1)))] [(.int (0 : Int32))]))
        exact (dead0_1 q0 q1 q2 p3 hc5_1 hc20_2 hc85_14).elim
  · skip
    refine own_of (fun _ k => XS.ifNo X0.here hx rfl (hb hby at_5) rfl ((if0 _ _).trans (feq hc5_1).1) k) ?_
    show own_Out p e below _ (s₁.setTop (mkF m 8 #[.val (.long q0), .second, .val (.long q1), .second, .val (.long q2), .second, .val (.int p3), .unset, .unset, .unset, .unset, .unset, .unset, .unset] []))
    refine own_of (fun _ k => XS.iconst X0.here hx rfl (hb hby at_8) k) ?_
    show own_Out p e below _ (s₁.setTop (mkF m 9 #[.val (.long q0), .second, .val (.long q1), .second, .val (.long q2), .second, .val (.int p3), .unset, .unset, .unset, .unset, .unset, .unset, .unset] [(.int (1 : Int32))]))
    refine own_of (fun _ k => XS.goto X0.here hx rfl (pc0 := 9) (pc' := 13) rfl (hb hby at_9) (by decide) (by decide) k) ?_
    show own_Out p e below _ (s₁.setTop (mkF m 13 #[.val (.long q0), .second, .val (.long q1), .second, .val (.long q2), .second, .val (.int p3), .unset, .unset, .unset, .unset, .unset, .unset, .unset] [(.int (1 : Int32))]))
    refine own_of (fun _ k => XS.istore X0.here hx rfl (hb hby at_13) rfl (l' := #[.val (.long q0), .second, .val (.long q1), .second, .val (.long q2), .second, .val (.int p3), .val (.int (1 : Int32)), .unset, .unset, .unset, .unset, .unset, .unset]) rfl k) ?_
    show own_Out p e below _ (s₁.setTop (mkF m 15 #[.val (.long q0), .second, .val (.long q1), .second, .val (.long q2), .second, .val (.int p3), .val (.int (1 : Int32)), .unset, .unset, .unset, .unset, .unset, .unset] []))
    refine own_of (fun _ k => XS.iload X0.here hx rfl (hb hby at_15) rfl k) ?_
    show own_Out p e below _ (s₁.setTop (mkF m 17 #[.val (.long q0), .second, .val (.long q1), .second, .val (.long q2), .second, .val (.int p3), .val (.int (1 : Int32)), .unset, .unset, .unset, .unset, .unset, .unset] [(.int p3)]))
    refine own_of (fun _ k => XS.bipush X0.here hx rfl (hb hby at_17) k) ?_
    show own_Out p e below _ (s₁.setTop (mkF m 19 #[.val (.long q0), .second, .val (.long q1), .second, .val (.long q2), .second, .val (.int p3), .val (.int (1 : Int32)), .unset, .unset, .unset, .unset, .unset, .unset] [(.int (16 : Int32)), (.int p3)]))
    refine own_of (fun _ k => XS.iand X0.here hx rfl (hb hby at_19) rfl k) ?_
    show own_Out p e below _ (s₁.setTop (mkF m 20 #[.val (.long q0), .second, .val (.long q1), .second, .val (.long q2), .second, .val (.int p3), .val (.int (1 : Int32)), .unset, .unset, .unset, .unset, .unset, .unset] [(.int (p3 &&& (16 : Int32)))]))
    by_cases hc20_15 : (p3 &&& (16 : Int32)) = (0 : Int32)
    · skip
      refine own_of (fun _ k => XS.ifYes X0.here hx rfl (pc0 := 20) (pc' := 27) rfl (hb hby at_20) rfl ((if0 _ _).trans (teq hc20_15).1) (by decide) (by decide) k) ?_
      show own_Out p e below _ (s₁.setTop (mkF m 27 #[.val (.long q0), .second, .val (.long q1), .second, .val (.long q2), .second, .val (.int p3), .val (.int (1 : Int32)), .unset, .unset, .unset, .unset, .unset, .unset] []))
      refine own_of (fun _ k => XS.iconst X0.here hx rfl (hb hby at_27) k) ?_
      show own_Out p e below _ (s₁.setTop (mkF m 28 #[.val (.long q0), .second, .val (.long q1), .second, .val (.long q2), .second, .val (.int p3), .val (.int (1 : Int32)), .unset, .unset, .unset, .unset, .unset, .unset] [(.int (0 : Int32))]))
      refine own_of (fun _ k => XS.istore X0.here hx rfl (hb hby at_28) rfl (l' := #[.val (.long q0), .second, .val (.long q1), .second, .val (.long q2), .second, .val (.int p3), .val (.int (1 : Int32)), .val (.int (0 : Int32)), .unset, .unset, .unset, .unset, .unset]) rfl k) ?_
      show own_Out p e below _ (s₁.setTop (mkF m 30 #[.val (.long q0), .second, .val (.long q1), .second, .val (.long q2), .second, .val (.int p3), .val (.int (1 : Int32)), .val (.int (0 : Int32)), .unset, .unset, .unset, .unset, .unset] []))
      refine own_of (fun _ k => XS.iload X0.here hx rfl (hb hby at_30) rfl k) ?_
      show own_Out p e below _ (s₁.setTop (mkF m 32 #[.val (.long q0), .second, .val (.long q1), .second, .val (.long q2), .second, .val (.int p3), .val (.int (1 : Int32)), .val (.int (0 : Int32)), .unset, .unset, .unset, .unset, .unset] [(.int p3)]))
      refine own_of (fun _ k => XS.bipush X0.here hx rfl (hb hby at_32) k) ?_
      show own_Out p e below _ (s₁.setTop (mkF m 34 #[.val (.long q0), .second, .val (.long q1), .second, .val (.long q2), .second, .val (.int p3), .val (.int (1 : Int32)), .val (.int (0 : Int32)), .unset, .unset, .unset, .unset, .unset] [(.int (7 : Int32)), (.int p3)]))
      refine own_of (fun _ k => XS.iand X0.here hx rfl (hb hby at_34) rfl k) ?_
      show own_Out p e below _ (s₁.setTop (mkF m 35 #[.val (.long q0), .second, .val (.long q1), .second, .val (.long q2), .second, .val (.int p3), .val (.int (1 : Int32)), .val (.int (0 : Int32)), .unset, .unset, .unset, .unset, .unset] [(.int (p3 &&& (7 : Int32)))]))
      refine own_of (fun _ k => XS.istore X0.here hx rfl (hb hby at_35) rfl (l' := #[.val (.long q0), .second, .val (.long q1), .second, .val (.long q2), .second, .val (.int p3), .val (.int (1 : Int32)), .val (.int (0 : Int32)), .val (.int (p3 &&& (7 : Int32))), .unset, .unset, .unset, .unset]) rfl k) ?_
      show own_Out p e below _ (s₁.setTop (mkF m 37 #[.val (.long q0), .second, .val (.long q1), .second, .val (.long q2), .second, .val (.int p3), .val (.int (1 : Int32)), .val (.int (0 : Int32)), .val (.int (p3 &&& (7 : Int32))), .unset, .unset, .unset, .unset] []))
      refine own_of (fun _ k => XS.iload X0.here hx rfl (hb hby at_37) rfl k) ?_
      show own_Out p e below _ (s₁.setTop (mkF m 39 #[.val (.long q0), .second, .val (.long q1), .second, .val (.long q2), .second, .val (.int p3), .val (.int (1 : Int32)), .val (.int (0 : Int32)), .val (.int (p3 &&& (7 : Int32))), .unset, .unset, .unset, .unset] [(.int (p3 &&& (7 : Int32)))]))
      refine own_of (fun _ k => XS.lloadN X0.here hx rfl (hb hby at_39) rfl k) ?_
      show own_Out p e below _ (s₁.setTop (mkF m 40 #[.val (.long q0), .second, .val (.long q1), .second, .val (.long q2), .second, .val (.int p3), .val (.int (1 : Int32)), .val (.int (0 : Int32)), .val (.int (p3 &&& (7 : Int32))), .unset, .unset, .unset, .unset] [(.long q0), (.int (p3 &&& (7 : Int32)))]))
      refine own_of (fun _ k => XS.lloadN X0.here hx rfl (hb hby at_40) rfl k) ?_
      show own_Out p e below _ (s₁.setTop (mkF m 41 #[.val (.long q0), .second, .val (.long q1), .second, .val (.long q2), .second, .val (.int p3), .val (.int (1 : Int32)), .val (.int (0 : Int32)), .val (.int (p3 &&& (7 : Int32))), .unset, .unset, .unset, .unset] [(.long q1), (.long q0), (.int (p3 &&& (7 : Int32)))]))
      refine own_of (fun _ k => XS.lload X0.here hx rfl (hb hby at_41) rfl k) ?_
      show own_Out p e below _ (s₁.setTop (mkF m 43 #[.val (.long q0), .second, .val (.long q1), .second, .val (.long q2), .second, .val (.int p3), .val (.int (1 : Int32)), .val (.int (0 : Int32)), .val (.int (p3 &&& (7 : Int32))), .unset, .unset, .unset, .unset] [(.long q2), (.long q1), (.long q0), (.int (p3 &&& (7 : Int32)))]))
      obtain ⟨_, _, ⟨T16, L16, k16, n16⟩, -, X16, ⟨Lc16, hQ16, l16, y16, z16⟩, st16⟩ := Jvm.LawKit.callS X0 hx (y := (⟨"com/example/headway/headway/engine/IntervalContainsPinLaw", "pick", "(IJJJ)J"⟩ : MethodName)) hown (mvT hZ (hw _ (List.mem_of_getElem? (i := 0) rfl))) (mvT hZ (hw _ (List.mem_of_getElem? (i := 1) rfl))) (mvT hZ (hw _ (List.mem_of_getElem? (i := 2) rfl))) (mvT hZ (hw _ (List.mem_of_getElem? (i := 3) rfl))) (by decide) (backOf (W := 0) (rm1 l Z a0 hw [] (p3 &&& (7 : Int32)) q0 q1 q2 h0 n0 Z0 ) hZ (hw _ (List.mem_of_getElem? (i := 3) rfl)) (hw _ (List.mem_of_getElem? (i := 2) rfl)) (by decide) (by decide)) (g := (mkF m 43 #[.val (.long q0), .second, .val (.long q1), .second, .val (.long q2), .second, .val (.int p3), .val (.int (1 : Int32)), .val (.int (0 : Int32)), .val (.int (p3 &&& (7 : Int32))), .unset, .unset, .unset, .unset] [(.long q2), (.long q1), (.long q0), (.int (p3 &&& (7 : Int32)))])) rfl (by rw [hml]; rfl) (argsL := [(.int (p3 &&& (7 : Int32))), (.long q0), (.long q1), (.long q2)]) (rest := []) (lenOf pd_1 rfl) rfl (by show 2 * 0 + _ ≤ _; exact Nat.le_of_eq rfl) (hb hby at_43) (fun _ _ => ⟨rfl, e0, (by decide : 0 + 0 ≤ _), (by decide : 0 + 0 ≤ _)⟩)
      dsimp only [Pt.U, Pt.locs, Pt.cells, Pt.slots] at X16 l16 y16 z16 st16 hQ16
      subst l16 y16 z16
      obtain ⟨rfl, N16q, hh16⟩ := hQ16
      have N16 := Fr.app N0 N16q
      refine own_of st16 ?_
      show own_Out p e below _ (T16.setTop (mkF m 46 #[.val (.long q0), .second, .val (.long q1), .second, .val (.long q2), .second, .val (.int p3), .val (.int (1 : Int32)), .val (.int (0 : Int32)), .val (.int (p3 &&& (7 : Int32))), .unset, .unset, .unset, .unset] [(.long (f1 (p3 &&& (7 : Int32)) q0 q1 q2))]))
      refine own_of (fun _ k => XS.lstore X16.here hx rfl (hb hby at_46) rfl (l' := #[.val (.long q0), .second, .val (.long q1), .second, .val (.long q2), .second, .val (.int p3), .val (.int (1 : Int32)), .val (.int (0 : Int32)), .val (.int (p3 &&& (7 : Int32))), .val (.long (f1 (p3 &&& (7 : Int32)) q0 q1 q2)), .second, .unset, .unset]) rfl k) ?_
      show own_Out p e below _ (T16.setTop (mkF m 48 #[.val (.long q0), .second, .val (.long q1), .second, .val (.long q2), .second, .val (.int p3), .val (.int (1 : Int32)), .val (.int (0 : Int32)), .val (.int (p3 &&& (7 : Int32))), .val (.long (f1 (p3 &&& (7 : Int32)) q0 q1 q2)), .second, .unset, .unset] []))
      obtain ⟨T17, h17, X17, e17, E17, A17, D17, -, st17⟩ := newO X16 hx hZ hown (hw _ (List.mem_of_getElem? (i := 4) rfl)) (hw _ (List.mem_of_getElem? (i := 5) rfl)) (hw _ (List.mem_of_getElem? (i := 6) rfl)) hh16 (g := (mkF m 48 #[.val (.long q0), .second, .val (.long q1), .second, .val (.long q2), .second, .val (.int p3), .val (.int (1 : Int32)), .val (.int (0 : Int32)), .val (.int (p3 &&& (7 : Int32))), .val (.long (f1 (p3 &&& (7 : Int32)) q0 q1 q2)), .second, .unset, .unset] [])) rfl (hb hby at_48) (by decide) (by decide)
      obtain ⟨b17, g17⟩ : ∃ z, z = h0.size := ⟨_, rfl⟩
      rw [← g17] at A17 D17 st17
      have g_b17 : n0 ≤ b17 := Nat.le_trans Z0 (Nat.le_of_eq g17.symm)
      have Zl17 : n0 ≤ h17.size := Nat.le_trans Z0 E17.1
      have F_b17_low : Fld Z h17 b17 "com/example/headway/headway/engine/Interval" "low" "J" (.long (0 : Int64)) := D17 (Or.inr (hw _ (List.mem_of_getElem? (i := 19) rfl))) (ty := .long) (by decide)
      have F_b17_lowPasses : Fld Z h17 b17 "com/example/headway/headway/engine/Interval" "lowPasses" "Z" (.int (0 : Int32)) := D17 (Or.inr (hw _ (List.mem_of_getElem? (i := 21) rfl))) (ty := .boolean) (by decide)
      have F_b17_high : Fld Z h17 b17 "com/example/headway/headway/engine/Interval" "high" "J" (.long (0 : Int64)) := D17 (Or.inr (hw _ (List.mem_of_getElem? (i := 23) rfl))) (ty := .long) (by decide)
      have F_b17_highPasses : Fld Z h17 b17 "com/example/headway/headway/engine/Interval" "highPasses" "Z" (.int (0 : Int32)) := D17 (Or.inr (hw _ (List.mem_of_getElem? (i := 25) rfl))) (ty := .boolean) (by decide)
      refine own_of st17 ?_
      show own_Out p e below _ (T17.setTop (mkF m 51 #[.val (.long q0), .second, .val (.long q1), .second, .val (.long q2), .second, .val (.int p3), .val (.int (1 : Int32)), .val (.int (0 : Int32)), .val (.int (p3 &&& (7 : Int32))), .val (.long (f1 (p3 &&& (7 : Int32)) q0 q1 q2)), .second, .unset, .unset] [(.ref b17)]))
      refine own_of (fun _ k => XS.dup X17.here hx rfl (hb hby at_51) rfl rfl k) ?_
      show own_Out p e below _ (T17.setTop (mkF m 52 #[.val (.long q0), .second, .val (.long q1), .second, .val (.long q2), .second, .val (.int p3), .val (.int (1 : Int32)), .val (.int (0 : Int32)), .val (.int (p3 &&& (7 : Int32))), .val (.long (f1 (p3 &&& (7 : Int32)) q0 q1 q2)), .second, .unset, .unset] [(.ref b17), (.ref b17)]))
      refine own_of (fun _ k => XS.lloadN X17.here hx rfl (hb hby at_52) rfl k) ?_
      show own_Out p e below _ (T17.setTop (mkF m 53 #[.val (.long q0), .second, .val (.long q1), .second, .val (.long q2), .second, .val (.int p3), .val (.int (1 : Int32)), .val (.int (0 : Int32)), .val (.int (p3 &&& (7 : Int32))), .val (.long (f1 (p3 &&& (7 : Int32)) q0 q1 q2)), .second, .unset, .unset] [(.long q0), (.ref b17), (.ref b17)]))
      refine own_of (fun _ k => XS.iload X17.here hx rfl (hb hby at_53) rfl k) ?_
      show own_Out p e below _ (T17.setTop (mkF m 55 #[.val (.long q0), .second, .val (.long q1), .second, .val (.long q2), .second, .val (.int p3), .val (.int (1 : Int32)), .val (.int (0 : Int32)), .val (.int (p3 &&& (7 : Int32))), .val (.long (f1 (p3 &&& (7 : Int32)) q0 q1 q2)), .second, .unset, .unset] [(.int (1 : Int32)), (.long q0), (.ref b17), (.ref b17)]))
      refine own_of (fun _ k => XS.lloadN X17.here hx rfl (hb hby at_55) rfl k) ?_
      show own_Out p e below _ (T17.setTop (mkF m 56 #[.val (.long q0), .second, .val (.long q1), .second, .val (.long q2), .second, .val (.int p3), .val (.int (1 : Int32)), .val (.int (0 : Int32)), .val (.int (p3 &&& (7 : Int32))), .val (.long (f1 (p3 &&& (7 : Int32)) q0 q1 q2)), .second, .unset, .unset] [(.long q1), (.int (1 : Int32)), (.long q0), (.ref b17), (.ref b17)]))
      refine own_of (fun _ k => XS.iload X17.here hx rfl (hb hby at_56) rfl k) ?_
      show own_Out p e below _ (T17.setTop (mkF m 58 #[.val (.long q0), .second, .val (.long q1), .second, .val (.long q2), .second, .val (.int p3), .val (.int (1 : Int32)), .val (.int (0 : Int32)), .val (.int (p3 &&& (7 : Int32))), .val (.long (f1 (p3 &&& (7 : Int32)) q0 q1 q2)), .second, .unset, .unset] [(.int (0 : Int32)), (.long q1), (.int (1 : Int32)), (.long q0), (.ref b17), (.ref b17)]))
      obtain ⟨_, _, ⟨T18, L18, k18, n18⟩, -, X18, ⟨Lc18, hQ18, l18, y18, z18⟩, st18⟩ := X17.specialBack hx (y := (⟨"com/example/headway/headway/engine/Interval", "<init>", "(JZJZ)V"⟩ : MethodName)) rfl hown (mvT hZ (hw _ (List.mem_of_getElem? (i := 7) rfl))) (mvT hZ (hw _ (List.mem_of_getElem? (i := 8) rfl))) (mvT hZ (hw _ (List.mem_of_getElem? (i := 9) rfl))) (by decide) (backOf (W := 1) (rm2 l Z a0 hw [] b17 q0 (1 : Int32) q1 (0 : Int32) h17 n0 Zl17 A17 F_b17_low F_b17_lowPasses F_b17_high F_b17_highPasses g_b17) hZ (hw _ (List.mem_of_getElem? (i := 9) rfl)) (hw _ (List.mem_of_getElem? (i := 6) rfl)) (by decide) (by decide)) (g := (mkF m 58 #[.val (.long q0), .second, .val (.long q1), .second, .val (.long q2), .second, .val (.int p3), .val (.int (1 : Int32)), .val (.int (0 : Int32)), .val (.int (p3 &&& (7 : Int32))), .val (.long (f1 (p3 &&& (7 : Int32)) q0 q1 q2)), .second, .unset, .unset] [(.int (0 : Int32)), (.long q1), (.int (1 : Int32)), (.long q0), (.ref b17), (.ref b17)])) rfl (by rw [hml]; rfl) (Steps.refl _) (a := b17) (argsL := [(.long q0), (.int (1 : Int32)), (.long q1), (.int (0 : Int32))]) (rest := [(.ref b17)]) (lenOf pd_2 rfl) rfl (by show 2 * 0 + _ ≤ _; exact Nat.le_of_eq rfl) (hb hby at_58) (fun _ _ => ⟨rfl, e17, (by decide : 1 + 0 ≤ _), (by decide : 4 + 0 ≤ _)⟩)
      dsimp only [Pt.U, Pt.locs, Pt.cells, Pt.slots] at X18 l18 y18 z18 st18 hQ18
      subst l18 y18 z18
      obtain ⟨rfl, N18q, K18, E18, F18_low, F18_lowPasses, F18_high, F18_highPasses⟩ := hQ18
      have N18 := Fr.app N16 N18q
      have Zl18 : n0 ≤ T18.heap.size := Nat.le_trans Zl17 K18.1
      refine own_of (fun _ k => st18.trans k) ?_
      show own_Out p e below _ (T18.setTop (mkF m 61 #[.val (.long q0), .second, .val (.long q1), .second, .val (.long q2), .second, .val (.int p3), .val (.int (1 : Int32)), .val (.int (0 : Int32)), .val (.int (p3 &&& (7 : Int32))), .val (.long (f1 (p3 &&& (7 : Int32)) q0 q1 q2)), .second, .unset, .unset] [(.ref b17)]))
      refine own_of (fun _ k => XS.astore X18.here hx rfl (hb hby at_61) rfl rfl (l' := #[.val (.long q0), .second, .val (.long q1), .second, .val (.long q2), .second, .val (.int p3), .val (.int (1 : Int32)), .val (.int (0 : Int32)), .val (.int (p3 &&& (7 : Int32))), .val (.long (f1 (p3 &&& (7 : Int32)) q0 q1 q2)), .second, .val (.ref b17), .unset]) rfl k) ?_
      show own_Out p e below _ (T18.setTop (mkF m 63 #[.val (.long q0), .second, .val (.long q1), .second, .val (.long q2), .second, .val (.int p3), .val (.int (1 : Int32)), .val (.int (0 : Int32)), .val (.int (p3 &&& (7 : Int32))), .val (.long (f1 (p3 &&& (7 : Int32)) q0 q1 q2)), .second, .val (.ref b17), .unset] []))
      refine own_of (fun _ k => XS.aload X18.here hx rfl (hb hby at_63) rfl rfl k) ?_
      show own_Out p e below _ (T18.setTop (mkF m 65 #[.val (.long q0), .second, .val (.long q1), .second, .val (.long q2), .second, .val (.int p3), .val (.int (1 : Int32)), .val (.int (0 : Int32)), .val (.int (p3 &&& (7 : Int32))), .val (.long (f1 (p3 &&& (7 : Int32)) q0 q1 q2)), .second, .val (.ref b17), .unset] [(.ref b17)]))
      refine own_of (fun _ k => XS.lload X18.here hx rfl (hb hby at_65) rfl k) ?_
      show own_Out p e below _ (T18.setTop (mkF m 67 #[.val (.long q0), .second, .val (.long q1), .second, .val (.long q2), .second, .val (.int p3), .val (.int (1 : Int32)), .val (.int (0 : Int32)), .val (.int (p3 &&& (7 : Int32))), .val (.long (f1 (p3 &&& (7 : Int32)) q0 q1 q2)), .second, .val (.ref b17), .unset] [(.long (f1 (p3 &&& (7 : Int32)) q0 q1 q2)), (.ref b17)]))
      obtain ⟨cq19, kq19, q19a, q19b, q19c⟩ := isOf hZ rfl E18
      obtain ⟨_, _, ⟨T19, L19, k19, n19⟩, -, X19, ⟨Lc19, hQ19, l19, y19, z19⟩, st19⟩ := X18.virtualBack hx (y := (⟨"com/example/headway/headway/engine/Interval", "contains", "(J)Z"⟩ : MethodName)) (z := (⟨"com/example/headway/headway/engine/Interval", "contains", "(J)Z"⟩ : MethodName)) hown (mvT hZ (hw _ (List.mem_of_getElem? (i := 26) rfl))) (mvT hZ (hw _ (List.mem_of_getElem? (i := 27) rfl))) (notFace_of_selects (args := #[]) (mvT hZ (hw _ (List.mem_of_getElem? (i := 29) rfl)))) (mvT hZ (hw _ (List.mem_of_getElem? (i := 29) rfl))) (mvT hZ (hw _ (List.mem_of_getElem? (i := 28) rfl))) (by decide) (backOf (W := 0) (rm5 l Z a0 hw [] b17 (f1 (p3 &&& (7 : Int32)) q0 q1 q2) q0 ((1 : Int32) &&& 1) q1 ((0 : Int32) &&& 1) T18.heap n0 Zl18 F18_low F18_lowPasses F18_high F18_highPasses) hZ (hw _ (List.mem_of_getElem? (i := 30) rfl)) (hw _ (List.mem_of_getElem? (i := 6) rfl)) (by decide) (by decide)) q19a q19c (g := (mkF m 67 #[.val (.long q0), .second, .val (.long q1), .second, .val (.long q2), .second, .val (.int p3), .val (.int (1 : Int32)), .val (.int (0 : Int32)), .val (.int (p3 &&& (7 : Int32))), .val (.long (f1 (p3 &&& (7 : Int32)) q0 q1 q2)), .second, .val (.ref b17), .unset] [(.long (f1 (p3 &&& (7 : Int32)) q0 q1 q2)), (.ref b17)])) rfl (by rw [hml]; rfl) (Steps.refl _) (argsL := [(.long (f1 (p3 &&& (7 : Int32)) q0 q1 q2))]) (rest := []) (lenOf pd_3 rfl) rfl (by show 2 * 0 + _ ≤ _; exact Nat.le_of_eq rfl) (hb hby at_67) (fun _ _ => ⟨rfl, rfl, (by decide : 1 + 0 ≤ _), (by decide : 4 + 0 ≤ _)⟩)
      dsimp only [Pt.U, Pt.locs, Pt.cells, Pt.slots] at X19 l19 y19 z19 st19 hQ19
      subst l19 y19 z19
      obtain ⟨rfl, N19q, hh19⟩ := hQ19
      have N19 := Fr.app N18 N19q
      refine own_of (fun _ k => st19.trans k) ?_
      show own_Out p e below _ (T19.setTop (mkF m 70 #[.val (.long q0), .second, .val (.long q1), .second, .val (.long q2), .second, .val (.int p3), .val (.int (1 : Int32)), .val (.int (0 : Int32)), .val (.int (p3 &&& (7 : Int32))), .val (.long (f1 (p3 &&& (7 : Int32)) q0 q1 q2)), .second, .val (.ref b17), .unset] [(.int (f5 (f1 (p3 &&& (7 : Int32)) q0 q1 q2) q0 ((1 : Int32) &&& 1) q1 ((0 : Int32) &&& 1)))]))
      refine own_of (fun _ k => XS.istore X19.here hx rfl (hb hby at_70) rfl (l' := #[.val (.long q0), .second, .val (.long q1), .second, .val (.long q2), .second, .val (.int p3), .val (.int (1 : Int32)), .val (.int (0 : Int32)), .val (.int (p3 &&& (7 : Int32))), .val (.long (f1 (p3 &&& (7 : Int32)) q0 q1 q2)), .second, .val (.ref b17), .val (.int (f5 (f1 (p3 &&& (7 : Int32)) q0 q1 q2) q0 ((1 : Int32) &&& 1) q1 ((0 : Int32) &&& 1)))]) rfl k) ?_
      show own_Out p e below _ (T19.setTop (mkF m 72 #[.val (.long q0), .second, .val (.long q1), .second, .val (.long q2), .second, .val (.int p3), .val (.int (1 : Int32)), .val (.int (0 : Int32)), .val (.int (p3 &&& (7 : Int32))), .val (.long (f1 (p3 &&& (7 : Int32)) q0 q1 q2)), .second, .val (.ref b17), .val (.int (f5 (f1 (p3 &&& (7 : Int32)) q0 q1 q2) q0 ((1 : Int32) &&& 1) q1 ((0 : Int32) &&& 1)))] []))
      refine own_of (fun _ k => XS.iload X19.here hx rfl (hb hby at_72) rfl k) ?_
      show own_Out p e below _ (T19.setTop (mkF m 74 #[.val (.long q0), .second, .val (.long q1), .second, .val (.long q2), .second, .val (.int p3), .val (.int (1 : Int32)), .val (.int (0 : Int32)), .val (.int (p3 &&& (7 : Int32))), .val (.long (f1 (p3 &&& (7 : Int32)) q0 q1 q2)), .second, .val (.ref b17), .val (.int (f5 (f1 (p3 &&& (7 : Int32)) q0 q1 q2) q0 ((1 : Int32) &&& 1) q1 ((0 : Int32) &&& 1)))] [(.int (f5 (f1 (p3 &&& (7 : Int32)) q0 q1 q2) q0 ((1 : Int32) &&& 1) q1 ((0 : Int32) &&& 1)))]))
      refine own_of (fun _ k => XS.lloadN X19.here hx rfl (hb hby at_74) rfl k) ?_
      show own_Out p e below _ (T19.setTop (mkF m 75 #[.val (.long q0), .second, .val (.long q1), .second, .val (.long q2), .second, .val (.int p3), .val (.int (1 : Int32)), .val (.int (0 : Int32)), .val (.int (p3 &&& (7 : Int32))), .val (.long (f1 (p3 &&& (7 : Int32)) q0 q1 q2)), .second, .val (.ref b17), .val (.int (f5 (f1 (p3 &&& (7 : Int32)) q0 q1 q2) q0 ((1 : Int32) &&& 1) q1 ((0 : Int32) &&& 1)))] [(.long q0), (.int (f5 (f1 (p3 &&& (7 : Int32)) q0 q1 q2) q0 ((1 : Int32) &&& 1) q1 ((0 : Int32) &&& 1)))]))
      refine own_of (fun _ k => XS.iload X19.here hx rfl (hb hby at_75) rfl k) ?_
      show own_Out p e below _ (T19.setTop (mkF m 77 #[.val (.long q0), .second, .val (.long q1), .second, .val (.long q2), .second, .val (.int p3), .val (.int (1 : Int32)), .val (.int (0 : Int32)), .val (.int (p3 &&& (7 : Int32))), .val (.long (f1 (p3 &&& (7 : Int32)) q0 q1 q2)), .second, .val (.ref b17), .val (.int (f5 (f1 (p3 &&& (7 : Int32)) q0 q1 q2) q0 ((1 : Int32) &&& 1) q1 ((0 : Int32) &&& 1)))] [(.int (1 : Int32)), (.long q0), (.int (f5 (f1 (p3 &&& (7 : Int32)) q0 q1 q2) q0 ((1 : Int32) &&& 1) q1 ((0 : Int32) &&& 1)))]))
      refine own_of (fun _ k => XS.lloadN X19.here hx rfl (hb hby at_77) rfl k) ?_
      show own_Out p e below _ (T19.setTop (mkF m 78 #[.val (.long q0), .second, .val (.long q1), .second, .val (.long q2), .second, .val (.int p3), .val (.int (1 : Int32)), .val (.int (0 : Int32)), .val (.int (p3 &&& (7 : Int32))), .val (.long (f1 (p3 &&& (7 : Int32)) q0 q1 q2)), .second, .val (.ref b17), .val (.int (f5 (f1 (p3 &&& (7 : Int32)) q0 q1 q2) q0 ((1 : Int32) &&& 1) q1 ((0 : Int32) &&& 1)))] [(.long q1), (.int (1 : Int32)), (.long q0), (.int (f5 (f1 (p3 &&& (7 : Int32)) q0 q1 q2) q0 ((1 : Int32) &&& 1) q1 ((0 : Int32) &&& 1)))]))
      refine own_of (fun _ k => XS.iload X19.here hx rfl (hb hby at_78) rfl k) ?_
      show own_Out p e below _ (T19.setTop (mkF m 80 #[.val (.long q0), .second, .val (.long q1), .second, .val (.long q2), .second, .val (.int p3), .val (.int (1 : Int32)), .val (.int (0 : Int32)), .val (.int (p3 &&& (7 : Int32))), .val (.long (f1 (p3 &&& (7 : Int32)) q0 q1 q2)), .second, .val (.ref b17), .val (.int (f5 (f1 (p3 &&& (7 : Int32)) q0 q1 q2) q0 ((1 : Int32) &&& 1) q1 ((0 : Int32) &&& 1)))] [(.int (0 : Int32)), (.long q1), (.int (1 : Int32)), (.long q0), (.int (f5 (f1 (p3 &&& (7 : Int32)) q0 q1 q2) q0 ((1 : Int32) &&& 1) q1 ((0 : Int32) &&& 1)))]))
      refine own_of (fun _ k => XS.lload X19.here hx rfl (hb hby at_80) rfl k) ?_
      show own_Out p e below _ (T19.setTop (mkF m 82 #[.val (.long q0), .second, .val (.long q1), .second, .val (.long q2), .second, .val (.int p3), .val (.int (1 : Int32)), .val (.int (0 : Int32)), .val (.int (p3 &&& (7 : Int32))), .val (.long (f1 (p3 &&& (7 : Int32)) q0 q1 q2)), .second, .val (.ref b17), .val (.int (f5 (f1 (p3 &&& (7 : Int32)) q0 q1 q2) q0 ((1 : Int32) &&& 1) q1 ((0 : Int32) &&& 1)))] [(.long (f1 (p3 &&& (7 : Int32)) q0 q1 q2)), (.int (0 : Int32)), (.long q1), (.int (1 : Int32)), (.long q0), (.int (f5 (f1 (p3 &&& (7 : Int32)) q0 q1 q2) q0 ((1 : Int32) &&& 1) q1 ((0 : Int32) &&& 1)))]))
      obtain ⟨_, _, ⟨T20, L20, k20, n20⟩, -, X20, ⟨Lc20, hQ20, l20, y20, z20⟩, st20⟩ := Jvm.LawKit.callS X19 hx (y := (⟨"com/example/headway/headway/engine/IntervalContainsPinLaw", "expected", "(JZJZJ)Z"⟩ : MethodName)) hown (mvT hZ (hw _ (List.mem_of_getElem? (i := 31) rfl))) (mvT hZ (hw _ (List.mem_of_getElem? (i := 32) rfl))) (mvT hZ (hw _ (List.mem_of_getElem? (i := 2) rfl))) (mvT hZ (hw _ (List.mem_of_getElem? (i := 33) rfl))) (by decide) (backOf (W := 1) (rm6 l Z a0 hw [] q0 (1 : Int32) q1 (0 : Int32) (f1 (p3 &&& (7 : Int32)) q0 q1 q2) T18.heap n0 Zl18 ) hZ (hw _ (List.mem_of_getElem? (i := 33) rfl)) (hw _ (List.mem_of_getElem? (i := 2) rfl)) (by decide) (by decide)) (g := (mkF m 82 #[.val (.long q0), .second, .val (.long q1), .second, .val (.long q2), .second, .val (.int p3), .val (.int (1 : Int32)), .val (.int (0 : Int32)), .val (.int (p3 &&& (7 : Int32))), .val (.long (f1 (p3 &&& (7 : Int32)) q0 q1 q2)), .second, .val (.ref b17), .val (.int (f5 (f1 (p3 &&& (7 : Int32)) q0 q1 q2) q0 ((1 : Int32) &&& 1) q1 ((0 : Int32) &&& 1)))] [(.long (f1 (p3 &&& (7 : Int32)) q0 q1 q2)), (.int (0 : Int32)), (.long q1), (.int (1 : Int32)), (.long q0), (.int (f5 (f1 (p3 &&& (7 : Int32)) q0 q1 q2) q0 ((1 : Int32) &&& 1) q1 ((0 : Int32) &&& 1)))])) rfl (by rw [hml]; rfl) (argsL := [(.long q0), (.int (1 : Int32)), (.long q1), (.int (0 : Int32)), (.long (f1 (p3 &&& (7 : Int32)) q0 q1 q2))]) (rest := [(.int (f5 (f1 (p3 &&& (7 : Int32)) q0 q1 q2) q0 ((1 : Int32) &&& 1) q1 ((0 : Int32) &&& 1)))]) (lenOf pd_4 rfl) rfl (by show 2 * 0 + _ ≤ _; exact Nat.le_of_eq rfl) (hb hby at_82) (fun _ _ => ⟨rfl, hh19, (by decide : 1 + 0 ≤ _), (by decide : 4 + 0 ≤ _)⟩)
      dsimp only [Pt.U, Pt.locs, Pt.cells, Pt.slots] at X20 l20 y20 z20 st20 hQ20
      subst l20 y20 z20
      obtain ⟨rfl, N20q, hh20⟩ := hQ20
      have N20 := Fr.app N19 N20q
      refine own_of st20 ?_
      show own_Out p e below _ (T20.setTop (mkF m 85 #[.val (.long q0), .second, .val (.long q1), .second, .val (.long q2), .second, .val (.int p3), .val (.int (1 : Int32)), .val (.int (0 : Int32)), .val (.int (p3 &&& (7 : Int32))), .val (.long (f1 (p3 &&& (7 : Int32)) q0 q1 q2)), .second, .val (.ref b17), .val (.int (f5 (f1 (p3 &&& (7 : Int32)) q0 q1 q2) q0 ((1 : Int32) &&& 1) q1 ((0 : Int32) &&& 1)))] [(.int (f6 q0 (1 : Int32) q1 (0 : Int32) (f1 (p3 &&& (7 : Int32)) q0 q1 q2))), (.int (f5 (f1 (p3 &&& (7 : Int32)) q0 q1 q2) q0 ((1 : Int32) &&& 1) q1 ((0 : Int32) &&& 1)))]))
      by_cases hc85_21 : (f5 (f1 (p3 &&& (7 : Int32)) q0 q1 q2) q0 ((1 : Int32) &&& 1) q1 ((0 : Int32) &&& 1)) = (f6 q0 (1 : Int32) q1 (0 : Int32) (f1 (p3 &&& (7 : Int32)) q0 q1 q2))
      · skip
        refine own_of (fun _ k => XS.icmpNo X20.here hx rfl (hb hby at_85) rfl (teq hc85_21).2 k) ?_
        show own_Out p e below _ (T20.setTop (mkF m 88 #[.val (.long q0), .second, .val (.long q1), .second, .val (.long q2), .second, .val (.int p3), .val (.int (1 : Int32)), .val (.int (0 : Int32)), .val (.int (p3 &&& (7 : Int32))), .val (.long (f1 (p3 &&& (7 : Int32)) q0 q1 q2)), .second, .val (.ref b17), .val (.int (f5 (f1 (p3 &&& (7 : Int32)) q0 q1 q2) q0 ((1 : Int32) &&& 1) q1 ((0 : Int32) &&& 1)))] []))
        refine own_of (fun _ k => XS.iconst X20.here hx rfl (hb hby at_88) k) ?_
        show own_Out p e below _ (T20.setTop (mkF m 89 #[.val (.long q0), .second, .val (.long q1), .second, .val (.long q2), .second, .val (.int p3), .val (.int (1 : Int32)), .val (.int (0 : Int32)), .val (.int (p3 &&& (7 : Int32))), .val (.long (f1 (p3 &&& (7 : Int32)) q0 q1 q2)), .second, .val (.ref b17), .val (.int (f5 (f1 (p3 &&& (7 : Int32)) q0 q1 q2) q0 ((1 : Int32) &&& 1) q1 ((0 : Int32) &&& 1)))] [(.int (1 : Int32))]))
        refine own_of (fun _ k => XS.goto X20.here hx rfl (pc0 := 89) (pc' := 93) rfl (hb hby at_89) (by decide) (by decide) k) ?_
        show own_Out p e below _ (T20.setTop (mkF m 93 #[.val (.long q0), .second, .val (.long q1), .second, .val (.long q2), .second, .val (.int p3), .val (.int (1 : Int32)), .val (.int (0 : Int32)), .val (.int (p3 &&& (7 : Int32))), .val (.long (f1 (p3 &&& (7 : Int32)) q0 q1 q2)), .second, .val (.ref b17), .val (.int (f5 (f1 (p3 &&& (7 : Int32)) q0 q1 q2) q0 ((1 : Int32) &&& 1) q1 ((0 : Int32) &&& 1)))] [(.int (1 : Int32))]))
        exact own_outN X20 hx hlk (t := .boolean) hret (by simp) (hb hby at_93) (z' := (1 : Int32)) rfl (Q := Q0 Z q0 q1 q2 p3 h0 n0) ⟨rfl, N20⟩ (by decide) (by decide)
      · skip
        refine own_of (fun _ k => XS.icmpYes X20.here hx rfl (pc0 := 85) (pc' := 92) rfl (hb hby at_85) rfl (feq hc85_21).2 (by decide) (by decide) k) ?_
        show own_Out p e below _ (T20.setTop (mkF m 92 #[.val (.long q0), .second, .val (.long q1), .second, .val (.long q2), .second, .val (.int p3), .val (.int (1 : Int32)), .val (.int (0 : Int32)), .val (.int (p3 &&& (7 : Int32))), .val (.long (f1 (p3 &&& (7 : Int32)) q0 q1 q2)), .second, .val (.ref b17), .val (.int (f5 (f1 (p3 &&& (7 : Int32)) q0 q1 q2) q0 ((1 : Int32) &&& 1) q1 ((0 : Int32) &&& 1)))] []))
        refine own_of (fun _ k => XS.iconst X20.here hx rfl (hb hby at_92) k) ?_
        show own_Out p e below _ (T20.setTop (mkF m 93 #[.val (.long q0), .second, .val (.long q1), .second, .val (.long q2), .second, .val (.int p3), .val (.int (1 : Int32)), .val (.int (0 : Int32)), .val (.int (p3 &&& (7 : Int32))), .val (.long (f1 (p3 &&& (7 : Int32)) q0 q1 q2)), .second, .val (.ref b17), .val (.int (f5 (f1 (p3 &&& (7 : Int32)) q0 q1 q2) q0 ((1 : Int32) &&& 1) q1 ((0 : Int32) &&& 1)))] [(.int (0 : Int32))]))
        exact (dead0_2 q0 q1 q2 p3 hc5_1 hc20_15 hc85_21).elim
    · skip
      refine own_of (fun _ k => XS.ifNo X0.here hx rfl (hb hby at_20) rfl ((if0 _ _).trans (feq hc20_15).1) k) ?_
      show own_Out p e below _ (s₁.setTop (mkF m 23 #[.val (.long q0), .second, .val (.long q1), .second, .val (.long q2), .second, .val (.int p3), .val (.int (1 : Int32)), .unset, .unset, .unset, .unset, .unset, .unset] []))
      refine own_of (fun _ k => XS.iconst X0.here hx rfl (hb hby at_23) k) ?_
      show own_Out p e below _ (s₁.setTop (mkF m 24 #[.val (.long q0), .second, .val (.long q1), .second, .val (.long q2), .second, .val (.int p3), .val (.int (1 : Int32)), .unset, .unset, .unset, .unset, .unset, .unset] [(.int (1 : Int32))]))
      refine own_of (fun _ k => XS.goto X0.here hx rfl (pc0 := 24) (pc' := 28) rfl (hb hby at_24) (by decide) (by decide) k) ?_
      show own_Out p e below _ (s₁.setTop (mkF m 28 #[.val (.long q0), .second, .val (.long q1), .second, .val (.long q2), .second, .val (.int p3), .val (.int (1 : Int32)), .unset, .unset, .unset, .unset, .unset, .unset] [(.int (1 : Int32))]))
      refine own_of (fun _ k => XS.istore X0.here hx rfl (hb hby at_28) rfl (l' := #[.val (.long q0), .second, .val (.long q1), .second, .val (.long q2), .second, .val (.int p3), .val (.int (1 : Int32)), .val (.int (1 : Int32)), .unset, .unset, .unset, .unset, .unset]) rfl k) ?_
      show own_Out p e below _ (s₁.setTop (mkF m 30 #[.val (.long q0), .second, .val (.long q1), .second, .val (.long q2), .second, .val (.int p3), .val (.int (1 : Int32)), .val (.int (1 : Int32)), .unset, .unset, .unset, .unset, .unset] []))
      refine own_of (fun _ k => XS.iload X0.here hx rfl (hb hby at_30) rfl k) ?_
      show own_Out p e below _ (s₁.setTop (mkF m 32 #[.val (.long q0), .second, .val (.long q1), .second, .val (.long q2), .second, .val (.int p3), .val (.int (1 : Int32)), .val (.int (1 : Int32)), .unset, .unset, .unset, .unset, .unset] [(.int p3)]))
      refine own_of (fun _ k => XS.bipush X0.here hx rfl (hb hby at_32) k) ?_
      show own_Out p e below _ (s₁.setTop (mkF m 34 #[.val (.long q0), .second, .val (.long q1), .second, .val (.long q2), .second, .val (.int p3), .val (.int (1 : Int32)), .val (.int (1 : Int32)), .unset, .unset, .unset, .unset, .unset] [(.int (7 : Int32)), (.int p3)]))
      refine own_of (fun _ k => XS.iand X0.here hx rfl (hb hby at_34) rfl k) ?_
      show own_Out p e below _ (s₁.setTop (mkF m 35 #[.val (.long q0), .second, .val (.long q1), .second, .val (.long q2), .second, .val (.int p3), .val (.int (1 : Int32)), .val (.int (1 : Int32)), .unset, .unset, .unset, .unset, .unset] [(.int (p3 &&& (7 : Int32)))]))
      refine own_of (fun _ k => XS.istore X0.here hx rfl (hb hby at_35) rfl (l' := #[.val (.long q0), .second, .val (.long q1), .second, .val (.long q2), .second, .val (.int p3), .val (.int (1 : Int32)), .val (.int (1 : Int32)), .val (.int (p3 &&& (7 : Int32))), .unset, .unset, .unset, .unset]) rfl k) ?_
      show own_Out p e below _ (s₁.setTop (mkF m 37 #[.val (.long q0), .second, .val (.long q1), .second, .val (.long q2), .second, .val (.int p3), .val (.int (1 : Int32)), .val (.int (1 : Int32)), .val (.int (p3 &&& (7 : Int32))), .unset, .unset, .unset, .unset] []))
      refine own_of (fun _ k => XS.iload X0.here hx rfl (hb hby at_37) rfl k) ?_
      show own_Out p e below _ (s₁.setTop (mkF m 39 #[.val (.long q0), .second, .val (.long q1), .second, .val (.long q2), .second, .val (.int p3), .val (.int (1 : Int32)), .val (.int (1 : Int32)), .val (.int (p3 &&& (7 : Int32))), .unset, .unset, .unset, .unset] [(.int (p3 &&& (7 : Int32)))]))
      refine own_of (fun _ k => XS.lloadN X0.here hx rfl (hb hby at_39) rfl k) ?_
      show own_Out p e below _ (s₁.setTop (mkF m 40 #[.val (.long q0), .second, .val (.long q1), .second, .val (.long q2), .second, .val (.int p3), .val (.int (1 : Int32)), .val (.int (1 : Int32)), .val (.int (p3 &&& (7 : Int32))), .unset, .unset, .unset, .unset] [(.long q0), (.int (p3 &&& (7 : Int32)))]))
      refine own_of (fun _ k => XS.lloadN X0.here hx rfl (hb hby at_40) rfl k) ?_
      show own_Out p e below _ (s₁.setTop (mkF m 41 #[.val (.long q0), .second, .val (.long q1), .second, .val (.long q2), .second, .val (.int p3), .val (.int (1 : Int32)), .val (.int (1 : Int32)), .val (.int (p3 &&& (7 : Int32))), .unset, .unset, .unset, .unset] [(.long q1), (.long q0), (.int (p3 &&& (7 : Int32)))]))
      refine own_of (fun _ k => XS.lload X0.here hx rfl (hb hby at_41) rfl k) ?_
      show own_Out p e below _ (s₁.setTop (mkF m 43 #[.val (.long q0), .second, .val (.long q1), .second, .val (.long q2), .second, .val (.int p3), .val (.int (1 : Int32)), .val (.int (1 : Int32)), .val (.int (p3 &&& (7 : Int32))), .unset, .unset, .unset, .unset] [(.long q2), (.long q1), (.long q0), (.int (p3 &&& (7 : Int32)))]))
      obtain ⟨_, _, ⟨T22, L22, k22, n22⟩, -, X22, ⟨Lc22, hQ22, l22, y22, z22⟩, st22⟩ := Jvm.LawKit.callS X0 hx (y := (⟨"com/example/headway/headway/engine/IntervalContainsPinLaw", "pick", "(IJJJ)J"⟩ : MethodName)) hown (mvT hZ (hw _ (List.mem_of_getElem? (i := 0) rfl))) (mvT hZ (hw _ (List.mem_of_getElem? (i := 1) rfl))) (mvT hZ (hw _ (List.mem_of_getElem? (i := 2) rfl))) (mvT hZ (hw _ (List.mem_of_getElem? (i := 3) rfl))) (by decide) (backOf (W := 0) (rm1 l Z a0 hw [] (p3 &&& (7 : Int32)) q0 q1 q2 h0 n0 Z0 ) hZ (hw _ (List.mem_of_getElem? (i := 3) rfl)) (hw _ (List.mem_of_getElem? (i := 2) rfl)) (by decide) (by decide)) (g := (mkF m 43 #[.val (.long q0), .second, .val (.long q1), .second, .val (.long q2), .second, .val (.int p3), .val (.int (1 : Int32)), .val (.int (1 : Int32)), .val (.int (p3 &&& (7 : Int32))), .unset, .unset, .unset, .unset] [(.long q2), (.long q1), (.long q0), (.int (p3 &&& (7 : Int32)))])) rfl (by rw [hml]; rfl) (argsL := [(.int (p3 &&& (7 : Int32))), (.long q0), (.long q1), (.long q2)]) (rest := []) (lenOf pd_1 rfl) rfl (by show 2 * 0 + _ ≤ _; exact Nat.le_of_eq rfl) (hb hby at_43) (fun _ _ => ⟨rfl, e0, (by decide : 0 + 0 ≤ _), (by decide : 0 + 0 ≤ _)⟩)
      dsimp only [Pt.U, Pt.locs, Pt.cells, Pt.slots] at X22 l22 y22 z22 st22 hQ22
      subst l22 y22 z22
      obtain ⟨rfl, N22q, hh22⟩ := hQ22
      have N22 := Fr.app N0 N22q
      refine own_of st22 ?_
      show own_Out p e below _ (T22.setTop (mkF m 46 #[.val (.long q0), .second, .val (.long q1), .second, .val (.long q2), .second, .val (.int p3), .val (.int (1 : Int32)), .val (.int (1 : Int32)), .val (.int (p3 &&& (7 : Int32))), .unset, .unset, .unset, .unset] [(.long (f1 (p3 &&& (7 : Int32)) q0 q1 q2))]))
      refine own_of (fun _ k => XS.lstore X22.here hx rfl (hb hby at_46) rfl (l' := #[.val (.long q0), .second, .val (.long q1), .second, .val (.long q2), .second, .val (.int p3), .val (.int (1 : Int32)), .val (.int (1 : Int32)), .val (.int (p3 &&& (7 : Int32))), .val (.long (f1 (p3 &&& (7 : Int32)) q0 q1 q2)), .second, .unset, .unset]) rfl k) ?_
      show own_Out p e below _ (T22.setTop (mkF m 48 #[.val (.long q0), .second, .val (.long q1), .second, .val (.long q2), .second, .val (.int p3), .val (.int (1 : Int32)), .val (.int (1 : Int32)), .val (.int (p3 &&& (7 : Int32))), .val (.long (f1 (p3 &&& (7 : Int32)) q0 q1 q2)), .second, .unset, .unset] []))
      obtain ⟨T23, h23, X23, e23, E23, A23, D23, -, st23⟩ := newO X22 hx hZ hown (hw _ (List.mem_of_getElem? (i := 4) rfl)) (hw _ (List.mem_of_getElem? (i := 5) rfl)) (hw _ (List.mem_of_getElem? (i := 6) rfl)) hh22 (g := (mkF m 48 #[.val (.long q0), .second, .val (.long q1), .second, .val (.long q2), .second, .val (.int p3), .val (.int (1 : Int32)), .val (.int (1 : Int32)), .val (.int (p3 &&& (7 : Int32))), .val (.long (f1 (p3 &&& (7 : Int32)) q0 q1 q2)), .second, .unset, .unset] [])) rfl (hb hby at_48) (by decide) (by decide)
      obtain ⟨b23, g23⟩ : ∃ z, z = h0.size := ⟨_, rfl⟩
      rw [← g23] at A23 D23 st23
      have g_b23 : n0 ≤ b23 := Nat.le_trans Z0 (Nat.le_of_eq g23.symm)
      have Zl23 : n0 ≤ h23.size := Nat.le_trans Z0 E23.1
      have F_b23_low : Fld Z h23 b23 "com/example/headway/headway/engine/Interval" "low" "J" (.long (0 : Int64)) := D23 (Or.inr (hw _ (List.mem_of_getElem? (i := 19) rfl))) (ty := .long) (by decide)
      have F_b23_lowPasses : Fld Z h23 b23 "com/example/headway/headway/engine/Interval" "lowPasses" "Z" (.int (0 : Int32)) := D23 (Or.inr (hw _ (List.mem_of_getElem? (i := 21) rfl))) (ty := .boolean) (by decide)
      have F_b23_high : Fld Z h23 b23 "com/example/headway/headway/engine/Interval" "high" "J" (.long (0 : Int64)) := D23 (Or.inr (hw _ (List.mem_of_getElem? (i := 23) rfl))) (ty := .long) (by decide)
      have F_b23_highPasses : Fld Z h23 b23 "com/example/headway/headway/engine/Interval" "highPasses" "Z" (.int (0 : Int32)) := D23 (Or.inr (hw _ (List.mem_of_getElem? (i := 25) rfl))) (ty := .boolean) (by decide)
      refine own_of st23 ?_
      show own_Out p e below _ (T23.setTop (mkF m 51 #[.val (.long q0), .second, .val (.long q1), .second, .val (.long q2), .second, .val (.int p3), .val (.int (1 : Int32)), .val (.int (1 : Int32)), .val (.int (p3 &&& (7 : Int32))), .val (.long (f1 (p3 &&& (7 : Int32)) q0 q1 q2)), .second, .unset, .unset] [(.ref b23)]))
      refine own_of (fun _ k => XS.dup X23.here hx rfl (hb hby at_51) rfl rfl k) ?_
      show own_Out p e below _ (T23.setTop (mkF m 52 #[.val (.long q0), .second, .val (.long q1), .second, .val (.long q2), .second, .val (.int p3), .val (.int (1 : Int32)), .val (.int (1 : Int32)), .val (.int (p3 &&& (7 : Int32))), .val (.long (f1 (p3 &&& (7 : Int32)) q0 q1 q2)), .second, .unset, .unset] [(.ref b23), (.ref b23)]))
      refine own_of (fun _ k => XS.lloadN X23.here hx rfl (hb hby at_52) rfl k) ?_
      show own_Out p e below _ (T23.setTop (mkF m 53 #[.val (.long q0), .second, .val (.long q1), .second, .val (.long q2), .second, .val (.int p3), .val (.int (1 : Int32)), .val (.int (1 : Int32)), .val (.int (p3 &&& (7 : Int32))), .val (.long (f1 (p3 &&& (7 : Int32)) q0 q1 q2)), .second, .unset, .unset] [(.long q0), (.ref b23), (.ref b23)]))
      refine own_of (fun _ k => XS.iload X23.here hx rfl (hb hby at_53) rfl k) ?_
      show own_Out p e below _ (T23.setTop (mkF m 55 #[.val (.long q0), .second, .val (.long q1), .second, .val (.long q2), .second, .val (.int p3), .val (.int (1 : Int32)), .val (.int (1 : Int32)), .val (.int (p3 &&& (7 : Int32))), .val (.long (f1 (p3 &&& (7 : Int32)) q0 q1 q2)), .second, .unset, .unset] [(.int (1 : Int32)), (.long q0), (.ref b23), (.ref b23)]))
      refine own_of (fun _ k => XS.lloadN X23.here hx rfl (hb hby at_55) rfl k) ?_
      show own_Out p e below _ (T23.setTop (mkF m 56 #[.val (.long q0), .second, .val (.long q1), .second, .val (.long q2), .second, .val (.int p3), .val (.int (1 : Int32)), .val (.int (1 : Int32)), .val (.int (p3 &&& (7 : Int32))), .val (.long (f1 (p3 &&& (7 : Int32)) q0 q1 q2)), .second, .unset, .unset] [(.long q1), (.int (1 : Int32)), (.long q0), (.ref b23), (.ref b23)]))
      refine own_of (fun _ k => XS.iload X23.here hx rfl (hb hby at_56) rfl k) ?_
      show own_Out p e below _ (T23.setTop (mkF m 58 #[.val (.long q0), .second, .val (.long q1), .second, .val (.long q2), .second, .val (.int p3), .val (.int (1 : Int32)), .val (.int (1 : Int32)), .val (.int (p3 &&& (7 : Int32))), .val (.long (f1 (p3 &&& (7 : Int32)) q0 q1 q2)), .second, .unset, .unset] [(.int (1 : Int32)), (.long q1), (.int (1 : Int32)), (.long q0), (.ref b23), (.ref b23)]))
      obtain ⟨_, _, ⟨T24, L24, k24, n24⟩, -, X24, ⟨Lc24, hQ24, l24, y24, z24⟩, st24⟩ := X23.specialBack hx (y := (⟨"com/example/headway/headway/engine/Interval", "<init>", "(JZJZ)V"⟩ : MethodName)) rfl hown (mvT hZ (hw _ (List.mem_of_getElem? (i := 7) rfl))) (mvT hZ (hw _ (List.mem_of_getElem? (i := 8) rfl))) (mvT hZ (hw _ (List.mem_of_getElem? (i := 9) rfl))) (by decide) (backOf (W := 1) (rm2 l Z a0 hw [] b23 q0 (1 : Int32) q1 (1 : Int32) h23 n0 Zl23 A23 F_b23_low F_b23_lowPasses F_b23_high F_b23_highPasses g_b23) hZ (hw _ (List.mem_of_getElem? (i := 9) rfl)) (hw _ (List.mem_of_getElem? (i := 6) rfl)) (by decide) (by decide)) (g := (mkF m 58 #[.val (.long q0), .second, .val (.long q1), .second, .val (.long q2), .second, .val (.int p3), .val (.int (1 : Int32)), .val (.int (1 : Int32)), .val (.int (p3 &&& (7 : Int32))), .val (.long (f1 (p3 &&& (7 : Int32)) q0 q1 q2)), .second, .unset, .unset] [(.int (1 : Int32)), (.long q1), (.int (1 : Int32)), (.long q0), (.ref b23), (.ref b23)])) rfl (by rw [hml]; rfl) (Steps.refl _) (a := b23) (argsL := [(.long q0), (.int (1 : Int32)), (.long q1), (.int (1 : Int32))]) (rest := [(.ref b23)]) (lenOf pd_2 rfl) rfl (by show 2 * 0 + _ ≤ _; exact Nat.le_of_eq rfl) (hb hby at_58) (fun _ _ => ⟨rfl, e23, (by decide : 1 + 0 ≤ _), (by decide : 4 + 0 ≤ _)⟩)
      dsimp only [Pt.U, Pt.locs, Pt.cells, Pt.slots] at X24 l24 y24 z24 st24 hQ24
      subst l24 y24 z24
      obtain ⟨rfl, N24q, K24, E24, F24_low, F24_lowPasses, F24_high, F24_highPasses⟩ := hQ24
      have N24 := Fr.app N22 N24q
      have Zl24 : n0 ≤ T24.heap.size := Nat.le_trans Zl23 K24.1
      refine own_of (fun _ k => st24.trans k) ?_
      show own_Out p e below _ (T24.setTop (mkF m 61 #[.val (.long q0), .second, .val (.long q1), .second, .val (.long q2), .second, .val (.int p3), .val (.int (1 : Int32)), .val (.int (1 : Int32)), .val (.int (p3 &&& (7 : Int32))), .val (.long (f1 (p3 &&& (7 : Int32)) q0 q1 q2)), .second, .unset, .unset] [(.ref b23)]))
      refine own_of (fun _ k => XS.astore X24.here hx rfl (hb hby at_61) rfl rfl (l' := #[.val (.long q0), .second, .val (.long q1), .second, .val (.long q2), .second, .val (.int p3), .val (.int (1 : Int32)), .val (.int (1 : Int32)), .val (.int (p3 &&& (7 : Int32))), .val (.long (f1 (p3 &&& (7 : Int32)) q0 q1 q2)), .second, .val (.ref b23), .unset]) rfl k) ?_
      show own_Out p e below _ (T24.setTop (mkF m 63 #[.val (.long q0), .second, .val (.long q1), .second, .val (.long q2), .second, .val (.int p3), .val (.int (1 : Int32)), .val (.int (1 : Int32)), .val (.int (p3 &&& (7 : Int32))), .val (.long (f1 (p3 &&& (7 : Int32)) q0 q1 q2)), .second, .val (.ref b23), .unset] []))
      refine own_of (fun _ k => XS.aload X24.here hx rfl (hb hby at_63) rfl rfl k) ?_
      show own_Out p e below _ (T24.setTop (mkF m 65 #[.val (.long q0), .second, .val (.long q1), .second, .val (.long q2), .second, .val (.int p3), .val (.int (1 : Int32)), .val (.int (1 : Int32)), .val (.int (p3 &&& (7 : Int32))), .val (.long (f1 (p3 &&& (7 : Int32)) q0 q1 q2)), .second, .val (.ref b23), .unset] [(.ref b23)]))
      refine own_of (fun _ k => XS.lload X24.here hx rfl (hb hby at_65) rfl k) ?_
      show own_Out p e below _ (T24.setTop (mkF m 67 #[.val (.long q0), .second, .val (.long q1), .second, .val (.long q2), .second, .val (.int p3), .val (.int (1 : Int32)), .val (.int (1 : Int32)), .val (.int (p3 &&& (7 : Int32))), .val (.long (f1 (p3 &&& (7 : Int32)) q0 q1 q2)), .second, .val (.ref b23), .unset] [(.long (f1 (p3 &&& (7 : Int32)) q0 q1 q2)), (.ref b23)]))
      obtain ⟨cq25, kq25, q25a, q25b, q25c⟩ := isOf hZ rfl E24
      obtain ⟨_, _, ⟨T25, L25, k25, n25⟩, -, X25, ⟨Lc25, hQ25, l25, y25, z25⟩, st25⟩ := X24.virtualBack hx (y := (⟨"com/example/headway/headway/engine/Interval", "contains", "(J)Z"⟩ : MethodName)) (z := (⟨"com/example/headway/headway/engine/Interval", "contains", "(J)Z"⟩ : MethodName)) hown (mvT hZ (hw _ (List.mem_of_getElem? (i := 26) rfl))) (mvT hZ (hw _ (List.mem_of_getElem? (i := 27) rfl))) (notFace_of_selects (args := #[]) (mvT hZ (hw _ (List.mem_of_getElem? (i := 29) rfl)))) (mvT hZ (hw _ (List.mem_of_getElem? (i := 29) rfl))) (mvT hZ (hw _ (List.mem_of_getElem? (i := 28) rfl))) (by decide) (backOf (W := 0) (rm5 l Z a0 hw [] b23 (f1 (p3 &&& (7 : Int32)) q0 q1 q2) q0 ((1 : Int32) &&& 1) q1 ((1 : Int32) &&& 1) T24.heap n0 Zl24 F24_low F24_lowPasses F24_high F24_highPasses) hZ (hw _ (List.mem_of_getElem? (i := 30) rfl)) (hw _ (List.mem_of_getElem? (i := 6) rfl)) (by decide) (by decide)) q25a q25c (g := (mkF m 67 #[.val (.long q0), .second, .val (.long q1), .second, .val (.long q2), .second, .val (.int p3), .val (.int (1 : Int32)), .val (.int (1 : Int32)), .val (.int (p3 &&& (7 : Int32))), .val (.long (f1 (p3 &&& (7 : Int32)) q0 q1 q2)), .second, .val (.ref b23), .unset] [(.long (f1 (p3 &&& (7 : Int32)) q0 q1 q2)), (.ref b23)])) rfl (by rw [hml]; rfl) (Steps.refl _) (argsL := [(.long (f1 (p3 &&& (7 : Int32)) q0 q1 q2))]) (rest := []) (lenOf pd_3 rfl) rfl (by show 2 * 0 + _ ≤ _; exact Nat.le_of_eq rfl) (hb hby at_67) (fun _ _ => ⟨rfl, rfl, (by decide : 1 + 0 ≤ _), (by decide : 4 + 0 ≤ _)⟩)
      dsimp only [Pt.U, Pt.locs, Pt.cells, Pt.slots] at X25 l25 y25 z25 st25 hQ25
      subst l25 y25 z25
      obtain ⟨rfl, N25q, hh25⟩ := hQ25
      have N25 := Fr.app N24 N25q
      refine own_of (fun _ k => st25.trans k) ?_
      show own_Out p e below _ (T25.setTop (mkF m 70 #[.val (.long q0), .second, .val (.long q1), .second, .val (.long q2), .second, .val (.int p3), .val (.int (1 : Int32)), .val (.int (1 : Int32)), .val (.int (p3 &&& (7 : Int32))), .val (.long (f1 (p3 &&& (7 : Int32)) q0 q1 q2)), .second, .val (.ref b23), .unset] [(.int (f5 (f1 (p3 &&& (7 : Int32)) q0 q1 q2) q0 ((1 : Int32) &&& 1) q1 ((1 : Int32) &&& 1)))]))
      refine own_of (fun _ k => XS.istore X25.here hx rfl (hb hby at_70) rfl (l' := #[.val (.long q0), .second, .val (.long q1), .second, .val (.long q2), .second, .val (.int p3), .val (.int (1 : Int32)), .val (.int (1 : Int32)), .val (.int (p3 &&& (7 : Int32))), .val (.long (f1 (p3 &&& (7 : Int32)) q0 q1 q2)), .second, .val (.ref b23), .val (.int (f5 (f1 (p3 &&& (7 : Int32)) q0 q1 q2) q0 ((1 : Int32) &&& 1) q1 ((1 : Int32) &&& 1)))]) rfl k) ?_
      show own_Out p e below _ (T25.setTop (mkF m 72 #[.val (.long q0), .second, .val (.long q1), .second, .val (.long q2), .second, .val (.int p3), .val (.int (1 : Int32)), .val (.int (1 : Int32)), .val (.int (p3 &&& (7 : Int32))), .val (.long (f1 (p3 &&& (7 : Int32)) q0 q1 q2)), .second, .val (.ref b23), .val (.int (f5 (f1 (p3 &&& (7 : Int32)) q0 q1 q2) q0 ((1 : Int32) &&& 1) q1 ((1 : Int32) &&& 1)))] []))
      refine own_of (fun _ k => XS.iload X25.here hx rfl (hb hby at_72) rfl k) ?_
      show own_Out p e below _ (T25.setTop (mkF m 74 #[.val (.long q0), .second, .val (.long q1), .second, .val (.long q2), .second, .val (.int p3), .val (.int (1 : Int32)), .val (.int (1 : Int32)), .val (.int (p3 &&& (7 : Int32))), .val (.long (f1 (p3 &&& (7 : Int32)) q0 q1 q2)), .second, .val (.ref b23), .val (.int (f5 (f1 (p3 &&& (7 : Int32)) q0 q1 q2) q0 ((1 : Int32) &&& 1) q1 ((1 : Int32) &&& 1)))] [(.int (f5 (f1 (p3 &&& (7 : Int32)) q0 q1 q2) q0 ((1 : Int32) &&& 1) q1 ((1 : Int32) &&& 1)))]))
      refine own_of (fun _ k => XS.lloadN X25.here hx rfl (hb hby at_74) rfl k) ?_
      show own_Out p e below _ (T25.setTop (mkF m 75 #[.val (.long q0), .second, .val (.long q1), .second, .val (.long q2), .second, .val (.int p3), .val (.int (1 : Int32)), .val (.int (1 : Int32)), .val (.int (p3 &&& (7 : Int32))), .val (.long (f1 (p3 &&& (7 : Int32)) q0 q1 q2)), .second, .val (.ref b23), .val (.int (f5 (f1 (p3 &&& (7 : Int32)) q0 q1 q2) q0 ((1 : Int32) &&& 1) q1 ((1 : Int32) &&& 1)))] [(.long q0), (.int (f5 (f1 (p3 &&& (7 : Int32)) q0 q1 q2) q0 ((1 : Int32) &&& 1) q1 ((1 : Int32) &&& 1)))]))
      refine own_of (fun _ k => XS.iload X25.here hx rfl (hb hby at_75) rfl k) ?_
      show own_Out p e below _ (T25.setTop (mkF m 77 #[.val (.long q0), .second, .val (.long q1), .second, .val (.long q2), .second, .val (.int p3), .val (.int (1 : Int32)), .val (.int (1 : Int32)), .val (.int (p3 &&& (7 : Int32))), .val (.long (f1 (p3 &&& (7 : Int32)) q0 q1 q2)), .second, .val (.ref b23), .val (.int (f5 (f1 (p3 &&& (7 : Int32)) q0 q1 q2) q0 ((1 : Int32) &&& 1) q1 ((1 : Int32) &&& 1)))] [(.int (1 : Int32)), (.long q0), (.int (f5 (f1 (p3 &&& (7 : Int32)) q0 q1 q2) q0 ((1 : Int32) &&& 1) q1 ((1 : Int32) &&& 1)))]))
      refine own_of (fun _ k => XS.lloadN X25.here hx rfl (hb hby at_77) rfl k) ?_
      show own_Out p e below _ (T25.setTop (mkF m 78 #[.val (.long q0), .second, .val (.long q1), .second, .val (.long q2), .second, .val (.int p3), .val (.int (1 : Int32)), .val (.int (1 : Int32)), .val (.int (p3 &&& (7 : Int32))), .val (.long (f1 (p3 &&& (7 : Int32)) q0 q1 q2)), .second, .val (.ref b23), .val (.int (f5 (f1 (p3 &&& (7 : Int32)) q0 q1 q2) q0 ((1 : Int32) &&& 1) q1 ((1 : Int32) &&& 1)))] [(.long q1), (.int (1 : Int32)), (.long q0), (.int (f5 (f1 (p3 &&& (7 : Int32)) q0 q1 q2) q0 ((1 : Int32) &&& 1) q1 ((1 : Int32) &&& 1)))]))
      refine own_of (fun _ k => XS.iload X25.here hx rfl (hb hby at_78) rfl k) ?_
      show own_Out p e below _ (T25.setTop (mkF m 80 #[.val (.long q0), .second, .val (.long q1), .second, .val (.long q2), .second, .val (.int p3), .val (.int (1 : Int32)), .val (.int (1 : Int32)), .val (.int (p3 &&& (7 : Int32))), .val (.long (f1 (p3 &&& (7 : Int32)) q0 q1 q2)), .second, .val (.ref b23), .val (.int (f5 (f1 (p3 &&& (7 : Int32)) q0 q1 q2) q0 ((1 : Int32) &&& 1) q1 ((1 : Int32) &&& 1)))] [(.int (1 : Int32)), (.long q1), (.int (1 : Int32)), (.long q0), (.int (f5 (f1 (p3 &&& (7 : Int32)) q0 q1 q2) q0 ((1 : Int32) &&& 1) q1 ((1 : Int32) &&& 1)))]))
      refine own_of (fun _ k => XS.lload X25.here hx rfl (hb hby at_80) rfl k) ?_
      show own_Out p e below _ (T25.setTop (mkF m 82 #[.val (.long q0), .second, .val (.long q1), .second, .val (.long q2), .second, .val (.int p3), .val (.int (1 : Int32)), .val (.int (1 : Int32)), .val (.int (p3 &&& (7 : Int32))), .val (.long (f1 (p3 &&& (7 : Int32)) q0 q1 q2)), .second, .val (.ref b23), .val (.int (f5 (f1 (p3 &&& (7 : Int32)) q0 q1 q2) q0 ((1 : Int32) &&& 1) q1 ((1 : Int32) &&& 1)))] [(.long (f1 (p3 &&& (7 : Int32)) q0 q1 q2)), (.int (1 : Int32)), (.long q1), (.int (1 : Int32)), (.long q0), (.int (f5 (f1 (p3 &&& (7 : Int32)) q0 q1 q2) q0 ((1 : Int32) &&& 1) q1 ((1 : Int32) &&& 1)))]))
      obtain ⟨_, _, ⟨T26, L26, k26, n26⟩, -, X26, ⟨Lc26, hQ26, l26, y26, z26⟩, st26⟩ := Jvm.LawKit.callS X25 hx (y := (⟨"com/example/headway/headway/engine/IntervalContainsPinLaw", "expected", "(JZJZJ)Z"⟩ : MethodName)) hown (mvT hZ (hw _ (List.mem_of_getElem? (i := 31) rfl))) (mvT hZ (hw _ (List.mem_of_getElem? (i := 32) rfl))) (mvT hZ (hw _ (List.mem_of_getElem? (i := 2) rfl))) (mvT hZ (hw _ (List.mem_of_getElem? (i := 33) rfl))) (by decide) (backOf (W := 1) (rm6 l Z a0 hw [] q0 (1 : Int32) q1 (1 : Int32) (f1 (p3 &&& (7 : Int32)) q0 q1 q2) T24.heap n0 Zl24 ) hZ (hw _ (List.mem_of_getElem? (i := 33) rfl)) (hw _ (List.mem_of_getElem? (i := 2) rfl)) (by decide) (by decide)) (g := (mkF m 82 #[.val (.long q0), .second, .val (.long q1), .second, .val (.long q2), .second, .val (.int p3), .val (.int (1 : Int32)), .val (.int (1 : Int32)), .val (.int (p3 &&& (7 : Int32))), .val (.long (f1 (p3 &&& (7 : Int32)) q0 q1 q2)), .second, .val (.ref b23), .val (.int (f5 (f1 (p3 &&& (7 : Int32)) q0 q1 q2) q0 ((1 : Int32) &&& 1) q1 ((1 : Int32) &&& 1)))] [(.long (f1 (p3 &&& (7 : Int32)) q0 q1 q2)), (.int (1 : Int32)), (.long q1), (.int (1 : Int32)), (.long q0), (.int (f5 (f1 (p3 &&& (7 : Int32)) q0 q1 q2) q0 ((1 : Int32) &&& 1) q1 ((1 : Int32) &&& 1)))])) rfl (by rw [hml]; rfl) (argsL := [(.long q0), (.int (1 : Int32)), (.long q1), (.int (1 : Int32)), (.long (f1 (p3 &&& (7 : Int32)) q0 q1 q2))]) (rest := [(.int (f5 (f1 (p3 &&& (7 : Int32)) q0 q1 q2) q0 ((1 : Int32) &&& 1) q1 ((1 : Int32) &&& 1)))]) (lenOf pd_4 rfl) rfl (by show 2 * 0 + _ ≤ _; exact Nat.le_of_eq rfl) (hb hby at_82) (fun _ _ => ⟨rfl, hh25, (by decide : 1 + 0 ≤ _), (by decide : 4 + 0 ≤ _)⟩)
      dsimp only [Pt.U, Pt.locs, Pt.cells, Pt.slots] at X26 l26 y26 z26 st26 hQ26
      subst l26 y26 z26
      obtain ⟨rfl, N26q, hh26⟩ := hQ26
      have N26 := Fr.app N25 N26q
      refine own_of st26 ?_
      show own_Out p e below _ (T26.setTop (mkF m 85 #[.val (.long q0), .second, .val (.long q1), .second, .val (.long q2), .second, .val (.int p3), .val (.int (1 : Int32)), .val (.int (1 : Int32)), .val (.int (p3 &&& (7 : Int32))), .val (.long (f1 (p3 &&& (7 : Int32)) q0 q1 q2)), .second, .val (.ref b23), .val (.int (f5 (f1 (p3 &&& (7 : Int32)) q0 q1 q2) q0 ((1 : Int32) &&& 1) q1 ((1 : Int32) &&& 1)))] [(.int (f6 q0 (1 : Int32) q1 (1 : Int32) (f1 (p3 &&& (7 : Int32)) q0 q1 q2))), (.int (f5 (f1 (p3 &&& (7 : Int32)) q0 q1 q2) q0 ((1 : Int32) &&& 1) q1 ((1 : Int32) &&& 1)))]))
      by_cases hc85_27 : (f5 (f1 (p3 &&& (7 : Int32)) q0 q1 q2) q0 ((1 : Int32) &&& 1) q1 ((1 : Int32) &&& 1)) = (f6 q0 (1 : Int32) q1 (1 : Int32) (f1 (p3 &&& (7 : Int32)) q0 q1 q2))
      · skip
        refine own_of (fun _ k => XS.icmpNo X26.here hx rfl (hb hby at_85) rfl (teq hc85_27).2 k) ?_
        show own_Out p e below _ (T26.setTop (mkF m 88 #[.val (.long q0), .second, .val (.long q1), .second, .val (.long q2), .second, .val (.int p3), .val (.int (1 : Int32)), .val (.int (1 : Int32)), .val (.int (p3 &&& (7 : Int32))), .val (.long (f1 (p3 &&& (7 : Int32)) q0 q1 q2)), .second, .val (.ref b23), .val (.int (f5 (f1 (p3 &&& (7 : Int32)) q0 q1 q2) q0 ((1 : Int32) &&& 1) q1 ((1 : Int32) &&& 1)))] []))
        refine own_of (fun _ k => XS.iconst X26.here hx rfl (hb hby at_88) k) ?_
        show own_Out p e below _ (T26.setTop (mkF m 89 #[.val (.long q0), .second, .val (.long q1), .second, .val (.long q2), .second, .val (.int p3), .val (.int (1 : Int32)), .val (.int (1 : Int32)), .val (.int (p3 &&& (7 : Int32))), .val (.long (f1 (p3 &&& (7 : Int32)) q0 q1 q2)), .second, .val (.ref b23), .val (.int (f5 (f1 (p3 &&& (7 : Int32)) q0 q1 q2) q0 ((1 : Int32) &&& 1) q1 ((1 : Int32) &&& 1)))] [(.int (1 : Int32))]))
        refine own_of (fun _ k => XS.goto X26.here hx rfl (pc0 := 89) (pc' := 93) rfl (hb hby at_89) (by decide) (by decide) k) ?_
        show own_Out p e below _ (T26.setTop (mkF m 93 #[.val (.long q0), .second, .val (.long q1), .second, .val (.long q2), .second, .val (.int p3), .val (.int (1 : Int32)), .val (.int (1 : Int32)), .val (.int (p3 &&& (7 : Int32))), .val (.long (f1 (p3 &&& (7 : Int32)) q0 q1 q2)), .second, .val (.ref b23), .val (.int (f5 (f1 (p3 &&& (7 : Int32)) q0 q1 q2) q0 ((1 : Int32) &&& 1) q1 ((1 : Int32) &&& 1)))] [(.int (1 : Int32))]))
        exact own_outN X26 hx hlk (t := .boolean) hret (by simp) (hb hby at_93) (z' := (1 : Int32)) rfl (Q := Q0 Z q0 q1 q2 p3 h0 n0) ⟨rfl, N26⟩ (by decide) (by decide)
      · skip
        refine own_of (fun _ k => XS.icmpYes X26.here hx rfl (pc0 := 85) (pc' := 92) rfl (hb hby at_85) rfl (feq hc85_27).2 (by decide) (by decide) k) ?_
        show own_Out p e below _ (T26.setTop (mkF m 92 #[.val (.long q0), .second, .val (.long q1), .second, .val (.long q2), .second, .val (.int p3), .val (.int (1 : Int32)), .val (.int (1 : Int32)), .val (.int (p3 &&& (7 : Int32))), .val (.long (f1 (p3 &&& (7 : Int32)) q0 q1 q2)), .second, .val (.ref b23), .val (.int (f5 (f1 (p3 &&& (7 : Int32)) q0 q1 q2) q0 ((1 : Int32) &&& 1) q1 ((1 : Int32) &&& 1)))] []))
        refine own_of (fun _ k => XS.iconst X26.here hx rfl (hb hby at_92) k) ?_
        show own_Out p e below _ (T26.setTop (mkF m 93 #[.val (.long q0), .second, .val (.long q1), .second, .val (.long q2), .second, .val (.int p3), .val (.int (1 : Int32)), .val (.int (1 : Int32)), .val (.int (p3 &&& (7 : Int32))), .val (.long (f1 (p3 &&& (7 : Int32)) q0 q1 q2)), .second, .val (.ref b23), .val (.int (f5 (f1 (p3 &&& (7 : Int32)) q0 q1 q2) q0 ((1 : Int32) &&& 1) q1 ((1 : Int32) &&& 1)))] [(.int (0 : Int32))]))
        exact (dead0_3 q0 q1 q2 p3 hc5_1 hc20_15 hc85_27).elim
set_option maxRecDepth 65536 in
set_option maxHeartbeats 40000000 in
theorem comes_1 {Post : Tables → Env → Array Value → State → Outcome → State → Prop} (hpost : ∀ tb e args s v u, (limb_1_1.after args s (.returned v) u = true ∧ limb_1_2.after args s (.returned v) u = true ∧ True) → FrameEnd s (.returned v) u (Jvm.fieldLocs frame_1_writes args s ++ Jvm.arrayLocs frame_1_arrays args s ++ Jvm.staticLocs frame_1_statics s) 16 128 → Post tb e args s (.returned v) u) :
    ArmFor flags0 classFile x code maxLocals ret World_1 tables_1 room_1 Calls_1 rest_1 Pre_1 Post := by
  intro l hfl _ _ p e ha hc hk s m args below hf hA hF happ hP
  obtain ⟨hcalls, hrest, hpre⟩ := hP
  obtain ⟨-, -, -, hnamed, -, -, -, hat⟩ := (Spec.applies_iff hf).mp happ
  obtain ⟨hg, hn⟩ := and_e (Cond.before_iff.mp (show (Jvm.Cond.and given_1 narrow_1).before args s = true from hpre))
  obtain ⟨g1, g2⟩ := and_e hg
  obtain ⟨g3, g4⟩ := and_e g2
  obtain ⟨g5, g6⟩ := and_e g4
  obtain ⟨g7, g8⟩ := and_e g6
  obtain ⟨w0, w1, w2, w3, rfl⟩ : ∃ w0 w1 w2 w3 : Value, args = #[w0, w1, w2, w3] := by
    have hs : args.size = 4 := by simpa [Cond.value, given_1] using g1
    obtain ⟨L⟩ := args
    match L, hs with
    | [w0, w1, w2, w3], _ => exact ⟨w0, w1, w2, w3, rfl⟩
  have hw := fun d (hd : d ∈ tables_1) => atoms_spec (ws := Jvm.Cond.code x code maxLocals ret :: tables_1) hat d (List.mem_cons_of_mem _ hd)
  have hfit : Fit s := fun {y c} hc i hi => by
    obtain ⟨ha, rfl⟩ := Array.getElem?_eq_some_iff.mp hc
    have q := List.all_eq_true.mp ((Array.all_eq_true_iff_forall_mem.mp hF) _ (Array.getElem_mem ha)) i (List.mem_range.mpr hi)
    simpa [Array.getElem?_eq_getElem hi] using q
  obtain ⟨i0, ei0⟩ := isL_v g3
  obtain rfl : w0 = (.long i0) := Option.some.inj ei0
  obtain ⟨i1, ei1⟩ := isL_v g5
  obtain rfl : w1 = (.long i1) := Option.some.inj ei1
  obtain ⟨i2, ei2⟩ := isL_v g7
  obtain rfl : w2 = (.long i2) := Option.some.inj ei2
  obtain ⟨i3, ei3⟩ := is_v g8
  obtain rfl : w3 = (.int i3) := Option.some.inj ei3
  obtain ⟨n, o, h1, h2, h3, _, L, rfl, ⟨rfl, N⟩, hq⟩ := rm0 l s _ hw tables_1 i0 i1 i2 i3 s.heap s.heap.size (Nat.le_refl _)  p e ha hc hk s m _ below hf ((Spec.applies_iff_loose hf).mp happ).1 ⟨rfl, State.Warmed39.refl s, rfl⟩ trivial
  refine ⟨n, _, h1, h2, h3, hpost _ _ _ _ _ _ ⟨Cond.after_iff.mpr rfl, Cond.after_iff.mpr (eq_i res_at (Term.int_eval (1)) rfl), trivial⟩ ⟨hq.1, hq.2.1, (hq.2.2.sift fun y hy => Or.inr (N y hy)).mono (by decide) (by decide)⟩⟩
theorem main_1_1 : Claimed_1_1 := comes_1 fun _ _ _ _ _ _ h hF => ⟨h.1, hF⟩
theorem main_1_2 : Claimed_1_2 := comes_1 fun _ _ _ _ _ _ h hF => ⟨h.2.1, hF⟩
end Jvm.Pilot.@@N@@
namespace Jvm.Pilot.@@N@@
open Jvm Jvm.ClassFile Sem Op Lib Jvm.Free Jvm.Stand Jvm.Pilot.@@N@@.Jvm.D
/-! MADE BY PROGRAM (witnessworld.py) out of the Statement's table words and the real class files: 10 classes; the members and pool entries that the words name. The judged class is class 1, her method 3. -/
namespace start1
open Jvm.ClassFile
def u (s : String) : CpInfo := .utf8 (stringToUtf16 s)
/-- a pool by its gaps: so many unusable entries, then the entry; so many at the end -/
def gap : Nat → List CpInfo → List CpInfo
  | 0, r => r
  | n + 1, r => .unusable :: gap n r
def poolList (es : List (Nat × CpInfo)) (last : Nat) : List CpInfo := es.foldr (fun e r => gap e.1 (e.2 :: r)) (gap last [])
def pool (es : List (Nat × CpInfo)) (last : Nat) : Array CpInfo := ⟨poolList es last⟩
def fileOf (pool : Array CpInfo) (this : Nat) (attrs : Array Attribute := #[]) (ms : Array MethodInfo := #[]) (fl : Nat := 33) (sup : Nat := 0) (ifs : Array Nat := #[]) (fds : Array FieldInfo := #[]) : ClassFile where
  minorVersion := 0
  majorVersion := 65
  constantPool := pool
  accessFlags := fl
  thisClass := this
  superClass := sup
  interfaces := ifs
  fields := fds
  methods := ms
  attributes := attrs
def plain (name : String) (sup : Option ClassId) : Class where
  name := name
  kind := .ordinary
  loader := none
  accessFlags := 33
  super := sup
  interfaces := #[]
  cf := none
  fields := #[]
  methods := #[]
  instanceTypes := #[]
  staticTypes := #[]
  resolved := #[]
  callSites := []
  init := .initialized
  statics := none
  mirror := none

def pool0 : Array CpInfo := pool [(5, u "<init>"), (0, u "()V"), (1, .class_ 10), (1, u "java/lang/Object")] 113

def k0c0 : Code := { maxStack := 0, maxLocals := 1, code := object_method_1_code, exceptionTable := #[], attributes := #[] }
def k0m0 : Method := { name := "<init>", desc := "()V", sig := { parameters := [], returnType := none }, accessFlags := 1, code := some k0c0 }
/-- java/lang/Object -/
def k0 : Class := { plain "java/lang/Object" none with
  accessFlags := 33
  interfaces := #[]
  cf := some (fileOf pool0 8 #[] #[{ accessFlags := 1, nameIndex := 5, descriptorIndex := 6, attributes := #[] }] 33 0 #[] #[])
  fields := #[]
  methods := #[k0m0]
  instanceTypes := #[]
  staticTypes := #[]
  resolved := Array.replicate 124 none
  statics := none }

def pool1 : Array CpInfo := pool [(2, .class_ 4), (1, u "java/lang/Object"), (0, u "<init>"), (0, u "()V"), (0, .methodref 8 9), (0, .class_ 10), (0, .nameAndType 11 12), (0, u "com/example/headway/headway/engine/IntervalContainsPinLaw"), (0, u "pick"), (0, u "(IJJJ)J"), (0, .class_ 14), (0, u "com/example/headway/headway/engine/Interval"), (0, .methodref 13 16), (0, .nameAndType 5 17), (0, u "(JZJZ)V"), (0, .methodref 13 19), (0, .nameAndType 20 21), (0, u "contains"), (0, u "(J)Z"), (0, .methodref 8 23), (0, .nameAndType 24 25), (0, u "expected"), (0, u "(JZJZJ)Z"), (3, u "law"), (0, u "(JJJI)Z")] 2

def k1m0 : Method := { name := "<init>", desc := "()V", sig := { parameters := [], returnType := none }, accessFlags := 2, code := none }
def k1c1 : Code := { maxStack := 4, maxLocals := 7, code := method_2_code, exceptionTable := #[], attributes := #[] }
def k1m1 : Method := { name := "pick", desc := "(IJJJ)J", sig := { parameters := [.int, .long, .long, .long], returnType := some .long }, accessFlags := 10, code := some k1c1 }
def k1c2 : Code := { maxStack := 4, maxLocals := 10, code := method_3_code, exceptionTable := #[], attributes := #[] }
def k1m2 : Method := { name := "expected", desc := "(JZJZJ)Z", sig := { parameters := [.long, .boolean, .long, .boolean, .long], returnType := some .boolean }, accessFlags := 10, code := some k1c2 }
def k1c3 : Code := { maxStack := 9, maxLocals := 14, code := code, exceptionTable := #[], attributes := #[] }
def k1m3 : Method := { name := "law", desc := "(JJJI)Z", sig := { parameters := [.long, .long, .long, .int], returnType := some .boolean }, accessFlags := 9, code := some k1c3 }
/-- com/example/headway/headway/engine/IntervalContainsPinLaw -/
def k1 : Class := { plain "com/example/headway/headway/engine/IntervalContainsPinLaw" (some 0) with
  accessFlags := 49
  interfaces := #[]
  cf := some (fileOf pool1 8 #[] #[{ accessFlags := 2, nameIndex := 5, descriptorIndex := 6, attributes := #[] }, { accessFlags := 10, nameIndex := 11, descriptorIndex := 12, attributes := #[] }, { accessFlags := 10, nameIndex := 24, descriptorIndex := 25, attributes := #[] }, { accessFlags := 9, nameIndex := 29, descriptorIndex := 30, attributes := #[] }] 49 2 #[] #[])
  fields := #[]
  methods := #[k1m0, k1m1, k1m2, k1m3]
  instanceTypes := #[]
  staticTypes := #[]
  resolved := Array.replicate 33 none
  statics := none }

def pool2 : Array CpInfo := pool [(1, .methodref 2 3), (0, .class_ 4), (0, .nameAndType 5 6), (0, u "java/lang/Object"), (0, u "<init>"), (0, u "()V"), (0, .class_ 8), (0, u "java/lang/Record")] 13

def k2c0 : Code := { maxStack := 1, maxLocals := 1, code := jdk_30_method_1_code, exceptionTable := #[], attributes := #[] }
def k2m0 : Method := { name := "<init>", desc := "()V", sig := { parameters := [], returnType := none }, accessFlags := 4, code := some k2c0 }
/-- java/lang/Record -/
def k2 : Class := { plain "java/lang/Record" (some 0) with
  accessFlags := 1057
  interfaces := #[]
  cf := some (fileOf pool2 7 #[] #[{ accessFlags := 4, nameIndex := 5, descriptorIndex := 6, attributes := #[] }] 1057 2 #[] #[])
  fields := #[]
  methods := #[k2m0]
  instanceTypes := #[]
  staticTypes := #[]
  resolved := Array.replicate 22 none
  statics := none }

def pool3 : Array CpInfo := pool [(1, .methodref 2 3), (0, .class_ 4), (0, .nameAndType 5 6), (0, u "java/lang/Record"), (0, u "<init>"), (0, u "()V"), (0, .fieldref 8 9), (0, .class_ 10), (0, .nameAndType 11 12), (0, u "com/example/headway/headway/engine/Interval"), (0, u "low"), (0, u "J"), (0, .fieldref 8 14), (0, .nameAndType 15 16), (0, u "lowPasses"), (0, u "Z"), (0, .fieldref 8 18), (0, .nameAndType 19 12), (0, u "high"), (0, .fieldref 8 21), (0, .nameAndType 22 16), (0, u "highPasses"), (1, .class_ 26), (1, u "com/example/headway/headway/engine/Interval$1"), (19, u "(JZJZ)V"), (30, u "contains"), (0, u "(J)Z")] 74

def k3c0 : Code := { maxStack := 3, maxLocals := 7, code := prog_63_method_1_code, exceptionTable := #[], attributes := #[] }
def k3m0 : Method := { name := "<init>", desc := "(JZJZ)V", sig := { parameters := [.long, .boolean, .long, .boolean], returnType := none }, accessFlags := 0, code := some k3c0 }
def k3c1 : Code := { maxStack := 4, maxLocals := 5, code := prog_63_method_5_code, exceptionTable := #[], attributes := #[] }
def k3m1 : Method := { name := "contains", desc := "(J)Z", sig := { parameters := [.long], returnType := some .boolean }, accessFlags := 0, code := some k3c1 }
/-- com/example/headway/headway/engine/Interval -/
def k3 : Class := { plain "com/example/headway/headway/engine/Interval" (some 2) with
  accessFlags := 48
  interfaces := #[]
  cf := some (fileOf pool3 8 #[.nestMembers #[24]] #[{ accessFlags := 0, nameIndex := 5, descriptorIndex := 46, attributes := #[] }, { accessFlags := 0, nameIndex := 77, descriptorIndex := 78, attributes := #[] }] 48 2 #[] #[{ accessFlags := 18, nameIndex := 11, descriptorIndex := 12, attributes := #[] }, { accessFlags := 18, nameIndex := 15, descriptorIndex := 16, attributes := #[] }, { accessFlags := 18, nameIndex := 19, descriptorIndex := 12, attributes := #[] }, { accessFlags := 18, nameIndex := 22, descriptorIndex := 16, attributes := #[] }])
  fields := #[{ name := "low", type := .long, accessFlags := 18, slot := 0, constantValue := 0 }, { name := "lowPasses", type := .boolean, accessFlags := 18, slot := 1, constantValue := 0 }, { name := "high", type := .long, accessFlags := 18, slot := 2, constantValue := 0 }, { name := "highPasses", type := .boolean, accessFlags := 18, slot := 3, constantValue := 0 }]
  methods := #[k3m0, k3m1]
  instanceTypes := #[.long, .boolean, .long, .boolean]
  staticTypes := #[]
  resolved := Array.replicate 153 none
  statics := none }

def pool4 : Array CpInfo := pool [(1, u "java/lang/Cloneable"), (0, .class_ 1), (0, u "java/lang/Object"), (0, .class_ 3)] 3

/-- java/lang/Cloneable -/
def k4 : Class := { plain "java/lang/Cloneable" (some 0) with
  accessFlags := 1537
  interfaces := #[]
  cf := some (fileOf pool4 2 #[] #[] 1537 4 #[] #[])
  fields := #[]
  methods := #[]
  instanceTypes := #[]
  staticTypes := #[]
  resolved := Array.replicate 8 none
  statics := none }

def pool5 : Array CpInfo := pool [(1, u "java/io/Serializable"), (0, .class_ 1), (0, u "java/lang/Object"), (0, .class_ 3)] 3

/-- java/io/Serializable -/
def k5 : Class := { plain "java/io/Serializable" (some 0) with
  accessFlags := 1537
  interfaces := #[]
  cf := some (fileOf pool5 2 #[] #[] 1537 4 #[] #[])
  fields := #[]
  methods := #[]
  instanceTypes := #[]
  staticTypes := #[]
  resolved := Array.replicate 8 none
  statics := none }

/-- the primitive byte -/
def k6 : Class := { plain "byte" none with kind := .primitive 'B', accessFlags := 0x411 }
/-- [B -/
def k7 : Class := { plain "[B" (some 0) with kind := .array 6 .byte, interfaces := #[4, 5], accessFlags := 1041 }

/-- the primitive int -/
def k8 : Class := { plain "int" none with kind := .primitive 'I', accessFlags := 0x411 }
/-- [I -/
def k9 : Class := { plain "[I" (some 0) with kind := .array 8 .int, interfaces := #[4, 5], accessFlags := 1041 }

def heap : Heap := #[]
def classes : Array Class := #[k0, k1, k2, k3, k4, k5, k6, k7, k8, k9]
def interned : List (Array UInt16 × Addr) := []
def slotsUsed : Nat := 0
def theMethod : MethodId := ⟨1, 3⟩
def args0 : Array Value := #[.long 3, .long 9, .long 5, .int 8]
def aboutOver (below : List Frame) : State where
  vm := { classes := classes, interned := interned.toArray }
  heap := heap
  slotsUsed := slotsUsed
  threads := #[{ frames := .invoking theMethod args0 :: below }]
def below0 : List Frame := [.native { method := ⟨0, 0⟩, args := #[] }]
def about1 : State := aboutOver below0
def p0 : Program := .bare "" "" ""
def e0 : Env := launch0.env 0 0 0
theorem w_frames : about1.frames = Frame.invoking theMethod args0 :: below0 := rfl
set_option maxRecDepth 65536 in
theorem w_args : argsFit about1.vm theMethod args0 = true := by decide +kernel
set_option maxRecDepth 65536 in
theorem w_heap : heapFits about1 = true := by decide +kernel
set_option maxRecDepth 65536 in
theorem w_runnable : about1.curStatus? = some .runnable := by decide +kernel
set_option maxRecDepth 65536 in
theorem w_alone : about1.alone = true := by decide +kernel
set_option maxRecDepth 65536 in
theorem w_named : about1.methodNamed? x = some theMethod := by decide +kernel
set_option maxRecDepth 65536 in
theorem w_hears : about1.hears theMethod below0 = true := by decide +kernel
set_option maxRecDepth 65536 in
theorem w_ripe : about1.ripe theMethod args0 below0 = true := by decide +kernel
theorem w_running : about1.status = .running := rfl
set_option maxRecDepth 65536 in
theorem w_room : about1.hasRoom e0.platform room_1 = true :=
  launch0.hasRoom_least _ room_1 (by decide +kernel) (by decide +kernel) (by decide +kernel) (by decide +kernel) (by decide +kernel) (by decide +kernel)
theorem allAtoms_all (ts : List Jvm.Cond) (a : Array Jvm.Value) (st : Jvm.State) : (allAtoms ts).before a st = ts.all (fun c => c.before a st) := by
  induction ts with
  | nil => rfl
  | cons c t ih =>
    show (Jvm.Cond.and c (allAtoms t)).before a st = _
    rw [Jvm.Cond.before_and, ih, List.all_cons]
def words1 : List Jvm.Cond := Jvm.Cond.code x code maxLocals ret :: tables_1
/-- a 'code' word, met by the world's own term for the bytes: nothing is compared byte by byte -/
theorem code_word {y : MethodName} {bytes : ByteArray} {mx : Nat} {rt : Option FieldType} {a : Array Value} {s : State} {m : MethodId} {meth : Method} {c : Code} (h1 : s.methodNamed? y = some m) (h2 : s.vm.method? m = some meth) (h3 : meth.code = some c) (h4 : c.code = bytes)
    (h5 : (c.maxLocals == mx && c.exceptionTable.isEmpty && decide (c.maxStack ≤ mostOperands) && decide (meth.sig.returnType = rt) && !meth.locks && decide (parseMethodDescriptor y.desc = some meth.sig)) = true) : (Jvm.Cond.code y bytes mx rt).before a s = true := by
  simp only [Bool.and_eq_true, beq_iff_eq, Bool.not_eq_true', decide_eq_true_eq] at h5
  obtain ⟨⟨⟨⟨⟨g1, g2⟩, g3⟩, g4⟩, g5⟩, g6⟩ := h5
  simp [Cond.before, Cond.holds, Cond.value, h1, h2, h3, h4, g1, g2, g3, g4, g5, g6]
def isCode : Jvm.Cond → Bool
  | .code _ _ _ _ => true
  | _ => false
theorem all_split {L : List Jvm.Cond} {P : Jvm.Cond → Bool} (h1 : L.all (fun c => isCode c || P c) = true) (h2 : ∀ c ∈ L.filter isCode, P c = true) : L.all P = true := by
  refine List.all_eq_true.mpr fun c hc => ?_
  have h := List.all_eq_true.mp h1 c hc
  rcases Bool.eq_false_or_eq_true (isCode c) with hi | hi
  · exact h2 c (List.mem_filter.mpr ⟨hc, hi⟩)
  · simpa [hi] using h
set_option maxRecDepth 65536 in
theorem w_c0 : (Jvm.Cond.code x code maxLocals ret).before args0 about1 = true := code_word (m := ⟨1, 3⟩) (meth := k1m3) (c := k1c3) (by decide +kernel) rfl rfl rfl (by decide +kernel)
set_option maxRecDepth 65536 in
theorem w_c1 : (Jvm.Cond.code ({ cls := "com/example/headway/headway/engine/IntervalContainsPinLaw", name := "pick", desc := "(IJJJ)J" } : Jvm.MethodName) method_2_code (7 : Nat) (Option.some Jvm.ClassFile.FieldType.long)).before args0 about1 = true := code_word (m := ⟨1, 1⟩) (meth := k1m1) (c := k1c1) (by decide +kernel) rfl rfl rfl (by decide +kernel)
set_option maxRecDepth 65536 in
theorem w_c2 : (Jvm.Cond.code ({ cls := "com/example/headway/headway/engine/Interval", name := "<init>", desc := "(JZJZ)V" } : Jvm.MethodName) prog_63_method_1_code (7 : Nat) (Option.none : Option Jvm.ClassFile.FieldType)).before args0 about1 = true := code_word (m := ⟨3, 0⟩) (meth := k3m0) (c := k3c0) (by decide +kernel) rfl rfl rfl (by decide +kernel)
set_option maxRecDepth 65536 in
theorem w_c3 : (Jvm.Cond.code ({ cls := "java/lang/Record", name := "<init>", desc := "()V" } : Jvm.MethodName) jdk_30_method_1_code (1 : Nat) (Option.none : Option Jvm.ClassFile.FieldType)).before args0 about1 = true := code_word (m := ⟨2, 0⟩) (meth := k2m0) (c := k2c0) (by decide +kernel) rfl rfl rfl (by decide +kernel)
set_option maxRecDepth 65536 in
theorem w_c4 : (Jvm.Cond.code ({ cls := "java/lang/Object", name := "<init>", desc := "()V" } : Jvm.MethodName) object_method_1_code (1 : Nat) (Option.none : Option Jvm.ClassFile.FieldType)).before args0 about1 = true := code_word (m := ⟨0, 0⟩) (meth := k0m0) (c := k0c0) (by decide +kernel) rfl rfl rfl (by decide +kernel)
set_option maxRecDepth 65536 in
theorem w_c5 : (Jvm.Cond.code ({ cls := "com/example/headway/headway/engine/Interval", name := "contains", desc := "(J)Z" } : Jvm.MethodName) prog_63_method_5_code (5 : Nat) (Option.some Jvm.ClassFile.FieldType.boolean)).before args0 about1 = true := code_word (m := ⟨3, 1⟩) (meth := k3m1) (c := k3c1) (by decide +kernel) rfl rfl rfl (by decide +kernel)
set_option maxRecDepth 65536 in
theorem w_c6 : (Jvm.Cond.code ({ cls := "com/example/headway/headway/engine/IntervalContainsPinLaw", name := "expected", desc := "(JZJZJ)Z" } : Jvm.MethodName) method_3_code (10 : Nat) (Option.some Jvm.ClassFile.FieldType.boolean)).before args0 about1 = true := code_word (m := ⟨1, 2⟩) (meth := k1m2) (c := k1c2) (by decide +kernel) rfl rfl rfl (by decide +kernel)
def codes1 : List Jvm.Cond := [Jvm.Cond.code x code maxLocals ret, Jvm.Cond.code ({ cls := "com/example/headway/headway/engine/IntervalContainsPinLaw", name := "pick", desc := "(IJJJ)J" } : Jvm.MethodName) method_2_code (7 : Nat) (Option.some Jvm.ClassFile.FieldType.long), Jvm.Cond.code ({ cls := "com/example/headway/headway/engine/Interval", name := "<init>", desc := "(JZJZ)V" } : Jvm.MethodName) prog_63_method_1_code (7 : Nat) (Option.none : Option Jvm.ClassFile.FieldType), Jvm.Cond.code ({ cls := "java/lang/Record", name := "<init>", desc := "()V" } : Jvm.MethodName) jdk_30_method_1_code (1 : Nat) (Option.none : Option Jvm.ClassFile.FieldType), Jvm.Cond.code ({ cls := "java/lang/Object", name := "<init>", desc := "()V" } : Jvm.MethodName) object_method_1_code (1 : Nat) (Option.none : Option Jvm.ClassFile.FieldType), Jvm.Cond.code ({ cls := "com/example/headway/headway/engine/Interval", name := "contains", desc := "(J)Z" } : Jvm.MethodName) prog_63_method_5_code (5 : Nat) (Option.some Jvm.ClassFile.FieldType.boolean), Jvm.Cond.code ({ cls := "com/example/headway/headway/engine/IntervalContainsPinLaw", name := "expected", desc := "(JZJZJ)Z" } : Jvm.MethodName) method_3_code (10 : Nat) (Option.some Jvm.ClassFile.FieldType.boolean)]
set_option maxRecDepth 65536 in
theorem codes_eq : words1.filter isCode = codes1 := rfl
theorem w_codes : ∀ c ∈ words1.filter isCode, c.before args0 about1 = true := by
  rw [codes_eq]
  intro c hc
  simp only [codes1, List.mem_cons, List.not_mem_nil, or_false] at hc
  rcases hc with rfl | rfl | rfl | rfl | rfl | rfl | rfl
  · exact w_c0
  · exact w_c1
  · exact w_c2
  · exact w_c3
  · exact w_c4
  · exact w_c5
  · exact w_c6
set_option maxRecDepth 65536 in
theorem w_t1 : (words1.take 24).all (fun c => isCode c || c.before args0 about1) = true := by decide +kernel
set_option maxRecDepth 65536 in
theorem w_t2 : (words1.drop 24).all (fun c => isCode c || c.before args0 about1) = true := by decide +kernel
theorem w_tables : (allAtoms (Jvm.Cond.code x code maxLocals ret :: tables_1)).before args0 about1 = true := by
  rw [allAtoms_all]
  show words1.all (fun c => c.before args0 about1) = true
  refine all_split ?_ w_codes
  rw [← List.take_append_drop 24 words1, List.all_append, w_t1, w_t2]
  rfl
set_option maxRecDepth 65536 in
theorem w_case : (Jvm.Cond.and given_1 narrow_1).before args0 about1 = true := by decide +kernel
theorem w_applies : (headSpec (Jvm.Cond.code x code maxLocals ret :: tables_1) room_1).applies x e0.platform about1 = true :=
  (Spec.applies_iff w_frames).mpr ⟨w_running, w_runnable, w_alone, w_named, w_hears, w_ripe, w_room, w_tables⟩
theorem atStart : AtStart classFile x code maxLocals ret World_1 tables_1 room_1 Calls_1 rest_1 Pre_1 launch0 p0 e0 about1 theMethod args0 below0 :=
  ⟨lists_1, trivial, launch0.admits_env _ _ _, launch0.least_env, fairChoices_fair.cas, fairChoices_fair.clock, w_frames, w_args, w_heap, w_applies, trivial, trivial, w_case⟩
end start1
theorem witness_1 : WitnessClaimed_1 := ⟨start1.p0, start1.e0, start1.about1, start1.theMethod, start1.args0, start1.below0, start1.atStart⟩
end Jvm.Pilot.@@N@@
