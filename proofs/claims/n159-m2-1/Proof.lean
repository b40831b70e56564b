import JvmDerived
import JvmDerived.Pilot.@@N@@Statement
import JvmDerived.Pilot.@@N@@Code
set_option linter.unusedVariables false
set_option linter.unusedSimpArgs false
@@BLOCK:NumsL.lean.txt@@
namespace Jvm.RoadKit
open Sem ClassFile Op Lib Jvm.Stand Jvm.Free Jvm.LawKit
/-- from the state S the run comes to an end that P holds of -/
def own_Out (p : Program) (e : Env) (below : List Frame) (P : Outcome → State → Prop) (S : State) : Prop := ∃ s₂ o, Steps p.tables e below S s₂ ∧ s₂.status = .running ∧ Ended s₂ below o ∧ P o s₂
theorem own_of {p : Program} {e : Env} {below : List Frame} {P : Outcome → State → Prop} {S S' : State} (h : ∀ t, Steps p.tables e below S' t → Steps p.tables e below S t) (k : own_Out p e below P S') : own_Out p e below P S := by
  obtain ⟨a, b, c, d⟩ := k
  exact ⟨a, b, h a c, d⟩
section New
variable {p : Program} {l : Launch} {e : Env} {R : Room} {s : State} {m : MethodId} {args : Array Value} {below : List Frame} {meth : Method} {c : Code} {T : State} {locs : List Loc} {cells slots : Nat}
theorem own_retI (X : Stand p l e R s m args below meth c T locs cells slots) (hx : p.tables.exec = Jvm.exec) {pc : Nat} {Ls : Array Slot} {z : Int32} {rest : List Value} (hret : meth.sig.returnType = some .int) (hd : decode c.code pc = .ok (.ireturn, 1)) {fs : List Frame}
    (hl : ∀ (f : JFrame) (acts : List Action), f.method = m → f.locked = none → f.entered = [] → (doReturn e (T.setTop f) acts (some (.int z))).1 = T.setFrames fs) : Steps p.tables e below (T.setTop (mkF m pc Ls (.int z :: rest))) (T.setFrames fs) := retOut X hx hret rfl (Or.inl ⟨rfl, Or.inl rfl, z, rfl⟩) hd hl
theorem own_end (X : Stand p l e R s m args below meth c T locs cells slots) (hlk : meth.locks = false) {v : Option Value} (hv : meth.sig.returnType = none → v = none) {g : JFrame}
    (hs : ∀ fs, (∀ (f : JFrame) (acts : List Action), f.method = m → f.locked = none → f.entered = [] → (doReturn e (T.setTop f) acts v).1 = T.setFrames fs) → Steps p.tables e below (T.setTop g) (T.setFrames fs))
    {Q : Option Value → Heap → List Loc → Prop} (hQ : Q v T.heap locs) {C N : Nat} (hC : cells ≤ C) (hN : slots ≤ N) :
    own_Out p e below (fun o U' => ∃ v L, o = .returned v ∧ Q v U'.heap L ∧ FrameEnd s o U' L C N) (T.setTop g) := by
  obtain ⟨fs, hr, hrun, hended, hW, hsame⟩ := X.leave (v := v) hv hlk
  exact ⟨_, _, hs fs hr, hrun, hended, _, _, rfl, hQ, ⟨_, rfl⟩, hW, hsame.mono hC hN⟩
theorem own_outI (X : Stand p l e R s m args below meth c T locs cells slots) (hx : p.tables.exec = Jvm.exec) (hlk : meth.locks = false) {pc : Nat} {Ls : Array Slot} {z : Int32} {rest : List Value} (hret : meth.sig.returnType = some .int) (hd : decode c.code pc = .ok (.ireturn, 1))
    {Q : Option Value → Heap → List Loc → Prop} (hQ : Q (some (.int z)) T.heap locs) {C N : Nat} (hC : cells ≤ C) (hN : slots ≤ N) :
    own_Out p e below (fun o U' => ∃ v L, o = .returned v ∧ Q v U'.heap L ∧ FrameEnd s o U' L C N) (T.setTop (mkF m pc Ls (.int z :: rest))) :=
  own_end X hlk (fun h => by rw [hret] at h; cases h) (fun fs hr => own_retI X hx hret hd hr) hQ hC hN
theorem own_outN (X : Stand p l e R s m args below meth c T locs cells slots) (hx : p.tables.exec = Jvm.exec) (hlk : meth.locks = false) {pc : Nat} {Ls : Array Slot} {z z' : Int32} {t : FieldType} {rest : List Value} (hret : meth.sig.returnType = some t) (ht : t = .boolean ∨ t = .byte ∨ t = .char ∨ t = .short) (hd : decode c.code pc = .ok (.ireturn, 1)) (hz : nar t z = z')
    {Q : Option Value → Heap → List Loc → Prop} (hQ : Q (some (.int z')) T.heap locs) {C N : Nat} (hC : cells ≤ C) (hN : slots ≤ N) :
    own_Out p e below (fun o U' => ∃ v L, o = .returned v ∧ Q v U'.heap L ∧ FrameEnd s o U' L C N) (T.setTop (mkF m pc Ls (.int z :: rest))) :=
  own_end X hlk (fun h => by rw [hret] at h; cases h) (fun fs hr => retN X hx hret ht hd (by rw [hz]; exact hr)) hQ hC hN
theorem own_outL (X : Stand p l e R s m args below meth c T locs cells slots) (hx : p.tables.exec = Jvm.exec) (hlk : meth.locks = false) {pc : Nat} {Ls : Array Slot} {z : Int64} {rest : List Value} (hret : meth.sig.returnType = some .long) (hd : decode c.code pc = .ok (.lreturn, 1))
    {Q : Option Value → Heap → List Loc → Prop} (hQ : Q (some (.long z)) T.heap locs) {C N : Nat} (hC : cells ≤ C) (hN : slots ≤ N) :
    own_Out p e below (fun o U' => ∃ v L, o = .returned v ∧ Q v U'.heap L ∧ FrameEnd s o U' L C N) (T.setTop (mkF m pc Ls (.long z :: rest))) :=
  own_end X hlk (fun h => by rw [hret] at h; cases h) (fun fs hr => retOut X hx hret rfl (Or.inr (Or.inl ⟨rfl, rfl, z, rfl⟩)) hd hr) hQ hC hN
theorem own_outD (X : Stand p l e R s m args below meth c T locs cells slots) (hx : p.tables.exec = Jvm.exec) (hlk : meth.locks = false) {pc : Nat} {Ls : Array Slot} {z : UInt64} {rest : List Value} (hret : meth.sig.returnType = some .double) (hd : decode c.code pc = .ok (.dreturn, 1))
    {Q : Option Value → Heap → List Loc → Prop} (hQ : Q (some (.double z)) T.heap locs) {C N : Nat} (hC : cells ≤ C) (hN : slots ≤ N) :
    own_Out p e below (fun o U' => ∃ v L, o = .returned v ∧ Q v U'.heap L ∧ FrameEnd s o U' L C N) (T.setTop (mkF m pc Ls (.double z :: rest))) :=
  own_end X hlk (fun h => by rw [hret] at h; cases h) (fun fs hr => retOut X hx hret rfl (Or.inr (Or.inr (Or.inl ⟨rfl, rfl, z, rfl⟩))) hd hr) hQ hC hN
theorem own_outR (X : Stand p l e R s m args below meth c T locs cells slots) (hx : p.tables.exec = Jvm.exec) (hlk : meth.locks = false) {pc : Nat} {Ls : Array Slot} {w : Value} {t : FieldType} {rest : List Value} (hret : meth.sig.returnType = some t) (ht : t.isReference = true) (hw : w.isRef = true) (hn : narrow t w = w) (hd : decode c.code pc = .ok (.areturn, 1))
    {Q : Option Value → Heap → List Loc → Prop} (hQ : Q (some w) T.heap locs) {C N : Nat} (hC : cells ≤ C) (hN : slots ≤ N) :
    own_Out p e below (fun o U' => ∃ v L, o = .returned v ∧ Q v U'.heap L ∧ FrameEnd s o U' L C N) (T.setTop (mkF m pc Ls (w :: rest))) :=
  own_end X hlk (fun h => by rw [hret] at h; cases h) (fun fs hr => retOut X hx hret hn (Or.inr (Or.inr (Or.inr (Or.inr ⟨rfl, ht, hw⟩)))) hd hr) hQ hC hN
theorem own_outV (X : Stand p l e R s m args below meth c T locs cells slots) (hx : p.tables.exec = Jvm.exec) (hlk : meth.locks = false) {pc : Nat} {Ls : Array Slot} (hret : meth.sig.returnType = none) (hd : decode c.code pc = .ok (.return_, 1))
    {Q : Option Value → Heap → List Loc → Prop} (hQ : Q none T.heap locs) {C N : Nat} (hC : cells ≤ C) (hN : slots ≤ N) :
    own_Out p e below (fun o U' => ∃ v L, o = .returned v ∧ Q v U'.heap L ∧ FrameEnd s o U' L C N) (T.setTop (mkF m pc Ls [])) :=
  own_end X hlk (fun _ => rfl) (fun fs hr => X.returnOut hx hret hd hr) hQ hC hN
end New
theorem own_ltlt {x y : Int64} (h : x < y) : ifCond.holds .lt (lcmpW x y) = true ∧ ifCond.holds .ge (lcmpW x y) = false ∧ ifCond.holds .gt (lcmpW y x) = true ∧ ifCond.holds .le (lcmpW y x) = false := by
  have h1 : ¬ x > y := fun q => by rw [gt_iff_lt, Int64.lt_iff_toInt_lt] at q; rw [Int64.lt_iff_toInt_lt] at h; omega
  have h2 : ¬ x = y := fun q => by subst q; rw [Int64.lt_iff_toInt_lt] at h; omega
  have e1 : lcmpW x y = -1 := by simp only [lcmpW, if_neg h1, if_neg h2]
  have e2 : lcmpW y x = 1 := by simp only [lcmpW, if_pos (show y > x from h)]
  rw [e1, e2]; decide
theorem own_leq {x y : Int64} (h : x = y) : ifCond.holds .eq (lcmpW x y) = true ∧ ifCond.holds .ne (lcmpW x y) = false := by
  subst h
  have h1 : ¬ x > x := fun q => by rw [gt_iff_lt, Int64.lt_iff_toInt_lt] at q; omega
  have e1 : lcmpW x x = 0 := by simp only [lcmpW, if_neg h1, if_pos]
  rw [e1]; decide
theorem own_lfeq {x y : Int64} (h : ¬ x = y) : ifCond.holds .eq (lcmpW x y) = false ∧ ifCond.holds .ne (lcmpW x y) = true := by
  by_cases h1 : x > y
  · have e1 : lcmpW x y = 1 := by simp only [lcmpW, if_pos h1]
    rw [e1]; decide
  · have e1 : lcmpW x y = -1 := by simp only [lcmpW, if_neg h1, if_neg h]
    rw [e1]; decide
theorem own_lflt {x y : Int64} (h : ¬ x < y) : ifCond.holds .lt (lcmpW x y) = false ∧ ifCond.holds .ge (lcmpW x y) = true ∧ ifCond.holds .gt (lcmpW y x) = false ∧ ifCond.holds .le (lcmpW y x) = true := by
  by_cases h1 : x = y
  · subst h1
    have h1 : ¬ x > x := fun q => by rw [gt_iff_lt, Int64.lt_iff_toInt_lt] at q; omega
    have e1 : lcmpW x x = 0 := by simp only [lcmpW, if_neg h1, if_pos]
    rw [e1]; decide
  · have h2 : x > y := by
      rw [gt_iff_lt, Int64.lt_iff_toInt_lt]; rw [Int64.lt_iff_toInt_lt] at h
      have h3 : ¬ x.toInt = y.toInt := fun q => h1 (Int64.toInt_inj.mp q)
      omega
    have h3 : ¬ y > x := fun q => by rw [gt_iff_lt, Int64.lt_iff_toInt_lt] at q h2; omega
    have e1 : lcmpW x y = 1 := by simp only [lcmpW, if_pos h2]
    have e2 : lcmpW y x = -1 := by simp only [lcmpW, if_neg h3, if_neg (fun q => h1 (Eq.symm q))]
    rw [e1, e2]; decide
theorem own_staK0 {Z : State} {h h' : Heap} {C n d : String} {v : Value} (F : Sta Z h C n d v) (K : Keep h h' []) : Sta Z h' C n d v := by
  obtain ⟨cf, i, k, f, st, cell, h1, h2, h3, h4, h5, r⟩ := F
  exact ⟨cf, i, k, f, st, cell, h1, h2, h3, h4, K.2.1 st cell h5 nin0, r⟩
theorem own_staK1 {Z : State} {h h' : Heap} {C n d : String} {v : Value} {a : Addr} (F : Sta Z h C n d v) (K : Keep h h' [a]) (q : ∀ cell : Cell, h[a]? = some cell → cell.vm.isStatics = false) : Sta Z h' C n d v := by
  obtain ⟨cf, i, k, f, st, cell, h1, h2, h3, h4, h5, h6, h7⟩ := F
  have ne : st ≠ a := fun e => by subst e; rw [q _ h5] at h6; cases h6
  exact ⟨cf, i, k, f, st, cell, h1, h2, h3, h4, K.2.1 st cell h5 (ninS ne nin0), h6, h7⟩
theorem own_plainE {Z : State} {h : Heap} {a : Addr} {C : String} (E : Exa Z h a C) : ∀ cell : Cell, h[a]? = some cell → cell.vm.isStatics = false := fun cell hc => by
  obtain ⟨c, k, h1, -, -, h4, -⟩ := E; cases h1.symm.trans hc; exact h4
theorem own_plainV {Z : State} {h : Heap} {a : Addr} {k : ClassId} {ty : FieldType} {z : Int32} {vs : List Value} {dv : Value} (F : Arv Z h a k ty z vs dv) : ∀ cell : Cell, h[a]? = some cell → cell.vm.isStatics = false := fun cell hc => by
  obtain ⟨c, A, -⟩ := F; cases A.1.symm.trans hc; exact A.plain
section Bounds
variable {x a k : Int32} {u : Int}
theorem own_L1 (h : ¬ (x < a)) : a.toInt ≤ x.toInt := by rw [Int32.lt_iff_toInt_lt] at h; omega
theorem own_L2 (h : a < x) : a.toInt + 1 ≤ x.toInt := by rw [Int32.lt_iff_toInt_lt] at h; omega
theorem own_L3 (h : x = a) : a.toInt ≤ x.toInt := by subst h; omega
theorem own_U1 (h : x < a) : x.toInt ≤ a.toInt - 1 := by rw [Int32.lt_iff_toInt_lt] at h; omega
theorem own_U2 (h : ¬ (a < x)) : x.toInt ≤ a.toInt := by rw [Int32.lt_iff_toInt_lt] at h; omega
theorem own_U3 (h : x = a) : x.toInt ≤ a.toInt := by subst h; omega
theorem own_T1 (h : x.toInt ≤ u) (d : u < k.toInt) : x < k := by rw [Int32.lt_iff_toInt_lt]; omega
theorem own_T2 (h : u ≤ x.toInt) (d : k.toInt ≤ u) : ¬ (x < k) := by rw [Int32.lt_iff_toInt_lt]; omega
theorem own_T3 (h : u ≤ x.toInt) (d : k.toInt < u) : k < x := by rw [Int32.lt_iff_toInt_lt]; omega
theorem own_T4 (h : x.toInt ≤ u) (d : u ≤ k.toInt) : ¬ (k < x) := by rw [Int32.lt_iff_toInt_lt]; omega
theorem own_T5 (h : x.toInt ≤ u) (d : u < k.toInt) : ¬ (x = k) := fun q => by subst q; omega
theorem own_T6 (h : u ≤ x.toInt) (d : k.toInt < u) : ¬ (x = k) := fun q => by subst q; omega
theorem own_T7 {u' : Int} (h : u ≤ x.toInt) (h' : x.toInt ≤ u') (d : k.toInt ≤ u ∧ u' ≤ k.toInt) : x = k := Int32.toInt_inj.mp (by omega)
end Bounds
section Rel
theorem own_JR1 {a b : Int64} (h : a < b) : ¬ (b < a) := by rw [Int64.lt_iff_toInt_lt] at *; omega
theorem own_JR2 {a b : Int64} (h : a < b) : ¬ (a = b) := fun q => by subst q; rw [Int64.lt_iff_toInt_lt] at h; omega
theorem own_JR2' {a b : Int64} (h : a < b) : ¬ (b = a) := fun q => by subst q; rw [Int64.lt_iff_toInt_lt] at h; omega
theorem own_JR3 {a b : Int64} (h : a = b) : ¬ (a < b) := fun q => by subst h; rw [Int64.lt_iff_toInt_lt] at q; omega
theorem own_JR3' {a b : Int64} (h : a = b) : ¬ (b < a) := fun q => by subst h; rw [Int64.lt_iff_toInt_lt] at q; omega
theorem own_JR4 {a b : Int64} (h : ¬ (a < b)) (h' : ¬ (b < a)) : a = b := by rw [Int64.lt_iff_toInt_lt] at h h'; exact Int64.toInt_inj.mp (by omega)
theorem own_JR5 {a b : Int64} (h : ¬ (a < b)) (h' : ¬ (a = b)) : b < a := by rw [← Int64.toInt_inj] at h'; rw [Int64.lt_iff_toInt_lt] at *; omega
theorem own_JR5' {a b : Int64} (h : ¬ (a < b)) (h' : ¬ (b = a)) : b < a := by rw [← Int64.toInt_inj] at h'; rw [Int64.lt_iff_toInt_lt] at *; omega
theorem own_IR1 {a b : Int32} (h : a < b) : ¬ (b < a) := by rw [Int32.lt_iff_toInt_lt] at *; omega
theorem own_IR2 {a b : Int32} (h : a < b) : ¬ (a = b) := fun q => by subst q; rw [Int32.lt_iff_toInt_lt] at h; omega
theorem own_IR2' {a b : Int32} (h : a < b) : ¬ (b = a) := fun q => by subst q; rw [Int32.lt_iff_toInt_lt] at h; omega
theorem own_IR3 {a b : Int32} (h : a = b) : ¬ (a < b) := fun q => by subst h; rw [Int32.lt_iff_toInt_lt] at q; omega
theorem own_IR3' {a b : Int32} (h : a = b) : ¬ (b < a) := fun q => by subst h; rw [Int32.lt_iff_toInt_lt] at q; omega
theorem own_IR4 {a b : Int32} (h : ¬ (a < b)) (h' : ¬ (b < a)) : a = b := by rw [Int32.lt_iff_toInt_lt] at h h'; exact Int32.toInt_inj.mp (by omega)
theorem own_IR5 {a b : Int32} (h : ¬ (a < b)) (h' : ¬ (a = b)) : b < a := by rw [← Int32.toInt_inj] at h'; rw [Int32.lt_iff_toInt_lt] at *; omega
theorem own_IR5' {a b : Int32} (h : ¬ (a < b)) (h' : ¬ (b = a)) : b < a := by rw [← Int32.toInt_inj] at h'; rw [Int32.lt_iff_toInt_lt] at *; omega
end Rel
end Jvm.RoadKit
namespace Jvm.Pilot.@@N@@
open Jvm Jvm.ClassFile Sem Op Lib Jvm.Free Jvm.Stand Jvm.LawKit Jvm.RoadKit Bundle Jvm.Pilot.@@N@@.Jvm.D
theorem d1_0 : decode prog_34_method_4_code 0 = .ok (.iload_n 0, 1) := by decide +kernel
theorem d1_1 : decode prog_34_method_4_code 1 = .ok (.bipush 32, 2) := by decide +kernel
theorem d1_3 : decode prog_34_method_4_code 3 = .ok (.if_icmp .lt 39, 3) := by decide +kernel
theorem d1_6 : decode prog_34_method_4_code 6 = .ok (.iload_n 0, 1) := by decide +kernel
theorem d1_7 : decode prog_34_method_4_code 7 = .ok (.ldc 13, 2) := by decide +kernel
theorem d1_9 : decode prog_34_method_4_code 9 = .ok (.if_icmp .le 27, 3) := by decide +kernel
theorem d1_12 : decode prog_34_method_4_code 12 = .ok (.iload_n 0, 1) := by decide +kernel
theorem d1_13 : decode prog_34_method_4_code 13 = .ok (.ldc 14, 2) := by decide +kernel
theorem d1_15 : decode prog_34_method_4_code 15 = .ok (.if_icmp .lt 9, 3) := by decide +kernel
theorem d1_18 : decode prog_34_method_4_code 18 = .ok (.iload_n 0, 1) := by decide +kernel
theorem d1_19 : decode prog_34_method_4_code 19 = .ok (.ldc 15, 2) := by decide +kernel
theorem d1_21 : decode prog_34_method_4_code 21 = .ok (.if_icmp .le 15, 3) := by decide +kernel
theorem d1_24 : decode prog_34_method_4_code 24 = .ok (.iload_n 0, 1) := by decide +kernel
theorem d1_25 : decode prog_34_method_4_code 25 = .ok (.ldc 16, 2) := by decide +kernel
theorem d1_27 : decode prog_34_method_4_code 27 = .ok (.if_icmp .lt 13, 3) := by decide +kernel
theorem d1_30 : decode prog_34_method_4_code 30 = .ok (.iload_n 0, 1) := by decide +kernel
theorem d1_31 : decode prog_34_method_4_code 31 = .ok (.ldc 17, 2) := by decide +kernel
theorem d1_33 : decode prog_34_method_4_code 33 = .ok (.if_icmp .gt 7, 3) := by decide +kernel
theorem d1_36 : decode prog_34_method_4_code 36 = .ok (.iconst 1, 1) := by decide +kernel
theorem d1_37 : decode prog_34_method_4_code 37 = .ok (.goto 4, 3) := by decide +kernel
theorem d1_40 : decode prog_34_method_4_code 40 = .ok (.iconst 0, 1) := by decide +kernel
theorem d1_41 : decode prog_34_method_4_code 41 = .ok (.ireturn, 1) := by decide +kernel
theorem d1_42 : decode prog_34_method_4_code 42 = .ok (.iload_n 0, 1) := by decide +kernel
theorem d1_43 : decode prog_34_method_4_code 43 = .ok (.bipush 10, 2) := by decide +kernel
theorem d1_45 : decode prog_34_method_4_code 45 = .ok (.if_icmp .eq 15, 3) := by decide +kernel
theorem d1_48 : decode prog_34_method_4_code 48 = .ok (.iload_n 0, 1) := by decide +kernel
theorem d1_49 : decode prog_34_method_4_code 49 = .ok (.bipush 9, 2) := by decide +kernel
theorem d1_51 : decode prog_34_method_4_code 51 = .ok (.if_icmp .eq 9, 3) := by decide +kernel
theorem d1_54 : decode prog_34_method_4_code 54 = .ok (.iload_n 0, 1) := by decide +kernel
theorem d1_55 : decode prog_34_method_4_code 55 = .ok (.bipush 13, 2) := by decide +kernel
theorem d1_57 : decode prog_34_method_4_code 57 = .ok (.if_icmp .ne 7, 3) := by decide +kernel
theorem d1_60 : decode prog_34_method_4_code 60 = .ok (.iconst 1, 1) := by decide +kernel
theorem d1_61 : decode prog_34_method_4_code 61 = .ok (.goto 4, 3) := by decide +kernel
theorem d1_64 : decode prog_34_method_4_code 64 = .ok (.iconst 0, 1) := by decide +kernel
theorem d1_65 : decode prog_34_method_4_code 65 = .ok (.ireturn, 1) := by decide +kernel
theorem pn_0 : plainName "com/example/vine_labels/vinelabels/xmlinput/XmlCharacters" = true := by first | (simp [plainName, overriddenIn]; done) | decide +kernel
theorem ef_1 (m : MethodId) (x0 : Int32) : entryFrame m #[(.int x0)] 1 = mkF m 0 #[.val (.int x0)] [] := by first | (simp [entryFrame, mkF, argsToLocals, Value.category]; done) | rfl
def f1 (p0 : Int32) : Int32 := if p0 < (32 : Int32) then (if p0 = (10 : Int32) then (1 : Int32)
    else if p0 = (9 : Int32) then (1 : Int32)
      else if p0 = (13 : Int32) then (1 : Int32)
        else (0 : Int32))
  else if (55295 : Int32) < p0 then (if p0 < (57344 : Int32) then (0 : Int32)
      else if (65533 : Int32) < p0 then (if p0 < (65536 : Int32) then (0 : Int32)
          else if (1114111 : Int32) < p0 then (0 : Int32)
            else (1 : Int32))
        else (1 : Int32))
    else (1 : Int32)
def Q1 (Z : State) (p0 : Int32) (h0 : Heap) (n0 : Nat) (v : Option Value) (h : Heap) (L : List Loc) : Prop := v = some (.int (f1 p0)) ∧ Fr n0 L ∧ h = h0
set_option maxRecDepth 65536 in
set_option maxHeartbeats 40000000 in
theorem rm1 (l : Launch) (Z : State) (a0 : Array Value) (hw : ∀ d ∈ tables_1, d.before a0 Z = true) (ws : List Jvm.Cond) (p0 : Int32) (h0 : Heap) (n0 : Nat) (Z0 : n0 ≤ h0.size) :
    MetFree l (⟨"com/example/vine_labels/vinelabels/xmlinput/XmlCharacters", "isAllowed", "(I)Z"⟩ : MethodName) (head1 (Jvm.Cond.code (⟨"com/example/vine_labels/vinelabels/xmlinput/XmlCharacters", "isAllowed", "(I)Z"⟩ : MethodName) prog_34_method_4_code 1 (some .boolean) :: ws) ({ frames := 0, cells := 0, slots := 0, locals := 0 } : Room)) (fun a U => a = #[(.int p0)] ∧ Z.Warmed39 U.vm ∧ U.heap = h0) (fun _ _ _ _ _ => True) (fun _ U o U' => ∃ v L, o = .returned v ∧ Q1 Z p0 h0 n0 v U'.heap L ∧ FrameEnd U o U' L ({ frames := 0, cells := 0, slots := 0, locals := 0 } : Room).cells ({ frames := 0, cells := 0, slots := 0, locals := 0 } : Room).slots) := by
  refine MetFree.of_bodySF (plainFor_of_name pn_0) hisR ?_
  intro p e s m args below meth c s₁ Bd hml0 hP hK
  obtain ⟨rfl, hZ, hh⟩ := hP
  have hx := Bd.exec
  have hby := Bd.bytes
  have hml : c.maxLocals = 1 := hml0
  have hown : s.vm.findClass "com/example/vine_labels/vinelabels/xmlinput/XmlCharacters" = some m.cls := findClass_of_methodNamed Bd.named
  have hnm := (name_of_methodNamed Bd.named Bd.method).1
  have X0 : Stand p l e ({ frames := 0, cells := 0, slots := 0, locals := 0 } : Room) s m #[(.int p0)] below meth c s₁ [] 0 0 := Stand.of_body Bd
  have e0 : s₁.heap = h0 := by rw [← hh, Bd.state]; rfl
  have N0 := Fr.nil n0
  have hret := Bd.returns
  have hlk := BodyLoose.notSynchronized Bd
  show own_Out p e below (fun o U' => ∃ v L, o = .returned v ∧ Q1 Z p0 h0 n0 v U'.heap L ∧ FrameEnd s o U' L ({ frames := 0, cells := 0, slots := 0, locals := 0 } : Room).cells ({ frames := 0, cells := 0, slots := 0, locals := 0 } : Room).slots) (s₁.setTop (entryFrame m #[(.int p0)] 1))
  refine own_of (fun t k => castTop (ef_1 m p0) k) ?_
  show own_Out p e below _ (s₁.setTop (mkF m 0 #[.val (.int p0)] []))
  refine own_of (fun _ k => XS.iloadN X0.here hx rfl (hb hby d1_0) rfl k) ?_
  show own_Out p e below _ (s₁.setTop (mkF m 1 #[.val (.int p0)] [(.int p0)]))
  refine own_of (fun _ k => XS.bipush X0.here hx rfl (hb hby d1_1) k) ?_
  show own_Out p e below _ (s₁.setTop (mkF m 3 #[.val (.int p0)] [(.int (32 : Int32)), (.int p0)]))
  by_cases hc3_1 : p0 < (32 : Int32)
  · skip
    refine own_of (fun _ k => XS.icmpYes X0.here hx rfl (pc0 := 3) (pc' := 42) rfl (hb hby d1_3) rfl (tlt hc3_1).1 (by decide) (by decide) k) ?_
    show own_Out p e below _ (s₁.setTop (mkF m 42 #[.val (.int p0)] []))
    refine own_of (fun _ k => XS.iloadN X0.here hx rfl (hb hby d1_42) rfl k) ?_
    show own_Out p e below _ (s₁.setTop (mkF m 43 #[.val (.int p0)] [(.int p0)]))
    refine own_of (fun _ k => XS.bipush X0.here hx rfl (hb hby d1_43) k) ?_
    show own_Out p e below _ (s₁.setTop (mkF m 45 #[.val (.int p0)] [(.int (10 : Int32)), (.int p0)]))
    by_cases hc45_2 : p0 = (10 : Int32)
    · skip
      refine own_of (fun _ k => XS.icmpYes X0.here hx rfl (pc0 := 45) (pc' := 60) rfl (hb hby d1_45) rfl (teq hc45_2).1 (by decide) (by decide) k) ?_
      show own_Out p e below _ (s₁.setTop (mkF m 60 #[.val (.int p0)] []))
      refine own_of (fun _ k => XS.iconst X0.here hx rfl (hb hby d1_60) k) ?_
      show own_Out p e below _ (s₁.setTop (mkF m 61 #[.val (.int p0)] [(.int (1 : Int32))]))
      refine own_of (fun _ k => XS.goto X0.here hx rfl (pc0 := 61) (pc' := 65) rfl (hb hby d1_61) (by decide) (by decide) k) ?_
      show own_Out p e below _ (s₁.setTop (mkF m 65 #[.val (.int p0)] [(.int (1 : Int32))]))
      exact own_outN X0 hx hlk (t := .boolean) hret (by simp) (hb hby d1_65) (z' := (1 : Int32)) rfl (Q := Q1 Z p0 h0 n0) ⟨by simp only [f1, if_pos hc3_1, if_pos hc45_2], N0, e0⟩ (by decide) (by decide)
    · skip
      refine own_of (fun _ k => XS.icmpNo X0.here hx rfl (hb hby d1_45) rfl (feq hc45_2).1 k) ?_
      show own_Out p e below _ (s₁.setTop (mkF m 48 #[.val (.int p0)] []))
      refine own_of (fun _ k => XS.iloadN X0.here hx rfl (hb hby d1_48) rfl k) ?_
      show own_Out p e below _ (s₁.setTop (mkF m 49 #[.val (.int p0)] [(.int p0)]))
      refine own_of (fun _ k => XS.bipush X0.here hx rfl (hb hby d1_49) k) ?_
      show own_Out p e below _ (s₁.setTop (mkF m 51 #[.val (.int p0)] [(.int (9 : Int32)), (.int p0)]))
      by_cases hc51_3 : p0 = (9 : Int32)
      · skip
        refine own_of (fun _ k => XS.icmpYes X0.here hx rfl (pc0 := 51) (pc' := 60) rfl (hb hby d1_51) rfl (teq hc51_3).1 (by decide) (by decide) k) ?_
        show own_Out p e below _ (s₁.setTop (mkF m 60 #[.val (.int p0)] []))
        refine own_of (fun _ k => XS.iconst X0.here hx rfl (hb hby d1_60) k) ?_
        show own_Out p e below _ (s₁.setTop (mkF m 61 #[.val (.int p0)] [(.int (1 : Int32))]))
        refine own_of (fun _ k => XS.goto X0.here hx rfl (pc0 := 61) (pc' := 65) rfl (hb hby d1_61) (by decide) (by decide) k) ?_
        show own_Out p e below _ (s₁.setTop (mkF m 65 #[.val (.int p0)] [(.int (1 : Int32))]))
        exact own_outN X0 hx hlk (t := .boolean) hret (by simp) (hb hby d1_65) (z' := (1 : Int32)) rfl (Q := Q1 Z p0 h0 n0) ⟨by simp only [f1, if_pos hc3_1, if_neg hc45_2, if_pos hc51_3], N0, e0⟩ (by decide) (by decide)
      · skip
        refine own_of (fun _ k => XS.icmpNo X0.here hx rfl (hb hby d1_51) rfl (feq hc51_3).1 k) ?_
        show own_Out p e below _ (s₁.setTop (mkF m 54 #[.val (.int p0)] []))
        refine own_of (fun _ k => XS.iloadN X0.here hx rfl (hb hby d1_54) rfl k) ?_
        show own_Out p e below _ (s₁.setTop (mkF m 55 #[.val (.int p0)] [(.int p0)]))
        refine own_of (fun _ k => XS.bipush X0.here hx rfl (hb hby d1_55) k) ?_
        show own_Out p e below _ (s₁.setTop (mkF m 57 #[.val (.int p0)] [(.int (13 : Int32)), (.int p0)]))
        by_cases hc57_4 : p0 = (13 : Int32)
        · skip
          refine own_of (fun _ k => XS.icmpNo X0.here hx rfl (hb hby d1_57) rfl (teq hc57_4).2 k) ?_
          show own_Out p e below _ (s₁.setTop (mkF m 60 #[.val (.int p0)] []))
          refine own_of (fun _ k => XS.iconst X0.here hx rfl (hb hby d1_60) k) ?_
          show own_Out p e below _ (s₁.setTop (mkF m 61 #[.val (.int p0)] [(.int (1 : Int32))]))
          refine own_of (fun _ k => XS.goto X0.here hx rfl (pc0 := 61) (pc' := 65) rfl (hb hby d1_61) (by decide) (by decide) k) ?_
          show own_Out p e below _ (s₁.setTop (mkF m 65 #[.val (.int p0)] [(.int (1 : Int32))]))
          exact own_outN X0 hx hlk (t := .boolean) hret (by simp) (hb hby d1_65) (z' := (1 : Int32)) rfl (Q := Q1 Z p0 h0 n0) ⟨by simp only [f1, if_pos hc3_1, if_neg hc45_2, if_neg hc51_3, if_pos hc57_4], N0, e0⟩ (by decide) (by decide)
        · skip
          refine own_of (fun _ k => XS.icmpYes X0.here hx rfl (pc0 := 57) (pc' := 64) rfl (hb hby d1_57) rfl (feq hc57_4).2 (by decide) (by decide) k) ?_
          show own_Out p e below _ (s₁.setTop (mkF m 64 #[.val (.int p0)] []))
          refine own_of (fun _ k => XS.iconst X0.here hx rfl (hb hby d1_64) k) ?_
          show own_Out p e below _ (s₁.setTop (mkF m 65 #[.val (.int p0)] [(.int (0 : Int32))]))
          exact own_outN X0 hx hlk (t := .boolean) hret (by simp) (hb hby d1_65) (z' := (0 : Int32)) rfl (Q := Q1 Z p0 h0 n0) ⟨by simp only [f1, if_pos hc3_1, if_neg hc45_2, if_neg hc51_3, if_neg hc57_4], N0, e0⟩ (by decide) (by decide)
  · skip
    refine own_of (fun _ k => XS.icmpNo X0.here hx rfl (hb hby d1_3) rfl (flt hc3_1).1 k) ?_
    show own_Out p e below _ (s₁.setTop (mkF m 6 #[.val (.int p0)] []))
    refine own_of (fun _ k => XS.iloadN X0.here hx rfl (hb hby d1_6) rfl k) ?_
    show own_Out p e below _ (s₁.setTop (mkF m 7 #[.val (.int p0)] [(.int p0)]))
    refine own_of (X0.ldcInt hx hown (mvT hZ (hw _ (List.mem_of_getElem? (i := 19) rfl))) (g := (mkF m 7 #[.val (.int p0)] [(.int p0)])) rfl (hb hby d1_7)) ?_
    show own_Out p e below _ (s₁.setTop (mkF m 9 #[.val (.int p0)] [(.int (55295 : Int32)), (.int p0)]))
    by_cases hc9_5 : (55295 : Int32) < p0
    · skip
      refine own_of (fun _ k => XS.icmpNo X0.here hx rfl (hb hby d1_9) rfl (tlt hc9_5).2.2.2 k) ?_
      show own_Out p e below _ (s₁.setTop (mkF m 12 #[.val (.int p0)] []))
      refine own_of (fun _ k => XS.iloadN X0.here hx rfl (hb hby d1_12) rfl k) ?_
      show own_Out p e below _ (s₁.setTop (mkF m 13 #[.val (.int p0)] [(.int p0)]))
      refine own_of (X0.ldcInt hx hown (mvT hZ (hw _ (List.mem_of_getElem? (i := 20) rfl))) (g := (mkF m 13 #[.val (.int p0)] [(.int p0)])) rfl (hb hby d1_13)) ?_
      show own_Out p e below _ (s₁.setTop (mkF m 15 #[.val (.int p0)] [(.int (57344 : Int32)), (.int p0)]))
      by_cases hc15_6 : p0 < (57344 : Int32)
      · skip
        refine own_of (fun _ k => XS.icmpYes X0.here hx rfl (pc0 := 15) (pc' := 24) rfl (hb hby d1_15) rfl (tlt hc15_6).1 (by decide) (by decide) k) ?_
        show own_Out p e below _ (s₁.setTop (mkF m 24 #[.val (.int p0)] []))
        refine own_of (fun _ k => XS.iloadN X0.here hx rfl (hb hby d1_24) rfl k) ?_
        show own_Out p e below _ (s₁.setTop (mkF m 25 #[.val (.int p0)] [(.int p0)]))
        refine own_of (X0.ldcInt hx hown (mvT hZ (hw _ (List.mem_of_getElem? (i := 21) rfl))) (g := (mkF m 25 #[.val (.int p0)] [(.int p0)])) rfl (hb hby d1_25)) ?_
        show own_Out p e below _ (s₁.setTop (mkF m 27 #[.val (.int p0)] [(.int (65536 : Int32)), (.int p0)]))
        refine own_of (fun _ k => XS.icmpYes X0.here hx rfl (pc0 := 27) (pc' := 40) rfl (hb hby d1_27) rfl (tlt (own_T1 (own_U1 hc15_6) (by decide) : p0 < (65536 : Int32))).1 (by decide) (by decide) k) ?_
        show own_Out p e below _ (s₁.setTop (mkF m 40 #[.val (.int p0)] []))
        refine own_of (fun _ k => XS.iconst X0.here hx rfl (hb hby d1_40) k) ?_
        show own_Out p e below _ (s₁.setTop (mkF m 41 #[.val (.int p0)] [(.int (0 : Int32))]))
        exact own_outN X0 hx hlk (t := .boolean) hret (by simp) (hb hby d1_41) (z' := (0 : Int32)) rfl (Q := Q1 Z p0 h0 n0) ⟨by simp only [f1, if_neg hc3_1, if_pos hc9_5, if_pos hc15_6], N0, e0⟩ (by decide) (by decide)
      · skip
        refine own_of (fun _ k => XS.icmpNo X0.here hx rfl (hb hby d1_15) rfl (flt hc15_6).1 k) ?_
        show own_Out p e below _ (s₁.setTop (mkF m 18 #[.val (.int p0)] []))
        refine own_of (fun _ k => XS.iloadN X0.here hx rfl (hb hby d1_18) rfl k) ?_
        show own_Out p e below _ (s₁.setTop (mkF m 19 #[.val (.int p0)] [(.int p0)]))
        refine own_of (X0.ldcInt hx hown (mvT hZ (hw _ (List.mem_of_getElem? (i := 22) rfl))) (g := (mkF m 19 #[.val (.int p0)] [(.int p0)])) rfl (hb hby d1_19)) ?_
        show own_Out p e below _ (s₁.setTop (mkF m 21 #[.val (.int p0)] [(.int (65533 : Int32)), (.int p0)]))
        by_cases hc21_7 : (65533 : Int32) < p0
        · skip
          refine own_of (fun _ k => XS.icmpNo X0.here hx rfl (hb hby d1_21) rfl (tlt hc21_7).2.2.2 k) ?_
          show own_Out p e below _ (s₁.setTop (mkF m 24 #[.val (.int p0)] []))
          refine own_of (fun _ k => XS.iloadN X0.here hx rfl (hb hby d1_24) rfl k) ?_
          show own_Out p e below _ (s₁.setTop (mkF m 25 #[.val (.int p0)] [(.int p0)]))
          refine own_of (X0.ldcInt hx hown (mvT hZ (hw _ (List.mem_of_getElem? (i := 21) rfl))) (g := (mkF m 25 #[.val (.int p0)] [(.int p0)])) rfl (hb hby d1_25)) ?_
          show own_Out p e below _ (s₁.setTop (mkF m 27 #[.val (.int p0)] [(.int (65536 : Int32)), (.int p0)]))
          by_cases hc27_8 : p0 < (65536 : Int32)
          · skip
            refine own_of (fun _ k => XS.icmpYes X0.here hx rfl (pc0 := 27) (pc' := 40) rfl (hb hby d1_27) rfl (tlt hc27_8).1 (by decide) (by decide) k) ?_
            show own_Out p e below _ (s₁.setTop (mkF m 40 #[.val (.int p0)] []))
            refine own_of (fun _ k => XS.iconst X0.here hx rfl (hb hby d1_40) k) ?_
            show own_Out p e below _ (s₁.setTop (mkF m 41 #[.val (.int p0)] [(.int (0 : Int32))]))
            exact own_outN X0 hx hlk (t := .boolean) hret (by simp) (hb hby d1_41) (z' := (0 : Int32)) rfl (Q := Q1 Z p0 h0 n0) ⟨by simp only [f1, if_neg hc3_1, if_pos hc9_5, if_neg hc15_6, if_pos hc21_7, if_pos hc27_8], N0, e0⟩ (by decide) (by decide)
          · skip
            refine own_of (fun _ k => XS.icmpNo X0.here hx rfl (hb hby d1_27) rfl (flt hc27_8).1 k) ?_
            show own_Out p e below _ (s₁.setTop (mkF m 30 #[.val (.int p0)] []))
            refine own_of (fun _ k => XS.iloadN X0.here hx rfl (hb hby d1_30) rfl k) ?_
            show own_Out p e below _ (s₁.setTop (mkF m 31 #[.val (.int p0)] [(.int p0)]))
            refine own_of (X0.ldcInt hx hown (mvT hZ (hw _ (List.mem_of_getElem? (i := 23) rfl))) (g := (mkF m 31 #[.val (.int p0)] [(.int p0)])) rfl (hb hby d1_31)) ?_
            show own_Out p e below _ (s₁.setTop (mkF m 33 #[.val (.int p0)] [(.int (1114111 : Int32)), (.int p0)]))
            by_cases hc33_9 : (1114111 : Int32) < p0
            · skip
              refine own_of (fun _ k => XS.icmpYes X0.here hx rfl (pc0 := 33) (pc' := 40) rfl (hb hby d1_33) rfl (tlt hc33_9).2.2.1 (by decide) (by decide) k) ?_
              show own_Out p e below _ (s₁.setTop (mkF m 40 #[.val (.int p0)] []))
              refine own_of (fun _ k => XS.iconst X0.here hx rfl (hb hby d1_40) k) ?_
              show own_Out p e below _ (s₁.setTop (mkF m 41 #[.val (.int p0)] [(.int (0 : Int32))]))
              exact own_outN X0 hx hlk (t := .boolean) hret (by simp) (hb hby d1_41) (z' := (0 : Int32)) rfl (Q := Q1 Z p0 h0 n0) ⟨by simp only [f1, if_neg hc3_1, if_pos hc9_5, if_neg hc15_6, if_pos hc21_7, if_neg hc27_8, if_pos hc33_9], N0, e0⟩ (by decide) (by decide)
            · skip
              refine own_of (fun _ k => XS.icmpNo X0.here hx rfl (hb hby d1_33) rfl (flt hc33_9).2.2.1 k) ?_
              show own_Out p e below _ (s₁.setTop (mkF m 36 #[.val (.int p0)] []))
              refine own_of (fun _ k => XS.iconst X0.here hx rfl (hb hby d1_36) k) ?_
              show own_Out p e below _ (s₁.setTop (mkF m 37 #[.val (.int p0)] [(.int (1 : Int32))]))
              refine own_of (fun _ k => XS.goto X0.here hx rfl (pc0 := 37) (pc' := 41) rfl (hb hby d1_37) (by decide) (by decide) k) ?_
              show own_Out p e below _ (s₁.setTop (mkF m 41 #[.val (.int p0)] [(.int (1 : Int32))]))
              exact own_outN X0 hx hlk (t := .boolean) hret (by simp) (hb hby d1_41) (z' := (1 : Int32)) rfl (Q := Q1 Z p0 h0 n0) ⟨by simp only [f1, if_neg hc3_1, if_pos hc9_5, if_neg hc15_6, if_pos hc21_7, if_neg hc27_8, if_neg hc33_9], N0, e0⟩ (by decide) (by decide)
        · skip
          refine own_of (fun _ k => XS.icmpYes X0.here hx rfl (pc0 := 21) (pc' := 36) rfl (hb hby d1_21) rfl (flt hc21_7).2.2.2 (by decide) (by decide) k) ?_
          show own_Out p e below _ (s₁.setTop (mkF m 36 #[.val (.int p0)] []))
          refine own_of (fun _ k => XS.iconst X0.here hx rfl (hb hby d1_36) k) ?_
          show own_Out p e below _ (s₁.setTop (mkF m 37 #[.val (.int p0)] [(.int (1 : Int32))]))
          refine own_of (fun _ k => XS.goto X0.here hx rfl (pc0 := 37) (pc' := 41) rfl (hb hby d1_37) (by decide) (by decide) k) ?_
          show own_Out p e below _ (s₁.setTop (mkF m 41 #[.val (.int p0)] [(.int (1 : Int32))]))
          exact own_outN X0 hx hlk (t := .boolean) hret (by simp) (hb hby d1_41) (z' := (1 : Int32)) rfl (Q := Q1 Z p0 h0 n0) ⟨by simp only [f1, if_neg hc3_1, if_pos hc9_5, if_neg hc15_6, if_neg hc21_7], N0, e0⟩ (by decide) (by decide)
    · skip
      refine own_of (fun _ k => XS.icmpYes X0.here hx rfl (pc0 := 9) (pc' := 36) rfl (hb hby d1_9) rfl (flt hc9_5).2.2.2 (by decide) (by decide) k) ?_
      show own_Out p e below _ (s₁.setTop (mkF m 36 #[.val (.int p0)] []))
      refine own_of (fun _ k => XS.iconst X0.here hx rfl (hb hby d1_36) k) ?_
      show own_Out p e below _ (s₁.setTop (mkF m 37 #[.val (.int p0)] [(.int (1 : Int32))]))
      refine own_of (fun _ k => XS.goto X0.here hx rfl (pc0 := 37) (pc' := 41) rfl (hb hby d1_37) (by decide) (by decide) k) ?_
      show own_Out p e below _ (s₁.setTop (mkF m 41 #[.val (.int p0)] [(.int (1 : Int32))]))
      exact own_outN X0 hx hlk (t := .boolean) hret (by simp) (hb hby d1_41) (z' := (1 : Int32)) rfl (Q := Q1 Z p0 h0 n0) ⟨by simp only [f1, if_neg hc3_1, if_neg hc9_5], N0, e0⟩ (by decide) (by decide)
theorem d2_0 : decode method_2_code 0 = .ok (.iload_n 0, 1) := by decide +kernel
theorem d2_1 : decode method_2_code 1 = .ok (.bipush 9, 2) := by decide +kernel
theorem d2_3 : decode method_2_code 3 = .ok (.if_icmp .eq 51, 3) := by decide +kernel
theorem d2_6 : decode method_2_code 6 = .ok (.iload_n 0, 1) := by decide +kernel
theorem d2_7 : decode method_2_code 7 = .ok (.bipush 10, 2) := by decide +kernel
theorem d2_9 : decode method_2_code 9 = .ok (.if_icmp .eq 45, 3) := by decide +kernel
theorem d2_12 : decode method_2_code 12 = .ok (.iload_n 0, 1) := by decide +kernel
theorem d2_13 : decode method_2_code 13 = .ok (.bipush 13, 2) := by decide +kernel
theorem d2_15 : decode method_2_code 15 = .ok (.if_icmp .eq 39, 3) := by decide +kernel
theorem d2_18 : decode method_2_code 18 = .ok (.iload_n 0, 1) := by decide +kernel
theorem d2_19 : decode method_2_code 19 = .ok (.bipush 32, 2) := by decide +kernel
theorem d2_21 : decode method_2_code 21 = .ok (.if_icmp .lt 9, 3) := by decide +kernel
theorem d2_24 : decode method_2_code 24 = .ok (.iload_n 0, 1) := by decide +kernel
theorem d2_25 : decode method_2_code 25 = .ok (.ldc 7, 2) := by decide +kernel
theorem d2_27 : decode method_2_code 27 = .ok (.if_icmp .le 27, 3) := by decide +kernel
theorem d2_30 : decode method_2_code 30 = .ok (.iload_n 0, 1) := by decide +kernel
theorem d2_31 : decode method_2_code 31 = .ok (.ldc 8, 2) := by decide +kernel
theorem d2_33 : decode method_2_code 33 = .ok (.if_icmp .lt 9, 3) := by decide +kernel
theorem d2_36 : decode method_2_code 36 = .ok (.iload_n 0, 1) := by decide +kernel
theorem d2_37 : decode method_2_code 37 = .ok (.ldc 9, 2) := by decide +kernel
theorem d2_39 : decode method_2_code 39 = .ok (.if_icmp .le 15, 3) := by decide +kernel
theorem d2_42 : decode method_2_code 42 = .ok (.iload_n 0, 1) := by decide +kernel
theorem d2_43 : decode method_2_code 43 = .ok (.ldc 10, 2) := by decide +kernel
theorem d2_45 : decode method_2_code 45 = .ok (.if_icmp .lt 13, 3) := by decide +kernel
theorem d2_48 : decode method_2_code 48 = .ok (.iload_n 0, 1) := by decide +kernel
theorem d2_49 : decode method_2_code 49 = .ok (.ldc 11, 2) := by decide +kernel
theorem d2_51 : decode method_2_code 51 = .ok (.if_icmp .gt 7, 3) := by decide +kernel
theorem d2_54 : decode method_2_code 54 = .ok (.iconst 1, 1) := by decide +kernel
theorem d2_55 : decode method_2_code 55 = .ok (.goto 4, 3) := by decide +kernel
theorem d2_58 : decode method_2_code 58 = .ok (.iconst 0, 1) := by decide +kernel
theorem d2_59 : decode method_2_code 59 = .ok (.ireturn, 1) := by decide +kernel
theorem pn_1 : plainName "com/example/vine_labels/vinelabels/xmlinput/XmlCharactersIsAllowedPinLaw" = true := by first | (simp [plainName, overriddenIn]; done) | decide +kernel
theorem ef_2 (m : MethodId) (x0 : Int32) : entryFrame m #[(.int x0)] 1 = mkF m 0 #[.val (.int x0)] [] := by first | (simp [entryFrame, mkF, argsToLocals, Value.category]; done) | rfl
def f2 (p0 : Int32) : Int32 := if p0 = (9 : Int32) then (1 : Int32)
  else if p0 = (10 : Int32) then (1 : Int32)
    else if p0 = (13 : Int32) then (1 : Int32)
      else if p0 < (32 : Int32) then (0 : Int32)
        else if (55295 : Int32) < p0 then (if p0 < (57344 : Int32) then (0 : Int32)
            else if (65533 : Int32) < p0 then (if p0 < (65536 : Int32) then (0 : Int32)
                else if (1114111 : Int32) < p0 then (0 : Int32)
                  else (1 : Int32))
              else (1 : Int32))
          else (1 : Int32)
def Q2 (Z : State) (p0 : Int32) (h0 : Heap) (n0 : Nat) (v : Option Value) (h : Heap) (L : List Loc) : Prop := v = some (.int (f2 p0)) ∧ Fr n0 L ∧ h = h0
set_option maxRecDepth 65536 in
set_option maxHeartbeats 40000000 in
theorem rm2 (l : Launch) (Z : State) (a0 : Array Value) (hw : ∀ d ∈ tables_1, d.before a0 Z = true) (ws : List Jvm.Cond) (p0 : Int32) (h0 : Heap) (n0 : Nat) (Z0 : n0 ≤ h0.size) :
    MetFree l (⟨"com/example/vine_labels/vinelabels/xmlinput/XmlCharactersIsAllowedPinLaw", "spec", "(I)Z"⟩ : MethodName) (head1 (Jvm.Cond.code (⟨"com/example/vine_labels/vinelabels/xmlinput/XmlCharactersIsAllowedPinLaw", "spec", "(I)Z"⟩ : MethodName) method_2_code 1 (some .boolean) :: ws) ({ frames := 0, cells := 0, slots := 0, locals := 0 } : Room)) (fun a U => a = #[(.int p0)] ∧ Z.Warmed39 U.vm ∧ U.heap = h0) (fun _ _ _ _ _ => True) (fun _ U o U' => ∃ v L, o = .returned v ∧ Q2 Z p0 h0 n0 v U'.heap L ∧ FrameEnd U o U' L ({ frames := 0, cells := 0, slots := 0, locals := 0 } : Room).cells ({ frames := 0, cells := 0, slots := 0, locals := 0 } : Room).slots) := by
  refine MetFree.of_bodySF (plainFor_of_name pn_1) hisR ?_
  intro p e s m args below meth c s₁ Bd hml0 hP hK
  obtain ⟨rfl, hZ, hh⟩ := hP
  have hx := Bd.exec
  have hby := Bd.bytes
  have hml : c.maxLocals = 1 := hml0
  have hown : s.vm.findClass "com/example/vine_labels/vinelabels/xmlinput/XmlCharactersIsAllowedPinLaw" = some m.cls := findClass_of_methodNamed Bd.named
  have hnm := (name_of_methodNamed Bd.named Bd.method).1
  have X0 : Stand p l e ({ frames := 0, cells := 0, slots := 0, locals := 0 } : Room) s m #[(.int p0)] below meth c s₁ [] 0 0 := Stand.of_body Bd
  have e0 : s₁.heap = h0 := by rw [← hh, Bd.state]; rfl
  have N0 := Fr.nil n0
  have hret := Bd.returns
  have hlk := BodyLoose.notSynchronized Bd
  show own_Out p e below (fun o U' => ∃ v L, o = .returned v ∧ Q2 Z p0 h0 n0 v U'.heap L ∧ FrameEnd s o U' L ({ frames := 0, cells := 0, slots := 0, locals := 0 } : Room).cells ({ frames := 0, cells := 0, slots := 0, locals := 0 } : Room).slots) (s₁.setTop (entryFrame m #[(.int p0)] 1))
  refine own_of (fun t k => castTop (ef_2 m p0) k) ?_
  show own_Out p e below _ (s₁.setTop (mkF m 0 #[.val (.int p0)] []))
  refine own_of (fun _ k => XS.iloadN X0.here hx rfl (hb hby d2_0) rfl k) ?_
  show own_Out p e below _ (s₁.setTop (mkF m 1 #[.val (.int p0)] [(.int p0)]))
  refine own_of (fun _ k => XS.bipush X0.here hx rfl (hb hby d2_1) k) ?_
  show own_Out p e below _ (s₁.setTop (mkF m 3 #[.val (.int p0)] [(.int (9 : Int32)), (.int p0)]))
  by_cases hc3_1 : p0 = (9 : Int32)
  · skip
    refine own_of (fun _ k => XS.icmpYes X0.here hx rfl (pc0 := 3) (pc' := 54) rfl (hb hby d2_3) rfl (teq hc3_1).1 (by decide) (by decide) k) ?_
    show own_Out p e below _ (s₁.setTop (mkF m 54 #[.val (.int p0)] []))
    refine own_of (fun _ k => XS.iconst X0.here hx rfl (hb hby d2_54) k) ?_
    show own_Out p e below _ (s₁.setTop (mkF m 55 #[.val (.int p0)] [(.int (1 : Int32))]))
    refine own_of (fun _ k => XS.goto X0.here hx rfl (pc0 := 55) (pc' := 59) rfl (hb hby d2_55) (by decide) (by decide) k) ?_
    show own_Out p e below _ (s₁.setTop (mkF m 59 #[.val (.int p0)] [(.int (1 : Int32))]))
    exact own_outN X0 hx hlk (t := .boolean) hret (by simp) (hb hby d2_59) (z' := (1 : Int32)) rfl (Q := Q2 Z p0 h0 n0) ⟨by simp only [f2, if_pos hc3_1], N0, e0⟩ (by decide) (by decide)
  · skip
    refine own_of (fun _ k => XS.icmpNo X0.here hx rfl (hb hby d2_3) rfl (feq hc3_1).1 k) ?_
    show own_Out p e below _ (s₁.setTop (mkF m 6 #[.val (.int p0)] []))
    refine own_of (fun _ k => XS.iloadN X0.here hx rfl (hb hby d2_6) rfl k) ?_
    show own_Out p e below _ (s₁.setTop (mkF m 7 #[.val (.int p0)] [(.int p0)]))
    refine own_of (fun _ k => XS.bipush X0.here hx rfl (hb hby d2_7) k) ?_
    show own_Out p e below _ (s₁.setTop (mkF m 9 #[.val (.int p0)] [(.int (10 : Int32)), (.int p0)]))
    by_cases hc9_2 : p0 = (10 : Int32)
    · skip
      refine own_of (fun _ k => XS.icmpYes X0.here hx rfl (pc0 := 9) (pc' := 54) rfl (hb hby d2_9) rfl (teq hc9_2).1 (by decide) (by decide) k) ?_
      show own_Out p e below _ (s₁.setTop (mkF m 54 #[.val (.int p0)] []))
      refine own_of (fun _ k => XS.iconst X0.here hx rfl (hb hby d2_54) k) ?_
      show own_Out p e below _ (s₁.setTop (mkF m 55 #[.val (.int p0)] [(.int (1 : Int32))]))
      refine own_of (fun _ k => XS.goto X0.here hx rfl (pc0 := 55) (pc' := 59) rfl (hb hby d2_55) (by decide) (by decide) k) ?_
      show own_Out p e below _ (s₁.setTop (mkF m 59 #[.val (.int p0)] [(.int (1 : Int32))]))
      exact own_outN X0 hx hlk (t := .boolean) hret (by simp) (hb hby d2_59) (z' := (1 : Int32)) rfl (Q := Q2 Z p0 h0 n0) ⟨by simp only [f2, if_neg hc3_1, if_pos hc9_2], N0, e0⟩ (by decide) (by decide)
    · skip
      refine own_of (fun _ k => XS.icmpNo X0.here hx rfl (hb hby d2_9) rfl (feq hc9_2).1 k) ?_
      show own_Out p e below _ (s₁.setTop (mkF m 12 #[.val (.int p0)] []))
      refine own_of (fun _ k => XS.iloadN X0.here hx rfl (hb hby d2_12) rfl k) ?_
      show own_Out p e below _ (s₁.setTop (mkF m 13 #[.val (.int p0)] [(.int p0)]))
      refine own_of (fun _ k => XS.bipush X0.here hx rfl (hb hby d2_13) k) ?_
      show own_Out p e below _ (s₁.setTop (mkF m 15 #[.val (.int p0)] [(.int (13 : Int32)), (.int p0)]))
      by_cases hc15_3 : p0 = (13 : Int32)
      · skip
        refine own_of (fun _ k => XS.icmpYes X0.here hx rfl (pc0 := 15) (pc' := 54) rfl (hb hby d2_15) rfl (teq hc15_3).1 (by decide) (by decide) k) ?_
        show own_Out p e below _ (s₁.setTop (mkF m 54 #[.val (.int p0)] []))
        refine own_of (fun _ k => XS.iconst X0.here hx rfl (hb hby d2_54) k) ?_
        show own_Out p e below _ (s₁.setTop (mkF m 55 #[.val (.int p0)] [(.int (1 : Int32))]))
        refine own_of (fun _ k => XS.goto X0.here hx rfl (pc0 := 55) (pc' := 59) rfl (hb hby d2_55) (by decide) (by decide) k) ?_
        show own_Out p e below _ (s₁.setTop (mkF m 59 #[.val (.int p0)] [(.int (1 : Int32))]))
        exact own_outN X0 hx hlk (t := .boolean) hret (by simp) (hb hby d2_59) (z' := (1 : Int32)) rfl (Q := Q2 Z p0 h0 n0) ⟨by simp only [f2, if_neg hc3_1, if_neg hc9_2, if_pos hc15_3], N0, e0⟩ (by decide) (by decide)
      · skip
        refine own_of (fun _ k => XS.icmpNo X0.here hx rfl (hb hby d2_15) rfl (feq hc15_3).1 k) ?_
        show own_Out p e below _ (s₁.setTop (mkF m 18 #[.val (.int p0)] []))
        refine own_of (fun _ k => XS.iloadN X0.here hx rfl (hb hby d2_18) rfl k) ?_
        show own_Out p e below _ (s₁.setTop (mkF m 19 #[.val (.int p0)] [(.int p0)]))
        refine own_of (fun _ k => XS.bipush X0.here hx rfl (hb hby d2_19) k) ?_
        show own_Out p e below _ (s₁.setTop (mkF m 21 #[.val (.int p0)] [(.int (32 : Int32)), (.int p0)]))
        by_cases hc21_4 : p0 < (32 : Int32)
        · skip
          refine own_of (fun _ k => XS.icmpYes X0.here hx rfl (pc0 := 21) (pc' := 30) rfl (hb hby d2_21) rfl (tlt hc21_4).1 (by decide) (by decide) k) ?_
          show own_Out p e below _ (s₁.setTop (mkF m 30 #[.val (.int p0)] []))
          refine own_of (fun _ k => XS.iloadN X0.here hx rfl (hb hby d2_30) rfl k) ?_
          show own_Out p e below _ (s₁.setTop (mkF m 31 #[.val (.int p0)] [(.int p0)]))
          refine own_of (X0.ldcInt hx hown (mvT hZ (hw _ (List.mem_of_getElem? (i := 2) rfl))) (g := (mkF m 31 #[.val (.int p0)] [(.int p0)])) rfl (hb hby d2_31)) ?_
          show own_Out p e below _ (s₁.setTop (mkF m 33 #[.val (.int p0)] [(.int (57344 : Int32)), (.int p0)]))
          refine own_of (fun _ k => XS.icmpYes X0.here hx rfl (pc0 := 33) (pc' := 42) rfl (hb hby d2_33) rfl (tlt (own_T1 (own_U1 hc21_4) (by decide) : p0 < (57344 : Int32))).1 (by decide) (by decide) k) ?_
          show own_Out p e below _ (s₁.setTop (mkF m 42 #[.val (.int p0)] []))
          refine own_of (fun _ k => XS.iloadN X0.here hx rfl (hb hby d2_42) rfl k) ?_
          show own_Out p e below _ (s₁.setTop (mkF m 43 #[.val (.int p0)] [(.int p0)]))
          refine own_of (X0.ldcInt hx hown (mvT hZ (hw _ (List.mem_of_getElem? (i := 4) rfl))) (g := (mkF m 43 #[.val (.int p0)] [(.int p0)])) rfl (hb hby d2_43)) ?_
          show own_Out p e below _ (s₁.setTop (mkF m 45 #[.val (.int p0)] [(.int (65536 : Int32)), (.int p0)]))
          refine own_of (fun _ k => XS.icmpYes X0.here hx rfl (pc0 := 45) (pc' := 58) rfl (hb hby d2_45) rfl (tlt (own_T1 (own_U1 hc21_4) (by decide) : p0 < (65536 : Int32))).1 (by decide) (by decide) k) ?_
          show own_Out p e below _ (s₁.setTop (mkF m 58 #[.val (.int p0)] []))
          refine own_of (fun _ k => XS.iconst X0.here hx rfl (hb hby d2_58) k) ?_
          show own_Out p e below _ (s₁.setTop (mkF m 59 #[.val (.int p0)] [(.int (0 : Int32))]))
          exact own_outN X0 hx hlk (t := .boolean) hret (by simp) (hb hby d2_59) (z' := (0 : Int32)) rfl (Q := Q2 Z p0 h0 n0) ⟨by simp only [f2, if_neg hc3_1, if_neg hc9_2, if_neg hc15_3, if_pos hc21_4], N0, e0⟩ (by decide) (by decide)
        · skip
          refine own_of (fun _ k => XS.icmpNo X0.here hx rfl (hb hby d2_21) rfl (flt hc21_4).1 k) ?_
          show own_Out p e below _ (s₁.setTop (mkF m 24 #[.val (.int p0)] []))
          refine own_of (fun _ k => XS.iloadN X0.here hx rfl (hb hby d2_24) rfl k) ?_
          show own_Out p e below _ (s₁.setTop (mkF m 25 #[.val (.int p0)] [(.int p0)]))
          refine own_of (X0.ldcInt hx hown (mvT hZ (hw _ (List.mem_of_getElem? (i := 1) rfl))) (g := (mkF m 25 #[.val (.int p0)] [(.int p0)])) rfl (hb hby d2_25)) ?_
          show own_Out p e below _ (s₁.setTop (mkF m 27 #[.val (.int p0)] [(.int (55295 : Int32)), (.int p0)]))
          by_cases hc27_5 : (55295 : Int32) < p0
          · skip
            refine own_of (fun _ k => XS.icmpNo X0.here hx rfl (hb hby d2_27) rfl (tlt hc27_5).2.2.2 k) ?_
            show own_Out p e below _ (s₁.setTop (mkF m 30 #[.val (.int p0)] []))
            refine own_of (fun _ k => XS.iloadN X0.here hx rfl (hb hby d2_30) rfl k) ?_
            show own_Out p e below _ (s₁.setTop (mkF m 31 #[.val (.int p0)] [(.int p0)]))
            refine own_of (X0.ldcInt hx hown (mvT hZ (hw _ (List.mem_of_getElem? (i := 2) rfl))) (g := (mkF m 31 #[.val (.int p0)] [(.int p0)])) rfl (hb hby d2_31)) ?_
            show own_Out p e below _ (s₁.setTop (mkF m 33 #[.val (.int p0)] [(.int (57344 : Int32)), (.int p0)]))
            by_cases hc33_6 : p0 < (57344 : Int32)
            · skip
              refine own_of (fun _ k => XS.icmpYes X0.here hx rfl (pc0 := 33) (pc' := 42) rfl (hb hby d2_33) rfl (tlt hc33_6).1 (by decide) (by decide) k) ?_
              show own_Out p e below _ (s₁.setTop (mkF m 42 #[.val (.int p0)] []))
              refine own_of (fun _ k => XS.iloadN X0.here hx rfl (hb hby d2_42) rfl k) ?_
              show own_Out p e below _ (s₁.setTop (mkF m 43 #[.val (.int p0)] [(.int p0)]))
              refine own_of (X0.ldcInt hx hown (mvT hZ (hw _ (List.mem_of_getElem? (i := 4) rfl))) (g := (mkF m 43 #[.val (.int p0)] [(.int p0)])) rfl (hb hby d2_43)) ?_
              show own_Out p e below _ (s₁.setTop (mkF m 45 #[.val (.int p0)] [(.int (65536 : Int32)), (.int p0)]))
              refine own_of (fun _ k => XS.icmpYes X0.here hx rfl (pc0 := 45) (pc' := 58) rfl (hb hby d2_45) rfl (tlt (own_T1 (own_U1 hc33_6) (by decide) : p0 < (65536 : Int32))).1 (by decide) (by decide) k) ?_
              show own_Out p e below _ (s₁.setTop (mkF m 58 #[.val (.int p0)] []))
              refine own_of (fun _ k => XS.iconst X0.here hx rfl (hb hby d2_58) k) ?_
              show own_Out p e below _ (s₁.setTop (mkF m 59 #[.val (.int p0)] [(.int (0 : Int32))]))
              exact own_outN X0 hx hlk (t := .boolean) hret (by simp) (hb hby d2_59) (z' := (0 : Int32)) rfl (Q := Q2 Z p0 h0 n0) ⟨by simp only [f2, if_neg hc3_1, if_neg hc9_2, if_neg hc15_3, if_neg hc21_4, if_pos hc27_5, if_pos hc33_6], N0, e0⟩ (by decide) (by decide)
            · skip
              refine own_of (fun _ k => XS.icmpNo X0.here hx rfl (hb hby d2_33) rfl (flt hc33_6).1 k) ?_
              show own_Out p e below _ (s₁.setTop (mkF m 36 #[.val (.int p0)] []))
              refine own_of (fun _ k => XS.iloadN X0.here hx rfl (hb hby d2_36) rfl k) ?_
              show own_Out p e below _ (s₁.setTop (mkF m 37 #[.val (.int p0)] [(.int p0)]))
              refine own_of (X0.ldcInt hx hown (mvT hZ (hw _ (List.mem_of_getElem? (i := 3) rfl))) (g := (mkF m 37 #[.val (.int p0)] [(.int p0)])) rfl (hb hby d2_37)) ?_
              show own_Out p e below _ (s₁.setTop (mkF m 39 #[.val (.int p0)] [(.int (65533 : Int32)), (.int p0)]))
              by_cases hc39_7 : (65533 : Int32) < p0
              · skip
                refine own_of (fun _ k => XS.icmpNo X0.here hx rfl (hb hby d2_39) rfl (tlt hc39_7).2.2.2 k) ?_
                show own_Out p e below _ (s₁.setTop (mkF m 42 #[.val (.int p0)] []))
                refine own_of (fun _ k => XS.iloadN X0.here hx rfl (hb hby d2_42) rfl k) ?_
                show own_Out p e below _ (s₁.setTop (mkF m 43 #[.val (.int p0)] [(.int p0)]))
                refine own_of (X0.ldcInt hx hown (mvT hZ (hw _ (List.mem_of_getElem? (i := 4) rfl))) (g := (mkF m 43 #[.val (.int p0)] [(.int p0)])) rfl (hb hby d2_43)) ?_
                show own_Out p e below _ (s₁.setTop (mkF m 45 #[.val (.int p0)] [(.int (65536 : Int32)), (.int p0)]))
                by_cases hc45_8 : p0 < (65536 : Int32)
                · skip
                  refine own_of (fun _ k => XS.icmpYes X0.here hx rfl (pc0 := 45) (pc' := 58) rfl (hb hby d2_45) rfl (tlt hc45_8).1 (by decide) (by decide) k) ?_
                  show own_Out p e below _ (s₁.setTop (mkF m 58 #[.val (.int p0)] []))
                  refine own_of (fun _ k => XS.iconst X0.here hx rfl (hb hby d2_58) k) ?_
                  show own_Out p e below _ (s₁.setTop (mkF m 59 #[.val (.int p0)] [(.int (0 : Int32))]))
                  exact own_outN X0 hx hlk (t := .boolean) hret (by simp) (hb hby d2_59) (z' := (0 : Int32)) rfl (Q := Q2 Z p0 h0 n0) ⟨by simp only [f2, if_neg hc3_1, if_neg hc9_2, if_neg hc15_3, if_neg hc21_4, if_pos hc27_5, if_neg hc33_6, if_pos hc39_7, if_pos hc45_8], N0, e0⟩ (by decide) (by decide)
                · skip
                  refine own_of (fun _ k => XS.icmpNo X0.here hx rfl (hb hby d2_45) rfl (flt hc45_8).1 k) ?_
                  show own_Out p e below _ (s₁.setTop (mkF m 48 #[.val (.int p0)] []))
                  refine own_of (fun _ k => XS.iloadN X0.here hx rfl (hb hby d2_48) rfl k) ?_
                  show own_Out p e below _ (s₁.setTop (mkF m 49 #[.val (.int p0)] [(.int p0)]))
                  refine own_of (X0.ldcInt hx hown (mvT hZ (hw _ (List.mem_of_getElem? (i := 5) rfl))) (g := (mkF m 49 #[.val (.int p0)] [(.int p0)])) rfl (hb hby d2_49)) ?_
                  show own_Out p e below _ (s₁.setTop (mkF m 51 #[.val (.int p0)] [(.int (1114111 : Int32)), (.int p0)]))
                  by_cases hc51_9 : (1114111 : Int32) < p0
                  · skip
                    refine own_of (fun _ k => XS.icmpYes X0.here hx rfl (pc0 := 51) (pc' := 58) rfl (hb hby d2_51) rfl (tlt hc51_9).2.2.1 (by decide) (by decide) k) ?_
                    show own_Out p e below _ (s₁.setTop (mkF m 58 #[.val (.int p0)] []))
                    refine own_of (fun _ k => XS.iconst X0.here hx rfl (hb hby d2_58) k) ?_
                    show own_Out p e below _ (s₁.setTop (mkF m 59 #[.val (.int p0)] [(.int (0 : Int32))]))
                    exact own_outN X0 hx hlk (t := .boolean) hret (by simp) (hb hby d2_59) (z' := (0 : Int32)) rfl (Q := Q2 Z p0 h0 n0) ⟨by simp only [f2, if_neg hc3_1, if_neg hc9_2, if_neg hc15_3, if_neg hc21_4, if_pos hc27_5, if_neg hc33_6, if_pos hc39_7, if_neg hc45_8, if_pos hc51_9], N0, e0⟩ (by decide) (by decide)
                  · skip
                    refine own_of (fun _ k => XS.icmpNo X0.here hx rfl (hb hby d2_51) rfl (flt hc51_9).2.2.1 k) ?_
                    show own_Out p e below _ (s₁.setTop (mkF m 54 #[.val (.int p0)] []))
                    refine own_of (fun _ k => XS.iconst X0.here hx rfl (hb hby d2_54) k) ?_
                    show own_Out p e below _ (s₁.setTop (mkF m 55 #[.val (.int p0)] [(.int (1 : Int32))]))
                    refine own_of (fun _ k => XS.goto X0.here hx rfl (pc0 := 55) (pc' := 59) rfl (hb hby d2_55) (by decide) (by decide) k) ?_
                    show own_Out p e below _ (s₁.setTop (mkF m 59 #[.val (.int p0)] [(.int (1 : Int32))]))
                    exact own_outN X0 hx hlk (t := .boolean) hret (by simp) (hb hby d2_59) (z' := (1 : Int32)) rfl (Q := Q2 Z p0 h0 n0) ⟨by simp only [f2, if_neg hc3_1, if_neg hc9_2, if_neg hc15_3, if_neg hc21_4, if_pos hc27_5, if_neg hc33_6, if_pos hc39_7, if_neg hc45_8, if_neg hc51_9], N0, e0⟩ (by decide) (by decide)
              · skip
                refine own_of (fun _ k => XS.icmpYes X0.here hx rfl (pc0 := 39) (pc' := 54) rfl (hb hby d2_39) rfl (flt hc39_7).2.2.2 (by decide) (by decide) k) ?_
                show own_Out p e below _ (s₁.setTop (mkF m 54 #[.val (.int p0)] []))
                refine own_of (fun _ k => XS.iconst X0.here hx rfl (hb hby d2_54) k) ?_
                show own_Out p e below _ (s₁.setTop (mkF m 55 #[.val (.int p0)] [(.int (1 : Int32))]))
                refine own_of (fun _ k => XS.goto X0.here hx rfl (pc0 := 55) (pc' := 59) rfl (hb hby d2_55) (by decide) (by decide) k) ?_
                show own_Out p e below _ (s₁.setTop (mkF m 59 #[.val (.int p0)] [(.int (1 : Int32))]))
                exact own_outN X0 hx hlk (t := .boolean) hret (by simp) (hb hby d2_59) (z' := (1 : Int32)) rfl (Q := Q2 Z p0 h0 n0) ⟨by simp only [f2, if_neg hc3_1, if_neg hc9_2, if_neg hc15_3, if_neg hc21_4, if_pos hc27_5, if_neg hc33_6, if_neg hc39_7], N0, e0⟩ (by decide) (by decide)
          · skip
            refine own_of (fun _ k => XS.icmpYes X0.here hx rfl (pc0 := 27) (pc' := 54) rfl (hb hby d2_27) rfl (flt hc27_5).2.2.2 (by decide) (by decide) k) ?_
            show own_Out p e below _ (s₁.setTop (mkF m 54 #[.val (.int p0)] []))
            refine own_of (fun _ k => XS.iconst X0.here hx rfl (hb hby d2_54) k) ?_
            show own_Out p e below _ (s₁.setTop (mkF m 55 #[.val (.int p0)] [(.int (1 : Int32))]))
            refine own_of (fun _ k => XS.goto X0.here hx rfl (pc0 := 55) (pc' := 59) rfl (hb hby d2_55) (by decide) (by decide) k) ?_
            show own_Out p e below _ (s₁.setTop (mkF m 59 #[.val (.int p0)] [(.int (1 : Int32))]))
            exact own_outN X0 hx hlk (t := .boolean) hret (by simp) (hb hby d2_59) (z' := (1 : Int32)) rfl (Q := Q2 Z p0 h0 n0) ⟨by simp only [f2, if_neg hc3_1, if_neg hc9_2, if_neg hc15_3, if_neg hc21_4, if_neg hc27_5], N0, e0⟩ (by decide) (by decide)
theorem pd_0 : parseMethodDescriptor "(I)Z" = some ⟨[.int], some .boolean⟩ := by decide +kernel
theorem ef_0 (m : MethodId) (x0 : Int32) (x1 : Int32) : entryFrame m #[(.int x0), (.int x1)] maxLocals = mkF m 0 #[.val (.int x0), .val (.int x1), .unset, .unset] [] := by first | (simp [entryFrame, mkF, argsToLocals, Value.category, maxLocals]; done) | rfl
theorem own_main (p0 : Int32) : f1 p0 = f2 p0 := by
  by_cases c1 : p0 < (32 : Int32)
  · skip
    by_cases c2 : p0 = (10 : Int32)
    · skip
      simp only [f1, f2, if_pos c1, if_pos c2, if_neg (own_T6 (own_L3 c2) (by decide) : ¬ (p0 = (9 : Int32))), if_pos c2]
    · skip
      by_cases c3 : p0 = (9 : Int32)
      · skip
        simp only [f1, f2, if_pos c1, if_neg c2, if_pos c3, if_pos c3]
      · skip
        by_cases c4 : p0 = (13 : Int32)
        · skip
          simp only [f1, f2, if_pos c1, if_neg c2, if_neg c3, if_pos c4, if_neg c3, if_neg c2, if_pos c4]
        · skip
          simp only [f1, f2, if_pos c1, if_neg c2, if_neg c3, if_neg c4, if_neg c3, if_neg c2, if_neg c4, if_pos c1]
  · skip
    by_cases c5 : (55295 : Int32) < p0
    · skip
      by_cases c6 : p0 < (57344 : Int32)
      · skip
        simp only [f1, f2, if_neg c1, if_pos c5, if_pos c6, if_neg (own_T6 (own_L2 c5) (by decide) : ¬ (p0 = (9 : Int32))), if_neg (own_T6 (own_L2 c5) (by decide) : ¬ (p0 = (10 : Int32))), if_neg (own_T6 (own_L2 c5) (by decide) : ¬ (p0 = (13 : Int32))), if_neg c1, if_pos c5, if_pos c6]
      · skip
        by_cases c7 : (65533 : Int32) < p0
        · skip
          by_cases c8 : p0 < (65536 : Int32)
          · skip
            simp only [f1, f2, if_neg c1, if_pos c5, if_neg c6, if_pos c7, if_pos c8, if_neg (own_T6 (own_L2 c7) (by decide) : ¬ (p0 = (9 : Int32))), if_neg (own_T6 (own_L2 c7) (by decide) : ¬ (p0 = (10 : Int32))), if_neg (own_T6 (own_L2 c7) (by decide) : ¬ (p0 = (13 : Int32))), if_neg c1, if_pos c5, if_neg c6, if_pos c7, if_pos c8]
          · skip
            by_cases c9 : (1114111 : Int32) < p0
            · skip
              simp only [f1, f2, if_neg c1, if_pos c5, if_neg c6, if_pos c7, if_neg c8, if_pos c9, if_neg (own_T6 (own_L2 c9) (by decide) : ¬ (p0 = (9 : Int32))), if_neg (own_T6 (own_L2 c9) (by decide) : ¬ (p0 = (10 : Int32))), if_neg (own_T6 (own_L2 c9) (by decide) : ¬ (p0 = (13 : Int32))), if_neg c1, if_pos c5, if_neg c6, if_pos c7, if_neg c8, if_pos c9]
            · skip
              simp only [f1, f2, if_neg c1, if_pos c5, if_neg c6, if_pos c7, if_neg c8, if_neg c9, if_neg (own_T6 (own_L1 c8) (by decide) : ¬ (p0 = (9 : Int32))), if_neg (own_T6 (own_L1 c8) (by decide) : ¬ (p0 = (10 : Int32))), if_neg (own_T6 (own_L1 c8) (by decide) : ¬ (p0 = (13 : Int32))), if_neg c1, if_pos c5, if_neg c6, if_pos c7, if_neg c8, if_neg c9]
        · skip
          simp only [f1, f2, if_neg c1, if_pos c5, if_neg c6, if_neg c7, if_neg (own_T6 (own_L1 c6) (by decide) : ¬ (p0 = (9 : Int32))), if_neg (own_T6 (own_L1 c6) (by decide) : ¬ (p0 = (10 : Int32))), if_neg (own_T6 (own_L1 c6) (by decide) : ¬ (p0 = (13 : Int32))), if_neg c1, if_pos c5, if_neg c6, if_neg c7]
    · skip
      simp only [f1, f2, if_neg c1, if_neg c5, if_neg (own_T6 (own_L1 c1) (by decide) : ¬ (p0 = (9 : Int32))), if_neg (own_T6 (own_L1 c1) (by decide) : ¬ (p0 = (10 : Int32))), if_neg (own_T6 (own_L1 c1) (by decide) : ¬ (p0 = (13 : Int32))), if_neg c1, if_neg c5]
theorem own_idx (x : Int32) : ¬ (x &&& (15 : Int32)) < 0 ∧ (x &&& (15 : Int32)) < (16 : Int32) := by
  have h := c_mask x 15 4 (by decide) (by decide)
  rw [Int32.lt_iff_toInt_lt, Int32.lt_iff_toInt_lt]
  have e0 : (0 : Int32).toInt = 0 := rfl
  have e1 : (16 : Int32).toInt = 16 := rfl
  omega
theorem dead0_0 (p0 : Int32) (p1 : Int32) (xv : Int32) (hc99_34 : (p1 &&& (16 : Int32)) = (0 : Int32)) (hc129_38 : ¬ ((f1 (xv + ((p0 &&& (7 : Int32)) - (4 : Int32)))) = (f2 (xv + ((p0 &&& (7 : Int32)) - (4 : Int32)))))) : False := by
  exact hc129_38 (own_main _)
theorem dead0_1 (p0 : Int32) (p1 : Int32) (hc99_34 : ¬ ((p1 &&& (16 : Int32)) = (0 : Int32))) (hc129_41 : ¬ ((f1 p0) = (f2 p0))) : False := by
  exact hc129_41 (own_main _)
def Q0 (Z : State) (p0 : Int32) (p1 : Int32) (h0 : Heap) (n0 : Nat) (v : Option Value) (h : Heap) (L : List Loc) : Prop := v = some (.int 1) ∧ Fr n0 L
set_option maxRecDepth 65536 in
set_option maxHeartbeats 40000000 in
theorem rm0 (l : Launch) (Z : State) (a0 : Array Value) (hw : ∀ d ∈ tables_1, d.before a0 Z = true) (ws : List Jvm.Cond) (p0 : Int32) (p1 : Int32) (h0 : Heap) (n0 : Nat) (Z0 : n0 ≤ h0.size) :
    MetFree l x (head1 (Jvm.Cond.code x code maxLocals ret :: ws) room_1) (fun a U => a = #[(.int p0), (.int p1)] ∧ Z.Warmed39 U.vm ∧ U.heap = h0) (fun _ _ _ _ _ => True) (fun _ U o U' => ∃ v L, o = .returned v ∧ Q0 Z p0 p1 h0 n0 v U'.heap L ∧ FrameEnd U o U' L 1 16) := by
  refine MetFree.of_bodySF (plainFor_of_name pn_1) hisR ?_
  intro p e s m args below meth c s₁ Bd hml0 hP hK
  obtain ⟨rfl, hZ, hh⟩ := hP
  have hx := Bd.exec
  have hby := Bd.bytes
  have hml : c.maxLocals = 4 := hml0
  have hown : s.vm.findClass "com/example/vine_labels/vinelabels/xmlinput/XmlCharactersIsAllowedPinLaw" = some m.cls := findClass_of_methodNamed Bd.named
  have hnm := (name_of_methodNamed Bd.named Bd.method).1
  have X0 : Stand p l e room_1 s m #[(.int p0), (.int p1)] below meth c s₁ [] 0 0 := Stand.of_body Bd
  have e0 : s₁.heap = h0 := by rw [← hh, Bd.state]; rfl
  have N0 := Fr.nil n0
  have hret := Bd.returns
  have hlk := BodyLoose.notSynchronized Bd
  show own_Out p e below (fun o U' => ∃ v L, o = .returned v ∧ Q0 Z p0 p1 h0 n0 v U'.heap L ∧ FrameEnd s o U' L 1 16) (s₁.setTop (entryFrame m #[(.int p0), (.int p1)] maxLocals))
  refine own_of (fun t k => castTop (ef_0 m p0 p1) k) ?_
  show own_Out p e below _ (s₁.setTop (mkF m 0 #[.val (.int p0), .val (.int p1), .unset, .unset] []))
  refine own_of (fun _ k => XS.bipush X0.here hx rfl (hb hby at_0) k) ?_
  show own_Out p e below _ (s₁.setTop (mkF m 2 #[.val (.int p0), .val (.int p1), .unset, .unset] [(.int (16 : Int32))]))
  obtain ⟨T1, h1, k1, X1, e1, E1, A1, st1⟩ := newP X0 hx hZ (hw _ (List.mem_of_getElem? (i := 0) rfl)) e0 (g := (mkF m 2 #[.val (.int p0), .val (.int p1), .unset, .unset] [(.int (16 : Int32))])) rfl (hb hby at_2) rfl (by decide) (cap := 16) (by decide) (by decide) (by decide) (by decide)
  obtain ⟨b1, g1⟩ : ∃ z, z = h0.size := ⟨_, rfl⟩
  rw [← g1] at A1 st1
  have g_b1 : n0 ≤ b1 := Nat.le_trans Z0 (Nat.le_of_eq g1.symm)
  have Zl1 : n0 ≤ h1.size := Nat.le_trans Z0 E1.1
  have V_b1 : Arv Z h1 b1 k1 .int (16 : Int32) [(.int (0 : Int32)), (.int (0 : Int32)), (.int (0 : Int32)), (.int (0 : Int32)), (.int (0 : Int32)), (.int (0 : Int32)), (.int (0 : Int32)), (.int (0 : Int32)), (.int (0 : Int32)), (.int (0 : Int32)), (.int (0 : Int32)), (.int (0 : Int32)), (.int (0 : Int32)), (.int (0 : Int32)), (.int (0 : Int32)), (.int (0 : Int32))] (.int (0 : Int32)) := (Arv.new A1 (by decide)).pad (pad_rep [] (.int (0 : Int32)) 16)
  refine own_of st1 ?_
  show own_Out p e below _ (T1.setTop (mkF m 4 #[.val (.int p0), .val (.int p1), .unset, .unset] [(.ref b1)]))
  refine own_of (fun _ k => XS.dup X1.here hx rfl (hb hby at_4) rfl rfl k) ?_
  show own_Out p e below _ (T1.setTop (mkF m 5 #[.val (.int p0), .val (.int p1), .unset, .unset] [(.ref b1), (.ref b1)]))
  refine own_of (fun _ k => XS.iconst X1.here hx rfl (hb hby at_5) k) ?_
  show own_Out p e below _ (T1.setTop (mkF m 6 #[.val (.int p0), .val (.int p1), .unset, .unset] [(.int (0 : Int32)), (.ref b1), (.ref b1)]))
  refine own_of (fun _ k => XS.iconst X1.here hx rfl (hb hby at_6) k) ?_
  show own_Out p e below _ (T1.setTop (mkF m 7 #[.val (.int p0), .val (.int p1), .unset, .unset] [(.int (0 : Int32)), (.int (0 : Int32)), (.ref b1), (.ref b1)]))
  obtain ⟨cl2, Ar2, q2, S2, N2', H2, G2⟩ := V_b1
  have hin3 : ¬ ((0 : Int32) < 0 ∨ cl2.slots.size ≤ ((0 : Int32)).toNatClampNeg) := inb_of S2 ⟨by decide, by decide⟩
  obtain ⟨T3, h3, X3, e3, W3, st3⟩ := stI X1 hx hZ e1 Ar2 (j := (0 : Int32)) hin3 (g := (mkF m 7 #[.val (.int p0), .val (.int p1), .unset, .unset] [(.int (0 : Int32)), (.int (0 : Int32)), (.ref b1), (.ref b1)])) rfl rfl (hb hby at_7)
  have V3 := Arv.set Ar2 q2 S2 N2' H2 G2 rfl W3 0 rfl (Nat.le_of_ble_eq_true rfl)
  have N3 := Fr.snoc X3 N0 g_b1
  have Zl3 : n0 ≤ h3.size := Nat.le_trans Zl1 (Keep.of_wr W3).1
  refine own_of st3 ?_
  show own_Out p e below _ (T3.setTop (mkF m 8 #[.val (.int p0), .val (.int p1), .unset, .unset] [(.ref b1)]))
  refine own_of (fun _ k => XS.dup X3.here hx rfl (hb hby at_8) rfl rfl k) ?_
  show own_Out p e below _ (T3.setTop (mkF m 9 #[.val (.int p0), .val (.int p1), .unset, .unset] [(.ref b1), (.ref b1)]))
  refine own_of (fun _ k => XS.iconst X3.here hx rfl (hb hby at_9) k) ?_
  show own_Out p e below _ (T3.setTop (mkF m 10 #[.val (.int p0), .val (.int p1), .unset, .unset] [(.int (1 : Int32)), (.ref b1), (.ref b1)]))
  refine own_of (fun _ k => XS.bipush X3.here hx rfl (hb hby at_10) k) ?_
  show own_Out p e below _ (T3.setTop (mkF m 12 #[.val (.int p0), .val (.int p1), .unset, .unset] [(.int (10 : Int32)), (.int (1 : Int32)), (.ref b1), (.ref b1)]))
  obtain ⟨cl4, Ar4, q4, S4, N4', H4, G4⟩ := V3
  have hin5 : ¬ ((1 : Int32) < 0 ∨ cl4.slots.size ≤ ((1 : Int32)).toNatClampNeg) := inb_of S4 ⟨by decide, by decide⟩
  obtain ⟨T5, h5, X5, e5, W5, st5⟩ := stI X3 hx hZ e3 Ar4 (j := (1 : Int32)) hin5 (g := (mkF m 12 #[.val (.int p0), .val (.int p1), .unset, .unset] [(.int (10 : Int32)), (.int (1 : Int32)), (.ref b1), (.ref b1)])) rfl rfl (hb hby at_12)
  have V5 := Arv.set Ar4 q4 S4 N4' H4 G4 rfl W5 1 rfl (Nat.le_of_ble_eq_true rfl)
  have N5 := Fr.snoc X5 N3 g_b1
  have Zl5 : n0 ≤ h5.size := Nat.le_trans Zl3 (Keep.of_wr W5).1
  refine own_of st5 ?_
  show own_Out p e below _ (T5.setTop (mkF m 13 #[.val (.int p0), .val (.int p1), .unset, .unset] [(.ref b1)]))
  refine own_of (fun _ k => XS.dup X5.here hx rfl (hb hby at_13) rfl rfl k) ?_
  show own_Out p e below _ (T5.setTop (mkF m 14 #[.val (.int p0), .val (.int p1), .unset, .unset] [(.ref b1), (.ref b1)]))
  refine own_of (fun _ k => XS.iconst X5.here hx rfl (hb hby at_14) k) ?_
  show own_Out p e below _ (T5.setTop (mkF m 15 #[.val (.int p0), .val (.int p1), .unset, .unset] [(.int (2 : Int32)), (.ref b1), (.ref b1)]))
  refine own_of (fun _ k => XS.bipush X5.here hx rfl (hb hby at_15) k) ?_
  show own_Out p e below _ (T5.setTop (mkF m 17 #[.val (.int p0), .val (.int p1), .unset, .unset] [(.int (13 : Int32)), (.int (2 : Int32)), (.ref b1), (.ref b1)]))
  obtain ⟨cl6, Ar6, q6, S6, N6', H6, G6⟩ := V5
  have hin7 : ¬ ((2 : Int32) < 0 ∨ cl6.slots.size ≤ ((2 : Int32)).toNatClampNeg) := inb_of S6 ⟨by decide, by decide⟩
  obtain ⟨T7, h7, X7, e7, W7, st7⟩ := stI X5 hx hZ e5 Ar6 (j := (2 : Int32)) hin7 (g := (mkF m 17 #[.val (.int p0), .val (.int p1), .unset, .unset] [(.int (13 : Int32)), (.int (2 : Int32)), (.ref b1), (.ref b1)])) rfl rfl (hb hby at_17)
  have V7 := Arv.set Ar6 q6 S6 N6' H6 G6 rfl W7 2 rfl (Nat.le_of_ble_eq_true rfl)
  have N7 := Fr.snoc X7 N5 g_b1
  have Zl7 : n0 ≤ h7.size := Nat.le_trans Zl5 (Keep.of_wr W7).1
  refine own_of st7 ?_
  show own_Out p e below _ (T7.setTop (mkF m 18 #[.val (.int p0), .val (.int p1), .unset, .unset] [(.ref b1)]))
  refine own_of (fun _ k => XS.dup X7.here hx rfl (hb hby at_18) rfl rfl k) ?_
  show own_Out p e below _ (T7.setTop (mkF m 19 #[.val (.int p0), .val (.int p1), .unset, .unset] [(.ref b1), (.ref b1)]))
  refine own_of (fun _ k => XS.iconst X7.here hx rfl (hb hby at_19) k) ?_
  show own_Out p e below _ (T7.setTop (mkF m 20 #[.val (.int p0), .val (.int p1), .unset, .unset] [(.int (3 : Int32)), (.ref b1), (.ref b1)]))
  refine own_of (fun _ k => XS.bipush X7.here hx rfl (hb hby at_20) k) ?_
  show own_Out p e below _ (T7.setTop (mkF m 22 #[.val (.int p0), .val (.int p1), .unset, .unset] [(.int (32 : Int32)), (.int (3 : Int32)), (.ref b1), (.ref b1)]))
  obtain ⟨cl8, Ar8, q8, S8, N8', H8, G8⟩ := V7
  have hin9 : ¬ ((3 : Int32) < 0 ∨ cl8.slots.size ≤ ((3 : Int32)).toNatClampNeg) := inb_of S8 ⟨by decide, by decide⟩
  obtain ⟨T9, h9, X9, e9, W9, st9⟩ := stI X7 hx hZ e7 Ar8 (j := (3 : Int32)) hin9 (g := (mkF m 22 #[.val (.int p0), .val (.int p1), .unset, .unset] [(.int (32 : Int32)), (.int (3 : Int32)), (.ref b1), (.ref b1)])) rfl rfl (hb hby at_22)
  have V9 := Arv.set Ar8 q8 S8 N8' H8 G8 rfl W9 3 rfl (Nat.le_of_ble_eq_true rfl)
  have N9 := Fr.snoc X9 N7 g_b1
  have Zl9 : n0 ≤ h9.size := Nat.le_trans Zl7 (Keep.of_wr W9).1
  refine own_of st9 ?_
  show own_Out p e below _ (T9.setTop (mkF m 23 #[.val (.int p0), .val (.int p1), .unset, .unset] [(.ref b1)]))
  refine own_of (fun _ k => XS.dup X9.here hx rfl (hb hby at_23) rfl rfl k) ?_
  show own_Out p e below _ (T9.setTop (mkF m 24 #[.val (.int p0), .val (.int p1), .unset, .unset] [(.ref b1), (.ref b1)]))
  refine own_of (fun _ k => XS.iconst X9.here hx rfl (hb hby at_24) k) ?_
  show own_Out p e below _ (T9.setTop (mkF m 25 #[.val (.int p0), .val (.int p1), .unset, .unset] [(.int (4 : Int32)), (.ref b1), (.ref b1)]))
  refine own_of (X9.ldcInt hx hown (mvT hZ (hw _ (List.mem_of_getElem? (i := 1) rfl))) (g := (mkF m 25 #[.val (.int p0), .val (.int p1), .unset, .unset] [(.int (4 : Int32)), (.ref b1), (.ref b1)])) rfl (hb hby at_25)) ?_
  show own_Out p e below _ (T9.setTop (mkF m 27 #[.val (.int p0), .val (.int p1), .unset, .unset] [(.int (55295 : Int32)), (.int (4 : Int32)), (.ref b1), (.ref b1)]))
  obtain ⟨cl10, Ar10, q10, S10, N10', H10, G10⟩ := V9
  have hin11 : ¬ ((4 : Int32) < 0 ∨ cl10.slots.size ≤ ((4 : Int32)).toNatClampNeg) := inb_of S10 ⟨by decide, by decide⟩
  obtain ⟨T11, h11, X11, e11, W11, st11⟩ := stI X9 hx hZ e9 Ar10 (j := (4 : Int32)) hin11 (g := (mkF m 27 #[.val (.int p0), .val (.int p1), .unset, .unset] [(.int (55295 : Int32)), (.int (4 : Int32)), (.ref b1), (.ref b1)])) rfl rfl (hb hby at_27)
  have V11 := Arv.set Ar10 q10 S10 N10' H10 G10 rfl W11 4 rfl (Nat.le_of_ble_eq_true rfl)
  have N11 := Fr.snoc X11 N9 g_b1
  have Zl11 : n0 ≤ h11.size := Nat.le_trans Zl9 (Keep.of_wr W11).1
  refine own_of st11 ?_
  show own_Out p e below _ (T11.setTop (mkF m 28 #[.val (.int p0), .val (.int p1), .unset, .unset] [(.ref b1)]))
  refine own_of (fun _ k => XS.dup X11.here hx rfl (hb hby at_28) rfl rfl k) ?_
  show own_Out p e below _ (T11.setTop (mkF m 29 #[.val (.int p0), .val (.int p1), .unset, .unset] [(.ref b1), (.ref b1)]))
  refine own_of (fun _ k => XS.iconst X11.here hx rfl (hb hby at_29) k) ?_
  show own_Out p e below _ (T11.setTop (mkF m 30 #[.val (.int p0), .val (.int p1), .unset, .unset] [(.int (5 : Int32)), (.ref b1), (.ref b1)]))
  refine own_of (X11.ldcInt hx hown (mvT hZ (hw _ (List.mem_of_getElem? (i := 2) rfl))) (g := (mkF m 30 #[.val (.int p0), .val (.int p1), .unset, .unset] [(.int (5 : Int32)), (.ref b1), (.ref b1)])) rfl (hb hby at_30)) ?_
  show own_Out p e below _ (T11.setTop (mkF m 32 #[.val (.int p0), .val (.int p1), .unset, .unset] [(.int (57344 : Int32)), (.int (5 : Int32)), (.ref b1), (.ref b1)]))
  obtain ⟨cl12, Ar12, q12, S12, N12', H12, G12⟩ := V11
  have hin13 : ¬ ((5 : Int32) < 0 ∨ cl12.slots.size ≤ ((5 : Int32)).toNatClampNeg) := inb_of S12 ⟨by decide, by decide⟩
  obtain ⟨T13, h13, X13, e13, W13, st13⟩ := stI X11 hx hZ e11 Ar12 (j := (5 : Int32)) hin13 (g := (mkF m 32 #[.val (.int p0), .val (.int p1), .unset, .unset] [(.int (57344 : Int32)), (.int (5 : Int32)), (.ref b1), (.ref b1)])) rfl rfl (hb hby at_32)
  have V13 := Arv.set Ar12 q12 S12 N12' H12 G12 rfl W13 5 rfl (Nat.le_of_ble_eq_true rfl)
  have N13 := Fr.snoc X13 N11 g_b1
  have Zl13 : n0 ≤ h13.size := Nat.le_trans Zl11 (Keep.of_wr W13).1
  refine own_of st13 ?_
  show own_Out p e below _ (T13.setTop (mkF m 33 #[.val (.int p0), .val (.int p1), .unset, .unset] [(.ref b1)]))
  refine own_of (fun _ k => XS.dup X13.here hx rfl (hb hby at_33) rfl rfl k) ?_
  show own_Out p e below _ (T13.setTop (mkF m 34 #[.val (.int p0), .val (.int p1), .unset, .unset] [(.ref b1), (.ref b1)]))
  refine own_of (fun _ k => XS.bipush X13.here hx rfl (hb hby at_34) k) ?_
  show own_Out p e below _ (T13.setTop (mkF m 36 #[.val (.int p0), .val (.int p1), .unset, .unset] [(.int (6 : Int32)), (.ref b1), (.ref b1)]))
  refine own_of (X13.ldcInt hx hown (mvT hZ (hw _ (List.mem_of_getElem? (i := 3) rfl))) (g := (mkF m 36 #[.val (.int p0), .val (.int p1), .unset, .unset] [(.int (6 : Int32)), (.ref b1), (.ref b1)])) rfl (hb hby at_36)) ?_
  show own_Out p e below _ (T13.setTop (mkF m 38 #[.val (.int p0), .val (.int p1), .unset, .unset] [(.int (65533 : Int32)), (.int (6 : Int32)), (.ref b1), (.ref b1)]))
  obtain ⟨cl14, Ar14, q14, S14, N14', H14, G14⟩ := V13
  have hin15 : ¬ ((6 : Int32) < 0 ∨ cl14.slots.size ≤ ((6 : Int32)).toNatClampNeg) := inb_of S14 ⟨by decide, by decide⟩
  obtain ⟨T15, h15, X15, e15, W15, st15⟩ := stI X13 hx hZ e13 Ar14 (j := (6 : Int32)) hin15 (g := (mkF m 38 #[.val (.int p0), .val (.int p1), .unset, .unset] [(.int (65533 : Int32)), (.int (6 : Int32)), (.ref b1), (.ref b1)])) rfl rfl (hb hby at_38)
  have V15 := Arv.set Ar14 q14 S14 N14' H14 G14 rfl W15 6 rfl (Nat.le_of_ble_eq_true rfl)
  have N15 := Fr.snoc X15 N13 g_b1
  have Zl15 : n0 ≤ h15.size := Nat.le_trans Zl13 (Keep.of_wr W15).1
  refine own_of st15 ?_
  show own_Out p e below _ (T15.setTop (mkF m 39 #[.val (.int p0), .val (.int p1), .unset, .unset] [(.ref b1)]))
  refine own_of (fun _ k => XS.dup X15.here hx rfl (hb hby at_39) rfl rfl k) ?_
  show own_Out p e below _ (T15.setTop (mkF m 40 #[.val (.int p0), .val (.int p1), .unset, .unset] [(.ref b1), (.ref b1)]))
  refine own_of (fun _ k => XS.bipush X15.here hx rfl (hb hby at_40) k) ?_
  show own_Out p e below _ (T15.setTop (mkF m 42 #[.val (.int p0), .val (.int p1), .unset, .unset] [(.int (7 : Int32)), (.ref b1), (.ref b1)]))
  refine own_of (X15.ldcInt hx hown (mvT hZ (hw _ (List.mem_of_getElem? (i := 4) rfl))) (g := (mkF m 42 #[.val (.int p0), .val (.int p1), .unset, .unset] [(.int (7 : Int32)), (.ref b1), (.ref b1)])) rfl (hb hby at_42)) ?_
  show own_Out p e below _ (T15.setTop (mkF m 44 #[.val (.int p0), .val (.int p1), .unset, .unset] [(.int (65536 : Int32)), (.int (7 : Int32)), (.ref b1), (.ref b1)]))
  obtain ⟨cl16, Ar16, q16, S16, N16', H16, G16⟩ := V15
  have hin17 : ¬ ((7 : Int32) < 0 ∨ cl16.slots.size ≤ ((7 : Int32)).toNatClampNeg) := inb_of S16 ⟨by decide, by decide⟩
  obtain ⟨T17, h17, X17, e17, W17, st17⟩ := stI X15 hx hZ e15 Ar16 (j := (7 : Int32)) hin17 (g := (mkF m 44 #[.val (.int p0), .val (.int p1), .unset, .unset] [(.int (65536 : Int32)), (.int (7 : Int32)), (.ref b1), (.ref b1)])) rfl rfl (hb hby at_44)
  have V17 := Arv.set Ar16 q16 S16 N16' H16 G16 rfl W17 7 rfl (Nat.le_of_ble_eq_true rfl)
  have N17 := Fr.snoc X17 N15 g_b1
  have Zl17 : n0 ≤ h17.size := Nat.le_trans Zl15 (Keep.of_wr W17).1
  refine own_of st17 ?_
  show own_Out p e below _ (T17.setTop (mkF m 45 #[.val (.int p0), .val (.int p1), .unset, .unset] [(.ref b1)]))
  refine own_of (fun _ k => XS.dup X17.here hx rfl (hb hby at_45) rfl rfl k) ?_
  show own_Out p e below _ (T17.setTop (mkF m 46 #[.val (.int p0), .val (.int p1), .unset, .unset] [(.ref b1), (.ref b1)]))
  refine own_of (fun _ k => XS.bipush X17.here hx rfl (hb hby at_46) k) ?_
  show own_Out p e below _ (T17.setTop (mkF m 48 #[.val (.int p0), .val (.int p1), .unset, .unset] [(.int (8 : Int32)), (.ref b1), (.ref b1)]))
  refine own_of (X17.ldcInt hx hown (mvT hZ (hw _ (List.mem_of_getElem? (i := 5) rfl))) (g := (mkF m 48 #[.val (.int p0), .val (.int p1), .unset, .unset] [(.int (8 : Int32)), (.ref b1), (.ref b1)])) rfl (hb hby at_48)) ?_
  show own_Out p e below _ (T17.setTop (mkF m 50 #[.val (.int p0), .val (.int p1), .unset, .unset] [(.int (1114111 : Int32)), (.int (8 : Int32)), (.ref b1), (.ref b1)]))
  obtain ⟨cl18, Ar18, q18, S18, N18', H18, G18⟩ := V17
  have hin19 : ¬ ((8 : Int32) < 0 ∨ cl18.slots.size ≤ ((8 : Int32)).toNatClampNeg) := inb_of S18 ⟨by decide, by decide⟩
  obtain ⟨T19, h19, X19, e19, W19, st19⟩ := stI X17 hx hZ e17 Ar18 (j := (8 : Int32)) hin19 (g := (mkF m 50 #[.val (.int p0), .val (.int p1), .unset, .unset] [(.int (1114111 : Int32)), (.int (8 : Int32)), (.ref b1), (.ref b1)])) rfl rfl (hb hby at_50)
  have V19 := Arv.set Ar18 q18 S18 N18' H18 G18 rfl W19 8 rfl (Nat.le_of_ble_eq_true rfl)
  have N19 := Fr.snoc X19 N17 g_b1
  have Zl19 : n0 ≤ h19.size := Nat.le_trans Zl17 (Keep.of_wr W19).1
  refine own_of st19 ?_
  show own_Out p e below _ (T19.setTop (mkF m 51 #[.val (.int p0), .val (.int p1), .unset, .unset] [(.ref b1)]))
  refine own_of (fun _ k => XS.dup X19.here hx rfl (hb hby at_51) rfl rfl k) ?_
  show own_Out p e below _ (T19.setTop (mkF m 52 #[.val (.int p0), .val (.int p1), .unset, .unset] [(.ref b1), (.ref b1)]))
  refine own_of (fun _ k => XS.bipush X19.here hx rfl (hb hby at_52) k) ?_
  show own_Out p e below _ (T19.setTop (mkF m 54 #[.val (.int p0), .val (.int p1), .unset, .unset] [(.int (9 : Int32)), (.ref b1), (.ref b1)]))
  refine own_of (X19.ldcInt hx hown (mvT hZ (hw _ (List.mem_of_getElem? (i := 6) rfl))) (g := (mkF m 54 #[.val (.int p0), .val (.int p1), .unset, .unset] [(.int (9 : Int32)), (.ref b1), (.ref b1)])) rfl (hb hby at_54)) ?_
  show own_Out p e below _ (T19.setTop (mkF m 56 #[.val (.int p0), .val (.int p1), .unset, .unset] [(.int (-2147483648 : Int32)), (.int (9 : Int32)), (.ref b1), (.ref b1)]))
  obtain ⟨cl20, Ar20, q20, S20, N20', H20, G20⟩ := V19
  have hin21 : ¬ ((9 : Int32) < 0 ∨ cl20.slots.size ≤ ((9 : Int32)).toNatClampNeg) := inb_of S20 ⟨by decide, by decide⟩
  obtain ⟨T21, h21, X21, e21, W21, st21⟩ := stI X19 hx hZ e19 Ar20 (j := (9 : Int32)) hin21 (g := (mkF m 56 #[.val (.int p0), .val (.int p1), .unset, .unset] [(.int (-2147483648 : Int32)), (.int (9 : Int32)), (.ref b1), (.ref b1)])) rfl rfl (hb hby at_56)
  have V21 := Arv.set Ar20 q20 S20 N20' H20 G20 rfl W21 9 rfl (Nat.le_of_ble_eq_true rfl)
  have N21 := Fr.snoc X21 N19 g_b1
  have Zl21 : n0 ≤ h21.size := Nat.le_trans Zl19 (Keep.of_wr W21).1
  refine own_of st21 ?_
  show own_Out p e below _ (T21.setTop (mkF m 57 #[.val (.int p0), .val (.int p1), .unset, .unset] [(.ref b1)]))
  refine own_of (fun _ k => XS.dup X21.here hx rfl (hb hby at_57) rfl rfl k) ?_
  show own_Out p e below _ (T21.setTop (mkF m 58 #[.val (.int p0), .val (.int p1), .unset, .unset] [(.ref b1), (.ref b1)]))
  refine own_of (fun _ k => XS.bipush X21.here hx rfl (hb hby at_58) k) ?_
  show own_Out p e below _ (T21.setTop (mkF m 60 #[.val (.int p0), .val (.int p1), .unset, .unset] [(.int (10 : Int32)), (.ref b1), (.ref b1)]))
  refine own_of (X21.ldcInt hx hown (mvT hZ (hw _ (List.mem_of_getElem? (i := 7) rfl))) (g := (mkF m 60 #[.val (.int p0), .val (.int p1), .unset, .unset] [(.int (10 : Int32)), (.ref b1), (.ref b1)])) rfl (hb hby at_60)) ?_
  show own_Out p e below _ (T21.setTop (mkF m 62 #[.val (.int p0), .val (.int p1), .unset, .unset] [(.int (2147483647 : Int32)), (.int (10 : Int32)), (.ref b1), (.ref b1)]))
  obtain ⟨cl22, Ar22, q22, S22, N22', H22, G22⟩ := V21
  have hin23 : ¬ ((10 : Int32) < 0 ∨ cl22.slots.size ≤ ((10 : Int32)).toNatClampNeg) := inb_of S22 ⟨by decide, by decide⟩
  obtain ⟨T23, h23, X23, e23, W23, st23⟩ := stI X21 hx hZ e21 Ar22 (j := (10 : Int32)) hin23 (g := (mkF m 62 #[.val (.int p0), .val (.int p1), .unset, .unset] [(.int (2147483647 : Int32)), (.int (10 : Int32)), (.ref b1), (.ref b1)])) rfl rfl (hb hby at_62)
  have V23 := Arv.set Ar22 q22 S22 N22' H22 G22 rfl W23 10 rfl (Nat.le_of_ble_eq_true rfl)
  have N23 := Fr.snoc X23 N21 g_b1
  have Zl23 : n0 ≤ h23.size := Nat.le_trans Zl21 (Keep.of_wr W23).1
  refine own_of st23 ?_
  show own_Out p e below _ (T23.setTop (mkF m 63 #[.val (.int p0), .val (.int p1), .unset, .unset] [(.ref b1)]))
  refine own_of (fun _ k => XS.dup X23.here hx rfl (hb hby at_63) rfl rfl k) ?_
  show own_Out p e below _ (T23.setTop (mkF m 64 #[.val (.int p0), .val (.int p1), .unset, .unset] [(.ref b1), (.ref b1)]))
  refine own_of (fun _ k => XS.bipush X23.here hx rfl (hb hby at_64) k) ?_
  show own_Out p e below _ (T23.setTop (mkF m 66 #[.val (.int p0), .val (.int p1), .unset, .unset] [(.int (11 : Int32)), (.ref b1), (.ref b1)]))
  refine own_of (fun _ k => XS.bipush X23.here hx rfl (hb hby at_66) k) ?_
  show own_Out p e below _ (T23.setTop (mkF m 68 #[.val (.int p0), .val (.int p1), .unset, .unset] [(.int (127 : Int32)), (.int (11 : Int32)), (.ref b1), (.ref b1)]))
  obtain ⟨cl24, Ar24, q24, S24, N24', H24, G24⟩ := V23
  have hin25 : ¬ ((11 : Int32) < 0 ∨ cl24.slots.size ≤ ((11 : Int32)).toNatClampNeg) := inb_of S24 ⟨by decide, by decide⟩
  obtain ⟨T25, h25, X25, e25, W25, st25⟩ := stI X23 hx hZ e23 Ar24 (j := (11 : Int32)) hin25 (g := (mkF m 68 #[.val (.int p0), .val (.int p1), .unset, .unset] [(.int (127 : Int32)), (.int (11 : Int32)), (.ref b1), (.ref b1)])) rfl rfl (hb hby at_68)
  have V25 := Arv.set Ar24 q24 S24 N24' H24 G24 rfl W25 11 rfl (Nat.le_of_ble_eq_true rfl)
  have N25 := Fr.snoc X25 N23 g_b1
  have Zl25 : n0 ≤ h25.size := Nat.le_trans Zl23 (Keep.of_wr W25).1
  refine own_of st25 ?_
  show own_Out p e below _ (T25.setTop (mkF m 69 #[.val (.int p0), .val (.int p1), .unset, .unset] [(.ref b1)]))
  refine own_of (fun _ k => XS.dup X25.here hx rfl (hb hby at_69) rfl rfl k) ?_
  show own_Out p e below _ (T25.setTop (mkF m 70 #[.val (.int p0), .val (.int p1), .unset, .unset] [(.ref b1), (.ref b1)]))
  refine own_of (fun _ k => XS.bipush X25.here hx rfl (hb hby at_70) k) ?_
  show own_Out p e below _ (T25.setTop (mkF m 72 #[.val (.int p0), .val (.int p1), .unset, .unset] [(.int (12 : Int32)), (.ref b1), (.ref b1)]))
  refine own_of (X25.ldcInt hx hown (mvT hZ (hw _ (List.mem_of_getElem? (i := 8) rfl))) (g := (mkF m 72 #[.val (.int p0), .val (.int p1), .unset, .unset] [(.int (12 : Int32)), (.ref b1), (.ref b1)])) rfl (hb hby at_72)) ?_
  show own_Out p e below _ (T25.setTop (mkF m 74 #[.val (.int p0), .val (.int p1), .unset, .unset] [(.int (55296 : Int32)), (.int (12 : Int32)), (.ref b1), (.ref b1)]))
  obtain ⟨cl26, Ar26, q26, S26, N26', H26, G26⟩ := V25
  have hin27 : ¬ ((12 : Int32) < 0 ∨ cl26.slots.size ≤ ((12 : Int32)).toNatClampNeg) := inb_of S26 ⟨by decide, by decide⟩
  obtain ⟨T27, h27, X27, e27, W27, st27⟩ := stI X25 hx hZ e25 Ar26 (j := (12 : Int32)) hin27 (g := (mkF m 74 #[.val (.int p0), .val (.int p1), .unset, .unset] [(.int (55296 : Int32)), (.int (12 : Int32)), (.ref b1), (.ref b1)])) rfl rfl (hb hby at_74)
  have V27 := Arv.set Ar26 q26 S26 N26' H26 G26 rfl W27 12 rfl (Nat.le_of_ble_eq_true rfl)
  have N27 := Fr.snoc X27 N25 g_b1
  have Zl27 : n0 ≤ h27.size := Nat.le_trans Zl25 (Keep.of_wr W27).1
  refine own_of st27 ?_
  show own_Out p e below _ (T27.setTop (mkF m 75 #[.val (.int p0), .val (.int p1), .unset, .unset] [(.ref b1)]))
  refine own_of (fun _ k => XS.dup X27.here hx rfl (hb hby at_75) rfl rfl k) ?_
  show own_Out p e below _ (T27.setTop (mkF m 76 #[.val (.int p0), .val (.int p1), .unset, .unset] [(.ref b1), (.ref b1)]))
  refine own_of (fun _ k => XS.bipush X27.here hx rfl (hb hby at_76) k) ?_
  show own_Out p e below _ (T27.setTop (mkF m 78 #[.val (.int p0), .val (.int p1), .unset, .unset] [(.int (13 : Int32)), (.ref b1), (.ref b1)]))
  refine own_of (X27.ldcInt hx hown (mvT hZ (hw _ (List.mem_of_getElem? (i := 9) rfl))) (g := (mkF m 78 #[.val (.int p0), .val (.int p1), .unset, .unset] [(.int (13 : Int32)), (.ref b1), (.ref b1)])) rfl (hb hby at_78)) ?_
  show own_Out p e below _ (T27.setTop (mkF m 80 #[.val (.int p0), .val (.int p1), .unset, .unset] [(.int (56320 : Int32)), (.int (13 : Int32)), (.ref b1), (.ref b1)]))
  obtain ⟨cl28, Ar28, q28, S28, N28', H28, G28⟩ := V27
  have hin29 : ¬ ((13 : Int32) < 0 ∨ cl28.slots.size ≤ ((13 : Int32)).toNatClampNeg) := inb_of S28 ⟨by decide, by decide⟩
  obtain ⟨T29, h29, X29, e29, W29, st29⟩ := stI X27 hx hZ e27 Ar28 (j := (13 : Int32)) hin29 (g := (mkF m 80 #[.val (.int p0), .val (.int p1), .unset, .unset] [(.int (56320 : Int32)), (.int (13 : Int32)), (.ref b1), (.ref b1)])) rfl rfl (hb hby at_80)
  have V29 := Arv.set Ar28 q28 S28 N28' H28 G28 rfl W29 13 rfl (Nat.le_of_ble_eq_true rfl)
  have N29 := Fr.snoc X29 N27 g_b1
  have Zl29 : n0 ≤ h29.size := Nat.le_trans Zl27 (Keep.of_wr W29).1
  refine own_of st29 ?_
  show own_Out p e below _ (T29.setTop (mkF m 81 #[.val (.int p0), .val (.int p1), .unset, .unset] [(.ref b1)]))
  refine own_of (fun _ k => XS.dup X29.here hx rfl (hb hby at_81) rfl rfl k) ?_
  show own_Out p e below _ (T29.setTop (mkF m 82 #[.val (.int p0), .val (.int p1), .unset, .unset] [(.ref b1), (.ref b1)]))
  refine own_of (fun _ k => XS.bipush X29.here hx rfl (hb hby at_82) k) ?_
  show own_Out p e below _ (T29.setTop (mkF m 84 #[.val (.int p0), .val (.int p1), .unset, .unset] [(.int (14 : Int32)), (.ref b1), (.ref b1)]))
  refine own_of (X29.ldcInt hx hown (mvT hZ (hw _ (List.mem_of_getElem? (i := 10) rfl))) (g := (mkF m 84 #[.val (.int p0), .val (.int p1), .unset, .unset] [(.int (14 : Int32)), (.ref b1), (.ref b1)])) rfl (hb hby at_84)) ?_
  show own_Out p e below _ (T29.setTop (mkF m 86 #[.val (.int p0), .val (.int p1), .unset, .unset] [(.int (57343 : Int32)), (.int (14 : Int32)), (.ref b1), (.ref b1)]))
  obtain ⟨cl30, Ar30, q30, S30, N30', H30, G30⟩ := V29
  have hin31 : ¬ ((14 : Int32) < 0 ∨ cl30.slots.size ≤ ((14 : Int32)).toNatClampNeg) := inb_of S30 ⟨by decide, by decide⟩
  obtain ⟨T31, h31, X31, e31, W31, st31⟩ := stI X29 hx hZ e29 Ar30 (j := (14 : Int32)) hin31 (g := (mkF m 86 #[.val (.int p0), .val (.int p1), .unset, .unset] [(.int (57343 : Int32)), (.int (14 : Int32)), (.ref b1), (.ref b1)])) rfl rfl (hb hby at_86)
  have V31 := Arv.set Ar30 q30 S30 N30' H30 G30 rfl W31 14 rfl (Nat.le_of_ble_eq_true rfl)
  have N31 := Fr.snoc X31 N29 g_b1
  have Zl31 : n0 ≤ h31.size := Nat.le_trans Zl29 (Keep.of_wr W31).1
  refine own_of st31 ?_
  show own_Out p e below _ (T31.setTop (mkF m 87 #[.val (.int p0), .val (.int p1), .unset, .unset] [(.ref b1)]))
  refine own_of (fun _ k => XS.dup X31.here hx rfl (hb hby at_87) rfl rfl k) ?_
  show own_Out p e below _ (T31.setTop (mkF m 88 #[.val (.int p0), .val (.int p1), .unset, .unset] [(.ref b1), (.ref b1)]))
  refine own_of (fun _ k => XS.bipush X31.here hx rfl (hb hby at_88) k) ?_
  show own_Out p e below _ (T31.setTop (mkF m 90 #[.val (.int p0), .val (.int p1), .unset, .unset] [(.int (15 : Int32)), (.ref b1), (.ref b1)]))
  refine own_of (fun _ k => XS.sipush X31.here hx rfl (hb hby at_90) k) ?_
  show own_Out p e below _ (T31.setTop (mkF m 93 #[.val (.int p0), .val (.int p1), .unset, .unset] [(.int (128 : Int32)), (.int (15 : Int32)), (.ref b1), (.ref b1)]))
  obtain ⟨cl32, Ar32, q32, S32, N32', H32, G32⟩ := V31
  have hin33 : ¬ ((15 : Int32) < 0 ∨ cl32.slots.size ≤ ((15 : Int32)).toNatClampNeg) := inb_of S32 ⟨by decide, by decide⟩
  obtain ⟨T33, h33, X33, e33, W33, st33⟩ := stI X31 hx hZ e31 Ar32 (j := (15 : Int32)) hin33 (g := (mkF m 93 #[.val (.int p0), .val (.int p1), .unset, .unset] [(.int (128 : Int32)), (.int (15 : Int32)), (.ref b1), (.ref b1)])) rfl rfl (hb hby at_93)
  have V33 := Arv.set Ar32 q32 S32 N32' H32 G32 rfl W33 15 rfl (Nat.le_of_ble_eq_true rfl)
  have N33 := Fr.snoc X33 N31 g_b1
  have Zl33 : n0 ≤ h33.size := Nat.le_trans Zl31 (Keep.of_wr W33).1
  refine own_of st33 ?_
  show own_Out p e below _ (T33.setTop (mkF m 94 #[.val (.int p0), .val (.int p1), .unset, .unset] [(.ref b1)]))
  refine own_of (fun _ k => XS.astoreN X33.here hx rfl (hb hby at_94) rfl rfl (l' := #[.val (.int p0), .val (.int p1), .val (.ref b1), .unset]) rfl k) ?_
  show own_Out p e below _ (T33.setTop (mkF m 95 #[.val (.int p0), .val (.int p1), .val (.ref b1), .unset] []))
  refine own_of (fun _ k => XS.iloadN X33.here hx rfl (hb hby at_95) rfl k) ?_
  show own_Out p e below _ (T33.setTop (mkF m 96 #[.val (.int p0), .val (.int p1), .val (.ref b1), .unset] [(.int p1)]))
  refine own_of (fun _ k => XS.bipush X33.here hx rfl (hb hby at_96) k) ?_
  show own_Out p e below _ (T33.setTop (mkF m 98 #[.val (.int p0), .val (.int p1), .val (.ref b1), .unset] [(.int (16 : Int32)), (.int p1)]))
  refine own_of (fun _ k => XS.iand X33.here hx rfl (hb hby at_98) rfl k) ?_
  show own_Out p e below _ (T33.setTop (mkF m 99 #[.val (.int p0), .val (.int p1), .val (.ref b1), .unset] [(.int (p1 &&& (16 : Int32)))]))
  by_cases hc99_34 : (p1 &&& (16 : Int32)) = (0 : Int32)
  · skip
    refine own_of (fun _ k => XS.ifYes X33.here hx rfl (pc0 := 99) (pc' := 107) rfl (hb hby at_99) rfl ((if0 _ _).trans (teq hc99_34).1) (by decide) (by decide) k) ?_
    show own_Out p e below _ (T33.setTop (mkF m 107 #[.val (.int p0), .val (.int p1), .val (.ref b1), .unset] []))
    refine own_of (fun _ k => XS.aloadN X33.here hx rfl (hb hby at_107) rfl rfl k) ?_
    show own_Out p e below _ (T33.setTop (mkF m 108 #[.val (.int p0), .val (.int p1), .val (.ref b1), .unset] [(.ref b1)]))
    refine own_of (fun _ k => XS.iloadN X33.here hx rfl (hb hby at_108) rfl k) ?_
    show own_Out p e below _ (T33.setTop (mkF m 109 #[.val (.int p0), .val (.int p1), .val (.ref b1), .unset] [(.int p1), (.ref b1)]))
    refine own_of (fun _ k => XS.bipush X33.here hx rfl (hb hby at_109) k) ?_
    show own_Out p e below _ (T33.setTop (mkF m 111 #[.val (.int p0), .val (.int p1), .val (.ref b1), .unset] [(.int (15 : Int32)), (.int p1), (.ref b1)]))
    refine own_of (fun _ k => XS.iand X33.here hx rfl (hb hby at_111) rfl k) ?_
    show own_Out p e below _ (T33.setTop (mkF m 112 #[.val (.int p0), .val (.int p1), .val (.ref b1), .unset] [(.int (p1 &&& (15 : Int32))), (.ref b1)]))
    obtain ⟨cl35, Ar35, q35, S35, N35', H35, G35⟩ := V33
    have hin35 : ¬ ((p1 &&& (15 : Int32)) < 0 ∨ cl35.slots.size ≤ ((p1 &&& (15 : Int32))).toNatClampNeg) := inb_of S35 (own_idx p1)
    have hk35 : ((p1 &&& (15 : Int32))).toNatClampNeg < cl35.slots.size := Nat.lt_of_not_le fun q => hin35 (Or.inr q)
    obtain ⟨xv, hxv⟩ := fit_I (G35 _ hk35) (Or.inl rfl)
    have hat35 := (H35 _ hk35).trans (congrArg some hxv)
    refine own_of (X33.iaload hx (j := (p1 &&& (15 : Int32))) (v := (.int xv)) (by rw [e33]; exact Ar35.1) (State.isArrayOf_alike hZ.alike Ar35.2.1) Ar35.2.2 hin35 hat35 (g := (mkF m 112 #[.val (.int p0), .val (.int p1), .val (.ref b1), .unset] [(.int (p1 &&& (15 : Int32))), (.ref b1)])) rfl rfl (hb hby at_112)) ?_
    show own_Out p e below _ (T33.setTop (mkF m 113 #[.val (.int p0), .val (.int p1), .val (.ref b1), .unset] [(.int xv)]))
    refine own_of (fun _ k => XS.iloadN X33.here hx rfl (hb hby at_113) rfl k) ?_
    show own_Out p e below _ (T33.setTop (mkF m 114 #[.val (.int p0), .val (.int p1), .val (.ref b1), .unset] [(.int p0), (.int xv)]))
    refine own_of (fun _ k => XS.bipush X33.here hx rfl (hb hby at_114) k) ?_
    show own_Out p e below _ (T33.setTop (mkF m 116 #[.val (.int p0), .val (.int p1), .val (.ref b1), .unset] [(.int (7 : Int32)), (.int p0), (.int xv)]))
    refine own_of (fun _ k => XS.iand X33.here hx rfl (hb hby at_116) rfl k) ?_
    show own_Out p e below _ (T33.setTop (mkF m 117 #[.val (.int p0), .val (.int p1), .val (.ref b1), .unset] [(.int (p0 &&& (7 : Int32))), (.int xv)]))
    refine own_of (fun _ k => XS.iconst X33.here hx rfl (hb hby at_117) k) ?_
    show own_Out p e below _ (T33.setTop (mkF m 118 #[.val (.int p0), .val (.int p1), .val (.ref b1), .unset] [(.int (4 : Int32)), (.int (p0 &&& (7 : Int32))), (.int xv)]))
    refine own_of (fun _ k => XS.isub X33.here hx rfl (hb hby at_118) rfl k) ?_
    show own_Out p e below _ (T33.setTop (mkF m 119 #[.val (.int p0), .val (.int p1), .val (.ref b1), .unset] [(.int ((p0 &&& (7 : Int32)) - (4 : Int32))), (.int xv)]))
    refine own_of (fun _ k => XS.iadd X33.here hx rfl (hb hby at_119) rfl k) ?_
    show own_Out p e below _ (T33.setTop (mkF m 120 #[.val (.int p0), .val (.int p1), .val (.ref b1), .unset] [(.int (xv + ((p0 &&& (7 : Int32)) - (4 : Int32))))]))
    refine own_of (fun _ k => XS.istoreN X33.here hx rfl (hb hby at_120) rfl (l' := #[.val (.int p0), .val (.int p1), .val (.ref b1), .val (.int (xv + ((p0 &&& (7 : Int32)) - (4 : Int32))))]) rfl k) ?_
    show own_Out p e below _ (T33.setTop (mkF m 121 #[.val (.int p0), .val (.int p1), .val (.ref b1), .val (.int (xv + ((p0 &&& (7 : Int32)) - (4 : Int32))))] []))
    refine own_of (fun _ k => XS.iloadN X33.here hx rfl (hb hby at_121) rfl k) ?_
    show own_Out p e below _ (T33.setTop (mkF m 122 #[.val (.int p0), .val (.int p1), .val (.ref b1), .val (.int (xv + ((p0 &&& (7 : Int32)) - (4 : Int32))))] [(.int (xv + ((p0 &&& (7 : Int32)) - (4 : Int32))))]))
    obtain ⟨_, _, ⟨T36, L36, k36, n36⟩, -, X36, ⟨Lc36, hQ36, l36, y36, z36⟩, st36⟩ := Jvm.LawKit.callS X33 hx (y := (⟨"com/example/vine_labels/vinelabels/xmlinput/XmlCharacters", "isAllowed", "(I)Z"⟩ : MethodName)) hown (mvT hZ (hw _ (List.mem_of_getElem? (i := 11) rfl))) (mvT hZ (hw _ (List.mem_of_getElem? (i := 12) rfl))) (mvT hZ (hw _ (List.mem_of_getElem? (i := 13) rfl))) (mvT hZ (hw _ (List.mem_of_getElem? (i := 14) rfl))) (by decide) (backOf (W := 0) (rm1 l Z a0 hw [] (xv + ((p0 &&& (7 : Int32)) - (4 : Int32))) h33 n0 Zl33 ) hZ (hw _ (List.mem_of_getElem? (i := 14) rfl)) (hw _ (List.mem_of_getElem? (i := 13) rfl)) (by decide) (by decide)) (g := (mkF m 122 #[.val (.int p0), .val (.int p1), .val (.ref b1), .val (.int (xv + ((p0 &&& (7 : Int32)) - (4 : Int32))))] [(.int (xv + ((p0 &&& (7 : Int32)) - (4 : Int32))))])) rfl (by rw [hml]; rfl) (argsL := [(.int (xv + ((p0 &&& (7 : Int32)) - (4 : Int32))))]) (rest := []) (lenOf pd_0 rfl) rfl (by show 2 * 0 + _ ≤ _; exact Nat.le_of_eq rfl) (hb hby at_122) (fun _ _ => ⟨rfl, e33, (by decide : 1 + 0 ≤ _), (by decide : 16 + 0 ≤ _)⟩)
    dsimp only [Pt.U, Pt.locs, Pt.cells, Pt.slots] at X36 l36 y36 z36 st36 hQ36
    subst l36 y36 z36
    obtain ⟨rfl, N36q, hh36⟩ := hQ36
    have N36 := Fr.app N33 N36q
    refine own_of st36 ?_
    show own_Out p e below _ (T36.setTop (mkF m 125 #[.val (.int p0), .val (.int p1), .val (.ref b1), .val (.int (xv + ((p0 &&& (7 : Int32)) - (4 : Int32))))] [(.int (f1 (xv + ((p0 &&& (7 : Int32)) - (4 : Int32)))))]))
    refine own_of (fun _ k => XS.iloadN X36.here hx rfl (hb hby at_125) rfl k) ?_
    show own_Out p e below _ (T36.setTop (mkF m 126 #[.val (.int p0), .val (.int p1), .val (.ref b1), .val (.int (xv + ((p0 &&& (7 : Int32)) - (4 : Int32))))] [(.int (xv + ((p0 &&& (7 : Int32)) - (4 : Int32)))), (.int (f1 (xv + ((p0 &&& (7 : Int32)) - (4 : Int32)))))]))
    obtain ⟨_, _, ⟨T37, L37, k37, n37⟩, -, X37, ⟨Lc37, hQ37, l37, y37, z37⟩, st37⟩ := Jvm.LawKit.callS X36 hx (y := (⟨"com/example/vine_labels/vinelabels/xmlinput/XmlCharactersIsAllowedPinLaw", "spec", "(I)Z"⟩ : MethodName)) hown (mvT hZ (hw _ (List.mem_of_getElem? (i := 15) rfl))) (mvT hZ (hw _ (List.mem_of_getElem? (i := 16) rfl))) (mvT hZ (hw _ (List.mem_of_getElem? (i := 17) rfl))) (mvT hZ (hw _ (List.mem_of_getElem? (i := 18) rfl))) (by decide) (backOf (W := 1) (rm2 l Z a0 hw [] (xv + ((p0 &&& (7 : Int32)) - (4 : Int32))) h33 n0 Zl33 ) hZ (hw _ (List.mem_of_getElem? (i := 18) rfl)) (hw _ (List.mem_of_getElem? (i := 17) rfl)) (by decide) (by decide)) (g := (mkF m 126 #[.val (.int p0), .val (.int p1), .val (.ref b1), .val (.int (xv + ((p0 &&& (7 : Int32)) - (4 : Int32))))] [(.int (xv + ((p0 &&& (7 : Int32)) - (4 : Int32)))), (.int (f1 (xv + ((p0 &&& (7 : Int32)) - (4 : Int32)))))])) rfl (by rw [hml]; rfl) (argsL := [(.int (xv + ((p0 &&& (7 : Int32)) - (4 : Int32))))]) (rest := [(.int (f1 (xv + ((p0 &&& (7 : Int32)) - (4 : Int32)))))]) (lenOf pd_0 rfl) rfl (by show 2 * 0 + _ ≤ _; exact Nat.le_of_eq rfl) (hb hby at_126) (fun _ _ => ⟨rfl, hh36, (by decide : 1 + 0 ≤ _), (by decide : 16 + 0 ≤ _)⟩)
    dsimp only [Pt.U, Pt.locs, Pt.cells, Pt.slots] at X37 l37 y37 z37 st37 hQ37
    subst l37 y37 z37
    obtain ⟨rfl, N37q, hh37⟩ := hQ37
    have N37 := Fr.app N36 N37q
    refine own_of st37 ?_
    show own_Out p e below _ (T37.setTop (mkF m 129 #[.val (.int p0), .val (.int p1), .val (.ref b1), .val (.int (xv + ((p0 &&& (7 : Int32)) - (4 : Int32))))] [(.int (f2 (xv + ((p0 &&& (7 : Int32)) - (4 : Int32))))), (.int (f1 (xv + ((p0 &&& (7 : Int32)) - (4 : Int32)))))]))
    by_cases hc129_38 : (f1 (xv + ((p0 &&& (7 : Int32)) - (4 : Int32)))) = (f2 (xv + ((p0 &&& (7 : Int32)) - (4 : Int32))))
    · skip
      refine own_of (fun _ k => XS.icmpNo X37.here hx rfl (hb hby at_129) rfl (teq hc129_38).2 k) ?_
      show own_Out p e below _ (T37.setTop (mkF m 132 #[.val (.int p0), .val (.int p1), .val (.ref b1), .val (.int (xv + ((p0 &&& (7 : Int32)) - (4 : Int32))))] []))
      refine own_of (fun _ k => XS.iconst X37.here hx rfl (hb hby at_132) k) ?_
      show own_Out p e below _ (T37.setTop (mkF m 133 #[.val (.int p0), .val (.int p1), .val (.ref b1), .val (.int (xv + ((p0 &&& (7 : Int32)) - (4 : Int32))))] [(.int (1 : Int32))]))
      refine own_of (fun _ k => XS.goto X37.here hx rfl (pc0 := 133) (pc' := 137) rfl (hb hby at_133) (by decide) (by decide) k) ?_
      show own_Out p e below _ (T37.setTop (mkF m 137 #[.val (.int p0), .val (.int p1), .val (.ref b1), .val (.int (xv + ((p0 &&& (7 : Int32)) - (4 : Int32))))] [(.int (1 : Int32))]))
      exact own_outN X37 hx hlk (t := .boolean) hret (by simp) (hb hby at_137) (z' := (1 : Int32)) rfl (Q := Q0 Z p0 p1 h0 n0) ⟨rfl, N37⟩ (by decide) (by decide)
    · skip
      refine own_of (fun _ k => XS.icmpYes X37.here hx rfl (pc0 := 129) (pc' := 136) rfl (hb hby at_129) rfl (feq hc129_38).2 (by decide) (by decide) k) ?_
      show own_Out p e below _ (T37.setTop (mkF m 136 #[.val (.int p0), .val (.int p1), .val (.ref b1), .val (.int (xv + ((p0 &&& (7 : Int32)) - (4 : Int32))))] []))
      refine own_of (fun _ k => XS.iconst X37.here hx rfl (hb hby at_136) k) ?_
      show own_Out p e below _ (T37.setTop (mkF m 137 #[.val (.int p0), .val (.int p1), .val (.ref b1), .val (.int (xv + ((p0 &&& (7 : Int32)) - (4 : Int32))))] [(.int (0 : Int32))]))
      exact (dead0_0 p0 p1 xv hc99_34 hc129_38).elim
  · skip
    refine own_of (fun _ k => XS.ifNo X33.here hx rfl (hb hby at_99) rfl ((if0 _ _).trans (feq hc99_34).1) k) ?_
    show own_Out p e below _ (T33.setTop (mkF m 102 #[.val (.int p0), .val (.int p1), .val (.ref b1), .unset] []))
    refine own_of (fun _ k => XS.iloadN X33.here hx rfl (hb hby at_102) rfl k) ?_
    show own_Out p e below _ (T33.setTop (mkF m 103 #[.val (.int p0), .val (.int p1), .val (.ref b1), .unset] [(.int p0)]))
    refine own_of (fun _ k => XS.istoreN X33.here hx rfl (hb hby at_103) rfl (l' := #[.val (.int p0), .val (.int p1), .val (.ref b1), .val (.int p0)]) rfl k) ?_
    show own_Out p e below _ (T33.setTop (mkF m 104 #[.val (.int p0), .val (.int p1), .val (.ref b1), .val (.int p0)] []))
    refine own_of (fun _ k => XS.goto X33.here hx rfl (pc0 := 104) (pc' := 121) rfl (hb hby at_104) (by decide) (by decide) k) ?_
    show own_Out p e below _ (T33.setTop (mkF m 121 #[.val (.int p0), .val (.int p1), .val (.ref b1), .val (.int p0)] []))
    refine own_of (fun _ k => XS.iloadN X33.here hx rfl (hb hby at_121) rfl k) ?_
    show own_Out p e below _ (T33.setTop (mkF m 122 #[.val (.int p0), .val (.int p1), .val (.ref b1), .val (.int p0)] [(.int p0)]))
    obtain ⟨_, _, ⟨T39, L39, k39, n39⟩, -, X39, ⟨Lc39, hQ39, l39, y39, z39⟩, st39⟩ := Jvm.LawKit.callS X33 hx (y := (⟨"com/example/vine_labels/vinelabels/xmlinput/XmlCharacters", "isAllowed", "(I)Z"⟩ : MethodName)) hown (mvT hZ (hw _ (List.mem_of_getElem? (i := 11) rfl))) (mvT hZ (hw _ (List.mem_of_getElem? (i := 12) rfl))) (mvT hZ (hw _ (List.mem_of_getElem? (i := 13) rfl))) (mvT hZ (hw _ (List.mem_of_getElem? (i := 14) rfl))) (by decide) (backOf (W := 0) (rm1 l Z a0 hw [] p0 h33 n0 Zl33 ) hZ (hw _ (List.mem_of_getElem? (i := 14) rfl)) (hw _ (List.mem_of_getElem? (i := 13) rfl)) (by decide) (by decide)) (g := (mkF m 122 #[.val (.int p0), .val (.int p1), .val (.ref b1), .val (.int p0)] [(.int p0)])) rfl (by rw [hml]; rfl) (argsL := [(.int p0)]) (rest := []) (lenOf pd_0 rfl) rfl (by show 2 * 0 + _ ≤ _; exact Nat.le_of_eq rfl) (hb hby at_122) (fun _ _ => ⟨rfl, e33, (by decide : 1 + 0 ≤ _), (by decide : 16 + 0 ≤ _)⟩)
    dsimp only [Pt.U, Pt.locs, Pt.cells, Pt.slots] at X39 l39 y39 z39 st39 hQ39
    subst l39 y39 z39
    obtain ⟨rfl, N39q, hh39⟩ := hQ39
    have N39 := Fr.app N33 N39q
    refine own_of st39 ?_
    show own_Out p e below _ (T39.setTop (mkF m 125 #[.val (.int p0), .val (.int p1), .val (.ref b1), .val (.int p0)] [(.int (f1 p0))]))
    refine own_of (fun _ k => XS.iloadN X39.here hx rfl (hb hby at_125) rfl k) ?_
    show own_Out p e below _ (T39.setTop (mkF m 126 #[.val (.int p0), .val (.int p1), .val (.ref b1), .val (.int p0)] [(.int p0), (.int (f1 p0))]))
    obtain ⟨_, _, ⟨T40, L40, k40, n40⟩, -, X40, ⟨Lc40, hQ40, l40, y40, z40⟩, st40⟩ := Jvm.LawKit.callS X39 hx (y := (⟨"com/example/vine_labels/vinelabels/xmlinput/XmlCharactersIsAllowedPinLaw", "spec", "(I)Z"⟩ : MethodName)) hown (mvT hZ (hw _ (List.mem_of_getElem? (i := 15) rfl))) (mvT hZ (hw _ (List.mem_of_getElem? (i := 16) rfl))) (mvT hZ (hw _ (List.mem_of_getElem? (i := 17) rfl))) (mvT hZ (hw _ (List.mem_of_getElem? (i := 18) rfl))) (by decide) (backOf (W := 1) (rm2 l Z a0 hw [] p0 h33 n0 Zl33 ) hZ (hw _ (List.mem_of_getElem? (i := 18) rfl)) (hw _ (List.mem_of_getElem? (i := 17) rfl)) (by decide) (by decide)) (g := (mkF m 126 #[.val (.int p0), .val (.int p1), .val (.ref b1), .val (.int p0)] [(.int p0), (.int (f1 p0))])) rfl (by rw [hml]; rfl) (argsL := [(.int p0)]) (rest := [(.int (f1 p0))]) (lenOf pd_0 rfl) rfl (by show 2 * 0 + _ ≤ _; exact Nat.le_of_eq rfl) (hb hby at_126) (fun _ _ => ⟨rfl, hh39, (by decide : 1 + 0 ≤ _), (by decide : 16 + 0 ≤ _)⟩)
    dsimp only [Pt.U, Pt.locs, Pt.cells, Pt.slots] at X40 l40 y40 z40 st40 hQ40
    subst l40 y40 z40
    obtain ⟨rfl, N40q, hh40⟩ := hQ40
    have N40 := Fr.app N39 N40q
    refine own_of st40 ?_
    show own_Out p e below _ (T40.setTop (mkF m 129 #[.val (.int p0), .val (.int p1), .val (.ref b1), .val (.int p0)] [(.int (f2 p0)), (.int (f1 p0))]))
    by_cases hc129_41 : (f1 p0) = (f2 p0)
    · skip
      refine own_of (fun _ k => XS.icmpNo X40.here hx rfl (hb hby at_129) rfl (teq hc129_41).2 k) ?_
      show own_Out p e below _ (T40.setTop (mkF m 132 #[.val (.int p0), .val (.int p1), .val (.ref b1), .val (.int p0)] []))
      refine own_of (fun _ k => XS.iconst X40.here hx rfl (hb hby at_132) k) ?_
      show own_Out p e below _ (T40.setTop (mkF m 133 #[.val (.int p0), .val (.int p1), .val (.ref b1), .val (.int p0)] [(.int (1 : Int32))]))
      refine own_of (fun _ k => XS.goto X40.here hx rfl (pc0 := 133) (pc' := 137) rfl (hb hby at_133) (by decide) (by decide) k) ?_
      show own_Out p e below _ (T40.setTop (mkF m 137 #[.val (.int p0), .val (.int p1), .val (.ref b1), .val (.int p0)] [(.int (1 : Int32))]))
      exact own_outN X40 hx hlk (t := .boolean) hret (by simp) (hb hby at_137) (z' := (1 : Int32)) rfl (Q := Q0 Z p0 p1 h0 n0) ⟨rfl, N40⟩ (by decide) (by decide)
    · skip
      refine own_of (fun _ k => XS.icmpYes X40.here hx rfl (pc0 := 129) (pc' := 136) rfl (hb hby at_129) rfl (feq hc129_41).2 (by decide) (by decide) k) ?_
      show own_Out p e below _ (T40.setTop (mkF m 136 #[.val (.int p0), .val (.int p1), .val (.ref b1), .val (.int p0)] []))
      refine own_of (fun _ k => XS.iconst X40.here hx rfl (hb hby at_136) k) ?_
      show own_Out p e below _ (T40.setTop (mkF m 137 #[.val (.int p0), .val (.int p1), .val (.ref b1), .val (.int p0)] [(.int (0 : Int32))]))
      exact (dead0_1 p0 p1 hc99_34 hc129_41).elim
set_option maxRecDepth 65536 in
set_option maxHeartbeats 40000000 in
theorem comes_1 {Post : Tables → Env → Array Value → State → Outcome → State → Prop} (hpost : ∀ tb e args s v u, (limb_1_1.after args s (.returned v) u = true ∧ limb_1_2.after args s (.returned v) u = true ∧ True) → FrameEnd s (.returned v) u (Jvm.fieldLocs frame_1_writes args s ++ Jvm.arrayLocs frame_1_arrays args s ++ Jvm.staticLocs frame_1_statics s) 16 128 → Post tb e args s (.returned v) u) :
    ArmFor flags0 classFile x code maxLocals ret World_1 tables_1 room_1 Calls_1 rest_1 Pre_1 Post := by
  intro l hfl _ _ p e ha hc hk s m args below hf hA hF happ hP
  obtain ⟨hcalls, hrest, hpre⟩ := hP
  obtain ⟨-, -, -, hnamed, -, -, -, hat⟩ := (Spec.applies_iff hf).mp happ
  obtain ⟨hg, hn⟩ := and_e (Cond.before_iff.mp (show (Jvm.Cond.and given_1 narrow_1).before args s = true from hpre))
  obtain ⟨g1, g2⟩ := and_e hg
  obtain ⟨g3, g4⟩ := and_e g2
  obtain ⟨w0, w1, rfl⟩ : ∃ w0 w1 : Value, args = #[w0, w1] := by
    have hs : args.size = 2 := by simpa [Cond.value, given_1] using g1
    obtain ⟨L⟩ := args
    match L, hs with
    | [w0, w1], _ => exact ⟨w0, w1, rfl⟩
  have hw := fun d (hd : d ∈ tables_1) => atoms_spec (ws := Jvm.Cond.code x code maxLocals ret :: tables_1) hat d (List.mem_cons_of_mem _ hd)
  have hfit : Fit s := fun {y c} hc i hi => by
    obtain ⟨ha, rfl⟩ := Array.getElem?_eq_some_iff.mp hc
    have q := List.all_eq_true.mp ((Array.all_eq_true_iff_forall_mem.mp hF) _ (Array.getElem_mem ha)) i (List.mem_range.mpr hi)
    simpa [Array.getElem?_eq_getElem hi] using q
  obtain ⟨i0, ei0⟩ := is_v g3
  obtain rfl : w0 = (.int i0) := Option.some.inj ei0
  obtain ⟨i1, ei1⟩ := is_v g4
  obtain rfl : w1 = (.int i1) := Option.some.inj ei1
  obtain ⟨n, o, h1, h2, h3, _, L, rfl, ⟨rfl, N⟩, hq⟩ := rm0 l s _ hw tables_1 i0 i1 s.heap s.heap.size (Nat.le_refl _)  p e ha hc hk s m _ below hf ((Spec.applies_iff_loose hf).mp happ).1 ⟨rfl, State.Warmed39.refl s, rfl⟩ trivial
  refine ⟨n, _, h1, h2, h3, hpost _ _ _ _ _ _ ⟨Cond.after_iff.mpr rfl, Cond.after_iff.mpr (eq_i res_at (Term.int_eval (1)) rfl), trivial⟩ ⟨hq.1, hq.2.1, (hq.2.2.sift fun y hy => Or.inr (N y hy)).mono (by decide) (by decide)⟩⟩
theorem main_1_1 : Claimed_1_1 := comes_1 fun _ _ _ _ _ _ h hF => ⟨h.1, hF⟩
theorem main_1_2 : Claimed_1_2 := comes_1 fun _ _ _ _ _ _ h hF => ⟨h.2.1, hF⟩
end Jvm.Pilot.@@N@@
namespace Jvm.Pilot.@@N@@
open Jvm Jvm.ClassFile Sem Op Lib Jvm.Free Jvm.Stand Jvm.Pilot.@@N@@.Jvm.D
/-! MADE BY PROGRAM (witnessworld.py) out of the Statement's table words and the real class files: 9 classes; the members and pool entries that the words name. The judged class is class 1, her method 2. -/
namespace start1
open Jvm.ClassFile
def u (s : String) : CpInfo := .utf8 (stringToUtf16 s)
/-- a pool by its gaps: so many unusable entries, then the entry; so many at the end -/
def gap : Nat → List CpInfo → List CpInfo
  | 0, r => r
  | n + 1, r => .unusable :: gap n r
def poolList (es : List (Nat × CpInfo)) (last : Nat) : List CpInfo := es.foldr (fun e r => gap e.1 (e.2 :: r)) (gap last [])
def pool (es : List (Nat × CpInfo)) (last : Nat) : Array CpInfo := ⟨poolList es last⟩
def fileOf (pool : Array CpInfo) (this : Nat) (attrs : Array Attribute := #[]) (ms : Array MethodInfo := #[]) (fl : Nat := 33) (sup : Nat := 0) (ifs : Array Nat := #[]) (fds : Array FieldInfo := #[]) : ClassFile where
  minorVersion := 0
  majorVersion := 65
  constantPool := pool
  accessFlags := fl
  thisClass := this
  superClass := sup
  interfaces := ifs
  fields := fds
  methods := ms
  attributes := attrs
def plain (name : String) (sup : Option ClassId) : Class where
  name := name
  kind := .ordinary
  loader := none
  accessFlags := 33
  super := sup
  interfaces := #[]
  cf := none
  fields := #[]
  methods := #[]
  instanceTypes := #[]
  staticTypes := #[]
  resolved := #[]
  callSites := []
  init := .initialized
  statics := none
  mirror := none

def pool0 : Array CpInfo := pool [(5, u "<init>"), (0, u "()V"), (1, .class_ 10), (1, u "java/lang/Object")] 113

def k0m0 : Method := { name := "<init>", desc := "()V", sig := { parameters := [], returnType := none }, accessFlags := 1, code := none }
/-- java/lang/Object -/
def k0 : Class := { plain "java/lang/Object" none with
  accessFlags := 33
  interfaces := #[]
  cf := some (fileOf pool0 8 #[] #[{ accessFlags := 1, nameIndex := 5, descriptorIndex := 6, attributes := #[] }] 33 0 #[] #[])
  fields := #[]
  methods := #[k0m0]
  instanceTypes := #[]
  staticTypes := #[]
  resolved := Array.replicate 124 none
  statics := none }

def pool1 : Array CpInfo := pool [(2, .class_ 4), (1, u "java/lang/Object"), (0, u "<init>"), (0, u "()V"), (0, .integer 55295), (0, .integer 57344), (0, .integer 65533), (0, .integer 65536), (0, .integer 1114111), (2, .integer 2147483648), (0, .integer 2147483647), (0, .integer 55296), (0, .integer 56320), (0, .integer 57343), (0, .methodref 20 21), (0, .class_ 22), (0, .nameAndType 23 24), (0, u "com/example/vine_labels/vinelabels/xmlinput/XmlCharacters"), (0, u "isAllowed"), (0, u "(I)Z"), (0, .methodref 26 27), (0, .class_ 28), (0, .nameAndType 29 24), (0, u "com/example/vine_labels/vinelabels/xmlinput/XmlCharactersIsAllowedPinLaw"), (0, u "spec"), (3, u "law"), (0, u "(II)Z")] 4

def k1m0 : Method := { name := "<init>", desc := "()V", sig := { parameters := [], returnType := none }, accessFlags := 2, code := none }
def k1c1 : Code := { maxStack := 2, maxLocals := 1, code := method_2_code, exceptionTable := #[], attributes := #[] }
def k1m1 : Method := { name := "spec", desc := "(I)Z", sig := { parameters := [.int], returnType := some .boolean }, accessFlags := 10, code := some k1c1 }
def k1c2 : Code := { maxStack := 4, maxLocals := 4, code := code, exceptionTable := #[], attributes := #[] }
def k1m2 : Method := { name := "law", desc := "(II)Z", sig := { parameters := [.int, .int], returnType := some .boolean }, accessFlags := 9, code := some k1c2 }
/-- com/example/vine_labels/vinelabels/xmlinput/XmlCharactersIsAllowedPinLaw -/
def k1 : Class := { plain "com/example/vine_labels/vinelabels/xmlinput/XmlCharactersIsAllowedPinLaw" (some 0) with
  accessFlags := 49
  interfaces := #[]
  cf := some (fileOf pool1 26 #[] #[{ accessFlags := 2, nameIndex := 5, descriptorIndex := 6, attributes := #[] }, { accessFlags := 10, nameIndex := 29, descriptorIndex := 24, attributes := #[] }, { accessFlags := 9, nameIndex := 33, descriptorIndex := 34, attributes := #[] }] 49 2 #[] #[])
  fields := #[]
  methods := #[k1m0, k1m1, k1m2]
  instanceTypes := #[]
  staticTypes := #[]
  resolved := Array.replicate 39 none
  statics := none }

def pool2 : Array CpInfo := pool [(2, .class_ 4), (1, u "java/lang/Object"), (0, u "<init>"), (0, u "()V"), (1, .class_ 10), (1, u "com/example/vine_labels/vinelabels/xmlinput/XmlCharacters"), (0, u "KINDS"), (0, u "[B"), (0, .integer 55295), (0, .integer 57344), (0, .integer 65533), (0, .integer 65536), (0, .integer 1114111), (2, u "ASCII"), (7, u "(I)Z"), (20, u "PLAIN"), (0, u "B"), (2, u "SPACE"), (1, u "SPECIAL"), (1, u "NAME_START"), (0, u "I"), (0, u "NAME"), (6, u "isAllowed")] 6

def k2m0 : Method := { name := "<init>", desc := "()V", sig := { parameters := [], returnType := none }, accessFlags := 2, code := none }
def k2c1 : Code := { maxStack := 2, maxLocals := 1, code := prog_34_method_4_code, exceptionTable := #[], attributes := #[] }
def k2m1 : Method := { name := "isAllowed", desc := "(I)Z", sig := { parameters := [.int], returnType := some .boolean }, accessFlags := 8, code := some k2c1 }
/-- com/example/vine_labels/vinelabels/xmlinput/XmlCharacters -/
def k2 : Class := { plain "com/example/vine_labels/vinelabels/xmlinput/XmlCharacters" (some 0) with
  accessFlags := 32
  interfaces := #[]
  cf := some (fileOf pool2 8 #[] #[{ accessFlags := 2, nameIndex := 5, descriptorIndex := 6, attributes := #[] }, { accessFlags := 8, nameIndex := 66, descriptorIndex := 28, attributes := #[] }] 32 2 #[] #[{ accessFlags := 24, nameIndex := 49, descriptorIndex := 50, attributes := #[] }, { accessFlags := 24, nameIndex := 53, descriptorIndex := 50, attributes := #[] }, { accessFlags := 24, nameIndex := 55, descriptorIndex := 50, attributes := #[] }, { accessFlags := 26, nameIndex := 57, descriptorIndex := 58, attributes := #[] }, { accessFlags := 26, nameIndex := 59, descriptorIndex := 58, attributes := #[] }, { accessFlags := 26, nameIndex := 20, descriptorIndex := 12, attributes := #[] }, { accessFlags := 26, nameIndex := 11, descriptorIndex := 12, attributes := #[] }])
  fields := #[{ name := "PLAIN", type := .byte, accessFlags := 24, slot := 0, constantValue := 0 }, { name := "SPACE", type := .byte, accessFlags := 24, slot := 1, constantValue := 0 }, { name := "SPECIAL", type := .byte, accessFlags := 24, slot := 2, constantValue := 0 }, { name := "NAME_START", type := .int, accessFlags := 26, slot := 3, constantValue := 0 }, { name := "NAME", type := .int, accessFlags := 26, slot := 4, constantValue := 0 }, { name := "ASCII", type := (.array .byte), accessFlags := 26, slot := 5, constantValue := 0 }, { name := "KINDS", type := (.array .byte), accessFlags := 26, slot := 6, constantValue := 0 }]
  methods := #[k2m0, k2m1]
  instanceTypes := #[]
  staticTypes := #[.byte, .byte, .byte, .int, .int, (.array .byte), (.array .byte)]
  resolved := Array.replicate 73 none
  statics := none }

def pool3 : Array CpInfo := pool [(1, u "java/lang/Cloneable"), (0, .class_ 1), (0, u "java/lang/Object"), (0, .class_ 3)] 3

/-- java/lang/Cloneable -/
def k3 : Class := { plain "java/lang/Cloneable" (some 0) with
  accessFlags := 1537
  interfaces := #[]
  cf := some (fileOf pool3 2 #[] #[] 1537 4 #[] #[])
  fields := #[]
  methods := #[]
  instanceTypes := #[]
  staticTypes := #[]
  resolved := Array.replicate 8 none
  statics := none }

def pool4 : Array CpInfo := pool [(1, u "java/io/Serializable"), (0, .class_ 1), (0, u "java/lang/Object"), (0, .class_ 3)] 3

/-- java/io/Serializable -/
def k4 : Class := { plain "java/io/Serializable" (some 0) with
  accessFlags := 1537
  interfaces := #[]
  cf := some (fileOf pool4 2 #[] #[] 1537 4 #[] #[])
  fields := #[]
  methods := #[]
  instanceTypes := #[]
  staticTypes := #[]
  resolved := Array.replicate 8 none
  statics := none }

/-- the primitive byte -/
def k5 : Class := { plain "byte" none with kind := .primitive 'B', accessFlags := 0x411 }
/-- [B -/
def k6 : Class := { plain "[B" (some 0) with kind := .array 5 .byte, interfaces := #[3, 4], accessFlags := 1041 }

/-- the primitive int -/
def k7 : Class := { plain "int" none with kind := .primitive 'I', accessFlags := 0x411 }
/-- [I -/
def k8 : Class := { plain "[I" (some 0) with kind := .array 7 .int, interfaces := #[3, 4], accessFlags := 1041 }

def heap : Heap := #[]
def classes : Array Class := #[k0, k1, k2, k3, k4, k5, k6, k7, k8]
def interned : List (Array UInt16 × Addr) := []
def slotsUsed : Nat := 0
def theMethod : MethodId := ⟨1, 2⟩
def args0 : Array Value := #[.int 5, .int 3]
def aboutOver (below : List Frame) : State where
  vm := { classes := classes, interned := interned.toArray }
  heap := heap
  slotsUsed := slotsUsed
  threads := #[{ frames := .invoking theMethod args0 :: below }]
def below0 : List Frame := [.native { method := ⟨0, 0⟩, args := #[] }]
def about1 : State := aboutOver below0
def p0 : Program := .bare "" "" ""
def e0 : Env := launch0.env 0 0 0
theorem w_frames : about1.frames = Frame.invoking theMethod args0 :: below0 := rfl
set_option maxRecDepth 65536 in
theorem w_args : argsFit about1.vm theMethod args0 = true := by decide +kernel
set_option maxRecDepth 65536 in
theorem w_heap : heapFits about1 = true := by decide +kernel
set_option maxRecDepth 65536 in
theorem w_runnable : about1.curStatus? = some .runnable := by decide +kernel
set_option maxRecDepth 65536 in
theorem w_alone : about1.alone = true := by decide +kernel
set_option maxRecDepth 65536 in
theorem w_named : about1.methodNamed? x = some theMethod := by decide +kernel
set_option maxRecDepth 65536 in
theorem w_hears : about1.hears theMethod below0 = true := by decide +kernel
set_option maxRecDepth 65536 in
theorem w_ripe : about1.ripe theMethod args0 below0 = true := by decide +kernel
theorem w_running : about1.status = .running := rfl
set_option maxRecDepth 65536 in
theorem w_room : about1.hasRoom e0.platform room_1 = true :=
  launch0.hasRoom_least _ room_1 (by decide +kernel) (by decide +kernel) (by decide +kernel) (by decide +kernel) (by decide +kernel) (by decide +kernel)
theorem allAtoms_all (ts : List Jvm.Cond) (a : Array Jvm.Value) (st : Jvm.State) : (allAtoms ts).before a st = ts.all (fun c => c.before a st) := by
  induction ts with
  | nil => rfl
  | cons c t ih =>
    show (Jvm.Cond.and c (allAtoms t)).before a st = _
    rw [Jvm.Cond.before_and, ih, List.all_cons]
def words1 : List Jvm.Cond := Jvm.Cond.code x code maxLocals ret :: tables_1
/-- a 'code' word, met by the world's own term for the bytes: nothing is compared byte by byte -/
theorem code_word {y : MethodName} {bytes : ByteArray} {mx : Nat} {rt : Option FieldType} {a : Array Value} {s : State} {m : MethodId} {meth : Method} {c : Code} (h1 : s.methodNamed? y = some m) (h2 : s.vm.method? m = some meth) (h3 : meth.code = some c) (h4 : c.code = bytes)
    (h5 : (c.maxLocals == mx && c.exceptionTable.isEmpty && decide (c.maxStack ≤ mostOperands) && decide (meth.sig.returnType = rt) && !meth.locks && decide (parseMethodDescriptor y.desc = some meth.sig)) = true) : (Jvm.Cond.code y bytes mx rt).before a s = true := by
  simp only [Bool.and_eq_true, beq_iff_eq, Bool.not_eq_true', decide_eq_true_eq] at h5
  obtain ⟨⟨⟨⟨⟨g1, g2⟩, g3⟩, g4⟩, g5⟩, g6⟩ := h5
  simp [Cond.before, Cond.holds, Cond.value, h1, h2, h3, h4, g1, g2, g3, g4, g5, g6]
def isCode : Jvm.Cond → Bool
  | .code _ _ _ _ => true
  | _ => false
theorem all_split {L : List Jvm.Cond} {P : Jvm.Cond → Bool} (h1 : L.all (fun c => isCode c || P c) = true) (h2 : ∀ c ∈ L.filter isCode, P c = true) : L.all P = true := by
  refine List.all_eq_true.mpr fun c hc => ?_
  have h := List.all_eq_true.mp h1 c hc
  rcases Bool.eq_false_or_eq_true (isCode c) with hi | hi
  · exact h2 c (List.mem_filter.mpr ⟨hc, hi⟩)
  · simpa [hi] using h
set_option maxRecDepth 65536 in
theorem w_c0 : (Jvm.Cond.code x code maxLocals ret).before args0 about1 = true := code_word (m := ⟨1, 2⟩) (meth := k1m2) (c := k1c2) (by decide +kernel) rfl rfl rfl (by decide +kernel)
set_option maxRecDepth 65536 in
theorem w_c1 : (Jvm.Cond.code ({ cls := "com/example/vine_labels/vinelabels/xmlinput/XmlCharacters", name := "isAllowed", desc := "(I)Z" } : Jvm.MethodName) prog_34_method_4_code (1 : Nat) (Option.some Jvm.ClassFile.FieldType.boolean)).before args0 about1 = true := code_word (m := ⟨2, 1⟩) (meth := k2m1) (c := k2c1) (by decide +kernel) rfl rfl rfl (by decide +kernel)
set_option maxRecDepth 65536 in
theorem w_c2 : (Jvm.Cond.code ({ cls := "com/example/vine_labels/vinelabels/xmlinput/XmlCharactersIsAllowedPinLaw", name := "spec", desc := "(I)Z" } : Jvm.MethodName) method_2_code (1 : Nat) (Option.some Jvm.ClassFile.FieldType.boolean)).before args0 about1 = true := code_word (m := ⟨1, 1⟩) (meth := k1m1) (c := k1c1) (by decide +kernel) rfl rfl rfl (by decide +kernel)
def codes1 : List Jvm.Cond := [Jvm.Cond.code x code maxLocals ret, Jvm.Cond.code ({ cls := "com/example/vine_labels/vinelabels/xmlinput/XmlCharacters", name := "isAllowed", desc := "(I)Z" } : Jvm.MethodName) prog_34_method_4_code (1 : Nat) (Option.some Jvm.ClassFile.FieldType.boolean), Jvm.Cond.code ({ cls := "com/example/vine_labels/vinelabels/xmlinput/XmlCharactersIsAllowedPinLaw", name := "spec", desc := "(I)Z" } : Jvm.MethodName) method_2_code (1 : Nat) (Option.some Jvm.ClassFile.FieldType.boolean)]
set_option maxRecDepth 65536 in
theorem codes_eq : words1.filter isCode = codes1 := rfl
theorem w_codes : ∀ c ∈ words1.filter isCode, c.before args0 about1 = true := by
  rw [codes_eq]
  intro c hc
  simp only [codes1, List.mem_cons, List.not_mem_nil, or_false] at hc
  rcases hc with rfl | rfl | rfl
  · exact w_c0
  · exact w_c1
  · exact w_c2
set_option maxRecDepth 65536 in
theorem w_t1 : (words1.take 24).all (fun c => isCode c || c.before args0 about1) = true := by decide +kernel
set_option maxRecDepth 65536 in
theorem w_t2 : (words1.drop 24).all (fun c => isCode c || c.before args0 about1) = true := by decide +kernel
theorem w_tables : (allAtoms (Jvm.Cond.code x code maxLocals ret :: tables_1)).before args0 about1 = true := by
  rw [allAtoms_all]
  show words1.all (fun c => c.before args0 about1) = true
  refine all_split ?_ w_codes
  rw [← List.take_append_drop 24 words1, List.all_append, w_t1, w_t2]
  rfl
set_option maxRecDepth 65536 in
theorem w_case : (Jvm.Cond.and given_1 narrow_1).before args0 about1 = true := by decide +kernel
theorem w_applies : (headSpec (Jvm.Cond.code x code maxLocals ret :: tables_1) room_1).applies x e0.platform about1 = true :=
  (Spec.applies_iff w_frames).mpr ⟨w_running, w_runnable, w_alone, w_named, w_hears, w_ripe, w_room, w_tables⟩
theorem atStart : AtStart classFile x code maxLocals ret World_1 tables_1 room_1 Calls_1 rest_1 Pre_1 launch0 p0 e0 about1 theMethod args0 below0 :=
  ⟨lists_1, trivial, launch0.admits_env _ _ _, launch0.least_env, fairChoices_fair.cas, fairChoices_fair.clock, w_frames, w_args, w_heap, w_applies, trivial, trivial, w_case⟩
end start1
theorem witness_1 : WitnessClaimed_1 := ⟨start1.p0, start1.e0, start1.about1, start1.theMethod, start1.args0, start1.below0, start1.atStart⟩
end Jvm.Pilot.@@N@@
