import JvmDerived
import JvmDerived.Pilot.@@N@@Statement
import JvmDerived.Pilot.@@N@@Code
set_option linter.unusedVariables false
set_option linter.unusedSimpArgs false
@@BLOCK:NumsL.lean.txt@@
namespace Jvm.RoadKit
open Sem ClassFile Op Lib Jvm.Stand Jvm.Free Jvm.LawKit
/-- from the state S the run comes to an end that P holds of -/
def own_Out (p : Program) (e : Env) (below : List Frame) (P : Outcome → State → Prop) (S : State) : Prop := ∃ s₂ o, Steps p.tables e below S s₂ ∧ s₂.status = .running ∧ Ended s₂ below o ∧ P o s₂
theorem own_dupX2 {tb : Tables} [Ours tb] {e : Env} {below : List Frame} {T target : State} {m : MethodId} {c : Code} {g : JFrame} (h : At T m c below) (hx : tb.exec = Jvm.exec) (hg : g.method = m) {x y z : Value} {rest : List Value} (hd : decode c.code g.pc = .ok (.dup_x2, 1)) (hs : g.stack = x :: y :: z :: rest) (h1 : x.category = 1) (h2 : y.category = 1) (h3 : z.category = 1)
    (hr : Steps tb e below (T.setTop { g with pc := g.pc + 1, stack := x :: y :: z :: x :: rest }) target) : Steps tb e below (T.setTop g) target := by
  subst hg
  jvm_step h [h.top, hx, hd, hs, h1, h2, h3]
  exact hr
theorem own_of {p : Program} {e : Env} {below : List Frame} {P : Outcome → State → Prop} {S S' : State} (h : ∀ t, Steps p.tables e below S' t → Steps p.tables e below S t) (k : own_Out p e below P S') : own_Out p e below P S := by
  obtain ⟨a, b, c, d⟩ := k
  exact ⟨a, b, h a c, d⟩
section New
variable {p : Program} {l : Launch} {e : Env} {R : Room} {s : State} {m : MethodId} {args : Array Value} {below : List Frame} {meth : Method} {c : Code} {T : State} {locs : List Loc} {cells slots : Nat}
theorem own_retI (X : Stand p l e R s m args below meth c T locs cells slots) (hx : p.tables.exec = Jvm.exec) {pc : Nat} {Ls : Array Slot} {z : Int32} {rest : List Value} (hret : meth.sig.returnType = some .int) (hd : decode c.code pc = .ok (.ireturn, 1)) {fs : List Frame}
    (hl : ∀ (f : JFrame) (acts : List Action), f.method = m → f.locked = none → f.entered = [] → (doReturn e (T.setTop f) acts (some (.int z))).1 = T.setFrames fs) : Steps p.tables e below (T.setTop (mkF m pc Ls (.int z :: rest))) (T.setFrames fs) := retOut X hx hret rfl (Or.inl ⟨rfl, Or.inl rfl, z, rfl⟩) hd hl
theorem own_end (X : Stand p l e R s m args below meth c T locs cells slots) (hlk : meth.locks = false) {v : Option Value} (hv : meth.sig.returnType = none → v = none) {g : JFrame}
    (hs : ∀ fs, (∀ (f : JFrame) (acts : List Action), f.method = m → f.locked = none → f.entered = [] → (doReturn e (T.setTop f) acts v).1 = T.setFrames fs) → Steps p.tables e below (T.setTop g) (T.setFrames fs))
    {Q : Option Value → Heap → List Loc → Prop} (hQ : Q v T.heap locs) {C N : Nat} (hC : cells ≤ C) (hN : slots ≤ N) :
    own_Out p e below (fun o U' => ∃ v L, o = .returned v ∧ Q v U'.heap L ∧ FrameEnd s o U' L C N) (T.setTop g) := by
  obtain ⟨fs, hr, hrun, hended, hW, hsame⟩ := X.leave (v := v) hv hlk
  exact ⟨_, _, hs fs hr, hrun, hended, _, _, rfl, hQ, ⟨_, rfl⟩, hW, hsame.mono hC hN⟩
theorem own_endW {vm₁ : Vm} (X : Stand p l e R (s.setVm vm₁) m args below meth c T locs cells slots) {n : Nat} (hS : s.Since vm₁ n) (hn : n ≤ T.heap.size) (hlk : meth.locks = false) {v : Option Value} (hv : meth.sig.returnType = none → v = none) {g : JFrame}
    (hs : ∀ fs, (∀ (f : JFrame) (acts : List Action), f.method = m → f.locked = none → f.entered = [] → (doReturn e (T.setTop f) acts v).1 = T.setFrames fs) → Steps p.tables e below (T.setTop g) (T.setFrames fs))
    {Q : Option Value → Heap → List Loc → Prop} (hQ : Q v T.heap locs) {C N : Nat} (hC : cells ≤ C) (hN : slots ≤ N) :
    own_Out p e below (fun o U' => ∃ v L, o = .returned v ∧ Q v U'.heap L ∧ ReturnedEndW s o U' L C N) (T.setTop g) := by
  obtain ⟨fs, hr, hrun, hended, hE⟩ := X.leaveW hS hn (v := v) hv hlk
  exact ⟨_, _, hs fs hr, hrun, hended, _, _, rfl, hQ, hE.1, hE.2.1, hE.2.2.1, hE.2.2.2.mono hC hN⟩
theorem own_outNW {vm₁ : Vm} (X : Stand p l e R (s.setVm vm₁) m args below meth c T locs cells slots) {n : Nat} (hS : s.Since vm₁ n) (hn : n ≤ T.heap.size) (hx : p.tables.exec = Jvm.exec) (hlk : meth.locks = false) {pc : Nat} {Ls : Array Slot} {z z' : Int32} {t : FieldType} {rest : List Value} (hret : meth.sig.returnType = some t) (ht : t = .boolean ∨ t = .byte ∨ t = .char ∨ t = .short) (hd : decode c.code pc = .ok (.ireturn, 1)) (hz : nar t z = z')
    {Q : Option Value → Heap → List Loc → Prop} (hQ : Q (some (.int z')) T.heap locs) {C N : Nat} (hC : cells ≤ C) (hN : slots ≤ N) :
    own_Out p e below (fun o U' => ∃ v L, o = .returned v ∧ Q v U'.heap L ∧ ReturnedEndW s o U' L C N) (T.setTop (mkF m pc Ls (.int z :: rest))) :=
  own_endW X hS hn hlk (fun h => by rw [hret] at h; cases h) (fun fs hr => retN X hx hret ht hd (by rw [hz]; exact hr)) hQ hC hN
theorem own_outVW {vm₁ : Vm} (X : Stand p l e R (s.setVm vm₁) m args below meth c T locs cells slots) {n : Nat} (hS : s.Since vm₁ n) (hn : n ≤ T.heap.size) (hx : p.tables.exec = Jvm.exec) (hlk : meth.locks = false) {pc : Nat} {Ls : Array Slot} (hret : meth.sig.returnType = none) (hd : decode c.code pc = .ok (.return_, 1))
    {Q : Option Value → Heap → List Loc → Prop} (hQ : Q none T.heap locs) {C N : Nat} (hC : cells ≤ C) (hN : slots ≤ N) :
    own_Out p e below (fun o U' => ∃ v L, o = .returned v ∧ Q v U'.heap L ∧ ReturnedEndW s o U' L C N) (T.setTop (mkF m pc Ls [])) :=
  own_endW X hS hn hlk (fun _ => rfl) (fun fs hr => X.returnOut hx hret hd hr) hQ hC hN
theorem own_outI (X : Stand p l e R s m args below meth c T locs cells slots) (hx : p.tables.exec = Jvm.exec) (hlk : meth.locks = false) {pc : Nat} {Ls : Array Slot} {z : Int32} {rest : List Value} (hret : meth.sig.returnType = some .int) (hd : decode c.code pc = .ok (.ireturn, 1))
    {Q : Option Value → Heap → List Loc → Prop} (hQ : Q (some (.int z)) T.heap locs) {C N : Nat} (hC : cells ≤ C) (hN : slots ≤ N) :
    own_Out p e below (fun o U' => ∃ v L, o = .returned v ∧ Q v U'.heap L ∧ FrameEnd s o U' L C N) (T.setTop (mkF m pc Ls (.int z :: rest))) :=
  own_end X hlk (fun h => by rw [hret] at h; cases h) (fun fs hr => own_retI X hx hret hd hr) hQ hC hN
theorem own_outN (X : Stand p l e R s m args below meth c T locs cells slots) (hx : p.tables.exec = Jvm.exec) (hlk : meth.locks = false) {pc : Nat} {Ls : Array Slot} {z z' : Int32} {t : FieldType} {rest : List Value} (hret : meth.sig.returnType = some t) (ht : t = .boolean ∨ t = .byte ∨ t = .char ∨ t = .short) (hd : decode c.code pc = .ok (.ireturn, 1)) (hz : nar t z = z')
    {Q : Option Value → Heap → List Loc → Prop} (hQ : Q (some (.int z')) T.heap locs) {C N : Nat} (hC : cells ≤ C) (hN : slots ≤ N) :
    own_Out p e below (fun o U' => ∃ v L, o = .returned v ∧ Q v U'.heap L ∧ FrameEnd s o U' L C N) (T.setTop (mkF m pc Ls (.int z :: rest))) :=
  own_end X hlk (fun h => by rw [hret] at h; cases h) (fun fs hr => retN X hx hret ht hd (by rw [hz]; exact hr)) hQ hC hN
theorem own_outL (X : Stand p l e R s m args below meth c T locs cells slots) (hx : p.tables.exec = Jvm.exec) (hlk : meth.locks = false) {pc : Nat} {Ls : Array Slot} {z : Int64} {rest : List Value} (hret : meth.sig.returnType = some .long) (hd : decode c.code pc = .ok (.lreturn, 1))
    {Q : Option Value → Heap → List Loc → Prop} (hQ : Q (some (.long z)) T.heap locs) {C N : Nat} (hC : cells ≤ C) (hN : slots ≤ N) :
    own_Out p e below (fun o U' => ∃ v L, o = .returned v ∧ Q v U'.heap L ∧ FrameEnd s o U' L C N) (T.setTop (mkF m pc Ls (.long z :: rest))) :=
  own_end X hlk (fun h => by rw [hret] at h; cases h) (fun fs hr => retOut X hx hret rfl (Or.inr (Or.inl ⟨rfl, rfl, z, rfl⟩)) hd hr) hQ hC hN
theorem own_outD (X : Stand p l e R s m args below meth c T locs cells slots) (hx : p.tables.exec = Jvm.exec) (hlk : meth.locks = false) {pc : Nat} {Ls : Array Slot} {z : UInt64} {rest : List Value} (hret : meth.sig.returnType = some .double) (hd : decode c.code pc = .ok (.dreturn, 1))
    {Q : Option Value → Heap → List Loc → Prop} (hQ : Q (some (.double z)) T.heap locs) {C N : Nat} (hC : cells ≤ C) (hN : slots ≤ N) :
    own_Out p e below (fun o U' => ∃ v L, o = .returned v ∧ Q v U'.heap L ∧ FrameEnd s o U' L C N) (T.setTop (mkF m pc Ls (.double z :: rest))) :=
  own_end X hlk (fun h => by rw [hret] at h; cases h) (fun fs hr => retOut X hx hret rfl (Or.inr (Or.inr (Or.inl ⟨rfl, rfl, z, rfl⟩))) hd hr) hQ hC hN
theorem own_outR (X : Stand p l e R s m args below meth c T locs cells slots) (hx : p.tables.exec = Jvm.exec) (hlk : meth.locks = false) {pc : Nat} {Ls : Array Slot} {w : Value} {t : FieldType} {rest : List Value} (hret : meth.sig.returnType = some t) (ht : t.isReference = true) (hw : w.isRef = true) (hn : narrow t w = w) (hd : decode c.code pc = .ok (.areturn, 1))
    {Q : Option Value → Heap → List Loc → Prop} (hQ : Q (some w) T.heap locs) {C N : Nat} (hC : cells ≤ C) (hN : slots ≤ N) :
    own_Out p e below (fun o U' => ∃ v L, o = .returned v ∧ Q v U'.heap L ∧ FrameEnd s o U' L C N) (T.setTop (mkF m pc Ls (w :: rest))) :=
  own_end X hlk (fun h => by rw [hret] at h; cases h) (fun fs hr => retOut X hx hret hn (Or.inr (Or.inr (Or.inr (Or.inr ⟨rfl, ht, hw⟩)))) hd hr) hQ hC hN
theorem own_outV (X : Stand p l e R s m args below meth c T locs cells slots) (hx : p.tables.exec = Jvm.exec) (hlk : meth.locks = false) {pc : Nat} {Ls : Array Slot} (hret : meth.sig.returnType = none) (hd : decode c.code pc = .ok (.return_, 1))
    {Q : Option Value → Heap → List Loc → Prop} (hQ : Q none T.heap locs) {C N : Nat} (hC : cells ≤ C) (hN : slots ≤ N) :
    own_Out p e below (fun o U' => ∃ v L, o = .returned v ∧ Q v U'.heap L ∧ FrameEnd s o U' L C N) (T.setTop (mkF m pc Ls [])) :=
  own_end X hlk (fun _ => rfl) (fun fs hr => X.returnOut hx hret hd hr) hQ hC hN
end New
theorem own_ltlt {x y : Int64} (h : x < y) : ifCond.holds .lt (lcmpW x y) = true ∧ ifCond.holds .ge (lcmpW x y) = false ∧ ifCond.holds .gt (lcmpW y x) = true ∧ ifCond.holds .le (lcmpW y x) = false := by
  have h1 : ¬ x > y := fun q => by rw [gt_iff_lt, Int64.lt_iff_toInt_lt] at q; rw [Int64.lt_iff_toInt_lt] at h; omega
  have h2 : ¬ x = y := fun q => by subst q; rw [Int64.lt_iff_toInt_lt] at h; omega
  have e1 : lcmpW x y = -1 := by simp only [lcmpW, if_neg h1, if_neg h2]
  have e2 : lcmpW y x = 1 := by simp only [lcmpW, if_pos (show y > x from h)]
  rw [e1, e2]; decide
theorem own_leq {x y : Int64} (h : x = y) : ifCond.holds .eq (lcmpW x y) = true ∧ ifCond.holds .ne (lcmpW x y) = false := by
  subst h
  have h1 : ¬ x > x := fun q => by rw [gt_iff_lt, Int64.lt_iff_toInt_lt] at q; omega
  have e1 : lcmpW x x = 0 := by simp only [lcmpW, if_neg h1, if_pos]
  rw [e1]; decide
theorem own_lfeq {x y : Int64} (h : ¬ x = y) : ifCond.holds .eq (lcmpW x y) = false ∧ ifCond.holds .ne (lcmpW x y) = true := by
  by_cases h1 : x > y
  · have e1 : lcmpW x y = 1 := by simp only [lcmpW, if_pos h1]
    rw [e1]; decide
  · have e1 : lcmpW x y = -1 := by simp only [lcmpW, if_neg h1, if_neg h]
    rw [e1]; decide
theorem own_lflt {x y : Int64} (h : ¬ x < y) : ifCond.holds .lt (lcmpW x y) = false ∧ ifCond.holds .ge (lcmpW x y) = true ∧ ifCond.holds .gt (lcmpW y x) = false ∧ ifCond.holds .le (lcmpW y x) = true := by
  by_cases h1 : x = y
  · subst h1
    have h1 : ¬ x > x := fun q => by rw [gt_iff_lt, Int64.lt_iff_toInt_lt] at q; omega
    have e1 : lcmpW x x = 0 := by simp only [lcmpW, if_neg h1, if_pos]
    rw [e1]; decide
  · have h2 : x > y := by
      rw [gt_iff_lt, Int64.lt_iff_toInt_lt]; rw [Int64.lt_iff_toInt_lt] at h
      have h3 : ¬ x.toInt = y.toInt := fun q => h1 (Int64.toInt_inj.mp q)
      omega
    have h3 : ¬ y > x := fun q => by rw [gt_iff_lt, Int64.lt_iff_toInt_lt] at q h2; omega
    have e1 : lcmpW x y = 1 := by simp only [lcmpW, if_pos h2]
    have e2 : lcmpW y x = -1 := by simp only [lcmpW, if_neg h3, if_neg (fun q => h1 (Eq.symm q))]
    rw [e1, e2]; decide
theorem own_staK0 {Z : State} {h h' : Heap} {C n d : String} {v : Value} (F : Sta Z h C n d v) (K : Keep h h' []) : Sta Z h' C n d v := by
  obtain ⟨cf, i, k, f, st, cell, h1, h2, h3, h4, h5, r⟩ := F
  exact ⟨cf, i, k, f, st, cell, h1, h2, h3, h4, K.2.1 st cell h5 nin0, r⟩
theorem own_staK1 {Z : State} {h h' : Heap} {C n d : String} {v : Value} {a : Addr} (F : Sta Z h C n d v) (K : Keep h h' [a]) (q : ∀ cell : Cell, h[a]? = some cell → cell.vm.isStatics = false) : Sta Z h' C n d v := by
  obtain ⟨cf, i, k, f, st, cell, h1, h2, h3, h4, h5, h6, h7⟩ := F
  have ne : st ≠ a := fun e => by subst e; rw [q _ h5] at h6; cases h6
  exact ⟨cf, i, k, f, st, cell, h1, h2, h3, h4, K.2.1 st cell h5 (ninS ne nin0), h6, h7⟩
theorem own_plainE {Z : State} {h : Heap} {a : Addr} {C : String} (E : Exa Z h a C) : ∀ cell : Cell, h[a]? = some cell → cell.vm.isStatics = false := fun cell hc => by
  obtain ⟨c, k, h1, -, -, h4, -⟩ := E; cases h1.symm.trans hc; exact h4
theorem own_plainV {Z : State} {h : Heap} {a : Addr} {k : ClassId} {ty : FieldType} {z : Int32} {vs : List Value} {dv : Value} (F : Arv Z h a k ty z vs dv) : ∀ cell : Cell, h[a]? = some cell → cell.vm.isStatics = false := fun cell hc => by
  obtain ⟨c, A, -⟩ := F; cases A.1.symm.trans hc; exact A.plain
section Bounds
variable {x a k : Int32} {u : Int}
theorem own_L1 (h : ¬ (x < a)) : a.toInt ≤ x.toInt := by rw [Int32.lt_iff_toInt_lt] at h; omega
theorem own_L2 (h : a < x) : a.toInt + 1 ≤ x.toInt := by rw [Int32.lt_iff_toInt_lt] at h; omega
theorem own_L3 (h : x = a) : a.toInt ≤ x.toInt := by subst h; omega
theorem own_U1 (h : x < a) : x.toInt ≤ a.toInt - 1 := by rw [Int32.lt_iff_toInt_lt] at h; omega
theorem own_U2 (h : ¬ (a < x)) : x.toInt ≤ a.toInt := by rw [Int32.lt_iff_toInt_lt] at h; omega
theorem own_U3 (h : x = a) : x.toInt ≤ a.toInt := by subst h; omega
theorem own_T1 (h : x.toInt ≤ u) (d : u < k.toInt) : x < k := by rw [Int32.lt_iff_toInt_lt]; omega
theorem own_T2 (h : u ≤ x.toInt) (d : k.toInt ≤ u) : ¬ (x < k) := by rw [Int32.lt_iff_toInt_lt]; omega
theorem own_T3 (h : u ≤ x.toInt) (d : k.toInt < u) : k < x := by rw [Int32.lt_iff_toInt_lt]; omega
theorem own_T4 (h : x.toInt ≤ u) (d : u ≤ k.toInt) : ¬ (k < x) := by rw [Int32.lt_iff_toInt_lt]; omega
theorem own_T5 (h : x.toInt ≤ u) (d : u < k.toInt) : ¬ (x = k) := fun q => by subst q; omega
theorem own_T6 (h : u ≤ x.toInt) (d : k.toInt < u) : ¬ (x = k) := fun q => by subst q; omega
theorem own_T7 {u' : Int} (h : u ≤ x.toInt) (h' : x.toInt ≤ u') (d : k.toInt ≤ u ∧ u' ≤ k.toInt) : x = k := Int32.toInt_inj.mp (by omega)
end Bounds
section Rel
theorem own_JR1 {a b : Int64} (h : a < b) : ¬ (b < a) := by rw [Int64.lt_iff_toInt_lt] at *; omega
theorem own_JR2 {a b : Int64} (h : a < b) : ¬ (a = b) := fun q => by subst q; rw [Int64.lt_iff_toInt_lt] at h; omega
theorem own_JR2' {a b : Int64} (h : a < b) : ¬ (b = a) := fun q => by subst q; rw [Int64.lt_iff_toInt_lt] at h; omega
theorem own_JR3 {a b : Int64} (h : a = b) : ¬ (a < b) := fun q => by subst h; rw [Int64.lt_iff_toInt_lt] at q; omega
theorem own_JR3' {a b : Int64} (h : a = b) : ¬ (b < a) := fun q => by subst h; rw [Int64.lt_iff_toInt_lt] at q; omega
theorem own_JR4 {a b : Int64} (h : ¬ (a < b)) (h' : ¬ (b < a)) : a = b := by rw [Int64.lt_iff_toInt_lt] at h h'; exact Int64.toInt_inj.mp (by omega)
theorem own_JR5 {a b : Int64} (h : ¬ (a < b)) (h' : ¬ (a = b)) : b < a := by rw [← Int64.toInt_inj] at h'; rw [Int64.lt_iff_toInt_lt] at *; omega
theorem own_JR5' {a b : Int64} (h : ¬ (a < b)) (h' : ¬ (b = a)) : b < a := by rw [← Int64.toInt_inj] at h'; rw [Int64.lt_iff_toInt_lt] at *; omega
theorem own_IR1 {a b : Int32} (h : a < b) : ¬ (b < a) := by rw [Int32.lt_iff_toInt_lt] at *; omega
theorem own_IR2 {a b : Int32} (h : a < b) : ¬ (a = b) := fun q => by subst q; rw [Int32.lt_iff_toInt_lt] at h; omega
theorem own_IR2' {a b : Int32} (h : a < b) : ¬ (b = a) := fun q => by subst q; rw [Int32.lt_iff_toInt_lt] at h; omega
theorem own_IR3 {a b : Int32} (h : a = b) : ¬ (a < b) := fun q => by subst h; rw [Int32.lt_iff_toInt_lt] at q; omega
theorem own_IR3' {a b : Int32} (h : a = b) : ¬ (b < a) := fun q => by subst h; rw [Int32.lt_iff_toInt_lt] at q; omega
theorem own_IR4 {a b : Int32} (h : ¬ (a < b)) (h' : ¬ (b < a)) : a = b := by rw [Int32.lt_iff_toInt_lt] at h h'; exact Int32.toInt_inj.mp (by omega)
theorem own_IR5 {a b : Int32} (h : ¬ (a < b)) (h' : ¬ (a = b)) : b < a := by rw [← Int32.toInt_inj] at h'; rw [Int32.lt_iff_toInt_lt] at *; omega
theorem own_IR5' {a b : Int32} (h : ¬ (a < b)) (h' : ¬ (b = a)) : b < a := by rw [← Int32.toInt_inj] at h'; rw [Int32.lt_iff_toInt_lt] at *; omega
end Rel
end Jvm.RoadKit
namespace Jvm.RoadKit
open Sem ClassFile Op Lib Jvm.Stand Jvm.Free Jvm.LawKit
section Short
variable {p : Program} {l : Launch} {e : Env} {R : Room} {s : State} {m : MethodId} {args : Array Value} {below : List Frame} {meth : Method} {c : Code} {T : State} {locs : List Loc} {cells slots : Nat} {P : Outcome → State → Prop} {bytes : ByteArray} {pc q : Nat} {ls l' : Array Slot} {st : List Value}
theorem o_iloadN (X : Stand p l e R s m args below meth c T locs cells slots) (hx : p.tables.exec = Jvm.exec) (hby : c.code = bytes) {k : Fin 4} {v : Int32} (hd : decode bytes pc = .ok (.iload_n k, 1)) (hl : ls[k.val]? = some (.val (.int v))) (hq : pc + 1 = q) (hr : own_Out p e below P (T.setTop (mkF m q ls (.int v :: st)))) : own_Out p e below P (T.setTop (mkF m pc ls (st))) := by
  subst hq; exact own_of (fun _ k => XS.iloadN X.here hx rfl (hb hby hd) hl k) hr
theorem o_iload (X : Stand p l e R s m args below meth c T locs cells slots) (hx : p.tables.exec = Jvm.exec) (hby : c.code = bytes) {k : Nat} {v : Int32} (hd : decode bytes pc = .ok (.iload k, 2)) (hl : ls[k]? = some (.val (.int v))) (hq : pc + 2 = q) (hr : own_Out p e below P (T.setTop (mkF m q ls (.int v :: st)))) : own_Out p e below P (T.setTop (mkF m pc ls (st))) := by
  subst hq; exact own_of (fun _ k => XS.iload X.here hx rfl (hb hby hd) hl k) hr
theorem o_istoreN (X : Stand p l e R s m args below meth c T locs cells slots) (hx : p.tables.exec = Jvm.exec) (hby : c.code = bytes) {k : Fin 4} {x : Int32} (hd : decode bytes pc = .ok (.istore_n k, 1)) (hl : storeLocals ls k.val (.int x) = some l') (hq : pc + 1 = q) (hr : own_Out p e below P (T.setTop (mkF m q l' (st)))) : own_Out p e below P (T.setTop (mkF m pc ls (.int x :: st))) := by
  subst hq; exact own_of (fun _ k => XS.istoreN X.here hx rfl (hb hby hd) rfl hl k) hr
theorem o_istore (X : Stand p l e R s m args below meth c T locs cells slots) (hx : p.tables.exec = Jvm.exec) (hby : c.code = bytes) {k : Nat} {x : Int32} (hd : decode bytes pc = .ok (.istore k, 2)) (hl : storeLocals ls k (.int x) = some l') (hq : pc + 2 = q) (hr : own_Out p e below P (T.setTop (mkF m q l' (st)))) : own_Out p e below P (T.setTop (mkF m pc ls (.int x :: st))) := by
  subst hq; exact own_of (fun _ k => XS.istore X.here hx rfl (hb hby hd) rfl hl k) hr
theorem o_lloadN (X : Stand p l e R s m args below meth c T locs cells slots) (hx : p.tables.exec = Jvm.exec) (hby : c.code = bytes) {k : Fin 4} {v : Int64} (hd : decode bytes pc = .ok (.lload_n k, 1)) (hl : ls[k.val]? = some (.val (.long v))) (hq : pc + 1 = q) (hr : own_Out p e below P (T.setTop (mkF m q ls (.long v :: st)))) : own_Out p e below P (T.setTop (mkF m pc ls (st))) := by
  subst hq; exact own_of (fun _ k => XS.lloadN X.here hx rfl (hb hby hd) hl k) hr
theorem o_lload (X : Stand p l e R s m args below meth c T locs cells slots) (hx : p.tables.exec = Jvm.exec) (hby : c.code = bytes) {k : Nat} {v : Int64} (hd : decode bytes pc = .ok (.lload k, 2)) (hl : ls[k]? = some (.val (.long v))) (hq : pc + 2 = q) (hr : own_Out p e below P (T.setTop (mkF m q ls (.long v :: st)))) : own_Out p e below P (T.setTop (mkF m pc ls (st))) := by
  subst hq; exact own_of (fun _ k => XS.lload X.here hx rfl (hb hby hd) hl k) hr
theorem o_lstoreN (X : Stand p l e R s m args below meth c T locs cells slots) (hx : p.tables.exec = Jvm.exec) (hby : c.code = bytes) {k : Fin 4} {x : Int64} (hd : decode bytes pc = .ok (.lstore_n k, 1)) (hl : storeLocals ls k.val (.long x) = some l') (hq : pc + 1 = q) (hr : own_Out p e below P (T.setTop (mkF m q l' (st)))) : own_Out p e below P (T.setTop (mkF m pc ls (.long x :: st))) := by
  subst hq; exact own_of (fun _ k => XS.lstoreN X.here hx rfl (hb hby hd) rfl hl k) hr
theorem o_lstore (X : Stand p l e R s m args below meth c T locs cells slots) (hx : p.tables.exec = Jvm.exec) (hby : c.code = bytes) {k : Nat} {x : Int64} (hd : decode bytes pc = .ok (.lstore k, 2)) (hl : storeLocals ls k (.long x) = some l') (hq : pc + 2 = q) (hr : own_Out p e below P (T.setTop (mkF m q l' (st)))) : own_Out p e below P (T.setTop (mkF m pc ls (.long x :: st))) := by
  subst hq; exact own_of (fun _ k => XS.lstore X.here hx rfl (hb hby hd) rfl hl k) hr
theorem o_dloadN (X : Stand p l e R s m args below meth c T locs cells slots) (hx : p.tables.exec = Jvm.exec) (hby : c.code = bytes) {k : Fin 4} {v : UInt64} (hd : decode bytes pc = .ok (.dload_n k, 1)) (hl : ls[k.val]? = some (.val (.double v))) (hq : pc + 1 = q) (hr : own_Out p e below P (T.setTop (mkF m q ls (.double v :: st)))) : own_Out p e below P (T.setTop (mkF m pc ls (st))) := by
  subst hq; exact own_of (fun _ k => XS.dloadN X.here hx rfl (hb hby hd) hl k) hr
theorem o_dload (X : Stand p l e R s m args below meth c T locs cells slots) (hx : p.tables.exec = Jvm.exec) (hby : c.code = bytes) {k : Nat} {v : UInt64} (hd : decode bytes pc = .ok (.dload k, 2)) (hl : ls[k]? = some (.val (.double v))) (hq : pc + 2 = q) (hr : own_Out p e below P (T.setTop (mkF m q ls (.double v :: st)))) : own_Out p e below P (T.setTop (mkF m pc ls (st))) := by
  subst hq; exact own_of (fun _ k => XS.dload X.here hx rfl (hb hby hd) hl k) hr
theorem o_dstoreN (X : Stand p l e R s m args below meth c T locs cells slots) (hx : p.tables.exec = Jvm.exec) (hby : c.code = bytes) {k : Fin 4} {x : UInt64} (hd : decode bytes pc = .ok (.dstore_n k, 1)) (hl : storeLocals ls k.val (.double x) = some l') (hq : pc + 1 = q) (hr : own_Out p e below P (T.setTop (mkF m q l' (st)))) : own_Out p e below P (T.setTop (mkF m pc ls (.double x :: st))) := by
  subst hq; exact own_of (fun _ k => XS.dstoreN X.here hx rfl (hb hby hd) rfl hl k) hr
theorem o_dstore (X : Stand p l e R s m args below meth c T locs cells slots) (hx : p.tables.exec = Jvm.exec) (hby : c.code = bytes) {k : Nat} {x : UInt64} (hd : decode bytes pc = .ok (.dstore k, 2)) (hl : storeLocals ls k (.double x) = some l') (hq : pc + 2 = q) (hr : own_Out p e below P (T.setTop (mkF m q l' (st)))) : own_Out p e below P (T.setTop (mkF m pc ls (.double x :: st))) := by
  subst hq; exact own_of (fun _ k => XS.dstore X.here hx rfl (hb hby hd) rfl hl k) hr
theorem o_aloadN (X : Stand p l e R s m args below meth c T locs cells slots) (hx : p.tables.exec = Jvm.exec) (hby : c.code = bytes) {k : Fin 4} {v : Value} (hd : decode bytes pc = .ok (.aload_n k, 1)) (hl : ls[k.val]? = some (.val v)) (hv : v.isRef = true) (hq : pc + 1 = q) (hr : own_Out p e below P (T.setTop (mkF m q ls (v :: st)))) : own_Out p e below P (T.setTop (mkF m pc ls (st))) := by
  subst hq; exact own_of (fun _ k => XS.aloadN X.here hx rfl (hb hby hd) hl hv k) hr
theorem o_aload (X : Stand p l e R s m args below meth c T locs cells slots) (hx : p.tables.exec = Jvm.exec) (hby : c.code = bytes) {k : Nat} {v : Value} (hd : decode bytes pc = .ok (.aload k, 2)) (hl : ls[k]? = some (.val v)) (hv : v.isRef = true) (hq : pc + 2 = q) (hr : own_Out p e below P (T.setTop (mkF m q ls (v :: st)))) : own_Out p e below P (T.setTop (mkF m pc ls (st))) := by
  subst hq; exact own_of (fun _ k => XS.aload X.here hx rfl (hb hby hd) hl hv k) hr
theorem o_astoreN (X : Stand p l e R s m args below meth c T locs cells slots) (hx : p.tables.exec = Jvm.exec) (hby : c.code = bytes) {k : Fin 4} {x : Value} (hd : decode bytes pc = .ok (.astore_n k, 1)) (hv : x.isRef = true) (hl : storeLocals ls k.val x = some l') (hq : pc + 1 = q) (hr : own_Out p e below P (T.setTop (mkF m q l' (st)))) : own_Out p e below P (T.setTop (mkF m pc ls (x :: st))) := by
  subst hq; exact own_of (fun _ k => XS.astoreN X.here hx rfl (hb hby hd) rfl hv hl k) hr
theorem o_astore (X : Stand p l e R s m args below meth c T locs cells slots) (hx : p.tables.exec = Jvm.exec) (hby : c.code = bytes) {k : Nat} {x : Value} (hd : decode bytes pc = .ok (.astore k, 2)) (hv : x.isRef = true) (hl : storeLocals ls k x = some l') (hq : pc + 2 = q) (hr : own_Out p e below P (T.setTop (mkF m q l' (st)))) : own_Out p e below P (T.setTop (mkF m pc ls (x :: st))) := by
  subst hq; exact own_of (fun _ k => XS.astore X.here hx rfl (hb hby hd) rfl hv hl k) hr
theorem o_iinc (X : Stand p l e R s m args below meth c T locs cells slots) (hx : p.tables.exec = Jvm.exec) (hby : c.code = bytes) {k : Nat} {cst : Int} {x : Int32} (hd : decode bytes pc = .ok (.iinc k cst, 3)) (hl : ls[k]? = some (.val (.int x))) (hl' : storeLocals ls k (.int (x + Int32.ofInt cst)) = some l') (hq : pc + 3 = q) (hr : own_Out p e below P (T.setTop (mkF m q l' (st)))) : own_Out p e below P (T.setTop (mkF m pc ls (st))) := by
  subst hq; exact own_of (fun _ k => XS.iinc X.here hx rfl (hb hby hd) hl hl' k) hr
theorem o_iconst (X : Stand p l e R s m args below meth c T locs cells slots) (hx : p.tables.exec = Jvm.exec) (hby : c.code = bytes) {i : Int} {z : Int32} (hd : decode bytes pc = .ok (.iconst i, 1)) (hz : Int32.ofInt i = z) (hq : pc + 1 = q) (hr : own_Out p e below P (T.setTop (mkF m q ls (.int z :: st)))) : own_Out p e below P (T.setTop (mkF m pc ls (st))) := by
  subst hq; exact own_of (fun _ k => XS.iconst X.here hx rfl (hb hby hd) (by rw [hz]; exact k)) hr
theorem o_bipush (X : Stand p l e R s m args below meth c T locs cells slots) (hx : p.tables.exec = Jvm.exec) (hby : c.code = bytes) {i : Int} {z : Int32} (hd : decode bytes pc = .ok (.bipush i, 2)) (hz : (Int8.ofInt i).toInt32 = z) (hq : pc + 2 = q) (hr : own_Out p e below P (T.setTop (mkF m q ls (.int z :: st)))) : own_Out p e below P (T.setTop (mkF m pc ls (st))) := by
  subst hq; exact own_of (fun _ k => XS.bipush X.here hx rfl (hb hby hd) (by rw [hz]; exact k)) hr
theorem o_sipush (X : Stand p l e R s m args below meth c T locs cells slots) (hx : p.tables.exec = Jvm.exec) (hby : c.code = bytes) {i : Int} {z : Int32} (hd : decode bytes pc = .ok (.sipush i, 3)) (hz : (Int16.ofInt i).toInt32 = z) (hq : pc + 3 = q) (hr : own_Out p e below P (T.setTop (mkF m q ls (.int z :: st)))) : own_Out p e below P (T.setTop (mkF m pc ls (st))) := by
  subst hq; exact own_of (fun _ k => XS.sipush X.here hx rfl (hb hby hd) (by rw [hz]; exact k)) hr
theorem o_lconst (X : Stand p l e R s m args below meth c T locs cells slots) (hx : p.tables.exec = Jvm.exec) (hby : c.code = bytes) {i : Fin 2} {z : Int64} (hd : decode bytes pc = .ok (.lconst i, 1)) (hz : Int64.ofNat i = z) (hq : pc + 1 = q) (hr : own_Out p e below P (T.setTop (mkF m q ls (.long z :: st)))) : own_Out p e below P (T.setTop (mkF m pc ls (st))) := by
  subst hq; exact own_of (fun _ k => XS.lconst X.here hx rfl (hb hby hd) (by rw [hz]; exact k)) hr
theorem o_aconst_null (X : Stand p l e R s m args below meth c T locs cells slots) (hx : p.tables.exec = Jvm.exec) (hby : c.code = bytes)  (hd : decode bytes pc = .ok (.aconst_null, 1))  (hq : pc + 1 = q) (hr : own_Out p e below P (T.setTop (mkF m q ls (.null :: st)))) : own_Out p e below P (T.setTop (mkF m pc ls (st))) := by
  subst hq; exact own_of (fun _ k => XS.aconstNull X.here hx rfl (hb hby hd) k) hr
theorem o_iadd (X : Stand p l e R s m args below meth c T locs cells slots) (hx : p.tables.exec = Jvm.exec) (hby : c.code = bytes) {x y z : Int32} (hd : decode bytes pc = .ok (.iadd, 1)) (hz : x + y = z) (hq : pc + 1 = q) (hr : own_Out p e below P (T.setTop (mkF m q ls (.int z :: st)))) : own_Out p e below P (T.setTop (mkF m pc ls (.int y :: .int x :: st))) := by
  subst hq; exact own_of (fun _ k => XS.iadd X.here hx rfl (hb hby hd) rfl (by rw [hz]; exact k)) hr
theorem o_ladd (X : Stand p l e R s m args below meth c T locs cells slots) (hx : p.tables.exec = Jvm.exec) (hby : c.code = bytes) {x y z : Int64} (hd : decode bytes pc = .ok (.ladd, 1)) (hz : x + y = z) (hq : pc + 1 = q) (hr : own_Out p e below P (T.setTop (mkF m q ls (.long z :: st)))) : own_Out p e below P (T.setTop (mkF m pc ls (.long y :: .long x :: st))) := by
  subst hq; exact own_of (fun _ k => XS.ladd X.here hx rfl (hb hby hd) rfl (by rw [hz]; exact k)) hr
theorem o_isub (X : Stand p l e R s m args below meth c T locs cells slots) (hx : p.tables.exec = Jvm.exec) (hby : c.code = bytes) {x y z : Int32} (hd : decode bytes pc = .ok (.isub, 1)) (hz : x - y = z) (hq : pc + 1 = q) (hr : own_Out p e below P (T.setTop (mkF m q ls (.int z :: st)))) : own_Out p e below P (T.setTop (mkF m pc ls (.int y :: .int x :: st))) := by
  subst hq; exact own_of (fun _ k => XS.isub X.here hx rfl (hb hby hd) rfl (by rw [hz]; exact k)) hr
theorem o_lsub (X : Stand p l e R s m args below meth c T locs cells slots) (hx : p.tables.exec = Jvm.exec) (hby : c.code = bytes) {x y z : Int64} (hd : decode bytes pc = .ok (.lsub, 1)) (hz : x - y = z) (hq : pc + 1 = q) (hr : own_Out p e below P (T.setTop (mkF m q ls (.long z :: st)))) : own_Out p e below P (T.setTop (mkF m pc ls (.long y :: .long x :: st))) := by
  subst hq; exact own_of (fun _ k => XS.lsub X.here hx rfl (hb hby hd) rfl (by rw [hz]; exact k)) hr
theorem o_imul (X : Stand p l e R s m args below meth c T locs cells slots) (hx : p.tables.exec = Jvm.exec) (hby : c.code = bytes) {x y z : Int32} (hd : decode bytes pc = .ok (.imul, 1)) (hz : x * y = z) (hq : pc + 1 = q) (hr : own_Out p e below P (T.setTop (mkF m q ls (.int z :: st)))) : own_Out p e below P (T.setTop (mkF m pc ls (.int y :: .int x :: st))) := by
  subst hq; exact own_of (fun _ k => XS.imul X.here hx rfl (hb hby hd) rfl (by rw [hz]; exact k)) hr
theorem o_lmul (X : Stand p l e R s m args below meth c T locs cells slots) (hx : p.tables.exec = Jvm.exec) (hby : c.code = bytes) {x y z : Int64} (hd : decode bytes pc = .ok (.lmul, 1)) (hz : x * y = z) (hq : pc + 1 = q) (hr : own_Out p e below P (T.setTop (mkF m q ls (.long z :: st)))) : own_Out p e below P (T.setTop (mkF m pc ls (.long y :: .long x :: st))) := by
  subst hq; exact own_of (fun _ k => XS.lmul X.here hx rfl (hb hby hd) rfl (by rw [hz]; exact k)) hr
theorem o_iand (X : Stand p l e R s m args below meth c T locs cells slots) (hx : p.tables.exec = Jvm.exec) (hby : c.code = bytes) {x y z : Int32} (hd : decode bytes pc = .ok (.iand, 1)) (hz : x &&& y = z) (hq : pc + 1 = q) (hr : own_Out p e below P (T.setTop (mkF m q ls (.int z :: st)))) : own_Out p e below P (T.setTop (mkF m pc ls (.int y :: .int x :: st))) := by
  subst hq; exact own_of (fun _ k => XS.iand X.here hx rfl (hb hby hd) rfl (by rw [hz]; exact k)) hr
theorem o_land (X : Stand p l e R s m args below meth c T locs cells slots) (hx : p.tables.exec = Jvm.exec) (hby : c.code = bytes) {x y z : Int64} (hd : decode bytes pc = .ok (.land, 1)) (hz : x &&& y = z) (hq : pc + 1 = q) (hr : own_Out p e below P (T.setTop (mkF m q ls (.long z :: st)))) : own_Out p e below P (T.setTop (mkF m pc ls (.long y :: .long x :: st))) := by
  subst hq; exact own_of (fun _ k => XS.land X.here hx rfl (hb hby hd) rfl (by rw [hz]; exact k)) hr
theorem o_ior (X : Stand p l e R s m args below meth c T locs cells slots) (hx : p.tables.exec = Jvm.exec) (hby : c.code = bytes) {x y z : Int32} (hd : decode bytes pc = .ok (.ior, 1)) (hz : x ||| y = z) (hq : pc + 1 = q) (hr : own_Out p e below P (T.setTop (mkF m q ls (.int z :: st)))) : own_Out p e below P (T.setTop (mkF m pc ls (.int y :: .int x :: st))) := by
  subst hq; exact own_of (fun _ k => XS.ior X.here hx rfl (hb hby hd) rfl (by rw [hz]; exact k)) hr
theorem o_lor (X : Stand p l e R s m args below meth c T locs cells slots) (hx : p.tables.exec = Jvm.exec) (hby : c.code = bytes) {x y z : Int64} (hd : decode bytes pc = .ok (.lor, 1)) (hz : x ||| y = z) (hq : pc + 1 = q) (hr : own_Out p e below P (T.setTop (mkF m q ls (.long z :: st)))) : own_Out p e below P (T.setTop (mkF m pc ls (.long y :: .long x :: st))) := by
  subst hq; exact own_of (fun _ k => XS.lor X.here hx rfl (hb hby hd) rfl (by rw [hz]; exact k)) hr
theorem o_ixor (X : Stand p l e R s m args below meth c T locs cells slots) (hx : p.tables.exec = Jvm.exec) (hby : c.code = bytes) {x y z : Int32} (hd : decode bytes pc = .ok (.ixor, 1)) (hz : x ^^^ y = z) (hq : pc + 1 = q) (hr : own_Out p e below P (T.setTop (mkF m q ls (.int z :: st)))) : own_Out p e below P (T.setTop (mkF m pc ls (.int y :: .int x :: st))) := by
  subst hq; exact own_of (fun _ k => XS.ixor X.here hx rfl (hb hby hd) rfl (by rw [hz]; exact k)) hr
theorem o_lxor (X : Stand p l e R s m args below meth c T locs cells slots) (hx : p.tables.exec = Jvm.exec) (hby : c.code = bytes) {x y z : Int64} (hd : decode bytes pc = .ok (.lxor, 1)) (hz : x ^^^ y = z) (hq : pc + 1 = q) (hr : own_Out p e below P (T.setTop (mkF m q ls (.long z :: st)))) : own_Out p e below P (T.setTop (mkF m pc ls (.long y :: .long x :: st))) := by
  subst hq; exact own_of (fun _ k => XS.lxor X.here hx rfl (hb hby hd) rfl (by rw [hz]; exact k)) hr
theorem o_ishl (X : Stand p l e R s m args below meth c T locs cells slots) (hx : p.tables.exec = Jvm.exec) (hby : c.code = bytes) {x z : Int32} {y : Int32} (hd : decode bytes pc = .ok (.ishl, 1)) (hz : (x <<< (y &&& 31)) = z) (hq : pc + 1 = q) (hr : own_Out p e below P (T.setTop (mkF m q ls (.int z :: st)))) : own_Out p e below P (T.setTop (mkF m pc ls (.int y :: .int x :: st))) := by
  subst hq; exact own_of (fun _ k => XS.ishl X.here hx rfl (hb hby hd) rfl (by rw [hz]; exact k)) hr
theorem o_ishr (X : Stand p l e R s m args below meth c T locs cells slots) (hx : p.tables.exec = Jvm.exec) (hby : c.code = bytes) {x z : Int32} {y : Int32} (hd : decode bytes pc = .ok (.ishr, 1)) (hz : (x >>> (y &&& 31)) = z) (hq : pc + 1 = q) (hr : own_Out p e below P (T.setTop (mkF m q ls (.int z :: st)))) : own_Out p e below P (T.setTop (mkF m pc ls (.int y :: .int x :: st))) := by
  subst hq; exact own_of (fun _ k => XS.ishr X.here hx rfl (hb hby hd) rfl (by rw [hz]; exact k)) hr
theorem o_iushr (X : Stand p l e R s m args below meth c T locs cells slots) (hx : p.tables.exec = Jvm.exec) (hby : c.code = bytes) {x z : Int32} {y : Int32} (hd : decode bytes pc = .ok (.iushr, 1)) (hz : ((x.toUInt32 >>> (y &&& 31).toUInt32).toInt32) = z) (hq : pc + 1 = q) (hr : own_Out p e below P (T.setTop (mkF m q ls (.int z :: st)))) : own_Out p e below P (T.setTop (mkF m pc ls (.int y :: .int x :: st))) := by
  subst hq; exact own_of (fun _ k => XS.iushr X.here hx rfl (hb hby hd) rfl (by rw [hz]; exact k)) hr
theorem o_lshl (X : Stand p l e R s m args below meth c T locs cells slots) (hx : p.tables.exec = Jvm.exec) (hby : c.code = bytes) {x z : Int64} {y : Int32} (hd : decode bytes pc = .ok (.lshl, 1)) (hz : (x <<< (y &&& 0x3f).toInt64) = z) (hq : pc + 1 = q) (hr : own_Out p e below P (T.setTop (mkF m q ls (.long z :: st)))) : own_Out p e below P (T.setTop (mkF m pc ls (.int y :: .long x :: st))) := by
  subst hq; exact own_of (fun _ k => XS.lshl X.here hx rfl (hb hby hd) rfl (by rw [hz]; exact k)) hr
theorem o_lshr (X : Stand p l e R s m args below meth c T locs cells slots) (hx : p.tables.exec = Jvm.exec) (hby : c.code = bytes) {x z : Int64} {y : Int32} (hd : decode bytes pc = .ok (.lshr, 1)) (hz : (x >>> (y &&& 0x3f).toInt64) = z) (hq : pc + 1 = q) (hr : own_Out p e below P (T.setTop (mkF m q ls (.long z :: st)))) : own_Out p e below P (T.setTop (mkF m pc ls (.int y :: .long x :: st))) := by
  subst hq; exact own_of (fun _ k => XS.lshr X.here hx rfl (hb hby hd) rfl (by rw [hz]; exact k)) hr
theorem o_lushr (X : Stand p l e R s m args below meth c T locs cells slots) (hx : p.tables.exec = Jvm.exec) (hby : c.code = bytes) {x z : Int64} {y : Int32} (hd : decode bytes pc = .ok (.lushr, 1)) (hz : ((x.toUInt64 >>> (y &&& 0x3f).toInt64.toUInt64).toInt64) = z) (hq : pc + 1 = q) (hr : own_Out p e below P (T.setTop (mkF m q ls (.long z :: st)))) : own_Out p e below P (T.setTop (mkF m pc ls (.int y :: .long x :: st))) := by
  subst hq; exact own_of (fun _ k => XS.lushr X.here hx rfl (hb hby hd) rfl (by rw [hz]; exact k)) hr
theorem o_ineg (X : Stand p l e R s m args below meth c T locs cells slots) (hx : p.tables.exec = Jvm.exec) (hby : c.code = bytes) {x : Int32} {z : Int32} (hd : decode bytes pc = .ok (.ineg, 1)) (hz : -x = z) (hq : pc + 1 = q) (hr : own_Out p e below P (T.setTop (mkF m q ls (.int z :: st)))) : own_Out p e below P (T.setTop (mkF m pc ls (.int x :: st))) := by
  subst hq; exact own_of (fun _ k => XS.ineg X.here hx rfl (hb hby hd) rfl (by rw [hz]; exact k)) hr
theorem o_lneg (X : Stand p l e R s m args below meth c T locs cells slots) (hx : p.tables.exec = Jvm.exec) (hby : c.code = bytes) {x : Int64} {z : Int64} (hd : decode bytes pc = .ok (.lneg, 1)) (hz : -x = z) (hq : pc + 1 = q) (hr : own_Out p e below P (T.setTop (mkF m q ls (.long z :: st)))) : own_Out p e below P (T.setTop (mkF m pc ls (.long x :: st))) := by
  subst hq; exact own_of (fun _ k => XS.lneg X.here hx rfl (hb hby hd) rfl (by rw [hz]; exact k)) hr
theorem o_i2l (X : Stand p l e R s m args below meth c T locs cells slots) (hx : p.tables.exec = Jvm.exec) (hby : c.code = bytes) {x : Int32} {z : Int64} (hd : decode bytes pc = .ok (.i2l, 1)) (hz : x.toInt64 = z) (hq : pc + 1 = q) (hr : own_Out p e below P (T.setTop (mkF m q ls (.long z :: st)))) : own_Out p e below P (T.setTop (mkF m pc ls (.int x :: st))) := by
  subst hq; exact own_of (fun _ k => XS.i2l X.here hx rfl (hb hby hd) rfl (by rw [hz]; exact k)) hr
theorem o_l2i (X : Stand p l e R s m args below meth c T locs cells slots) (hx : p.tables.exec = Jvm.exec) (hby : c.code = bytes) {x : Int64} {z : Int32} (hd : decode bytes pc = .ok (.l2i, 1)) (hz : x.toInt32 = z) (hq : pc + 1 = q) (hr : own_Out p e below P (T.setTop (mkF m q ls (.int z :: st)))) : own_Out p e below P (T.setTop (mkF m pc ls (.long x :: st))) := by
  subst hq; exact own_of (fun _ k => XS.l2i X.here hx rfl (hb hby hd) rfl (by rw [hz]; exact k)) hr
theorem o_i2b (X : Stand p l e R s m args below meth c T locs cells slots) (hx : p.tables.exec = Jvm.exec) (hby : c.code = bytes) {x : Int32} {z : Int32} (hd : decode bytes pc = .ok (.i2b, 1)) (hz : x.toInt8.toInt32 = z) (hq : pc + 1 = q) (hr : own_Out p e below P (T.setTop (mkF m q ls (.int z :: st)))) : own_Out p e below P (T.setTop (mkF m pc ls (.int x :: st))) := by
  subst hq; exact own_of (fun _ k => XS.i2b X.here hx rfl (hb hby hd) rfl (by rw [hz]; exact k)) hr
theorem o_i2s (X : Stand p l e R s m args below meth c T locs cells slots) (hx : p.tables.exec = Jvm.exec) (hby : c.code = bytes) {x : Int32} {z : Int32} (hd : decode bytes pc = .ok (.i2s, 1)) (hz : x.toInt16.toInt32 = z) (hq : pc + 1 = q) (hr : own_Out p e below P (T.setTop (mkF m q ls (.int z :: st)))) : own_Out p e below P (T.setTop (mkF m pc ls (.int x :: st))) := by
  subst hq; exact own_of (fun _ k => XS.i2s X.here hx rfl (hb hby hd) rfl (by rw [hz]; exact k)) hr
theorem o_i2c (X : Stand p l e R s m args below meth c T locs cells slots) (hx : p.tables.exec = Jvm.exec) (hby : c.code = bytes) {x : Int32} {z : Int32} (hd : decode bytes pc = .ok (.i2c, 1)) (hz : x.toUInt32.toUInt16.toUInt32.toInt32 = z) (hq : pc + 1 = q) (hr : own_Out p e below P (T.setTop (mkF m q ls (.int z :: st)))) : own_Out p e below P (T.setTop (mkF m pc ls (.int x :: st))) := by
  subst hq; exact own_of (fun _ k => XS.i2c X.here hx rfl (hb hby hd) rfl (by rw [hz]; exact k)) hr
theorem o_lcmp (X : Stand p l e R s m args below meth c T locs cells slots) (hx : p.tables.exec = Jvm.exec) (hby : c.code = bytes) {x y : Int64} (hd : decode bytes pc = .ok (.lcmp, 1))  (hq : pc + 1 = q) (hr : own_Out p e below P (T.setTop (mkF m q ls (.int (lcmpW x y) :: st)))) : own_Out p e below P (T.setTop (mkF m pc ls (.long y :: .long x :: st))) := by
  subst hq; exact own_of (fun _ k => XS.lcmp X.here hx rfl (hb hby hd) rfl k) hr
theorem o_irem (X : Stand p l e R s m args below meth c T locs cells slots) (hx : p.tables.exec = Jvm.exec) (hby : c.code = bytes) {x y : Int32} (hd : decode bytes pc = .ok (.irem, 1)) (hy : y ≠ 0) (hq : pc + 1 = q) (hr : own_Out p e below P (T.setTop (mkF m q ls (.int (x % y) :: st)))) : own_Out p e below P (T.setTop (mkF m pc ls (.int y :: .int x :: st))) := by
  subst hq; exact own_of (fun _ k => iremM X hx rfl (hb hby hd) rfl hy k) hr
theorem o_goto (X : Stand p l e R s m args below meth c T locs cells slots) (hx : p.tables.exec = Jvm.exec) (hby : c.code = bytes) {o : Int} (hd : decode bytes pc = .ok (.goto o, 3))  (ho : 0 ≤ (pc : Int) + o) (hq : ((pc : Int) + o).toNat = q) (hr : own_Out p e below P (T.setTop (mkF m q ls (st)))) : own_Out p e below P (T.setTop (mkF m pc ls (st))) := by
  exact own_of (fun _ k => XS.goto X.here hx rfl rfl (hb hby hd) ho hq k) hr
theorem o_ifY (X : Stand p l e R s m args below meth c T locs cells slots) (hx : p.tables.exec = Jvm.exec) (hby : c.code = bytes) {cd : ClassFile.Cond} {x : Int32} {o : Int} (hd : decode bytes pc = .ok (.ifCond cd o, 3)) (hc : ifCond.holds cd x = true) (ho : 0 ≤ (pc : Int) + o) (hq : ((pc : Int) + o).toNat = q) (hr : own_Out p e below P (T.setTop (mkF m q ls (st)))) : own_Out p e below P (T.setTop (mkF m pc ls (.int x :: st))) := by
  exact own_of (fun _ k => XS.ifYes X.here hx rfl rfl (hb hby hd) rfl hc ho hq k) hr
theorem o_ifN (X : Stand p l e R s m args below meth c T locs cells slots) (hx : p.tables.exec = Jvm.exec) (hby : c.code = bytes) {cd : ClassFile.Cond} {x : Int32} {o : Int} (hd : decode bytes pc = .ok (.ifCond cd o, 3)) (hc : ifCond.holds cd x = false) (hq : pc + 3 = q) (hr : own_Out p e below P (T.setTop (mkF m q ls (st)))) : own_Out p e below P (T.setTop (mkF m pc ls (.int x :: st))) := by
  subst hq; exact own_of (fun _ k => XS.ifNo X.here hx rfl (hb hby hd) rfl hc k) hr
theorem o_icY (X : Stand p l e R s m args below meth c T locs cells slots) (hx : p.tables.exec = Jvm.exec) (hby : c.code = bytes) {cd : ClassFile.Cond} {x y : Int32} {o : Int} (hd : decode bytes pc = .ok (.if_icmp cd o, 3)) (hc : if_icmp.holds cd x y = true) (ho : 0 ≤ (pc : Int) + o) (hq : ((pc : Int) + o).toNat = q) (hr : own_Out p e below P (T.setTop (mkF m q ls (st)))) : own_Out p e below P (T.setTop (mkF m pc ls (.int y :: .int x :: st))) := by
  exact own_of (fun _ k => XS.icmpYes X.here hx rfl rfl (hb hby hd) rfl hc ho hq k) hr
theorem o_icN (X : Stand p l e R s m args below meth c T locs cells slots) (hx : p.tables.exec = Jvm.exec) (hby : c.code = bytes) {cd : ClassFile.Cond} {x y : Int32} {o : Int} (hd : decode bytes pc = .ok (.if_icmp cd o, 3)) (hc : if_icmp.holds cd x y = false) (hq : pc + 3 = q) (hr : own_Out p e below P (T.setTop (mkF m q ls (st)))) : own_Out p e below P (T.setTop (mkF m pc ls (.int y :: .int x :: st))) := by
  subst hq; exact own_of (fun _ k => XS.icmpNo X.here hx rfl (hb hby hd) rfl hc k) hr
theorem o_dup (X : Stand p l e R s m args below meth c T locs cells slots) (hx : p.tables.exec = Jvm.exec) (hby : c.code = bytes) {x : Value} (hd : decode bytes pc = .ok (.dup, 1)) (hc : x.category = 1) (hq : pc + 1 = q) (hr : own_Out p e below P (T.setTop (mkF m q ls (x :: x :: st)))) : own_Out p e below P (T.setTop (mkF m pc ls (x :: st))) := by
  subst hq; exact own_of (fun _ k => XS.dup X.here hx rfl (hb hby hd) rfl hc k) hr
theorem o_pop (X : Stand p l e R s m args below meth c T locs cells slots) (hx : p.tables.exec = Jvm.exec) (hby : c.code = bytes) {x : Value} (hd : decode bytes pc = .ok (.pop, 1)) (hc : x.category = 1) (hq : pc + 1 = q) (hr : own_Out p e below P (T.setTop (mkF m q ls (st)))) : own_Out p e below P (T.setTop (mkF m pc ls (x :: st))) := by
  subst hq; exact own_of (fun _ k => XS.pop X.here hx rfl (hb hby hd) rfl hc k) hr
theorem o_dup2 (X : Stand p l e R s m args below meth c T locs cells slots) (hx : p.tables.exec = Jvm.exec) (hby : c.code = bytes) {x y : Value} (hd : decode bytes pc = .ok (.dup2, 1)) (h1 : x.category = 1) (h2 : y.category = 1) (hq : pc + 1 = q) (hr : own_Out p e below P (T.setTop (mkF m q ls (x :: y :: x :: y :: st)))) : own_Out p e below P (T.setTop (mkF m pc ls (x :: y :: st))) := by
  subst hq; exact own_of (fun _ k => Jvm.Free.XT.dup2 X.here hx rfl (hb hby hd) rfl h1 h2 k) hr
theorem o_dupX2 (X : Stand p l e R s m args below meth c T locs cells slots) (hx : p.tables.exec = Jvm.exec) (hby : c.code = bytes) {x y z : Value} (hd : decode bytes pc = .ok (.dup_x2, 1)) (h1 : x.category = 1) (h2 : y.category = 1) (h3 : z.category = 1) (hq : pc + 1 = q) (hr : own_Out p e below P (T.setTop (mkF m q ls (x :: y :: z :: x :: st)))) : own_Out p e below P (T.setTop (mkF m pc ls (x :: y :: z :: st))) := by
  subst hq; exact own_of (fun _ k => own_dupX2 X.here hx rfl (hb hby hd) rfl h1 h2 h3 k) hr
variable {Z : State} {a0 : Array Value} {h : Heap}
theorem o_ldcI (X : Stand p l e R s m args below meth c T locs cells slots) (hx : p.tables.exec = Jvm.exec) (hZ : Z.Warmed39 s.vm) {own : String} (hown : s.vm.findClass own = some m.cls) (hby : c.code = bytes) {i : Nat} {v : Int32} (w : (Cond.constant own i v).before a0 Z = true) (hd : decode bytes pc = .ok (.ldc i, 2)) (hq : pc + 2 = q) (hr : own_Out p e below P (T.setTop (mkF m q ls (.int v :: st)))) : own_Out p e below P (T.setTop (mkF m pc ls st)) := by
  subst hq; exact own_of (X.ldcInt hx hown (mvT hZ w) (g := mkF m pc ls st) rfl (hb hby hd)) hr
theorem o_getF (X : Stand p l e R s m args below meth c T locs cells slots) (hx : p.tables.exec = Jvm.exec) (hZ : Z.Warmed39 s.vm) {own R0 O n d : String} (hown : s.vm.findClass own = some m.cls) (hby : c.code = bytes) {i : Nat} (w : (Cond.fieldLink own i R0 n d).before a0 Z = true) (via : Via Z R0 O n d) (eT : T.heap = h) {a : Addr} {v : Value} (F : Fld Z h a O n d v) (hd : decode bytes pc = .ok (.getfield i, 3)) (hq : pc + 3 = q)
    (hr : ∀ T', Stand p l e R s m args below meth c T' locs cells slots → T'.heap = h → own_Out p e below P (T'.setTop (mkF m q ls (v :: st)))) : own_Out p e below P (T.setTop (mkF m pc ls (.ref a :: st))) := by
  subst hq
  obtain ⟨T', X', e', t⟩ := getF X hx hZ hown (host := "") (Or.inl w) via eT F (g := mkF m pc ls (.ref a :: st)) rfl rfl (hb hby hd)
  exact own_of t (hr T' X' e')
theorem o_stI (X : Stand p l e R s m args below meth c T locs cells slots) (hx : p.tables.exec = Jvm.exec) (hZ : Z.Warmed39 s.vm) (hby : c.code = bytes) (eT : T.heap = h) {a : Addr} {cl : Cell} (A : Arr Z h a cl .int) {j x : Int32} (hj : ¬ (j < 0 ∨ cl.slots.size ≤ j.toNatClampNeg)) (hd : decode bytes pc = .ok (.iastore, 1)) (hq : pc + 1 = q)
    (hr : ∀ T' h', Stand p l e R s m args below meth c T' (locs ++ [⟨a, j.toNatClampNeg⟩]) cells slots → T'.heap = h' → Wr h h' a j.toNatClampNeg (.int x) → own_Out p e below P (T'.setTop (mkF m q ls st))) : own_Out p e below P (T.setTop (mkF m pc ls (.int x :: .int j :: .ref a :: st))) := by
  subst hq
  obtain ⟨T', h', X', e', W', t⟩ := stI X hx hZ eT A hj (g := mkF m pc ls (.int x :: .int j :: .ref a :: st)) rfl rfl (hb hby hd)
  exact own_of t (hr T' h' X' e' W')
theorem o_iaload (X : Stand p l e R s m args below meth c T locs cells slots) (hx : p.tables.exec = Jvm.exec) (hZ : Z.Warmed39 s.vm) (hby : c.code = bytes) (eT : T.heap = h) {a : Addr} {cl : Cell} (A : Arr Z h a cl .int) {j : Int32} {v : Value} (hj : ¬ (j < 0 ∨ cl.slots.size ≤ j.toNatClampNeg)) (hv : cl.slots[j.toNatClampNeg]? = some v) (hd : decode bytes pc = .ok (.iaload, 1)) (hq : pc + 1 = q)
    (hr : own_Out p e below P (T.setTop (mkF m q ls (v :: st)))) : own_Out p e below P (T.setTop (mkF m pc ls (.int j :: .ref a :: st))) := by
  subst hq
  exact own_of (X.iaload hx (by rw [eT]; exact A.1) (State.isArrayOf_alike hZ.alike A.2.1) A.2.2 hj hv (g := mkF m pc ls (.int j :: .ref a :: st)) rfl rfl (hb hby hd)) hr
theorem o_aaload (X : Stand p l e R s m args below meth c T locs cells slots) (hx : p.tables.exec = Jvm.exec) (hZ : Z.Warmed39 s.vm) (hby : c.code = bytes) (eT : T.heap = h) {a : Addr} {cl : Cell} {ty : FieldType} (A : Arr Z h a cl ty) (hty : ty.isReference = true) {j : Int32} {v : Value} (hj : ¬ (j < 0 ∨ cl.slots.size ≤ j.toNatClampNeg)) (hv : cl.slots[j.toNatClampNeg]? = some v) (hd : decode bytes pc = .ok (.aaload, 1)) (hq : pc + 1 = q)
    (hr : own_Out p e below P (T.setTop (mkF m q ls (v :: st)))) : own_Out p e below P (T.setTop (mkF m pc ls (.int j :: .ref a :: st))) := by
  subst hq
  exact own_of (X.aaload hx (by rw [eT]; exact A.1) (State.isArrayOf_alike hZ.alike A.2.1) hty A.2.2 hj hv (g := mkF m pc ls (.int j :: .ref a :: st)) rfl rfl (hb hby hd)) hr
theorem o_len (X : Stand p l e R s m args below meth c T locs cells slots) (hx : p.tables.exec = Jvm.exec) (hZ : Z.Warmed39 s.vm) (hby : c.code = bytes) (eT : T.heap = h) {a : Addr} {cl : Cell} {ty : FieldType} (A : Arr Z h a cl ty) {z : Int32} (S : cl.slots.size = z.toNatClampNeg) (N : ¬ z < 0) (hd : decode bytes pc = .ok (.arraylength, 1)) (hq : pc + 1 = q)
    (hr : own_Out p e below P (T.setTop (mkF m q ls (.int z :: st)))) : own_Out p e below P (T.setTop (mkF m pc ls (.ref a :: st))) := by
  subst hq
  refine own_of (X.arraylength hx (by rw [eT]; exact A.1) (State.isArrayOf_alike hZ.alike A.2.1) (g := mkF m pc ls (.ref a :: st)) rfl rfl (hb hby hd)) ?_
  rw [len_of S N]; exact hr
variable {a : Addr} {k : ClassId} {z j : Int32} {vs : List Value} {dv v : Value} {ty : FieldType}
theorem o_nin {c : Cell} (S : c.slots.size = z.toNatClampNeg) (hj : ¬ j < 0 ∧ j < z) : j.toNatClampNeg < c.slots.size := Nat.lt_of_not_le fun q => inb_of S hj (Or.inr q)
theorem o_iaV (X : Stand p l e R s m args below meth c T locs cells slots) (hx : p.tables.exec = Jvm.exec) (hby : c.code = bytes) (hZ : Z.Warmed39 s.vm) (eT : T.heap = h) (V : Arv Z h a k .int z vs dv) (hj : ¬ j < 0 ∧ j < z) (hv : vs.getD j.toNatClampNeg dv = v) (hd : decode bytes pc = .ok (.iaload, 1)) (hq : pc + 1 = q)
    (hr : own_Out p e below P (T.setTop (mkF m q ls (v :: st)))) : own_Out p e below P (T.setTop (mkF m pc ls (.int j :: .ref a :: st))) := by
  obtain ⟨cl, A, q1, S, N, H, G⟩ := V
  exact o_iaload X hx hZ hby eT A (inb_of S hj) ((H _ (o_nin S hj)).trans (by rw [hv])) hd hq hr
theorem o_aaV (X : Stand p l e R s m args below meth c T locs cells slots) (hx : p.tables.exec = Jvm.exec) (hby : c.code = bytes) (hZ : Z.Warmed39 s.vm) (eT : T.heap = h) (V : Arv Z h a k ty z vs dv) (hty : ty.isReference = true) (hj : ¬ j < 0 ∧ j < z) (hv : vs.getD j.toNatClampNeg dv = v) (hd : decode bytes pc = .ok (.aaload, 1)) (hq : pc + 1 = q)
    (hr : own_Out p e below P (T.setTop (mkF m q ls (v :: st)))) : own_Out p e below P (T.setTop (mkF m pc ls (.int j :: .ref a :: st))) := by
  obtain ⟨cl, A, q1, S, N, H, G⟩ := V
  exact o_aaload X hx hZ hby eT A hty (inb_of S hj) ((H _ (o_nin S hj)).trans (by rw [hv])) hd hq hr
theorem o_laV (X : Stand p l e R s m args below meth c T locs cells slots) (hx : p.tables.exec = Jvm.exec) (hby : c.code = bytes) (hZ : Z.Warmed39 s.vm) (eT : T.heap = h) (V : Arv Z h a k .long z vs dv) (hj : ¬ j < 0 ∧ j < z) (hv : vs.getD j.toNatClampNeg dv = v) (hd : decode bytes pc = .ok (.laload, 1)) (hq : pc + 1 = q)
    (hr : own_Out p e below P (T.setTop (mkF m q ls (v :: st)))) : own_Out p e below P (T.setTop (mkF m pc ls (.int j :: .ref a :: st))) := by
  obtain ⟨cl, A, q1, S, N, H, G⟩ := V
  subst hq
  exact own_of (X.laload hx (by rw [eT]; exact A.1) (State.isArrayOf_alike hZ.alike A.2.1) A.2.2 (inb_of S hj) ((H _ (o_nin S hj)).trans (by rw [hv])) (g := mkF m pc ls (.int j :: .ref a :: st)) rfl rfl (hb hby hd)) hr
theorem o_caV (X : Stand p l e R s m args below meth c T locs cells slots) (hx : p.tables.exec = Jvm.exec) (hby : c.code = bytes) (hZ : Z.Warmed39 s.vm) (eT : T.heap = h) (V : Arv Z h a k .char z vs dv) (hj : ¬ j < 0 ∧ j < z) (hv : vs.getD j.toNatClampNeg dv = v) (hd : decode bytes pc = .ok (.caload, 1)) (hq : pc + 1 = q)
    (hr : own_Out p e below P (T.setTop (mkF m q ls (v :: st)))) : own_Out p e below P (T.setTop (mkF m pc ls (.int j :: .ref a :: st))) := by
  obtain ⟨cl, A, q1, S, N, H, G⟩ := V
  subst hq
  exact own_of (X.caload hx (by rw [eT]; exact A.1) (State.isArrayOf_alike hZ.alike A.2.1) A.2.2 (inb_of S hj) ((H _ (o_nin S hj)).trans (by rw [hv])) (g := mkF m pc ls (.int j :: .ref a :: st)) rfl rfl (hb hby hd)) hr
theorem o_baV (X : Stand p l e R s m args below meth c T locs cells slots) (hx : p.tables.exec = Jvm.exec) (hby : c.code = bytes) (hZ : Z.Warmed39 s.vm) (eT : T.heap = h) (V : Arv Z h a k .byte z vs dv) (hj : ¬ j < 0 ∧ j < z) (hv : vs.getD j.toNatClampNeg dv = v) (hd : decode bytes pc = .ok (.baload, 1)) (hq : pc + 1 = q)
    (hr : own_Out p e below P (T.setTop (mkF m q ls (v :: st)))) : own_Out p e below P (T.setTop (mkF m pc ls (.int j :: .ref a :: st))) := by
  obtain ⟨cl, A, q1, S, N, H, G⟩ := V
  subst hq
  exact own_of (X.baloadBytes hx (by rw [eT]; exact A.1) (State.isArrayOf_alike hZ.alike A.2.1) A.2.2 (inb_of S hj) ((H _ (o_nin S hj)).trans (by rw [hv])) (g := mkF m pc ls (.int j :: .ref a :: st)) rfl rfl (hb hby hd)) hr
theorem o_lenV (X : Stand p l e R s m args below meth c T locs cells slots) (hx : p.tables.exec = Jvm.exec) (hby : c.code = bytes) (hZ : Z.Warmed39 s.vm) (eT : T.heap = h) (V : Arv Z h a k ty z vs dv) (hd : decode bytes pc = .ok (.arraylength, 1)) (hq : pc + 1 = q)
    (hr : own_Out p e below P (T.setTop (mkF m q ls (.int z :: st)))) : own_Out p e below P (T.setTop (mkF m pc ls (.ref a :: st))) := by
  obtain ⟨cl, A, q1, S, N, H, G⟩ := V
  exact o_len X hx hZ hby eT A S N hd hq hr
theorem o_stV (X : Stand p l e R s m args below meth c T locs cells slots) (hx : p.tables.exec = Jvm.exec) (hby : c.code = bytes) (hZ : Z.Warmed39 s.vm) (eT : T.heap = h) (V : Arv Z h a k .int z vs dv) (hj : ¬ j < 0 ∧ j < z) (i : Nat) (hi : j.toNatClampNeg = i) (hl : i < vs.length) {x : Int32} (hd : decode bytes pc = .ok (.iastore, 1)) (hq : pc + 1 = q)
    (hr : ∀ T' h', Stand p l e R s m args below meth c T' (locs ++ [⟨a, j.toNatClampNeg⟩]) cells slots → T'.heap = h' → Wr h h' a j.toNatClampNeg (.int x) → Arv Z h' a k .int z (vs.set i (.int x)) dv → own_Out p e below P (T'.setTop (mkF m q ls st))) : own_Out p e below P (T.setTop (mkF m pc ls (.int x :: .int j :: .ref a :: st))) := by
  obtain ⟨cl, A, q1, S, N, H, G⟩ := V
  exact o_stI X hx hZ hby eT A (inb_of S hj) hd hq fun T' h' X' e' W' => hr T' h' X' e' W' (Arv.set A q1 S N H G rfl W' i hi hl)
theorem o_stVR (X : Stand p l e R s m args below meth c T locs cells slots) (hx : p.tables.exec = Jvm.exec) (hby : c.code = bytes) (hZ : Z.Warmed39 s.vm) (eT : T.heap = h) (V : Arv Z h a k (.array .int) z vs dv) (hj : ¬ j < 0 ∧ j < z) (i : Nat) (hi : j.toNatClampNeg = i) (hl : i < vs.length) {y : Addr} (O : OvrA Z k .int "[I") (I : Ins Z h y "[I" true) (hd : decode bytes pc = .ok (.aastore, 1)) (hq : pc + 1 = q)
    (hr : ∀ T' h', Stand p l e R s m args below meth c T' (locs ++ [⟨a, j.toNatClampNeg⟩]) cells slots → T'.heap = h' → Wr h h' a j.toNatClampNeg (.ref y) → Arv Z h' a k (.array .int) z (vs.set i (.ref y)) dv → own_Out p e below P (T'.setTop (mkF m q ls st))) : own_Out p e below P (T.setTop (mkF m pc ls (.ref y :: .int j :: .ref a :: st))) := by
  obtain ⟨cl, A, q1, S, N, H, G⟩ := V
  subst hq
  obtain ⟨T', h', X', e', W', t⟩ := stR X hx hZ eT A (inb_of S hj) rfl (Sto.ofVA A q1 O I) (g := mkF m pc ls (.ref y :: .int j :: .ref a :: st)) rfl rfl (hb hby hd)
  exact own_of t (hr T' h' X' e' W' (Arv.set A q1 S N H G rfl W' i hi hl))
end Short
end Jvm.RoadKit
namespace Jvm.Pilot.@@N@@
open Jvm Jvm.ClassFile Sem Op Lib Jvm.Free Jvm.Stand Jvm.LawKit Jvm.RoadKit Bundle Jvm.Pilot.@@N@@.Jvm.D
theorem w_ {a0 : Array Value} {Z : State} (hw : ∀ d ∈ tables_1, d.before a0 Z = true) (i : Nat) {d : Jvm.Cond} (h : tables_1[i]? = some d) : d.before a0 Z = true := hw _ (List.mem_of_getElem? h)
theorem d2_0 : decode jdk_43_method_3_code 0 = .ok (.iload_n 0, 1) := by decide +kernel
theorem d2_1 : decode jdk_43_method_3_code 1 = .ok (.sipush 255, 3) := by decide +kernel
theorem d2_4 : decode jdk_43_method_3_code 4 = .ok (.if_icmp .gt 7, 3) := by decide +kernel
theorem d2_7 : decode jdk_43_method_3_code 7 = .ok (.iconst 1, 1) := by decide +kernel
theorem d2_8 : decode jdk_43_method_3_code 8 = .ok (.goto 4, 3) := by decide +kernel
theorem d2_12 : decode jdk_43_method_3_code 12 = .ok (.ireturn, 1) := by decide +kernel
theorem pn_0 : plainName "java/lang/StringLatin1" = true := by first | (simp [plainName, overriddenIn]; done) | decide +kernel
theorem ef_2l (m : MethodId) (x0 : Int32) : entryFrame m #[(.int x0)] 1 = mkF m 0 #[.val (.int x0)] [] := by first | (simp [entryFrame, mkF, argsToLocals, Value.category]; done) | rfl
def Q2l (Z : State) (p0 : Int32) (h0 : Heap) (n0 : Nat) (v : Option Value) (h : Heap) (L : List Loc) : Prop := v = some (.int (1 : Int32)) ∧ Fr n0 L ∧ h = h0
set_option maxRecDepth 65536 in
set_option maxHeartbeats 40000000 in
theorem rm2l (l : Launch) (Z : State) (a0 : Array Value) (hw : ∀ d ∈ tables_1, d.before a0 Z = true) (ws : List Jvm.Cond) (p0 : Int32) (h0 : Heap) (n0 : Nat) (Z0 : n0 ≤ h0.size) (hp : ¬ ((255 : Int32) < p0)) :
    MetFree l (⟨"java/lang/StringLatin1", "canEncode", "(C)Z"⟩ : MethodName) (head1 (Jvm.Cond.code (⟨"java/lang/StringLatin1", "canEncode", "(C)Z"⟩ : MethodName) jdk_43_method_3_code 1 (some .boolean) :: ws) ({ frames := 0, cells := 0, slots := 0, locals := 0 } : Room)) (fun a U => a = #[(.int p0)] ∧ Z.Warmed39 U.vm ∧ U.heap = h0) (fun _ _ _ _ _ => True) (fun _ U o U' => ∃ v L, o = .returned v ∧ Q2l Z p0 h0 n0 v U'.heap L ∧ FrameEnd U o U' L ({ frames := 0, cells := 0, slots := 0, locals := 0 } : Room).cells ({ frames := 0, cells := 0, slots := 0, locals := 0 } : Room).slots) := by
  refine MetFree.of_bodySF (plainFor_of_name pn_0) hisR ?_
  intro p e s m args below meth c s₁ Bd hml0 hP hK
  obtain ⟨rfl, hZ, hh⟩ := hP
  have hx := Bd.exec
  have hby := Bd.bytes
  have hml : c.maxLocals = 1 := hml0
  have hown : s.vm.findClass "java/lang/StringLatin1" = some m.cls := findClass_of_methodNamed Bd.named
  have hnm := (name_of_methodNamed Bd.named Bd.method).1
  have X0 : Stand p l e ({ frames := 0, cells := 0, slots := 0, locals := 0 } : Room) s m #[(.int p0)] below meth c s₁ [] 0 0 := Stand.of_body Bd
  have e0 : s₁.heap = h0 := by rw [← hh, Bd.state]; rfl
  have N0 := Fr.nil n0
  have hret := Bd.returns
  have hlk := BodyLoose.notSynchronized Bd
  show own_Out p e below (fun o U' => ∃ v L, o = .returned v ∧ Q2l Z p0 h0 n0 v U'.heap L ∧ FrameEnd s o U' L ({ frames := 0, cells := 0, slots := 0, locals := 0 } : Room).cells ({ frames := 0, cells := 0, slots := 0, locals := 0 } : Room).slots) (s₁.setTop (entryFrame m #[(.int p0)] 1))
  refine own_of (fun t k => castTop (ef_2l m p0) k) ?_
  show own_Out p e below _ (s₁.setTop (mkF m 0 #[iv p0] []))
  refine o_iloadN X0 hx hby d2_0 rfl (q := 1) rfl ?_
  refine o_sipush X0 hx hby d2_1 (z := 255) rfl (q := 4) rfl ?_
  refine o_icN X0 hx hby d2_4 (flt hp).2.2.1 (q := 7) rfl ?_
  refine o_iconst X0 hx hby d2_7 (z := 1) rfl (q := 8) rfl ?_
  refine o_goto X0 hx hby d2_8 (by decide) (q := 12) (by decide) ?_
  exact own_outN X0 hx hlk (t := .boolean) hret (by simp) (hb hby d2_12) (z' := (1 : Int32)) rfl (Q := Q2l Z p0 h0 n0) ⟨rfl, N0, e0⟩ (by decide) (by decide)
theorem d3_0 : decode jdk_43_method_46_code 0 = .ok (.iconst 1, 1) := by decide +kernel
theorem d3_1 : decode jdk_43_method_46_code 1 = .ok (.newarray .byte, 2) := by decide +kernel
theorem d3_3 : decode jdk_43_method_46_code 3 = .ok (.dup, 1) := by decide +kernel
theorem d3_4 : decode jdk_43_method_46_code 4 = .ok (.iconst 0, 1) := by decide +kernel
theorem d3_5 : decode jdk_43_method_46_code 5 = .ok (.iload_n 0, 1) := by decide +kernel
theorem d3_6 : decode jdk_43_method_46_code 6 = .ok (.i2b, 1) := by decide +kernel
theorem d3_7 : decode jdk_43_method_46_code 7 = .ok (.bastore, 1) := by decide +kernel
theorem d3_8 : decode jdk_43_method_46_code 8 = .ok (.areturn, 1) := by decide +kernel
theorem ef_3 (m : MethodId) (x0 : Int32) : entryFrame m #[(.int x0)] 1 = mkF m 0 #[.val (.int x0)] [] := by first | (simp [entryFrame, mkF, argsToLocals, Value.category]; done) | rfl
def Q3 (Z : State) (p0 : Int32) (h0 : Heap) (n0 : Nat) (v : Option Value) (h : Heap) (L : List Loc) : Prop := ∃ (b : Addr) (k : ClassId), v = some (.ref b) ∧ Fr n0 L ∧ Keep h0 h [] ∧ Arv Z h b k .byte (1 : Int32) [.int ((p0.toInt8.toInt32).toInt8.toInt32)] (.int (0 : Int32)) ∧ n0 ≤ b ∧ h0.size ≤ b
set_option maxRecDepth 65536 in
set_option maxHeartbeats 40000000 in
theorem rm3 (l : Launch) (Z : State) (a0 : Array Value) (hw : ∀ d ∈ tables_1, d.before a0 Z = true) (ws : List Jvm.Cond) (p0 : Int32) (h0 : Heap) (n0 : Nat) (Z0 : n0 ≤ h0.size) :
    MetFree l (⟨"java/lang/StringLatin1", "toBytes", "(C)[B"⟩ : MethodName) (head1 (Jvm.Cond.code (⟨"java/lang/StringLatin1", "toBytes", "(C)[B"⟩ : MethodName) jdk_43_method_46_code 1 (some (.array .byte)) :: ws) ({ frames := 0, cells := 1, slots := 1, locals := 0 } : Room)) (fun a U => a = #[(.int p0)] ∧ Z.Warmed39 U.vm ∧ U.heap = h0) (fun _ _ _ _ _ => True) (fun _ U o U' => ∃ v L, o = .returned v ∧ Q3 Z p0 h0 n0 v U'.heap L ∧ FrameEnd U o U' L ({ frames := 0, cells := 1, slots := 1, locals := 0 } : Room).cells ({ frames := 0, cells := 1, slots := 1, locals := 0 } : Room).slots) := by
  refine MetFree.of_bodySF (plainFor_of_name pn_0) hisR ?_
  intro p e s m args below meth c s₁ Bd hml0 hP hK
  obtain ⟨rfl, hZ, hh⟩ := hP
  have hx := Bd.exec
  have hby := Bd.bytes
  have hml : c.maxLocals = 1 := hml0
  have hown : s.vm.findClass "java/lang/StringLatin1" = some m.cls := findClass_of_methodNamed Bd.named
  have hnm := (name_of_methodNamed Bd.named Bd.method).1
  have X0 : Stand p l e ({ frames := 0, cells := 1, slots := 1, locals := 0 } : Room) s m #[(.int p0)] below meth c s₁ [] 0 0 := Stand.of_body Bd
  have e0 : s₁.heap = h0 := by rw [← hh, Bd.state]; rfl
  have N0 := Fr.nil n0
  have hret := Bd.returns
  have hlk := BodyLoose.notSynchronized Bd
  show own_Out p e below (fun o U' => ∃ v L, o = .returned v ∧ Q3 Z p0 h0 n0 v U'.heap L ∧ FrameEnd s o U' L ({ frames := 0, cells := 1, slots := 1, locals := 0 } : Room).cells ({ frames := 0, cells := 1, slots := 1, locals := 0 } : Room).slots) (s₁.setTop (entryFrame m #[(.int p0)] 1))
  refine own_of (fun t k => castTop (ef_3 m p0) k) ?_
  show own_Out p e below _ (s₁.setTop (mkF m 0 #[iv p0] []))
  refine o_iconst X0 hx hby d3_0 (z := 1) rfl (q := 1) rfl ?_
  obtain ⟨T1, h1, k1, X1, e1, E1, A1, st1⟩ := newP X0 hx hZ (w_ hw 17 rfl) e0 (g := (mkF m 1 #[iv p0] [.int 1])) rfl (hb hby d3_1) rfl (by decide) (cap := 1) (by decide) (by decide) (by decide) (by decide)
  obtain ⟨b1, g1⟩ : ∃ z, z = h0.size := ⟨_, rfl⟩
  rw [← g1] at A1 st1
  have g_b1 : n0 ≤ b1 := Nat.le_trans Z0 (Nat.le_of_eq g1.symm)
  have sz_b1 : h0.size ≤ b1 := Nat.le_trans (Nat.le_refl h0.size) (Nat.le_of_eq g1.symm)
  have V_b1 : Arv Z h1 b1 k1 .byte (1 : Int32) [(.int (0 : Int32))] (.int (0 : Int32)) := (Arv.new A1 (by decide)).pad (pad_rep [] (.int (0 : Int32)) 1)
  refine own_of st1 ?_
  show own_Out p e below _ (T1.setTop (mkF m 3 #[iv p0] [.ref b1]))
  refine o_dup X1 hx hby d3_3 rfl (q := 4) rfl ?_
  refine o_iconst X1 hx hby d3_4 (z := 0) rfl (q := 5) rfl ?_
  refine o_iloadN X1 hx hby d3_5 rfl (q := 6) rfl ?_
  refine o_i2b X1 hx hby d3_6 rfl (q := 7) rfl ?_
  obtain ⟨cl2, Ar2, q2, S2, N2', H2, G2⟩ := id V_b1
  have hin3 : ¬ ((0 : Int32) < 0 ∨ cl2.slots.size ≤ ((0 : Int32)).toNatClampNeg) := inb_of S2 ⟨by decide, by decide⟩
  obtain ⟨T3, h3, X3, e3, W3, st3⟩ := stB X1 hx hZ e1 Ar2 (j := (0 : Int32)) hin3 (g := (mkF m 7 #[iv p0] [.int (p0.toInt8.toInt32), .int 0, .ref b1, .ref b1])) rfl rfl (hb hby d3_7)
  have V3 := Arv.set Ar2 q2 S2 N2' H2 G2 (fits_nar_byte _) W3 0 rfl (Nat.le_of_ble_eq_true rfl)
  refine own_of st3 ?_
  show own_Out p e below _ (T3.setTop (mkF m 8 #[iv p0] [.ref b1]))
  have q4 := (((Keep.refl h0 []).ext E1).wr W3 (Or.inr sz_b1))
  exact own_outR X3 hx hlk hret rfl rfl rfl (hb hby d3_8) (Q := Q3 Z p0 h0 n0) (by rw [e3]; exact ⟨b1, k1, rfl, (Fr.snoc X3 N0 g_b1), q4, V3, g_b1, sz_b1⟩) (by decide) (by decide)
theorem d4_0 : decode jdk_42_method_151_code 0 = .ok (.aload_n 0, 1) := by decide +kernel
theorem d4_1 : decode jdk_42_method_151_code 1 = .ok (.invokespecial 1, 3) := by decide +kernel
theorem d4_4 : decode jdk_42_method_151_code 4 = .ok (.aload_n 0, 1) := by decide +kernel
theorem d4_5 : decode jdk_42_method_151_code 5 = .ok (.aload_n 1, 1) := by decide +kernel
theorem d4_6 : decode jdk_42_method_151_code 6 = .ok (.putfield 9, 3) := by decide +kernel
theorem d4_9 : decode jdk_42_method_151_code 9 = .ok (.aload_n 0, 1) := by decide +kernel
theorem d4_10 : decode jdk_42_method_151_code 10 = .ok (.iload_n 2, 1) := by decide +kernel
theorem d4_11 : decode jdk_42_method_151_code 11 = .ok (.putfield 15, 3) := by decide +kernel
theorem d4_14 : decode jdk_42_method_151_code 14 = .ok (.return_, 1) := by decide +kernel
theorem pn_1 : plainName "java/lang/String" = true := by first | (simp [plainName, overriddenIn]; done) | decide +kernel
theorem ef_4c0 (m : MethodId) (x0 : Addr) (x1 : Addr) : entryFrame m #[(.ref x0), (.ref x1), (.int (0 : Int32))] 3 = mkF m 0 #[.val (.ref x0), .val (.ref x1), .val (.int (0 : Int32))] [] := by first | (simp [entryFrame, mkF, argsToLocals, Value.category]; done) | rfl
def Q4c0 (Z : State) (o0 : Addr) (o1 : Addr) (h0 : Heap) (n0 : Nat) (v : Option Value) (h : Heap) (L : List Loc) : Prop := v = none ∧ Fr n0 L ∧ Keep h0 h [o0] ∧ Exa Z h o0 "java/lang/String" ∧ Fld Z h o0 "java/lang/String" "value" "[B" (.ref o1) ∧ Fld Z h o0 "java/lang/String" "coder" "B" (.int (0 : Int32))
set_option maxRecDepth 65536 in
set_option maxHeartbeats 40000000 in
theorem rm4c0 (l : Launch) (Z : State) (a0 : Array Value) (hw : ∀ d ∈ tables_1, d.before a0 Z = true) (ws : List Jvm.Cond) (o0 : Addr) (o1 : Addr) (h0 : Heap) (n0 : Nat) (Z0 : n0 ≤ h0.size) (E : Exa Z h0 o0 "java/lang/String") (F_value : Fld Z h0 o0 "java/lang/String" "value" "[B" .null) (F_coder : Fld Z h0 o0 "java/lang/String" "coder" "B" (.int (0 : Int32))) (g_o0 : n0 ≤ o0) :
    MetFree l (⟨"java/lang/String", "<init>", "([BB)V"⟩ : MethodName) (head1 (Jvm.Cond.code (⟨"java/lang/String", "<init>", "([BB)V"⟩ : MethodName) jdk_42_method_151_code 3 none :: ws) ({ frames := 1, cells := 0, slots := 0, locals := 12 } : Room)) (fun a U => a = #[(.ref o0), (.ref o1), (.int (0 : Int32))] ∧ Z.Warmed39 U.vm ∧ U.heap = h0) (fun _ _ _ _ _ => True) (fun _ U o U' => ∃ v L, o = .returned v ∧ Q4c0 Z o0 o1 h0 n0 v U'.heap L ∧ FrameEnd U o U' L ({ frames := 1, cells := 0, slots := 0, locals := 12 } : Room).cells ({ frames := 1, cells := 0, slots := 0, locals := 12 } : Room).slots) := by
  refine MetFree.of_bodySF (plainFor_of_name pn_1) hisR ?_
  intro p e s m args below meth c s₁ Bd hml0 hP hK
  obtain ⟨rfl, hZ, hh⟩ := hP
  have hx := Bd.exec
  have hby := Bd.bytes
  have hml : c.maxLocals = 3 := hml0
  have hown : s.vm.findClass "java/lang/String" = some m.cls := findClass_of_methodNamed Bd.named
  have hnm := (name_of_methodNamed Bd.named Bd.method).1
  have X0 : Stand p l e ({ frames := 1, cells := 0, slots := 0, locals := 12 } : Room) s m #[(.ref o0), (.ref o1), (.int (0 : Int32))] below meth c s₁ [] 0 0 := Stand.of_body Bd
  have e0 : s₁.heap = h0 := by rw [← hh, Bd.state]; rfl
  have N0 := Fr.nil n0
  have hret := Bd.returns
  have hlk := BodyLoose.notSynchronized Bd
  show own_Out p e below (fun o U' => ∃ v L, o = .returned v ∧ Q4c0 Z o0 o1 h0 n0 v U'.heap L ∧ FrameEnd s o U' L ({ frames := 1, cells := 0, slots := 0, locals := 12 } : Room).cells ({ frames := 1, cells := 0, slots := 0, locals := 12 } : Room).slots) (s₁.setTop (entryFrame m #[(.ref o0), (.ref o1), (.int (0 : Int32))] 3))
  refine own_of (fun t k => castTop (ef_4c0 m o0 o1) k) ?_
  show own_Out p e below _ (s₁.setTop (mkF m 0 #[rv o0, rv o1, iv 0] []))
  refine o_aloadN X0 hx hby d4_0 rfl rfl (q := 1) rfl ?_
  obtain ⟨T1, X1, e1, st1⟩ := initO X0 hx hZ hown (w_ hw 22 rfl) (w_ hw 23 rfl) (w_ hw 24 rfl) e0 (g := (mkF m 1 #[rv o0, rv o1, iv 0] [.ref o0])) rfl (by rw [hml]; rfl) rfl (hb hby d4_1) (by decide) (W := 0) (by show 2 * 0 + _ ≤ _; exact Nat.le_of_eq rfl) (by decide)
  refine own_of st1 ?_
  show own_Out p e below _ (T1.setTop (mkF m 4 #[rv o0, rv o1, iv 0] []))
  refine o_aloadN X1 hx hby d4_4 rfl rfl (q := 5) rfl ?_
  refine o_aloadN X1 hx hby d4_5 rfl rfl (q := 6) rfl ?_
  obtain ⟨T2, h2, X2, e2, W2, st2⟩ := putF X1 hx hZ hown (host := "") (Or.inl (w_ hw 25 rfl)) Via.refl e1 F_value E (Or.inr ⟨(w_ hw 26 rfl), rfl, hnm⟩) (w_ hw 13 rfl) (ty := (.array .byte)) (by decide) rfl rfl (g := (mkF m 6 #[rv o0, rv o1, iv 0] [.ref o1, .ref o0])) rfl rfl (hb hby d4_6)
  have Fw2 := F_value.same W2
  refine own_of st2 ?_
  show own_Out p e below _ (T2.setTop (mkF m 9 #[rv o0, rv o1, iv 0] []))
  refine o_aloadN X2 hx hby d4_9 rfl rfl (q := 10) rfl ?_
  refine o_iloadN X2 hx hby d4_10 rfl (q := 11) rfl ?_
  have q4 := (F_coder.other W2 (Or.inr (slot_ne (Or.inr (w_ hw 28 rfl)) (Or.inr (w_ hw 26 rfl)) (by decide) (t := .byte) (t' := (.array .byte)) (by decide) (by decide))))
  have q5 := (E.wr W2)
  obtain ⟨T3, h3, X3, e3, W3, st3⟩ := putFN X2 hx hZ hown (w_ hw 27 rfl) Via.refl e2 q4 q5 (Or.inr ⟨(w_ hw 28 rfl), rfl, hnm⟩) (w_ hw 13 rfl) (ty := .byte) (v' := (.int (0 : Int32))) (by decide) rfl rfl (g := (mkF m 11 #[rv o0, rv o1, iv 0] [.int 0, .ref o0])) rfl rfl (hb hby d4_11)
  have q6 := (F_coder.other W2 (Or.inr (slot_ne (Or.inr (w_ hw 28 rfl)) (Or.inr (w_ hw 26 rfl)) (by decide) (t := .byte) (t' := (.array .byte)) (by decide) (by decide))))
  have Fw3 := q6.same W3
  refine own_of st3 ?_
  show own_Out p e below _ (T3.setTop (mkF m 14 #[rv o0, rv o1, iv 0] []))
  have q7 := (((Keep.refl h0 [o0]).wr W2 (Or.inl (List.mem_of_getElem? (i := 0) rfl))).wr W3 (Or.inl (List.mem_of_getElem? (i := 0) rfl)))
  have q8 := (q5.wr W3)
  have q9 := (Fw2.other W3 (Or.inr (slot_ne (Or.inr (w_ hw 26 rfl)) (Or.inr (w_ hw 28 rfl)) (by decide) (t := (.array .byte)) (t' := .byte) (by decide) (by decide))))
  exact own_outV X3 hx hlk hret (hb hby d4_14) (Q := Q4c0 Z o0 o1 h0 n0) (by rw [e3]; exact ⟨rfl, (Fr.snoc X3 (Fr.snoc X2 N0 g_o0) g_o0), q7, q8, q9, Fw3⟩) (by decide) (by decide)
theorem pd_0 : parseMethodDescriptor "(C)Z" = some ⟨[.char], some .boolean⟩ := by decide +kernel
theorem pd_1 : parseMethodDescriptor "(C)[B" = some ⟨[.char], some (.array .byte)⟩ := by decide +kernel
theorem pd_2 : parseMethodDescriptor "([BB)V" = some ⟨[(.array .byte), .byte], none⟩ := by decide +kernel
theorem d1_0 : decode jdk_42_method_139_code 0 = .ok (.getstatic 38, 3) := by decide +kernel
theorem d1_3 : decode jdk_42_method_139_code 3 = .ok (.ifCond .eq 23, 3) := by decide +kernel
theorem d1_6 : decode jdk_42_method_139_code 6 = .ok (.iload_n 0, 1) := by decide +kernel
theorem d1_7 : decode jdk_42_method_139_code 7 = .ok (.invokestatic 1015, 3) := by decide +kernel
theorem d1_10 : decode jdk_42_method_139_code 10 = .ok (.ifCond .eq 16, 3) := by decide +kernel
theorem d1_13 : decode jdk_42_method_139_code 13 = .ok (.new 10, 3) := by decide +kernel
theorem d1_16 : decode jdk_42_method_139_code 16 = .ok (.dup, 1) := by decide +kernel
theorem d1_17 : decode jdk_42_method_139_code 17 = .ok (.iload_n 0, 1) := by decide +kernel
theorem d1_18 : decode jdk_42_method_139_code 18 = .ok (.invokestatic 1018, 3) := by decide +kernel
theorem d1_21 : decode jdk_42_method_139_code 21 = .ok (.iconst 0, 1) := by decide +kernel
theorem d1_22 : decode jdk_42_method_139_code 22 = .ok (.invokespecial 209, 3) := by decide +kernel
theorem d1_25 : decode jdk_42_method_139_code 25 = .ok (.areturn, 1) := by decide +kernel
theorem ef_1l (m : MethodId) (x0 : Int32) : entryFrame m #[(.int x0)] 1 = mkF m 0 #[.val (.int x0)] [] := by first | (simp [entryFrame, mkF, argsToLocals, Value.category]; done) | rfl
def Q1l (Z : State) (p0 : Int32) (cs : Int32) (h0 : Heap) (n0 : Nat) (v : Option Value) (h : Heap) (L : List Loc) : Prop := ∃ (r : Addr) (b : Addr) (k : ClassId), v = some (.ref r) ∧ Fr n0 L ∧ Keep h0 h [] ∧ Exa Z h r "java/lang/String" ∧ Fld Z h r "java/lang/String" "value" "[B" (.ref b) ∧ Fld Z h r "java/lang/String" "coder" "B" (.int (0 : Int32)) ∧ Arv Z h b k .byte (1 : Int32) [.int ((p0.toInt8.toInt32).toInt8.toInt32)] (.int (0 : Int32)) ∧ n0 ≤ r ∧ h0.size ≤ r ∧ n0 ≤ b ∧ h0.size ≤ b ∧ r ≠ b
set_option maxRecDepth 65536 in
set_option maxHeartbeats 40000000 in
theorem rm1l (l : Launch) (Z : State) (a0 : Array Value) (hw : ∀ d ∈ tables_1, d.before a0 Z = true) (ws : List Jvm.Cond) (p0 : Int32) (cs : Int32) (h0 : Heap) (n0 : Nat) (Z0 : n0 ≤ h0.size) (S_cs : Sta Z h0 "java/lang/String" "COMPACT_STRINGS" "Z" (.int cs)) (hcs : ¬ (cs = (0 : Int32))) (hp : ¬ ((255 : Int32) < p0)) :
    MetFree l (⟨"java/lang/String", "valueOf", "(C)Ljava/lang/String;"⟩ : MethodName) (head1 (Jvm.Cond.code (⟨"java/lang/String", "valueOf", "(C)Ljava/lang/String;"⟩ : MethodName) jdk_42_method_139_code 1 (some (.object "java/lang/String")) :: ws) ({ frames := 2, cells := 2, slots := 5, locals := 27 } : Room)) (fun a U => a = #[(.int p0)] ∧ Z.Warmed39 U.vm ∧ U.heap = h0) (fun _ _ _ _ _ => True) (fun _ U o U' => ∃ v L, o = .returned v ∧ Q1l Z p0 cs h0 n0 v U'.heap L ∧ FrameEnd U o U' L ({ frames := 2, cells := 2, slots := 5, locals := 27 } : Room).cells ({ frames := 2, cells := 2, slots := 5, locals := 27 } : Room).slots) := by
  refine MetFree.of_bodySF (plainFor_of_name pn_1) hisR ?_
  intro p e s m args below meth c s₁ Bd hml0 hP hK
  obtain ⟨rfl, hZ, hh⟩ := hP
  have hx := Bd.exec
  have hby := Bd.bytes
  have hml : c.maxLocals = 1 := hml0
  have hown : s.vm.findClass "java/lang/String" = some m.cls := findClass_of_methodNamed Bd.named
  have hnm := (name_of_methodNamed Bd.named Bd.method).1
  have X0 : Stand p l e ({ frames := 2, cells := 2, slots := 5, locals := 27 } : Room) s m #[(.int p0)] below meth c s₁ [] 0 0 := Stand.of_body Bd
  have e0 : s₁.heap = h0 := by rw [← hh, Bd.state]; rfl
  have N0 := Fr.nil n0
  have hret := Bd.returns
  have hlk := BodyLoose.notSynchronized Bd
  show own_Out p e below (fun o U' => ∃ v L, o = .returned v ∧ Q1l Z p0 cs h0 n0 v U'.heap L ∧ FrameEnd s o U' L ({ frames := 2, cells := 2, slots := 5, locals := 27 } : Room).cells ({ frames := 2, cells := 2, slots := 5, locals := 27 } : Room).slots) (s₁.setTop (entryFrame m #[(.int p0)] 1))
  refine own_of (fun t k => castTop (ef_1l m p0) k) ?_
  show own_Out p e below _ (s₁.setTop (mkF m 0 #[iv p0] []))
  obtain ⟨T1, X1, e1, st1⟩ := getS2 X0 hx hZ hown (host := "") (Or.inl (w_ hw 7 rfl)) Via.refl e0 S_cs (g := (mkF m 0 #[iv p0] [])) rfl (hb hby d1_0)
  refine own_of st1 ?_
  show own_Out p e below _ (T1.setTop (mkF m 3 #[iv p0] [.int cs]))
  refine o_ifN X1 hx hby d1_3 ((if0 _ _).trans (feq hcs).1) (q := 6) rfl ?_
  refine o_iloadN X1 hx hby d1_6 rfl (q := 7) rfl ?_
  obtain ⟨_, _, ⟨T2, L2, k2, n2⟩, -, X2, ⟨Lc2, hQ2, l2, y2, z2⟩, st2⟩ := Jvm.LawKit.callS X1 hx (y := (⟨"java/lang/StringLatin1", "canEncode", "(C)Z"⟩ : MethodName)) hown (mvT hZ (w_ hw 8 rfl)) (mvT hZ (w_ hw 9 rfl)) (mvT hZ (w_ hw 10 rfl)) (mvT hZ (w_ hw 11 rfl)) (by decide) (backOf (W := 0) (rm2l l Z a0 hw [] p0 h0 n0 Z0 hp) hZ (w_ hw 11 rfl) (w_ hw 10 rfl) (by decide) (by decide)) (g := (mkF m 7 #[iv p0] [.int p0])) rfl (by rw [hml]; rfl) (argsL := [(.int p0)]) (rest := []) (lenOf pd_0 rfl) rfl (by show 2 * 0 + _ ≤ _; exact Nat.le_of_eq rfl) (hb hby d1_7) (fun _ _ => ⟨rfl, e1, (by decide : 0 + 0 ≤ _), (by decide : 0 + 0 ≤ _)⟩)
  dsimp only [Pt.U, Pt.locs, Pt.cells, Pt.slots] at X2 l2 y2 z2 st2 hQ2
  subst l2 y2 z2
  obtain ⟨rfl, N2q, hh2⟩ := hQ2
  have N2 := Fr.app N0 N2q
  refine own_of st2 ?_
  show own_Out p e below _ (T2.setTop (mkF m 10 #[iv p0] [.int 1]))
  refine o_ifN X2 hx hby d1_10 ((if0 _ _).trans (feq (by decide : ¬ ((1 : Int32) = (0 : Int32)))).1) (q := 13) rfl ?_
  obtain ⟨T3, h3, X3, e3, E3, A3, D3, -, st3⟩ := newO X2 hx hZ hown (w_ hw 12 rfl) (w_ hw 13 rfl) (w_ hw 5 rfl) hh2 (g := (mkF m 13 #[iv p0] [])) rfl (hb hby d1_13) (by decide) (by decide)
  obtain ⟨b3, g3⟩ : ∃ z, z = h0.size := ⟨_, rfl⟩
  rw [← g3] at A3 D3 st3
  have g_b3 : n0 ≤ b3 := Nat.le_trans Z0 (Nat.le_of_eq g3.symm)
  have sz_b3 : h0.size ≤ b3 := Nat.le_trans (Nat.le_refl h0.size) (Nat.le_of_eq g3.symm)
  have F_b3_value : Fld Z h3 b3 "java/lang/String" "value" "[B" .null := D3 (Or.inr (w_ hw 26 rfl)) (ty := (.array .byte)) (by decide)
  have F_b3_coder : Fld Z h3 b3 "java/lang/String" "coder" "B" (.int (0 : Int32)) := D3 (Or.inr (w_ hw 28 rfl)) (ty := .byte) (by decide)
  refine own_of st3 ?_
  show own_Out p e below _ (T3.setTop (mkF m 16 #[iv p0] [.ref b3]))
  refine o_dup X3 hx hby d1_16 rfl (q := 17) rfl ?_
  refine o_iloadN X3 hx hby d1_17 rfl (q := 18) rfl ?_
  have q5 := (Nat.le_trans Z0 E3.1)
  obtain ⟨_, _, ⟨T4, L4, k4, n4⟩, -, X4, ⟨Lc4, hQ4, l4, y4, z4⟩, st4⟩ := Jvm.LawKit.callS X3 hx (y := (⟨"java/lang/StringLatin1", "toBytes", "(C)[B"⟩ : MethodName)) hown (mvT hZ (w_ hw 14 rfl)) (mvT hZ (w_ hw 15 rfl)) (mvT hZ (w_ hw 10 rfl)) (mvT hZ (w_ hw 16 rfl)) (by decide) (backOf (W := 2) (rm3 l Z a0 hw [] p0 h3 n0 q5 ) hZ (w_ hw 16 rfl) (w_ hw 10 rfl) (by decide) (by decide)) (g := (mkF m 18 #[iv p0] [.int p0, .ref b3, .ref b3])) rfl (by rw [hml]; rfl) (argsL := [(.int p0)]) (rest := [(.ref b3), (.ref b3)]) (lenOf pd_1 rfl) rfl (by show 2 * 0 + _ ≤ _; exact Nat.le_of_eq rfl) (hb hby d1_18) (fun _ _ => ⟨rfl, e3, (by decide : 1 + 1 ≤ _), (by decide : 4 + 1 ≤ _)⟩)
  dsimp only [Pt.U, Pt.locs, Pt.cells, Pt.slots] at X4 l4 y4 z4 st4 hQ4
  subst l4 y4 z4
  obtain ⟨b4, k4, rfl, N4q, K4, V4, hgb_4, hsb_4⟩ := hQ4
  have N4 := Fr.app N2 N4q
  have q6 := (Nat.le_trans (Nat.le_refl h0.size) E3.1)
  have sz_b4 : h0.size ≤ b4 := Nat.le_trans q6 hsb_4
  refine own_of st4 ?_
  show own_Out p e below _ (T4.setTop (mkF m 21 #[iv p0] [.ref b4, .ref b3, .ref b3]))
  refine o_iconst X4 hx hby d1_21 (z := 0) rfl (q := 22) rfl ?_
  have q8 := (A3.keep K4)
  have q9 := (F_b3_value.keep K4 nin0)
  have q10 := (F_b3_coder.keep K4 nin0)
  have q11 := (Nat.le_trans q5 K4.1)
  obtain ⟨_, _, ⟨T7, L7, k7, n7⟩, -, X7, ⟨Lc7, hQ7, l7, y7, z7⟩, st7⟩ := X4.specialBack hx (y := (⟨"java/lang/String", "<init>", "([BB)V"⟩ : MethodName)) rfl hown (mvT hZ (w_ hw 18 rfl)) (mvT hZ (w_ hw 19 rfl)) (mvT hZ (w_ hw 21 rfl)) (by decide) (backOf (W := 1) (rm4c0 l Z a0 hw [] b3 b4 T4.heap n0 q11 q8 q9 q10 g_b3) hZ (w_ hw 21 rfl) (w_ hw 5 rfl) (by decide) (by decide)) (g := (mkF m 22 #[iv p0] [.int 0, .ref b4, .ref b3, .ref b3])) rfl (by rw [hml]; rfl) (Steps.refl _) (a := b3) (argsL := [(.ref b4), (.int (0 : Int32))]) (rest := [(.ref b3)]) (lenOf pd_2 rfl) rfl (by show 2 * 0 + _ ≤ _; exact Nat.le_of_eq rfl) (hb hby d1_22) (fun _ _ => ⟨rfl, rfl, (by decide : 2 + 0 ≤ _), (by decide : 5 + 0 ≤ _)⟩)
  dsimp only [Pt.U, Pt.locs, Pt.cells, Pt.slots] at X7 l7 y7 z7 st7 hQ7
  subst l7 y7 z7
  obtain ⟨rfl, N7q, K7, E7, F7_value, F7_coder⟩ := hQ7
  have N7 := Fr.app N4 N7q
  refine own_of (fun _ k => st7.trans k) ?_
  show own_Out p e below _ (T7.setTop (mkF m 25 #[iv p0] [.ref b3]))
  have ne_b3_b4 : b3 ≠ b4 := Nat.ne_of_lt (Nat.lt_of_lt_of_le A3.lt hsb_4)
  have q12 := ((((Keep.refl h0 []).ext E3).trans K4 all0).trans K7 (allS (Or.inr sz_b3) all0))
  have q13 := (V4.keep K7 (ninS (Ne.symm ne_b3_b4) nin0))
  exact own_outR X7 hx hlk hret rfl rfl rfl (hb hby d1_25) (Q := Q1l Z p0 cs h0 n0) ⟨b3, b4, k4, rfl, N7, q12, E7, F7_value, F7_coder, q13, g_b3, sz_b3, hgb_4, sz_b4, ne_b3_b4⟩ (by decide) (by decide)
theorem d7_0 : decode jdk_31_method_11_code 0 = .ok (.aload_n 0, 1) := by decide +kernel
theorem d7_1 : decode jdk_31_method_11_code 1 = .ok (.ifnonnull 12, 3) := by decide +kernel
theorem d7_13 : decode jdk_31_method_11_code 13 = .ok (.aload_n 0, 1) := by decide +kernel
theorem d7_14 : decode jdk_31_method_11_code 14 = .ok (.areturn, 1) := by decide +kernel
theorem pn_2 : plainName "java/util/Objects" = true := by first | (simp [plainName, overriddenIn]; done) | decide +kernel
theorem ef_7 (m : MethodId) (x0 : Addr) (x1 : Addr) : entryFrame m #[(.ref x0), (.ref x1)] 2 = mkF m 0 #[.val (.ref x0), .val (.ref x1)] [] := by first | (simp [entryFrame, mkF, argsToLocals, Value.category]; done) | rfl
def Q7 (Z : State) (o0 : Addr) (o1 : Addr) (h0 : Heap) (n0 : Nat) (v : Option Value) (h : Heap) (L : List Loc) : Prop := v = some (.ref o0) ∧ Fr n0 L ∧ h = h0
set_option maxRecDepth 65536 in
set_option maxHeartbeats 40000000 in
theorem rm7 (l : Launch) (Z : State) (a0 : Array Value) (hw : ∀ d ∈ tables_1, d.before a0 Z = true) (ws : List Jvm.Cond) (o0 : Addr) (o1 : Addr) (h0 : Heap) (n0 : Nat) (Z0 : n0 ≤ h0.size) :
    MetFree l (⟨"java/util/Objects", "requireNonNull", "(Ljava/lang/Object;Ljava/lang/String;)Ljava/lang/Object;"⟩ : MethodName) (head1 (Jvm.Cond.code (⟨"java/util/Objects", "requireNonNull", "(Ljava/lang/Object;Ljava/lang/String;)Ljava/lang/Object;"⟩ : MethodName) jdk_31_method_11_code 2 (some (.object "java/lang/Object")) :: ws) ({ frames := 0, cells := 0, slots := 0, locals := 0 } : Room)) (fun a U => a = #[(.ref o0), (.ref o1)] ∧ Z.Warmed39 U.vm ∧ U.heap = h0) (fun _ _ _ _ _ => True) (fun _ U o U' => ∃ v L, o = .returned v ∧ Q7 Z o0 o1 h0 n0 v U'.heap L ∧ FrameEnd U o U' L ({ frames := 0, cells := 0, slots := 0, locals := 0 } : Room).cells ({ frames := 0, cells := 0, slots := 0, locals := 0 } : Room).slots) := by
  refine MetFree.of_bodySF (plainFor_of_name pn_2) hisR ?_
  intro p e s m args below meth c s₁ Bd hml0 hP hK
  obtain ⟨rfl, hZ, hh⟩ := hP
  have hx := Bd.exec
  have hby := Bd.bytes
  have hml : c.maxLocals = 2 := hml0
  have hown : s.vm.findClass "java/util/Objects" = some m.cls := findClass_of_methodNamed Bd.named
  have hnm := (name_of_methodNamed Bd.named Bd.method).1
  have X0 : Stand p l e ({ frames := 0, cells := 0, slots := 0, locals := 0 } : Room) s m #[(.ref o0), (.ref o1)] below meth c s₁ [] 0 0 := Stand.of_body Bd
  have e0 : s₁.heap = h0 := by rw [← hh, Bd.state]; rfl
  have N0 := Fr.nil n0
  have hret := Bd.returns
  have hlk := BodyLoose.notSynchronized Bd
  show own_Out p e below (fun o U' => ∃ v L, o = .returned v ∧ Q7 Z o0 o1 h0 n0 v U'.heap L ∧ FrameEnd s o U' L ({ frames := 0, cells := 0, slots := 0, locals := 0 } : Room).cells ({ frames := 0, cells := 0, slots := 0, locals := 0 } : Room).slots) (s₁.setTop (entryFrame m #[(.ref o0), (.ref o1)] 2))
  refine own_of (fun t k => castTop (ef_7 m o0 o1) k) ?_
  show own_Out p e below _ (s₁.setTop (mkF m 0 #[rv o0, rv o1] []))
  refine o_aloadN X0 hx hby d7_0 rfl rfl (q := 1) rfl ?_
  refine own_of (fun _ k => XS.ifnonnullYes X0.here hx rfl (pc0 := 1) (pc' := 13) rfl (hb hby d7_1) rfl (by decide) (by decide) k) ?_
  show own_Out p e below _ (s₁.setTop (mkF m 13 #[rv o0, rv o1] []))
  refine o_aloadN X0 hx hby d7_13 rfl rfl (q := 14) rfl ?_
  exact own_outR X0 hx hlk hret rfl rfl rfl (hb hby d7_14) (Q := Q7 Z o0 o1 h0 n0) ⟨rfl, N0, e0⟩ (by decide) (by decide)
theorem own_wS {a0 : Array Value} {Z : State} (hw : ∀ d ∈ tables_1, d.before a0 Z = true) : ∀ d ∈ Bundle.stringAtoms, d.before a0 Z = true := by
  intro d hd
  simp only [Bundle.stringAtoms, List.mem_cons, List.not_mem_nil, or_false] at hd
  rcases hd with rfl | rfl | rfl | rfl | rfl | rfl | rfl
  · exact (hw _ (List.mem_of_getElem? (i := 5) rfl))
  · exact (hw _ (List.mem_of_getElem? (i := 13) rfl))
  · exact (hw _ (List.mem_of_getElem? (i := 17) rfl))
  · exact (hw _ (List.mem_of_getElem? (i := 26) rfl))
  · exact (hw _ (List.mem_of_getElem? (i := 28) rfl))
  · exact (hw _ (List.mem_of_getElem? (i := 34) rfl))
  · exact (hw _ (List.mem_of_getElem? (i := 35) rfl))
theorem pd_3 : parseMethodDescriptor "(Ljava/lang/Object;Ljava/lang/String;)Ljava/lang/Object;" = some ⟨[(.object "java/lang/Object"), (.object "java/lang/String")], some (.object "java/lang/Object")⟩ := by decide +kernel
theorem d6_0 : decode prog_7_method_1_code 0 = .ok (.aload_n 0, 1) := by decide +kernel
theorem d6_1 : decode prog_7_method_1_code 1 = .ok (.invokespecial 1, 3) := by decide +kernel
theorem d6_4 : decode prog_7_method_1_code 4 = .ok (.aload_n 0, 1) := by decide +kernel
theorem d6_5 : decode prog_7_method_1_code 5 = .ok (.aload_n 1, 1) := by decide +kernel
theorem d6_6 : decode prog_7_method_1_code 6 = .ok (.ldc 7, 2) := by decide +kernel
theorem d6_8 : decode prog_7_method_1_code 8 = .ok (.invokestatic 9, 3) := by decide +kernel
theorem d6_11 : decode prog_7_method_1_code 11 = .ok (.checkcast 15, 3) := by decide +kernel
theorem d6_14 : decode prog_7_method_1_code 14 = .ok (.putfield 17, 3) := by decide +kernel
theorem d6_17 : decode prog_7_method_1_code 17 = .ok (.aload_n 0, 1) := by decide +kernel
theorem d6_18 : decode prog_7_method_1_code 18 = .ok (.aload_n 2, 1) := by decide +kernel
theorem d6_19 : decode prog_7_method_1_code 19 = .ok (.ldc 22, 2) := by decide +kernel
theorem d6_21 : decode prog_7_method_1_code 21 = .ok (.invokestatic 9, 3) := by decide +kernel
theorem d6_24 : decode prog_7_method_1_code 24 = .ok (.checkcast 15, 3) := by decide +kernel
theorem d6_27 : decode prog_7_method_1_code 27 = .ok (.putfield 24, 3) := by decide +kernel
theorem d6_30 : decode prog_7_method_1_code 30 = .ok (.aload_n 0, 1) := by decide +kernel
theorem d6_31 : decode prog_7_method_1_code 31 = .ok (.aload_n 3, 1) := by decide +kernel
theorem d6_32 : decode prog_7_method_1_code 32 = .ok (.ldc 26, 2) := by decide +kernel
theorem d6_34 : decode prog_7_method_1_code 34 = .ok (.invokestatic 9, 3) := by decide +kernel
theorem d6_37 : decode prog_7_method_1_code 37 = .ok (.checkcast 15, 3) := by decide +kernel
theorem d6_40 : decode prog_7_method_1_code 40 = .ok (.putfield 28, 3) := by decide +kernel
theorem d6_43 : decode prog_7_method_1_code 43 = .ok (.return_, 1) := by decide +kernel
theorem pn_3 : plainName "com/example/collector_urchin/collectorurchin/store/Credential" = true := by first | (simp [plainName, overriddenIn]; done) | decide +kernel
theorem ef_6 (m : MethodId) (x0 : Addr) (x1 : Addr) (x2 : Addr) (x3 : Addr) : entryFrame m #[(.ref x0), (.ref x1), (.ref x2), (.ref x3)] 4 = mkF m 0 #[.val (.ref x0), .val (.ref x1), .val (.ref x2), .val (.ref x3)] [] := by first | (simp [entryFrame, mkF, argsToLocals, Value.category]; done) | rfl
def Q6 (Z : State) (o0 : Addr) (o1 : Addr) (o2 : Addr) (o3 : Addr) (h0 : Heap) (n0 : Nat) (v : Option Value) (h : Heap) (L : List Loc) : Prop := v = none ∧ Fr n0 L ∧ Keep h0 h [o0] ∧ Exa Z h o0 "com/example/collector_urchin/collectorurchin/store/Credential" ∧ Fld Z h o0 "com/example/collector_urchin/collectorurchin/store/Credential" "id" "Ljava/lang/String;" (.ref o1) ∧ Fld Z h o0 "com/example/collector_urchin/collectorurchin/store/Credential" "user" "Ljava/lang/String;" (.ref o2) ∧ Fld Z h o0 "com/example/collector_urchin/collectorurchin/store/Credential" "key" "Ljava/lang/String;" (.ref o3)
set_option maxRecDepth 65536 in
set_option maxHeartbeats 40000000 in
theorem rm6 (l : Launch) (Z : State) (a0 : Array Value) (hw : ∀ d ∈ tables_1, d.before a0 Z = true) (ws : List Jvm.Cond) (o0 : Addr) (o1 : Addr) (o2 : Addr) (o3 : Addr) (h0 : Heap) (n0 : Nat) (Z0 : n0 ≤ h0.size) (E : Exa Z h0 o0 "com/example/collector_urchin/collectorurchin/store/Credential") (F_id : Fld Z h0 o0 "com/example/collector_urchin/collectorurchin/store/Credential" "id" "Ljava/lang/String;" .null) (F_user : Fld Z h0 o0 "com/example/collector_urchin/collectorurchin/store/Credential" "user" "Ljava/lang/String;" .null) (F_key : Fld Z h0 o0 "com/example/collector_urchin/collectorurchin/store/Credential" "key" "Ljava/lang/String;" .null) (g_o0 : n0 ≤ o0) (Eo1 : Exa Z h0 o1 "java/lang/String") (Eo2 : Exa Z h0 o2 "java/lang/String") (Eo3 : Exa Z h0 o3 "java/lang/String") :
    MetFree l (⟨"com/example/collector_urchin/collectorurchin/store/Credential", "<init>", "(Ljava/lang/String;Ljava/lang/String;Ljava/lang/String;)V"⟩ : MethodName) (head1 (Jvm.Cond.code (⟨"com/example/collector_urchin/collectorurchin/store/Credential", "<init>", "(Ljava/lang/String;Ljava/lang/String;Ljava/lang/String;)V"⟩ : MethodName) prog_7_method_1_code 4 none :: ws) ({ frames := 1, cells := 6, slots := 48, locals := 14 } : Room)) (fun a U => a = #[(.ref o0), (.ref o1), (.ref o2), (.ref o3)] ∧ Z.Warmed39 U.vm ∧ U.heap = h0) (fun _ _ _ _ _ => True) (fun _ U o U' => ∃ v L, o = .returned v ∧ Q6 Z o0 o1 o2 o3 h0 n0 v U'.heap L ∧ ReturnedEndW U o U' L ({ frames := 1, cells := 6, slots := 48, locals := 14 } : Room).cells ({ frames := 1, cells := 6, slots := 48, locals := 14 } : Room).slots) := by
  refine MetFree.of_bodySF (plainFor_of_name pn_3) hisR ?_
  intro p e s m args below meth c s₁ Bd hml0 hP hK
  obtain ⟨rfl, hZ, hh⟩ := hP
  have hx := Bd.exec
  have hby := Bd.bytes
  have hml : c.maxLocals = 4 := hml0
  have hown : s.vm.findClass "com/example/collector_urchin/collectorurchin/store/Credential" = some m.cls := findClass_of_methodNamed Bd.named
  have hnm := (name_of_methodNamed Bd.named Bd.method).1
  have X0 : Stand p l e ({ frames := 1, cells := 6, slots := 48, locals := 14 } : Room) s m #[(.ref o0), (.ref o1), (.ref o2), (.ref o3)] below meth c s₁ [] 0 0 := Stand.of_body Bd
  have e0 : s₁.heap = h0 := by rw [← hh, Bd.state]; rfl
  have N0 := Fr.nil n0
  have hret := Bd.returns
  have hlk := BodyLoose.notSynchronized Bd
  show own_Out p e below (fun o U' => ∃ v L, o = .returned v ∧ Q6 Z o0 o1 o2 o3 h0 n0 v U'.heap L ∧ ReturnedEndW s o U' L ({ frames := 1, cells := 6, slots := 48, locals := 14 } : Room).cells ({ frames := 1, cells := 6, slots := 48, locals := 14 } : Room).slots) (s₁.setTop (entryFrame m #[(.ref o0), (.ref o1), (.ref o2), (.ref o3)] 4))
  refine own_of (fun t k => castTop (ef_6 m o0 o1 o2 o3) k) ?_
  show own_Out p e below _ (s₁.setTop (mkF m 0 #[rv o0, rv o1, rv o2, rv o3] []))
  refine o_aloadN X0 hx hby d6_0 rfl rfl (q := 1) rfl ?_
  obtain ⟨T1, X1, e1, st1⟩ := initO X0 hx hZ hown (w_ hw 32 rfl) (w_ hw 23 rfl) (w_ hw 24 rfl) e0 (g := (mkF m 1 #[rv o0, rv o1, rv o2, rv o3] [.ref o0])) rfl (by rw [hml]; rfl) rfl (hb hby d6_1) (by decide) (W := 0) (by show 2 * 0 + _ ≤ _; exact Nat.le_of_eq rfl) (by decide)
  refine own_of st1 ?_
  show own_Out p e below _ (T1.setTop (mkF m 4 #[rv o0, rv o1, rv o2, rv o3] []))
  refine o_aloadN X1 hx hby d6_4 rfl rfl (q := 5) rfl ?_
  refine o_aloadN X1 hx hby d6_5 rfl rfl (q := 6) rfl ?_
  obtain ⟨a2, T2, h2, k2, X2, e2, E2, S2, ks2, hZ2, hown2, st2⟩ := ldcS (s := s) (vm0 := s.vm) X1 hx hZ hown (w_ hw 33 rfl) (own_wS hw) e1 ((State.WarmedH.refl s).since 0) (Nat.zero_le _) (g := (mkF m 6 #[rv o0, rv o1, rv o2, rv o3] [.ref o1, .ref o0])) rfl (hb hby d6_6) (n := 8) (by decide +kernel) (by decide) (by decide) (by decide)
  refine own_of st2 ?_
  show own_Out p e below _ (T2.setTop (mkF m 8 #[rv o0, rv o1, rv o2, rv o3] [.ref a2, .ref o1, .ref o0]))
  have q4 := (Nat.le_trans Z0 E2.1)
  obtain ⟨_, _, ⟨T3, L3, k3, n3⟩, -, X3, ⟨Lc3, hQ3, l3, y3, z3⟩, st3⟩ := Jvm.LawKit.callS X2 hx (y := (⟨"java/util/Objects", "requireNonNull", "(Ljava/lang/Object;Ljava/lang/String;)Ljava/lang/Object;"⟩ : MethodName)) hown2 (mvT hZ2 (w_ hw 36 rfl)) (mvT hZ2 (w_ hw 37 rfl)) (mvT hZ2 (w_ hw 38 rfl)) (mvT hZ2 (w_ hw 39 rfl)) (by decide) (backOf (W := 1) (rm7 l Z a0 hw [] o1 a2 h2 n0 q4 ) hZ2 (w_ hw 39 rfl) (w_ hw 38 rfl) (by decide) (by decide)) (g := (mkF m 8 #[rv o0, rv o1, rv o2, rv o3] [.ref a2, .ref o1, .ref o0])) rfl (by rw [hml]; rfl) (argsL := [(.ref o1), (.ref a2)]) (rest := [(.ref o0)]) (lenOf pd_3 rfl) rfl (by show 2 * 0 + _ ≤ _; exact Nat.le_of_eq rfl) (hb hby d6_8) (fun _ _ => ⟨rfl, e2, (by decide : 2 + 0 ≤ _), (by decide : 12 + 0 ≤ _)⟩)
  dsimp only [Pt.U, Pt.locs, Pt.cells, Pt.slots] at X3 l3 y3 z3 st3 hQ3
  subst l3 y3 z3
  obtain ⟨rfl, N3q, hh3⟩ := hQ3
  have N3 := Fr.app N0 N3q
  refine own_of st3 ?_
  show own_Out p e below _ (T3.setTop (mkF m 11 #[rv o0, rv o1, rv o2, rv o3] [.ref o1, .ref o0]))
  have q6 := (Eo1.ext E2)
  obtain ⟨T5, X5, e5, st5⟩ := castY X3 hx hZ2 hown2 (w_ hw 40 rfl) hh3 (Ins.self q6) (g := (mkF m 11 #[rv o0, rv o1, rv o2, rv o3] [.ref o1, .ref o0])) rfl rfl (hb hby d6_11)
  refine own_of st5 ?_
  show own_Out p e below _ (T5.setTop (mkF m 14 #[rv o0, rv o1, rv o2, rv o3] [.ref o1, .ref o0]))
  have q8 := (F_id.ext E2)
  have q9 := (E.ext E2)
  obtain ⟨T7, h7, X7, e7, W7, st7⟩ := putF X5 hx hZ2 hown2 (host := "") (Or.inl (w_ hw 41 rfl)) Via.refl e5 q8 q9 (Or.inr ⟨(w_ hw 42 rfl), rfl, hnm⟩) (w_ hw 1 rfl) (ty := (.object "java/lang/String")) (by decide) rfl rfl (g := (mkF m 14 #[rv o0, rv o1, rv o2, rv o3] [.ref o1, .ref o0])) rfl rfl (hb hby d6_14)
  have q10 := (F_id.ext E2)
  have Fw7 := q10.same W7
  refine own_of st7 ?_
  show own_Out p e below _ (T7.setTop (mkF m 17 #[rv o0, rv o1, rv o2, rv o3] []))
  refine o_aloadN X7 hx hby d6_17 rfl rfl (q := 18) rfl ?_
  refine o_aloadN X7 hx hby d6_18 rfl rfl (q := 19) rfl ?_
  have q12 := (Nat.le_trans ks2 (Keep.of_wr W7).1)
  obtain ⟨a11, T11, h11, k11, X11, e11, E11, S11, ks11, hZ11, hown11, st11⟩ := ldcS (s := s) (vm0 := T2.vm) X7 hx hZ2 hown2 (w_ hw 43 rfl) (own_wS hw) e7 S2 q12 (g := (mkF m 19 #[rv o0, rv o1, rv o2, rv o3] [.ref o2, .ref o0])) rfl (hb hby d6_19) (n := 16) (by decide +kernel) (by decide) (by decide) (by decide)
  refine own_of st11 ?_
  show own_Out p e below _ (T11.setTop (mkF m 21 #[rv o0, rv o1, rv o2, rv o3] [.ref a11, .ref o2, .ref o0]))
  have q14 := (Nat.le_trans (Nat.le_trans q4 (Keep.of_wr W7).1) E11.1)
  obtain ⟨_, _, ⟨T13, L13, k13, n13⟩, -, X13, ⟨Lc13, hQ13, l13, y13, z13⟩, st13⟩ := Jvm.LawKit.callS X11 hx (y := (⟨"java/util/Objects", "requireNonNull", "(Ljava/lang/Object;Ljava/lang/String;)Ljava/lang/Object;"⟩ : MethodName)) hown11 (mvT hZ11 (w_ hw 36 rfl)) (mvT hZ11 (w_ hw 37 rfl)) (mvT hZ11 (w_ hw 38 rfl)) (mvT hZ11 (w_ hw 39 rfl)) (by decide) (backOf (W := 1) (rm7 l Z a0 hw [] o2 a11 h11 n0 q14 ) hZ11 (w_ hw 39 rfl) (w_ hw 38 rfl) (by decide) (by decide)) (g := (mkF m 21 #[rv o0, rv o1, rv o2, rv o3] [.ref a11, .ref o2, .ref o0])) rfl (by rw [hml]; rfl) (argsL := [(.ref o2), (.ref a11)]) (rest := [(.ref o0)]) (lenOf pd_3 rfl) rfl (by show 2 * 0 + _ ≤ _; exact Nat.le_of_eq rfl) (hb hby d6_21) (fun _ _ => ⟨rfl, e11, (by decide : 4 + 0 ≤ _), (by decide : 32 + 0 ≤ _)⟩)
  dsimp only [Pt.U, Pt.locs, Pt.cells, Pt.slots] at X13 l13 y13 z13 st13 hQ13
  subst l13 y13 z13
  obtain ⟨rfl, N13q, hh13⟩ := hQ13
  have N13 := Fr.app (Fr.snoc X7 N3 g_o0) N13q
  refine own_of st13 ?_
  show own_Out p e below _ (T13.setTop (mkF m 24 #[rv o0, rv o1, rv o2, rv o3] [.ref o2, .ref o0]))
  have q16 := (((Eo2.ext E2).wr W7).ext E11)
  obtain ⟨T15, X15, e15, st15⟩ := castY X13 hx hZ11 hown11 (w_ hw 40 rfl) hh13 (Ins.self q16) (g := (mkF m 24 #[rv o0, rv o1, rv o2, rv o3] [.ref o2, .ref o0])) rfl rfl (hb hby d6_24)
  refine own_of st15 ?_
  show own_Out p e below _ (T15.setTop (mkF m 27 #[rv o0, rv o1, rv o2, rv o3] [.ref o2, .ref o0]))
  have q18 := (((F_user.ext E2).other W7 (Or.inr (slot_ne (Or.inr (w_ hw 45 rfl)) (Or.inr (w_ hw 42 rfl)) (by decide) (t := (.object "java/lang/String")) (t' := (.object "java/lang/String")) (by decide) (by decide)))).ext E11)
  have q19 := ((q9.wr W7).ext E11)
  obtain ⟨T17, h17, X17, e17, W17, st17⟩ := putF X15 hx hZ11 hown11 (host := "") (Or.inl (w_ hw 44 rfl)) Via.refl e15 q18 q19 (Or.inr ⟨(w_ hw 45 rfl), rfl, hnm⟩) (w_ hw 1 rfl) (ty := (.object "java/lang/String")) (by decide) rfl rfl (g := (mkF m 27 #[rv o0, rv o1, rv o2, rv o3] [.ref o2, .ref o0])) rfl rfl (hb hby d6_27)
  have q20 := (((F_user.ext E2).other W7 (Or.inr (slot_ne (Or.inr (w_ hw 45 rfl)) (Or.inr (w_ hw 42 rfl)) (by decide) (t := (.object "java/lang/String")) (t' := (.object "java/lang/String")) (by decide) (by decide)))).ext E11)
  have Fw17 := q20.same W17
  refine own_of st17 ?_
  show own_Out p e below _ (T17.setTop (mkF m 30 #[rv o0, rv o1, rv o2, rv o3] []))
  refine o_aloadN X17 hx hby d6_30 rfl rfl (q := 31) rfl ?_
  refine o_aloadN X17 hx hby d6_31 rfl rfl (q := 32) rfl ?_
  have q22 := (Nat.le_trans ks11 (Keep.of_wr W17).1)
  obtain ⟨a21, T21, h21, k21, X21, e21, E21, S21, ks21, hZ21, hown21, st21⟩ := ldcS (s := s) (vm0 := T11.vm) X17 hx hZ11 hown11 (w_ hw 46 rfl) (own_wS hw) e17 S11 q22 (g := (mkF m 32 #[rv o0, rv o1, rv o2, rv o3] [.ref o3, .ref o0])) rfl (hb hby d6_32) (n := 12) (by decide +kernel) (by decide) (by decide) (by decide)
  refine own_of st21 ?_
  show own_Out p e below _ (T21.setTop (mkF m 34 #[rv o0, rv o1, rv o2, rv o3] [.ref a21, .ref o3, .ref o0]))
  have q24 := (Nat.le_trans (Nat.le_trans q14 (Keep.of_wr W17).1) E21.1)
  obtain ⟨_, _, ⟨T23, L23, k23, n23⟩, -, X23, ⟨Lc23, hQ23, l23, y23, z23⟩, st23⟩ := Jvm.LawKit.callS X21 hx (y := (⟨"java/util/Objects", "requireNonNull", "(Ljava/lang/Object;Ljava/lang/String;)Ljava/lang/Object;"⟩ : MethodName)) hown21 (mvT hZ21 (w_ hw 36 rfl)) (mvT hZ21 (w_ hw 37 rfl)) (mvT hZ21 (w_ hw 38 rfl)) (mvT hZ21 (w_ hw 39 rfl)) (by decide) (backOf (W := 1) (rm7 l Z a0 hw [] o3 a21 h21 n0 q24 ) hZ21 (w_ hw 39 rfl) (w_ hw 38 rfl) (by decide) (by decide)) (g := (mkF m 34 #[rv o0, rv o1, rv o2, rv o3] [.ref a21, .ref o3, .ref o0])) rfl (by rw [hml]; rfl) (argsL := [(.ref o3), (.ref a21)]) (rest := [(.ref o0)]) (lenOf pd_3 rfl) rfl (by show 2 * 0 + _ ≤ _; exact Nat.le_of_eq rfl) (hb hby d6_34) (fun _ _ => ⟨rfl, e21, (by decide : 6 + 0 ≤ _), (by decide : 48 + 0 ≤ _)⟩)
  dsimp only [Pt.U, Pt.locs, Pt.cells, Pt.slots] at X23 l23 y23 z23 st23 hQ23
  subst l23 y23 z23
  obtain ⟨rfl, N23q, hh23⟩ := hQ23
  have N23 := Fr.app (Fr.snoc X17 N13 g_o0) N23q
  refine own_of st23 ?_
  show own_Out p e below _ (T23.setTop (mkF m 37 #[rv o0, rv o1, rv o2, rv o3] [.ref o3, .ref o0]))
  have q26 := (((((Eo3.ext E2).wr W7).ext E11).wr W17).ext E21)
  obtain ⟨T25, X25, e25, st25⟩ := castY X23 hx hZ21 hown21 (w_ hw 40 rfl) hh23 (Ins.self q26) (g := (mkF m 37 #[rv o0, rv o1, rv o2, rv o3] [.ref o3, .ref o0])) rfl rfl (hb hby d6_37)
  refine own_of st25 ?_
  show own_Out p e below _ (T25.setTop (mkF m 40 #[rv o0, rv o1, rv o2, rv o3] [.ref o3, .ref o0]))
  have q28 := (((((F_key.ext E2).other W7 (Or.inr (slot_ne (Or.inr (w_ hw 48 rfl)) (Or.inr (w_ hw 42 rfl)) (by decide) (t := (.object "java/lang/String")) (t' := (.object "java/lang/String")) (by decide) (by decide)))).ext E11).other W17 (Or.inr (slot_ne (Or.inr (w_ hw 48 rfl)) (Or.inr (w_ hw 45 rfl)) (by decide) (t := (.object "java/lang/String")) (t' := (.object "java/lang/String")) (by decide) (by decide)))).ext E21)
  have q29 := ((q19.wr W17).ext E21)
  obtain ⟨T27, h27, X27, e27, W27, st27⟩ := putF X25 hx hZ21 hown21 (host := "") (Or.inl (w_ hw 47 rfl)) Via.refl e25 q28 q29 (Or.inr ⟨(w_ hw 48 rfl), rfl, hnm⟩) (w_ hw 1 rfl) (ty := (.object "java/lang/String")) (by decide) rfl rfl (g := (mkF m 40 #[rv o0, rv o1, rv o2, rv o3] [.ref o3, .ref o0])) rfl rfl (hb hby d6_40)
  have q30 := (((((F_key.ext E2).other W7 (Or.inr (slot_ne (Or.inr (w_ hw 48 rfl)) (Or.inr (w_ hw 42 rfl)) (by decide) (t := (.object "java/lang/String")) (t' := (.object "java/lang/String")) (by decide) (by decide)))).ext E11).other W17 (Or.inr (slot_ne (Or.inr (w_ hw 48 rfl)) (Or.inr (w_ hw 45 rfl)) (by decide) (t := (.object "java/lang/String")) (t' := (.object "java/lang/String")) (by decide) (by decide)))).ext E21)
  have Fw27 := q30.same W27
  refine own_of st27 ?_
  show own_Out p e below _ (T27.setTop (mkF m 43 #[rv o0, rv o1, rv o2, rv o3] []))
  have q31 := (((((((Keep.refl h0 [o0]).ext E2).wr W7 (Or.inl (List.mem_of_getElem? (i := 0) rfl))).ext E11).wr W17 (Or.inl (List.mem_of_getElem? (i := 0) rfl))).ext E21).wr W27 (Or.inl (List.mem_of_getElem? (i := 0) rfl)))
  have q32 := (q29.wr W27)
  have q33 := ((((Fw7.ext E11).other W17 (Or.inr (slot_ne (Or.inr (w_ hw 42 rfl)) (Or.inr (w_ hw 45 rfl)) (by decide) (t := (.object "java/lang/String")) (t' := (.object "java/lang/String")) (by decide) (by decide)))).ext E21).other W27 (Or.inr (slot_ne (Or.inr (w_ hw 42 rfl)) (Or.inr (w_ hw 48 rfl)) (by decide) (t := (.object "java/lang/String")) (t' := (.object "java/lang/String")) (by decide) (by decide))))
  have q34 := ((Fw17.ext E21).other W27 (Or.inr (slot_ne (Or.inr (w_ hw 45 rfl)) (Or.inr (w_ hw 48 rfl)) (by decide) (t := (.object "java/lang/String")) (t' := (.object "java/lang/String")) (by decide) (by decide))))
  have q35 := (Nat.le_trans ks21 (Keep.of_wr W27).1)
  exact own_outVW (s := s) (vm₁ := T21.vm) X27 S21 (by rw [e27]; exact q35) hx hlk hret (hb hby d6_43) (Q := Q6 Z o0 o1 o2 o3 h0 n0) (by rw [e27]; exact ⟨rfl, (Fr.snoc X27 N23 g_o0), q31, q32, q33, q34, Fw27⟩) (by decide) (by decide)
theorem d10_0 : decode jdk_43_method_13_code 0 = .ok (.aload_n 0, 1) := by decide +kernel
theorem d10_1 : decode jdk_43_method_13_code 1 = .ok (.arraylength, 1) := by decide +kernel
theorem d10_2 : decode jdk_43_method_13_code 2 = .ok (.aload_n 1, 1) := by decide +kernel
theorem d10_3 : decode jdk_43_method_13_code 3 = .ok (.arraylength, 1) := by decide +kernel
theorem d10_4 : decode jdk_43_method_13_code 4 = .ok (.if_icmp .ne 30, 3) := by decide +kernel
theorem d10_7 : decode jdk_43_method_13_code 7 = .ok (.iconst 0, 1) := by decide +kernel
theorem d10_8 : decode jdk_43_method_13_code 8 = .ok (.istore_n 2, 1) := by decide +kernel
theorem d10_9 : decode jdk_43_method_13_code 9 = .ok (.iload_n 2, 1) := by decide +kernel
theorem d10_10 : decode jdk_43_method_13_code 10 = .ok (.aload_n 0, 1) := by decide +kernel
theorem d10_11 : decode jdk_43_method_13_code 11 = .ok (.arraylength, 1) := by decide +kernel
theorem d10_12 : decode jdk_43_method_13_code 12 = .ok (.if_icmp .ge 20, 3) := by decide +kernel
theorem d10_15 : decode jdk_43_method_13_code 15 = .ok (.aload_n 0, 1) := by decide +kernel
theorem d10_16 : decode jdk_43_method_13_code 16 = .ok (.iload_n 2, 1) := by decide +kernel
theorem d10_17 : decode jdk_43_method_13_code 17 = .ok (.baload, 1) := by decide +kernel
theorem d10_18 : decode jdk_43_method_13_code 18 = .ok (.aload_n 1, 1) := by decide +kernel
theorem d10_19 : decode jdk_43_method_13_code 19 = .ok (.iload_n 2, 1) := by decide +kernel
theorem d10_20 : decode jdk_43_method_13_code 20 = .ok (.baload, 1) := by decide +kernel
theorem d10_21 : decode jdk_43_method_13_code 21 = .ok (.if_icmp .eq 5, 3) := by decide +kernel
theorem d10_24 : decode jdk_43_method_13_code 24 = .ok (.iconst 0, 1) := by decide +kernel
theorem d10_25 : decode jdk_43_method_13_code 25 = .ok (.ireturn, 1) := by decide +kernel
theorem d10_26 : decode jdk_43_method_13_code 26 = .ok (.iinc 2 1, 3) := by decide +kernel
theorem d10_29 : decode jdk_43_method_13_code 29 = .ok (.goto (-20), 3) := by decide +kernel
theorem d10_32 : decode jdk_43_method_13_code 32 = .ok (.iconst 1, 1) := by decide +kernel
theorem d10_33 : decode jdk_43_method_13_code 33 = .ok (.ireturn, 1) := by decide +kernel
theorem ef_10 (m : MethodId) (x0 : Addr) (x1 : Addr) : entryFrame m #[(.ref x0), (.ref x1)] 3 = mkF m 0 #[.val (.ref x0), .val (.ref x1), .unset] [] := by first | (simp [entryFrame, mkF, argsToLocals, Value.category]; done) | rfl
def fl1 (b0 : Int32) (b1 : Int32) : Int32 := if b0 = b1 then (1 : Int32)
  else (0 : Int32)
def Q10 (Z : State) (o0 : Addr) (o1 : Addr) (k0 : ClassId) (k1 : ClassId) (b0 : Int32) (b1 : Int32) (h0 : Heap) (n0 : Nat) (v : Option Value) (h : Heap) (L : List Loc) : Prop := v = some (.int (fl1 b0 b1)) ∧ Fr n0 L ∧ h = h0
set_option maxRecDepth 65536 in
set_option maxHeartbeats 40000000 in
theorem rm10 (l : Launch) (Z : State) (a0 : Array Value) (hw : ∀ d ∈ tables_1, d.before a0 Z = true) (ws : List Jvm.Cond) (o0 : Addr) (o1 : Addr) (k0 : ClassId) (k1 : ClassId) (b0 : Int32) (b1 : Int32) (h0 : Heap) (n0 : Nat) (Z0 : n0 ≤ h0.size) (V0 : Arv Z h0 o0 k0 .byte (1 : Int32) [(.int b0)] (.int (0 : Int32))) (V1 : Arv Z h0 o1 k1 .byte (1 : Int32) [(.int b1)] (.int (0 : Int32))) :
    MetFree l (⟨"java/lang/StringLatin1", "equals", "([B[B)Z"⟩ : MethodName) (head1 (Jvm.Cond.code (⟨"java/lang/StringLatin1", "equals", "([B[B)Z"⟩ : MethodName) jdk_43_method_13_code 3 (some .boolean) :: ws) ({ frames := 0, cells := 0, slots := 0, locals := 0 } : Room)) (fun a U => a = #[(.ref o0), (.ref o1)] ∧ Z.Warmed39 U.vm ∧ U.heap = h0) (fun _ _ _ _ _ => True) (fun _ U o U' => ∃ v L, o = .returned v ∧ Q10 Z o0 o1 k0 k1 b0 b1 h0 n0 v U'.heap L ∧ FrameEnd U o U' L ({ frames := 0, cells := 0, slots := 0, locals := 0 } : Room).cells ({ frames := 0, cells := 0, slots := 0, locals := 0 } : Room).slots) := by
  refine MetFree.of_bodySF (plainFor_of_name pn_0) hisR ?_
  intro p e s m args below meth c s₁ Bd hml0 hP hK
  obtain ⟨rfl, hZ, hh⟩ := hP
  have hx := Bd.exec
  have hby := Bd.bytes
  have hml : c.maxLocals = 3 := hml0
  have hown : s.vm.findClass "java/lang/StringLatin1" = some m.cls := findClass_of_methodNamed Bd.named
  have hnm := (name_of_methodNamed Bd.named Bd.method).1
  have X0 : Stand p l e ({ frames := 0, cells := 0, slots := 0, locals := 0 } : Room) s m #[(.ref o0), (.ref o1)] below meth c s₁ [] 0 0 := Stand.of_body Bd
  have e0 : s₁.heap = h0 := by rw [← hh, Bd.state]; rfl
  have N0 := Fr.nil n0
  have hret := Bd.returns
  have hlk := BodyLoose.notSynchronized Bd
  show own_Out p e below (fun o U' => ∃ v L, o = .returned v ∧ Q10 Z o0 o1 k0 k1 b0 b1 h0 n0 v U'.heap L ∧ FrameEnd s o U' L ({ frames := 0, cells := 0, slots := 0, locals := 0 } : Room).cells ({ frames := 0, cells := 0, slots := 0, locals := 0 } : Room).slots) (s₁.setTop (entryFrame m #[(.ref o0), (.ref o1)] 3))
  refine own_of (fun t k => castTop (ef_10 m o0 o1) k) ?_
  show own_Out p e below _ (s₁.setTop (mkF m 0 #[rv o0, rv o1, .unset] []))
  refine o_aloadN X0 hx hby d10_0 rfl rfl (q := 1) rfl ?_
  refine o_lenV X0 hx hby hZ e0 V0 d10_1 (q := 2) rfl ?_
  refine o_aloadN X0 hx hby d10_2 rfl rfl (q := 3) rfl ?_
  refine o_lenV X0 hx hby hZ e0 V1 d10_3 (q := 4) rfl ?_
  refine o_icN X0 hx hby d10_4 (teq (by decide : (1 : Int32) = (1 : Int32))).2 (q := 7) rfl ?_
  refine o_iconst X0 hx hby d10_7 (z := 0) rfl (q := 8) rfl ?_
  refine o_istoreN X0 hx hby d10_8 (l' := #[rv o0, rv o1, iv 0]) rfl (q := 9) rfl ?_
  refine o_iloadN X0 hx hby d10_9 rfl (q := 10) rfl ?_
  refine o_aloadN X0 hx hby d10_10 rfl rfl (q := 11) rfl ?_
  refine o_lenV X0 hx hby hZ e0 V0 d10_11 (q := 12) rfl ?_
  refine o_icN X0 hx hby d10_12 (tlt (by decide : (0 : Int32) < (1 : Int32))).2.1 (q := 15) rfl ?_
  refine o_aloadN X0 hx hby d10_15 rfl rfl (q := 16) rfl ?_
  refine o_iloadN X0 hx hby d10_16 rfl (q := 17) rfl ?_
  refine o_baV X0 hx hby hZ e0 V0 ⟨by decide, by decide⟩ (v := .int b0) rfl d10_17 (q := 18) rfl ?_
  refine o_aloadN X0 hx hby d10_18 rfl rfl (q := 19) rfl ?_
  refine o_iloadN X0 hx hby d10_19 rfl (q := 20) rfl ?_
  refine o_baV X0 hx hby hZ e0 V1 ⟨by decide, by decide⟩ (v := .int b1) rfl d10_20 (q := 21) rfl ?_
  by_cases hc21_1 : b0 = b1
  · skip
    refine o_icY X0 hx hby d10_21 (teq hc21_1).1 (by decide) (q := 26) (by decide) ?_
    refine o_iinc X0 hx hby d10_26 rfl (l' := #[rv o0, rv o1, iv 1]) rfl (q := 29) rfl ?_
    refine o_goto X0 hx hby d10_29 (by decide) (q := 9) (by decide) ?_
    refine o_iloadN X0 hx hby d10_9 rfl (q := 10) rfl ?_
    refine o_aloadN X0 hx hby d10_10 rfl rfl (q := 11) rfl ?_
    refine o_lenV X0 hx hby hZ e0 V0 d10_11 (q := 12) rfl ?_
    refine o_icY X0 hx hby d10_12 (flt (by decide : ¬ ((1 : Int32) < (1 : Int32)))).2.1 (by decide) (q := 32) (by decide) ?_
    refine o_iconst X0 hx hby d10_32 (z := 1) rfl (q := 33) rfl ?_
    exact own_outN X0 hx hlk (t := .boolean) hret (by simp) (hb hby d10_33) (z' := (1 : Int32)) rfl (Q := Q10 Z o0 o1 k0 k1 b0 b1 h0 n0) ⟨by simp only [fl1, if_pos hc21_1], N0, e0⟩ (by decide) (by decide)
  · skip
    refine o_icN X0 hx hby d10_21 (feq hc21_1).1 (q := 24) rfl ?_
    refine o_iconst X0 hx hby d10_24 (z := 0) rfl (q := 25) rfl ?_
    exact own_outN X0 hx hlk (t := .boolean) hret (by simp) (hb hby d10_25) (z' := (0 : Int32)) rfl (Q := Q10 Z o0 o1 k0 k1 b0 b1 h0 n0) ⟨by simp only [fl1, if_neg hc21_1], N0, e0⟩ (by decide) (by decide)
theorem pd_4 : parseMethodDescriptor "([B[B)Z" = some ⟨[(.array .byte), (.array .byte)], some .boolean⟩ := by decide +kernel
theorem d9_0 : decode jdk_42_method_66_code 0 = .ok (.aload_n 0, 1) := by decide +kernel
theorem d9_1 : decode jdk_42_method_66_code 1 = .ok (.aload_n 1, 1) := by decide +kernel
theorem d9_2 : decode jdk_42_method_66_code 2 = .ok (.if_acmp .ne 5, 3) := by decide +kernel
theorem d9_7 : decode jdk_42_method_66_code 7 = .ok (.aload_n 1, 1) := by decide +kernel
theorem d9_8 : decode jdk_42_method_66_code 8 = .ok (.instanceof 10, 3) := by decide +kernel
theorem d9_11 : decode jdk_42_method_66_code 11 = .ok (.ifCond .eq 43, 3) := by decide +kernel
theorem d9_14 : decode jdk_42_method_66_code 14 = .ok (.aload_n 1, 1) := by decide +kernel
theorem d9_15 : decode jdk_42_method_66_code 15 = .ok (.checkcast 10, 3) := by decide +kernel
theorem d9_18 : decode jdk_42_method_66_code 18 = .ok (.astore_n 2, 1) := by decide +kernel
theorem d9_19 : decode jdk_42_method_66_code 19 = .ok (.getstatic 38, 3) := by decide +kernel
theorem d9_22 : decode jdk_42_method_66_code 22 = .ok (.ifCond .eq 14, 3) := by decide +kernel
theorem d9_25 : decode jdk_42_method_66_code 25 = .ok (.aload_n 0, 1) := by decide +kernel
theorem d9_26 : decode jdk_42_method_66_code 26 = .ok (.getfield 15, 3) := by decide +kernel
theorem d9_29 : decode jdk_42_method_66_code 29 = .ok (.aload_n 2, 1) := by decide +kernel
theorem d9_30 : decode jdk_42_method_66_code 30 = .ok (.getfield 15, 3) := by decide +kernel
theorem d9_33 : decode jdk_42_method_66_code 33 = .ok (.if_icmp .ne 21, 3) := by decide +kernel
theorem d9_36 : decode jdk_42_method_66_code 36 = .ok (.aload_n 0, 1) := by decide +kernel
theorem d9_37 : decode jdk_42_method_66_code 37 = .ok (.getfield 9, 3) := by decide +kernel
theorem d9_40 : decode jdk_42_method_66_code 40 = .ok (.aload_n 2, 1) := by decide +kernel
theorem d9_41 : decode jdk_42_method_66_code 41 = .ok (.getfield 9, 3) := by decide +kernel
theorem d9_44 : decode jdk_42_method_66_code 44 = .ok (.invokestatic 541, 3) := by decide +kernel
theorem d9_47 : decode jdk_42_method_66_code 47 = .ok (.ifCond .eq 7, 3) := by decide +kernel
theorem d9_50 : decode jdk_42_method_66_code 50 = .ok (.iconst 1, 1) := by decide +kernel
theorem d9_51 : decode jdk_42_method_66_code 51 = .ok (.goto 4, 3) := by decide +kernel
theorem d9_54 : decode jdk_42_method_66_code 54 = .ok (.iconst 0, 1) := by decide +kernel
theorem d9_55 : decode jdk_42_method_66_code 55 = .ok (.ireturn, 1) := by decide +kernel
theorem ef_9 (m : MethodId) (x0 : Addr) (x1 : Addr) : entryFrame m #[(.ref x0), (.ref x1)] 3 = mkF m 0 #[.val (.ref x0), .val (.ref x1), .unset] [] := by first | (simp [entryFrame, mkF, argsToLocals, Value.category]; done) | rfl
def fse (b0 : Int32) (b1 : Int32) (cs : Int32) : Int32 := if (fl1 b0 b1) = (0 : Int32) then (0 : Int32)
  else (1 : Int32)
def Q9 (Z : State) (o0 : Addr) (o1 : Addr) (oa : Addr) (k0 : ClassId) (b0 : Int32) (oc : Addr) (k1 : ClassId) (b1 : Int32) (cs : Int32) (h0 : Heap) (n0 : Nat) (v : Option Value) (h : Heap) (L : List Loc) : Prop := v = some (.int (fse b0 b1 cs)) ∧ Fr n0 L ∧ h = h0
set_option maxRecDepth 65536 in
set_option maxHeartbeats 40000000 in
theorem rm9 (l : Launch) (Z : State) (a0 : Array Value) (hw : ∀ d ∈ tables_1, d.before a0 Z = true) (ws : List Jvm.Cond) (o0 : Addr) (o1 : Addr) (oa : Addr) (k0 : ClassId) (b0 : Int32) (oc : Addr) (k1 : ClassId) (b1 : Int32) (cs : Int32) (h0 : Heap) (n0 : Nat) (Z0 : n0 ≤ h0.size) (Ea : Exa Z h0 o0 "java/lang/String") (Fva : Fld Z h0 o0 "java/lang/String" "value" "[B" (.ref oa)) (Fca : Fld Z h0 o0 "java/lang/String" "coder" "B" (.int (0 : Int32))) (Va : Arv Z h0 oa k0 .byte (1 : Int32) [(.int b0)] (.int (0 : Int32))) (Ec : Exa Z h0 o1 "java/lang/String") (Fvc : Fld Z h0 o1 "java/lang/String" "value" "[B" (.ref oc)) (Fcc : Fld Z h0 o1 "java/lang/String" "coder" "B" (.int (0 : Int32))) (Vc : Arv Z h0 oc k1 .byte (1 : Int32) [(.int b1)] (.int (0 : Int32))) (S_cs : Sta Z h0 "java/lang/String" "COMPACT_STRINGS" "Z" (.int cs)) (hcs : ¬ (cs = (0 : Int32))) (hne : o0 ≠ o1) :
    MetFree l (⟨"java/lang/String", "equals", "(Ljava/lang/Object;)Z"⟩ : MethodName) (head1 (Jvm.Cond.code (⟨"java/lang/String", "equals", "(Ljava/lang/Object;)Z"⟩ : MethodName) jdk_42_method_66_code 3 (some .boolean) :: ws) ({ frames := 1, cells := 0, slots := 0, locals := 14 } : Room)) (fun a U => a = #[(.ref o0), (.ref o1)] ∧ Z.Warmed39 U.vm ∧ U.heap = h0) (fun _ _ _ _ _ => True) (fun _ U o U' => ∃ v L, o = .returned v ∧ Q9 Z o0 o1 oa k0 b0 oc k1 b1 cs h0 n0 v U'.heap L ∧ FrameEnd U o U' L ({ frames := 1, cells := 0, slots := 0, locals := 14 } : Room).cells ({ frames := 1, cells := 0, slots := 0, locals := 14 } : Room).slots) := by
  refine MetFree.of_bodySF (plainFor_of_name pn_1) hisR ?_
  intro p e s m args below meth c s₁ Bd hml0 hP hK
  obtain ⟨rfl, hZ, hh⟩ := hP
  have hx := Bd.exec
  have hby := Bd.bytes
  have hml : c.maxLocals = 3 := hml0
  have hown : s.vm.findClass "java/lang/String" = some m.cls := findClass_of_methodNamed Bd.named
  have hnm := (name_of_methodNamed Bd.named Bd.method).1
  have X0 : Stand p l e ({ frames := 1, cells := 0, slots := 0, locals := 14 } : Room) s m #[(.ref o0), (.ref o1)] below meth c s₁ [] 0 0 := Stand.of_body Bd
  have e0 : s₁.heap = h0 := by rw [← hh, Bd.state]; rfl
  have N0 := Fr.nil n0
  have hret := Bd.returns
  have hlk := BodyLoose.notSynchronized Bd
  show own_Out p e below (fun o U' => ∃ v L, o = .returned v ∧ Q9 Z o0 o1 oa k0 b0 oc k1 b1 cs h0 n0 v U'.heap L ∧ FrameEnd s o U' L ({ frames := 1, cells := 0, slots := 0, locals := 14 } : Room).cells ({ frames := 1, cells := 0, slots := 0, locals := 14 } : Room).slots) (s₁.setTop (entryFrame m #[(.ref o0), (.ref o1)] 3))
  refine own_of (fun t k => castTop (ef_9 m o0 o1) k) ?_
  show own_Out p e below _ (s₁.setTop (mkF m 0 #[rv o0, rv o1, .unset] []))
  refine o_aloadN X0 hx hby d9_0 rfl rfl (q := 1) rfl ?_
  refine o_aloadN X0 hx hby d9_1 rfl rfl (q := 2) rfl ?_
  refine own_of (fun _ k => Jvm.RoadKit.acmp (g := (mkF m 2 #[rv o0, rv o1, .unset] [.ref o1, .ref o0])) X0 hx rfl rfl rfl (pc0 := 2) (pc' := 7) (same := false) rfl (hb hby d9_2) rfl (decide_eq_false fun q => hne (Value.ref.inj q)) (by decide) (by decide) k) ?_
  show own_Out p e below _ (s₁.setTop (mkF m 7 #[rv o0, rv o1, .unset] []))
  refine o_aloadN X0 hx hby d9_7 rfl rfl (q := 8) rfl ?_
  obtain ⟨T1, X1, e1, st1⟩ := instY X0 hx hZ hown (w_ hw 12 rfl) e0 (Ins.self Ec) (g := (mkF m 8 #[rv o0, rv o1, .unset] [.ref o1])) rfl rfl (hb hby d9_8)
  refine own_of st1 ?_
  show own_Out p e below _ (T1.setTop (mkF m 11 #[rv o0, rv o1, .unset] [.int 1]))
  refine o_ifN X1 hx hby d9_11 ((if0 _ _).trans (feq (by decide : ¬ ((1 : Int32) = (0 : Int32)))).1) (q := 14) rfl ?_
  refine o_aloadN X1 hx hby d9_14 rfl rfl (q := 15) rfl ?_
  obtain ⟨T2, X2, e2, st2⟩ := castY X1 hx hZ hown (w_ hw 12 rfl) e1 (Ins.self Ec) (g := (mkF m 15 #[rv o0, rv o1, .unset] [.ref o1])) rfl rfl (hb hby d9_15)
  refine own_of st2 ?_
  show own_Out p e below _ (T2.setTop (mkF m 18 #[rv o0, rv o1, .unset] [.ref o1]))
  refine o_astoreN X2 hx hby d9_18 rfl (l' := #[rv o0, rv o1, rv o1]) rfl (q := 19) rfl ?_
  obtain ⟨T3, X3, e3, st3⟩ := getS2 X2 hx hZ hown (host := "") (Or.inl (w_ hw 7 rfl)) Via.refl e2 S_cs (g := (mkF m 19 #[rv o0, rv o1, rv o1] [])) rfl (hb hby d9_19)
  refine own_of st3 ?_
  show own_Out p e below _ (T3.setTop (mkF m 22 #[rv o0, rv o1, rv o1] [.int cs]))
  refine o_ifN X3 hx hby d9_22 ((if0 _ _).trans (feq hcs).1) (q := 25) rfl ?_
  refine o_aloadN X3 hx hby d9_25 rfl rfl (q := 26) rfl ?_
  refine o_getF X3 hx hZ hown hby (w_ hw 27 rfl) Via.refl e3 Fca d9_26 (q := 29) rfl fun T4 X4 e4 => ?_
  refine o_aloadN X4 hx hby d9_29 rfl rfl (q := 30) rfl ?_
  refine o_getF X4 hx hZ hown hby (w_ hw 27 rfl) Via.refl e4 Fcc d9_30 (q := 33) rfl fun T5 X5 e5 => ?_
  refine o_icN X5 hx hby d9_33 (teq (by decide : (0 : Int32) = (0 : Int32))).2 (q := 36) rfl ?_
  refine o_aloadN X5 hx hby d9_36 rfl rfl (q := 37) rfl ?_
  refine o_getF X5 hx hZ hown hby (w_ hw 25 rfl) Via.refl e5 Fva d9_37 (q := 40) rfl fun T6 X6 e6 => ?_
  refine o_aloadN X6 hx hby d9_40 rfl rfl (q := 41) rfl ?_
  refine o_getF X6 hx hZ hown hby (w_ hw 25 rfl) Via.refl e6 Fvc d9_41 (q := 44) rfl fun T7 X7 e7 => ?_
  obtain ⟨_, _, ⟨T8, L8, k8, n8⟩, -, X8, ⟨Lc8, hQ8, l8, y8, z8⟩, st8⟩ := Jvm.LawKit.callS X7 hx (y := (⟨"java/lang/StringLatin1", "equals", "([B[B)Z"⟩ : MethodName)) hown (mvT hZ (w_ hw 61 rfl)) (mvT hZ (w_ hw 62 rfl)) (mvT hZ (w_ hw 10 rfl)) (mvT hZ (w_ hw 63 rfl)) (by decide) (backOf (W := 0) (rm10 l Z a0 hw [] oa oc k0 k1 b0 b1 h0 n0 Z0 Va Vc) hZ (w_ hw 63 rfl) (w_ hw 10 rfl) (by decide) (by decide)) (g := (mkF m 44 #[rv o0, rv o1, rv o1] [.ref oc, .ref oa])) rfl (by rw [hml]; rfl) (argsL := [(.ref oa), (.ref oc)]) (rest := []) (lenOf pd_4 rfl) rfl (by show 2 * 0 + _ ≤ _; exact Nat.le_of_eq rfl) (hb hby d9_44) (fun _ _ => ⟨rfl, e7, (by decide : 0 + 0 ≤ _), (by decide : 0 + 0 ≤ _)⟩)
  dsimp only [Pt.U, Pt.locs, Pt.cells, Pt.slots] at X8 l8 y8 z8 st8 hQ8
  subst l8 y8 z8
  obtain ⟨rfl, N8q, hh8⟩ := hQ8
  have N8 := Fr.app N0 N8q
  refine own_of st8 ?_
  show own_Out p e below _ (T8.setTop (mkF m 47 #[rv o0, rv o1, rv o1] [.int (fl1 b0 b1)]))
  by_cases hc47_9 : (fl1 b0 b1) = (0 : Int32)
  · skip
    refine o_ifY X8 hx hby d9_47 ((if0 _ _).trans (teq hc47_9).1) (by decide) (q := 54) (by decide) ?_
    refine o_iconst X8 hx hby d9_54 (z := 0) rfl (q := 55) rfl ?_
    exact own_outN X8 hx hlk (t := .boolean) hret (by simp) (hb hby d9_55) (z' := (0 : Int32)) rfl (Q := Q9 Z o0 o1 oa k0 b0 oc k1 b1 cs h0 n0) ⟨by simp only [fse, if_neg hcs, if_pos hc47_9], N8, hh8⟩ (by decide) (by decide)
  · skip
    refine o_ifN X8 hx hby d9_47 ((if0 _ _).trans (feq hc47_9).1) (q := 50) rfl ?_
    refine o_iconst X8 hx hby d9_50 (z := 1) rfl (q := 51) rfl ?_
    refine o_goto X8 hx hby d9_51 (by decide) (q := 55) (by decide) ?_
    exact own_outN X8 hx hlk (t := .boolean) hret (by simp) (hb hby d9_55) (z' := (1 : Int32)) rfl (Q := Q9 Z o0 o1 oa k0 b0 oc k1 b1 cs h0 n0) ⟨by simp only [fse, if_neg hcs, if_neg hc47_9], N8, hh8⟩ (by decide) (by decide)
theorem pd_5 : parseMethodDescriptor "(Ljava/lang/Object;)Z" = some ⟨[(.object "java/lang/Object")], some .boolean⟩ := by decide +kernel
theorem d8_0 : decode prog_7_method_5_code 0 = .ok (.aload_n 1, 1) := by decide +kernel
theorem d8_1 : decode prog_7_method_5_code 1 = .ok (.instanceof 18, 3) := by decide +kernel
theorem d8_4 : decode prog_7_method_5_code 4 = .ok (.ifCond .eq 58, 3) := by decide +kernel
theorem d8_7 : decode prog_7_method_5_code 7 = .ok (.aload_n 0, 1) := by decide +kernel
theorem d8_8 : decode prog_7_method_5_code 8 = .ok (.getfield 17, 3) := by decide +kernel
theorem d8_11 : decode prog_7_method_5_code 11 = .ok (.aload_n 1, 1) := by decide +kernel
theorem d8_12 : decode prog_7_method_5_code 12 = .ok (.checkcast 18, 3) := by decide +kernel
theorem d8_15 : decode prog_7_method_5_code 15 = .ok (.getfield 17, 3) := by decide +kernel
theorem d8_18 : decode prog_7_method_5_code 18 = .ok (.invokevirtual 30, 3) := by decide +kernel
theorem d8_21 : decode prog_7_method_5_code 21 = .ok (.ifCond .eq 41, 3) := by decide +kernel
theorem d8_24 : decode prog_7_method_5_code 24 = .ok (.aload_n 0, 1) := by decide +kernel
theorem d8_25 : decode prog_7_method_5_code 25 = .ok (.getfield 24, 3) := by decide +kernel
theorem d8_28 : decode prog_7_method_5_code 28 = .ok (.aload_n 1, 1) := by decide +kernel
theorem d8_29 : decode prog_7_method_5_code 29 = .ok (.checkcast 18, 3) := by decide +kernel
theorem d8_32 : decode prog_7_method_5_code 32 = .ok (.getfield 24, 3) := by decide +kernel
theorem d8_35 : decode prog_7_method_5_code 35 = .ok (.invokevirtual 30, 3) := by decide +kernel
theorem d8_38 : decode prog_7_method_5_code 38 = .ok (.ifCond .eq 24, 3) := by decide +kernel
theorem d8_41 : decode prog_7_method_5_code 41 = .ok (.aload_n 0, 1) := by decide +kernel
theorem d8_42 : decode prog_7_method_5_code 42 = .ok (.getfield 28, 3) := by decide +kernel
theorem d8_45 : decode prog_7_method_5_code 45 = .ok (.aload_n 1, 1) := by decide +kernel
theorem d8_46 : decode prog_7_method_5_code 46 = .ok (.checkcast 18, 3) := by decide +kernel
theorem d8_49 : decode prog_7_method_5_code 49 = .ok (.getfield 28, 3) := by decide +kernel
theorem d8_52 : decode prog_7_method_5_code 52 = .ok (.invokevirtual 30, 3) := by decide +kernel
theorem d8_55 : decode prog_7_method_5_code 55 = .ok (.ifCond .eq 7, 3) := by decide +kernel
theorem d8_58 : decode prog_7_method_5_code 58 = .ok (.iconst 1, 1) := by decide +kernel
theorem d8_59 : decode prog_7_method_5_code 59 = .ok (.goto 4, 3) := by decide +kernel
theorem d8_62 : decode prog_7_method_5_code 62 = .ok (.iconst 0, 1) := by decide +kernel
theorem d8_63 : decode prog_7_method_5_code 63 = .ok (.ireturn, 1) := by decide +kernel
theorem ef_8c (m : MethodId) (x0 : Addr) (x1 : Addr) : entryFrame m #[(.ref x0), (.ref x1)] 2 = mkF m 0 #[.val (.ref x0), .val (.ref x1)] [] := by first | (simp [entryFrame, mkF, argsToLocals, Value.category]; done) | rfl
def fqe (xb0 : Int32) (xb1 : Int32) (xb2 : Int32) (yb0 : Int32) (yb1 : Int32) (yb2 : Int32) (cs : Int32) : Int32 := if (fse xb0 yb0 cs) = (0 : Int32) then (0 : Int32)
  else if (fse xb1 yb1 cs) = (0 : Int32) then (0 : Int32)
    else if (fse xb2 yb2 cs) = (0 : Int32) then (0 : Int32)
      else (1 : Int32)
def Q8c (Z : State) (o0 : Addr) (o1 : Addr) (x0 : Addr) (xa0 : Addr) (xk0 : ClassId) (xb0 : Int32) (x1 : Addr) (xa1 : Addr) (xk1 : ClassId) (xb1 : Int32) (x2 : Addr) (xa2 : Addr) (xk2 : ClassId) (xb2 : Int32) (y0 : Addr) (ya0 : Addr) (yk0 : ClassId) (yb0 : Int32) (y1 : Addr) (ya1 : Addr) (yk1 : ClassId) (yb1 : Int32) (y2 : Addr) (ya2 : Addr) (yk2 : ClassId) (yb2 : Int32) (cs : Int32) (h0 : Heap) (n0 : Nat) (v : Option Value) (h : Heap) (L : List Loc) : Prop := v = some (.int (fqe xb0 xb1 xb2 yb0 yb1 yb2 cs)) ∧ Fr n0 L ∧ h = h0
set_option maxRecDepth 65536 in
set_option maxHeartbeats 40000000 in
theorem rm8c (l : Launch) (Z : State) (a0 : Array Value) (hw : ∀ d ∈ tables_1, d.before a0 Z = true) (ws : List Jvm.Cond) (o0 : Addr) (o1 : Addr) (x0 : Addr) (xa0 : Addr) (xk0 : ClassId) (xb0 : Int32) (x1 : Addr) (xa1 : Addr) (xk1 : ClassId) (xb1 : Int32) (x2 : Addr) (xa2 : Addr) (xk2 : ClassId) (xb2 : Int32) (y0 : Addr) (ya0 : Addr) (yk0 : ClassId) (yb0 : Int32) (y1 : Addr) (ya1 : Addr) (yk1 : ClassId) (yb1 : Int32) (y2 : Addr) (ya2 : Addr) (yk2 : ClassId) (yb2 : Int32) (cs : Int32) (h0 : Heap) (n0 : Nat) (Z0 : n0 ≤ h0.size) (E0 : Exa Z h0 o0 "com/example/collector_urchin/collectorurchin/store/Credential") (E1 : Exa Z h0 o1 "com/example/collector_urchin/collectorurchin/store/Credential") (Fx0 : Fld Z h0 o0 "com/example/collector_urchin/collectorurchin/store/Credential" "id" "Ljava/lang/String;" (.ref x0)) (Ex0 : Exa Z h0 x0 "java/lang/String") (Fvx0 : Fld Z h0 x0 "java/lang/String" "value" "[B" (.ref xa0)) (Fcx0 : Fld Z h0 x0 "java/lang/String" "coder" "B" (.int (0 : Int32))) (Vx0 : Arv Z h0 xa0 xk0 .byte (1 : Int32) [(.int xb0)] (.int (0 : Int32))) (Fx1 : Fld Z h0 o0 "com/example/collector_urchin/collectorurchin/store/Credential" "user" "Ljava/lang/String;" (.ref x1)) (Ex1 : Exa Z h0 x1 "java/lang/String") (Fvx1 : Fld Z h0 x1 "java/lang/String" "value" "[B" (.ref xa1)) (Fcx1 : Fld Z h0 x1 "java/lang/String" "coder" "B" (.int (0 : Int32))) (Vx1 : Arv Z h0 xa1 xk1 .byte (1 : Int32) [(.int xb1)] (.int (0 : Int32))) (Fx2 : Fld Z h0 o0 "com/example/collector_urchin/collectorurchin/store/Credential" "key" "Ljava/lang/String;" (.ref x2)) (Ex2 : Exa Z h0 x2 "java/lang/String") (Fvx2 : Fld Z h0 x2 "java/lang/String" "value" "[B" (.ref xa2)) (Fcx2 : Fld Z h0 x2 "java/lang/String" "coder" "B" (.int (0 : Int32))) (Vx2 : Arv Z h0 xa2 xk2 .byte (1 : Int32) [(.int xb2)] (.int (0 : Int32))) (Fy0 : Fld Z h0 o1 "com/example/collector_urchin/collectorurchin/store/Credential" "id" "Ljava/lang/String;" (.ref y0)) (Ey0 : Exa Z h0 y0 "java/lang/String") (Fvy0 : Fld Z h0 y0 "java/lang/String" "value" "[B" (.ref ya0)) (Fcy0 : Fld Z h0 y0 "java/lang/String" "coder" "B" (.int (0 : Int32))) (Vy0 : Arv Z h0 ya0 yk0 .byte (1 : Int32) [(.int yb0)] (.int (0 : Int32))) (Fy1 : Fld Z h0 o1 "com/example/collector_urchin/collectorurchin/store/Credential" "user" "Ljava/lang/String;" (.ref y1)) (Ey1 : Exa Z h0 y1 "java/lang/String") (Fvy1 : Fld Z h0 y1 "java/lang/String" "value" "[B" (.ref ya1)) (Fcy1 : Fld Z h0 y1 "java/lang/String" "coder" "B" (.int (0 : Int32))) (Vy1 : Arv Z h0 ya1 yk1 .byte (1 : Int32) [(.int yb1)] (.int (0 : Int32))) (Fy2 : Fld Z h0 o1 "com/example/collector_urchin/collectorurchin/store/Credential" "key" "Ljava/lang/String;" (.ref y2)) (Ey2 : Exa Z h0 y2 "java/lang/String") (Fvy2 : Fld Z h0 y2 "java/lang/String" "value" "[B" (.ref ya2)) (Fcy2 : Fld Z h0 y2 "java/lang/String" "coder" "B" (.int (0 : Int32))) (Vy2 : Arv Z h0 ya2 yk2 .byte (1 : Int32) [(.int yb2)] (.int (0 : Int32))) (S_cs : Sta Z h0 "java/lang/String" "COMPACT_STRINGS" "Z" (.int cs)) (hcs : ¬ (cs = (0 : Int32))) (nq0 : x0 ≠ y0) (nq1 : x1 ≠ y1) (nq2 : x2 ≠ y2) :
    MetFree l (⟨"com/example/collector_urchin/collectorurchin/store/Credential", "equals", "(Ljava/lang/Object;)Z"⟩ : MethodName) (head1 (Jvm.Cond.code (⟨"com/example/collector_urchin/collectorurchin/store/Credential", "equals", "(Ljava/lang/Object;)Z"⟩ : MethodName) prog_7_method_5_code 2 (some .boolean) :: ws) ({ frames := 2, cells := 0, slots := 0, locals := 28 } : Room)) (fun a U => a = #[(.ref o0), (.ref o1)] ∧ Z.Warmed39 U.vm ∧ U.heap = h0) (fun _ _ _ _ _ => True) (fun _ U o U' => ∃ v L, o = .returned v ∧ Q8c Z o0 o1 x0 xa0 xk0 xb0 x1 xa1 xk1 xb1 x2 xa2 xk2 xb2 y0 ya0 yk0 yb0 y1 ya1 yk1 yb1 y2 ya2 yk2 yb2 cs h0 n0 v U'.heap L ∧ FrameEnd U o U' L ({ frames := 2, cells := 0, slots := 0, locals := 28 } : Room).cells ({ frames := 2, cells := 0, slots := 0, locals := 28 } : Room).slots) := by
  refine MetFree.of_bodySF (plainFor_of_name pn_3) hisR ?_
  intro p e s m args below meth c s₁ Bd hml0 hP hK
  obtain ⟨rfl, hZ, hh⟩ := hP
  have hx := Bd.exec
  have hby := Bd.bytes
  have hml : c.maxLocals = 2 := hml0
  have hown : s.vm.findClass "com/example/collector_urchin/collectorurchin/store/Credential" = some m.cls := findClass_of_methodNamed Bd.named
  have hnm := (name_of_methodNamed Bd.named Bd.method).1
  have X0 : Stand p l e ({ frames := 2, cells := 0, slots := 0, locals := 28 } : Room) s m #[(.ref o0), (.ref o1)] below meth c s₁ [] 0 0 := Stand.of_body Bd
  have e0 : s₁.heap = h0 := by rw [← hh, Bd.state]; rfl
  have N0 := Fr.nil n0
  have hret := Bd.returns
  have hlk := BodyLoose.notSynchronized Bd
  show own_Out p e below (fun o U' => ∃ v L, o = .returned v ∧ Q8c Z o0 o1 x0 xa0 xk0 xb0 x1 xa1 xk1 xb1 x2 xa2 xk2 xb2 y0 ya0 yk0 yb0 y1 ya1 yk1 yb1 y2 ya2 yk2 yb2 cs h0 n0 v U'.heap L ∧ FrameEnd s o U' L ({ frames := 2, cells := 0, slots := 0, locals := 28 } : Room).cells ({ frames := 2, cells := 0, slots := 0, locals := 28 } : Room).slots) (s₁.setTop (entryFrame m #[(.ref o0), (.ref o1)] 2))
  refine own_of (fun t k => castTop (ef_8c m o0 o1) k) ?_
  show own_Out p e below _ (s₁.setTop (mkF m 0 #[rv o0, rv o1] []))
  refine o_aloadN X0 hx hby d8_0 rfl rfl (q := 1) rfl ?_
  obtain ⟨T1, X1, e1, st1⟩ := instY X0 hx hZ hown (w_ hw 54 rfl) e0 (Ins.self E1) (g := (mkF m 1 #[rv o0, rv o1] [.ref o1])) rfl rfl (hb hby d8_1)
  refine own_of st1 ?_
  show own_Out p e below _ (T1.setTop (mkF m 4 #[rv o0, rv o1] [.int 1]))
  refine o_ifN X1 hx hby d8_4 ((if0 _ _).trans (feq (by decide : ¬ ((1 : Int32) = (0 : Int32)))).1) (q := 7) rfl ?_
  refine o_aloadN X1 hx hby d8_7 rfl rfl (q := 8) rfl ?_
  refine o_getF X1 hx hZ hown hby (w_ hw 41 rfl) Via.refl e1 Fx0 d8_8 (q := 11) rfl fun T2 X2 e2 => ?_
  refine o_aloadN X2 hx hby d8_11 rfl rfl (q := 12) rfl ?_
  obtain ⟨T3, X3, e3, st3⟩ := castY X2 hx hZ hown (w_ hw 54 rfl) e2 (Ins.self E1) (g := (mkF m 12 #[rv o0, rv o1] [.ref o1, .ref x0])) rfl rfl (hb hby d8_12)
  refine own_of st3 ?_
  show own_Out p e below _ (T3.setTop (mkF m 15 #[rv o0, rv o1] [.ref o1, .ref x0]))
  refine o_getF X3 hx hZ hown hby (w_ hw 41 rfl) Via.refl e3 Fy0 d8_15 (q := 18) rfl fun T4 X4 e4 => ?_
  obtain ⟨cq5, kq5, q5a, q5b, q5c⟩ := isOf hZ e4 Ex0
  obtain ⟨_, _, ⟨T5, L5, k5, n5⟩, -, X5, ⟨Lc5, hQ5, l5, y5, z5⟩, st5⟩ := X4.virtualBack hx (y := (⟨"java/lang/String", "equals", "(Ljava/lang/Object;)Z"⟩ : MethodName)) (z := (⟨"java/lang/String", "equals", "(Ljava/lang/Object;)Z"⟩ : MethodName)) hown (mvT hZ (w_ hw 56 rfl)) (mvT hZ (w_ hw 57 rfl)) (notFace_of_selects (args := #[]) (mvT hZ (w_ hw 59 rfl))) (mvT hZ (w_ hw 59 rfl)) (mvT hZ (w_ hw 58 rfl)) (by decide) (backOf (W := 0) (rm9 l Z a0 hw [] x0 y0 xa0 xk0 xb0 ya0 yk0 yb0 cs h0 n0 Z0 Ex0 Fvx0 Fcx0 Vx0 Ey0 Fvy0 Fcy0 Vy0 S_cs hcs nq0) hZ (w_ hw 60 rfl) (w_ hw 5 rfl) (by decide) (by decide)) q5a q5c (g := (mkF m 18 #[rv o0, rv o1] [.ref y0, .ref x0])) rfl (by rw [hml]; rfl) (Steps.refl _) (argsL := [(.ref y0)]) (rest := []) (lenOf pd_5 rfl) rfl (by show 2 * 0 + _ ≤ _; exact Nat.le_of_eq rfl) (hb hby d8_18) (fun _ _ => ⟨rfl, e4, (by decide : 0 + 0 ≤ _), (by decide : 0 + 0 ≤ _)⟩)
  dsimp only [Pt.U, Pt.locs, Pt.cells, Pt.slots] at X5 l5 y5 z5 st5 hQ5
  subst l5 y5 z5
  obtain ⟨rfl, N5q, hh5⟩ := hQ5
  have N5 := Fr.app N0 N5q
  refine own_of (fun _ k => st5.trans k) ?_
  show own_Out p e below _ (T5.setTop (mkF m 21 #[rv o0, rv o1] [.int (fse xb0 yb0 cs)]))
  by_cases hc21_6 : (fse xb0 yb0 cs) = (0 : Int32)
  · skip
    refine o_ifY X5 hx hby d8_21 ((if0 _ _).trans (teq hc21_6).1) (by decide) (q := 62) (by decide) ?_
    refine o_iconst X5 hx hby d8_62 (z := 0) rfl (q := 63) rfl ?_
    exact own_outN X5 hx hlk (t := .boolean) hret (by simp) (hb hby d8_63) (z' := (0 : Int32)) rfl (Q := Q8c Z o0 o1 x0 xa0 xk0 xb0 x1 xa1 xk1 xb1 x2 xa2 xk2 xb2 y0 ya0 yk0 yb0 y1 ya1 yk1 yb1 y2 ya2 yk2 yb2 cs h0 n0) ⟨by simp only [fqe, if_neg hcs, if_pos hc21_6], N5, hh5⟩ (by decide) (by decide)
  · skip
    refine o_ifN X5 hx hby d8_21 ((if0 _ _).trans (feq hc21_6).1) (q := 24) rfl ?_
    refine o_aloadN X5 hx hby d8_24 rfl rfl (q := 25) rfl ?_
    refine o_getF X5 hx hZ hown hby (w_ hw 44 rfl) Via.refl hh5 Fx1 d8_25 (q := 28) rfl fun T7 X7 e7 => ?_
    refine o_aloadN X7 hx hby d8_28 rfl rfl (q := 29) rfl ?_
    obtain ⟨T8, X8, e8, st8⟩ := castY X7 hx hZ hown (w_ hw 54 rfl) e7 (Ins.self E1) (g := (mkF m 29 #[rv o0, rv o1] [.ref o1, .ref x1])) rfl rfl (hb hby d8_29)
    refine own_of st8 ?_
    show own_Out p e below _ (T8.setTop (mkF m 32 #[rv o0, rv o1] [.ref o1, .ref x1]))
    refine o_getF X8 hx hZ hown hby (w_ hw 44 rfl) Via.refl e8 Fy1 d8_32 (q := 35) rfl fun T9 X9 e9 => ?_
    obtain ⟨cq10, kq10, q10a, q10b, q10c⟩ := isOf hZ e9 Ex1
    obtain ⟨_, _, ⟨T10, L10, k10, n10⟩, -, X10, ⟨Lc10, hQ10, l10, y10, z10⟩, st10⟩ := X9.virtualBack hx (y := (⟨"java/lang/String", "equals", "(Ljava/lang/Object;)Z"⟩ : MethodName)) (z := (⟨"java/lang/String", "equals", "(Ljava/lang/Object;)Z"⟩ : MethodName)) hown (mvT hZ (w_ hw 56 rfl)) (mvT hZ (w_ hw 57 rfl)) (notFace_of_selects (args := #[]) (mvT hZ (w_ hw 59 rfl))) (mvT hZ (w_ hw 59 rfl)) (mvT hZ (w_ hw 58 rfl)) (by decide) (backOf (W := 0) (rm9 l Z a0 hw [] x1 y1 xa1 xk1 xb1 ya1 yk1 yb1 cs h0 n0 Z0 Ex1 Fvx1 Fcx1 Vx1 Ey1 Fvy1 Fcy1 Vy1 S_cs hcs nq1) hZ (w_ hw 60 rfl) (w_ hw 5 rfl) (by decide) (by decide)) q10a q10c (g := (mkF m 35 #[rv o0, rv o1] [.ref y1, .ref x1])) rfl (by rw [hml]; rfl) (Steps.refl _) (argsL := [(.ref y1)]) (rest := []) (lenOf pd_5 rfl) rfl (by show 2 * 0 + _ ≤ _; exact Nat.le_of_eq rfl) (hb hby d8_35) (fun _ _ => ⟨rfl, e9, (by decide : 0 + 0 ≤ _), (by decide : 0 + 0 ≤ _)⟩)
    dsimp only [Pt.U, Pt.locs, Pt.cells, Pt.slots] at X10 l10 y10 z10 st10 hQ10
    subst l10 y10 z10
    obtain ⟨rfl, N10q, hh10⟩ := hQ10
    have N10 := Fr.app N5 N10q
    refine own_of (fun _ k => st10.trans k) ?_
    show own_Out p e below _ (T10.setTop (mkF m 38 #[rv o0, rv o1] [.int (fse xb1 yb1 cs)]))
    by_cases hc38_11 : (fse xb1 yb1 cs) = (0 : Int32)
    · skip
      refine o_ifY X10 hx hby d8_38 ((if0 _ _).trans (teq hc38_11).1) (by decide) (q := 62) (by decide) ?_
      refine o_iconst X10 hx hby d8_62 (z := 0) rfl (q := 63) rfl ?_
      exact own_outN X10 hx hlk (t := .boolean) hret (by simp) (hb hby d8_63) (z' := (0 : Int32)) rfl (Q := Q8c Z o0 o1 x0 xa0 xk0 xb0 x1 xa1 xk1 xb1 x2 xa2 xk2 xb2 y0 ya0 yk0 yb0 y1 ya1 yk1 yb1 y2 ya2 yk2 yb2 cs h0 n0) ⟨by simp only [fqe, if_neg hcs, if_neg hc21_6, if_pos hc38_11], N10, hh10⟩ (by decide) (by decide)
    · skip
      refine o_ifN X10 hx hby d8_38 ((if0 _ _).trans (feq hc38_11).1) (q := 41) rfl ?_
      refine o_aloadN X10 hx hby d8_41 rfl rfl (q := 42) rfl ?_
      refine o_getF X10 hx hZ hown hby (w_ hw 47 rfl) Via.refl hh10 Fx2 d8_42 (q := 45) rfl fun T12 X12 e12 => ?_
      refine o_aloadN X12 hx hby d8_45 rfl rfl (q := 46) rfl ?_
      obtain ⟨T13, X13, e13, st13⟩ := castY X12 hx hZ hown (w_ hw 54 rfl) e12 (Ins.self E1) (g := (mkF m 46 #[rv o0, rv o1] [.ref o1, .ref x2])) rfl rfl (hb hby d8_46)
      refine own_of st13 ?_
      show own_Out p e below _ (T13.setTop (mkF m 49 #[rv o0, rv o1] [.ref o1, .ref x2]))
      refine o_getF X13 hx hZ hown hby (w_ hw 47 rfl) Via.refl e13 Fy2 d8_49 (q := 52) rfl fun T14 X14 e14 => ?_
      obtain ⟨cq15, kq15, q15a, q15b, q15c⟩ := isOf hZ e14 Ex2
      obtain ⟨_, _, ⟨T15, L15, k15, n15⟩, -, X15, ⟨Lc15, hQ15, l15, y15, z15⟩, st15⟩ := X14.virtualBack hx (y := (⟨"java/lang/String", "equals", "(Ljava/lang/Object;)Z"⟩ : MethodName)) (z := (⟨"java/lang/String", "equals", "(Ljava/lang/Object;)Z"⟩ : MethodName)) hown (mvT hZ (w_ hw 56 rfl)) (mvT hZ (w_ hw 57 rfl)) (notFace_of_selects (args := #[]) (mvT hZ (w_ hw 59 rfl))) (mvT hZ (w_ hw 59 rfl)) (mvT hZ (w_ hw 58 rfl)) (by decide) (backOf (W := 0) (rm9 l Z a0 hw [] x2 y2 xa2 xk2 xb2 ya2 yk2 yb2 cs h0 n0 Z0 Ex2 Fvx2 Fcx2 Vx2 Ey2 Fvy2 Fcy2 Vy2 S_cs hcs nq2) hZ (w_ hw 60 rfl) (w_ hw 5 rfl) (by decide) (by decide)) q15a q15c (g := (mkF m 52 #[rv o0, rv o1] [.ref y2, .ref x2])) rfl (by rw [hml]; rfl) (Steps.refl _) (argsL := [(.ref y2)]) (rest := []) (lenOf pd_5 rfl) rfl (by show 2 * 0 + _ ≤ _; exact Nat.le_of_eq rfl) (hb hby d8_52) (fun _ _ => ⟨rfl, e14, (by decide : 0 + 0 ≤ _), (by decide : 0 + 0 ≤ _)⟩)
      dsimp only [Pt.U, Pt.locs, Pt.cells, Pt.slots] at X15 l15 y15 z15 st15 hQ15
      subst l15 y15 z15
      obtain ⟨rfl, N15q, hh15⟩ := hQ15
      have N15 := Fr.app N10 N15q
      refine own_of (fun _ k => st15.trans k) ?_
      show own_Out p e below _ (T15.setTop (mkF m 55 #[rv o0, rv o1] [.int (fse xb2 yb2 cs)]))
      by_cases hc55_16 : (fse xb2 yb2 cs) = (0 : Int32)
      · skip
        refine o_ifY X15 hx hby d8_55 ((if0 _ _).trans (teq hc55_16).1) (by decide) (q := 62) (by decide) ?_
        refine o_iconst X15 hx hby d8_62 (z := 0) rfl (q := 63) rfl ?_
        exact own_outN X15 hx hlk (t := .boolean) hret (by simp) (hb hby d8_63) (z' := (0 : Int32)) rfl (Q := Q8c Z o0 o1 x0 xa0 xk0 xb0 x1 xa1 xk1 xb1 x2 xa2 xk2 xb2 y0 ya0 yk0 yb0 y1 ya1 yk1 yb1 y2 ya2 yk2 yb2 cs h0 n0) ⟨by simp only [fqe, if_neg hcs, if_neg hc21_6, if_neg hc38_11, if_pos hc55_16], N15, hh15⟩ (by decide) (by decide)
      · skip
        refine o_ifN X15 hx hby d8_55 ((if0 _ _).trans (feq hc55_16).1) (q := 58) rfl ?_
        refine o_iconst X15 hx hby d8_58 (z := 1) rfl (q := 59) rfl ?_
        refine o_goto X15 hx hby d8_59 (by decide) (q := 63) (by decide) ?_
        exact own_outN X15 hx hlk (t := .boolean) hret (by simp) (hb hby d8_63) (z' := (1 : Int32)) rfl (Q := Q8c Z o0 o1 x0 xa0 xk0 xb0 x1 xa1 xk1 xb1 x2 xa2 xk2 xb2 y0 ya0 yk0 yb0 y1 ya1 yk1 yb1 y2 ya2 yk2 yb2 cs h0 n0) ⟨by simp only [fqe, if_neg hcs, if_neg hc21_6, if_neg hc38_11, if_neg hc55_16], N15, hh15⟩ (by decide) (by decide)
theorem own_notSub {Z : State} {a0 : Array Value} {K : String} {n : Nat} (w1 : (Jvm.Cond.superclass "java/lang/String" "java/lang/Object").before a0 Z = true) (w0 : (Jvm.Cond.noSuperclass "java/lang/Object").before a0 Z = true) (wk : (Jvm.Cond.instantiable K n).before a0 Z = true) (h1 : "java/lang/String" ≠ K) (h2 : "java/lang/Object" ≠ K) : ∃ c t, Z.vm.findClass "java/lang/String" = some c ∧ Z.vm.findClass K = some t ∧ Z.vm.assignable c t = false := by
  obtain ⟨t, kt, g1, g2, g3, g4, -⟩ := Cond.instantiable_spec wk
  obtain ⟨co, ko, o1, o2, o3, -, -⟩ := Cond.noSuperclass_spec w0
  obtain ⟨c, hc⟩ := found_sup w1
  obtain ⟨p, k, kp, a1, a2, a3, a4, a5, a6, a7⟩ := Cond.superclass_spec hc w1
  cases o1.symm.trans a1
  have ne1 := ids_ne hc g1 h1
  have ne2 := ids_ne o1 g1 h2
  have gi : kt.isInterface = false := by simp only [Bool.or_eq_false_iff] at g4; exact g4.1
  have n3 : ∀ fuel, Z.vm.isSubclassAux fuel c t = false := by
    intro fuel
    cases fuel with
    | zero => rfl
    | succ f => cases f with
      | zero => simp [Vm.isSubclassAux, ne1, a2, a4]
      | succ f => simp [Vm.isSubclassAux, ne1, ne2, a2, a4, o2, o3]
  refine ⟨c, t, hc, g1, ?_⟩
  show Z.vm.assignableAux (255 + 1) c t = false
  simp [Vm.assignableAux, ne1, a2, g2, a5, g3, gi, Vm.isSubclass, n3]
theorem ef_8s (m : MethodId) (x0 : Addr) (x1 : Addr) : entryFrame m #[(.ref x0), (.ref x1)] 2 = mkF m 0 #[.val (.ref x0), .val (.ref x1)] [] := by first | (simp [entryFrame, mkF, argsToLocals, Value.category]; done) | rfl
def Q8s (Z : State) (o0 : Addr) (o1 : Addr) (h0 : Heap) (n0 : Nat) (v : Option Value) (h : Heap) (L : List Loc) : Prop := v = some (.int (0 : Int32)) ∧ Fr n0 L ∧ h = h0
set_option maxRecDepth 65536 in
set_option maxHeartbeats 40000000 in
theorem rm8s (l : Launch) (Z : State) (a0 : Array Value) (hw : ∀ d ∈ tables_1, d.before a0 Z = true) (ws : List Jvm.Cond) (o0 : Addr) (o1 : Addr) (h0 : Heap) (n0 : Nat) (Z0 : n0 ≤ h0.size) (E1 : Exa Z h0 o1 "java/lang/String") :
    MetFree l (⟨"com/example/collector_urchin/collectorurchin/store/Credential", "equals", "(Ljava/lang/Object;)Z"⟩ : MethodName) (head1 (Jvm.Cond.code (⟨"com/example/collector_urchin/collectorurchin/store/Credential", "equals", "(Ljava/lang/Object;)Z"⟩ : MethodName) prog_7_method_5_code 2 (some .boolean) :: ws) ({ frames := 0, cells := 0, slots := 0, locals := 0 } : Room)) (fun a U => a = #[(.ref o0), (.ref o1)] ∧ Z.Warmed39 U.vm ∧ U.heap = h0) (fun _ _ _ _ _ => True) (fun _ U o U' => ∃ v L, o = .returned v ∧ Q8s Z o0 o1 h0 n0 v U'.heap L ∧ FrameEnd U o U' L ({ frames := 0, cells := 0, slots := 0, locals := 0 } : Room).cells ({ frames := 0, cells := 0, slots := 0, locals := 0 } : Room).slots) := by
  refine MetFree.of_bodySF (plainFor_of_name pn_3) hisR ?_
  intro p e s m args below meth c s₁ Bd hml0 hP hK
  obtain ⟨rfl, hZ, hh⟩ := hP
  have hx := Bd.exec
  have hby := Bd.bytes
  have hml : c.maxLocals = 2 := hml0
  have hown : s.vm.findClass "com/example/collector_urchin/collectorurchin/store/Credential" = some m.cls := findClass_of_methodNamed Bd.named
  have hnm := (name_of_methodNamed Bd.named Bd.method).1
  have X0 : Stand p l e ({ frames := 0, cells := 0, slots := 0, locals := 0 } : Room) s m #[(.ref o0), (.ref o1)] below meth c s₁ [] 0 0 := Stand.of_body Bd
  have e0 : s₁.heap = h0 := by rw [← hh, Bd.state]; rfl
  have N0 := Fr.nil n0
  have hret := Bd.returns
  have hlk := BodyLoose.notSynchronized Bd
  show own_Out p e below (fun o U' => ∃ v L, o = .returned v ∧ Q8s Z o0 o1 h0 n0 v U'.heap L ∧ FrameEnd s o U' L ({ frames := 0, cells := 0, slots := 0, locals := 0 } : Room).cells ({ frames := 0, cells := 0, slots := 0, locals := 0 } : Room).slots) (s₁.setTop (entryFrame m #[(.ref o0), (.ref o1)] 2))
  refine own_of (fun t k => castTop (ef_8s m o0 o1) k) ?_
  show own_Out p e below _ (s₁.setTop (mkF m 0 #[rv o0, rv o1] []))
  refine o_aloadN X0 hx hby d8_0 rfl rfl (q := 1) rfl ?_
  obtain ⟨T1, X1, e1, st1⟩ := instNo X0 hx hZ hown (w_ hw 54 rfl) e0 E1 (own_notSub (w_ hw 64 rfl) (w_ hw 65 rfl) (w_ hw 1 rfl) (by decide) (by decide)) (g := (mkF m 1 #[rv o0, rv o1] [.ref o1])) rfl rfl (hb hby d8_1)
  refine own_of st1 ?_
  show own_Out p e below _ (T1.setTop (mkF m 4 #[rv o0, rv o1] [.int 0]))
  refine o_ifY X1 hx hby d8_4 ((if0 _ _).trans (teq (by decide : (0 : Int32) = (0 : Int32))).1) (by decide) (q := 62) (by decide) ?_
  refine o_iconst X1 hx hby d8_62 (z := 0) rfl (q := 63) rfl ?_
  exact own_outN X1 hx hlk (t := .boolean) hret (by simp) (hb hby d8_63) (z' := (0 : Int32)) rfl (Q := Q8s Z o0 o1 h0 n0) ⟨rfl, N0, e1⟩ (by decide) (by decide)
theorem ef_8n (m : MethodId) (x0 : Addr) : entryFrame m #[(.ref x0), .null] 2 = mkF m 0 #[.val (.ref x0), .val .null] [] := by first | (simp [entryFrame, mkF, argsToLocals, Value.category]; done) | rfl
def Q8n (Z : State) (o0 : Addr) (h0 : Heap) (n0 : Nat) (v : Option Value) (h : Heap) (L : List Loc) : Prop := v = some (.int (0 : Int32)) ∧ Fr n0 L ∧ h = h0
set_option maxRecDepth 65536 in
set_option maxHeartbeats 40000000 in
theorem rm8n (l : Launch) (Z : State) (a0 : Array Value) (hw : ∀ d ∈ tables_1, d.before a0 Z = true) (ws : List Jvm.Cond) (o0 : Addr) (h0 : Heap) (n0 : Nat) (Z0 : n0 ≤ h0.size) :
    MetFree l (⟨"com/example/collector_urchin/collectorurchin/store/Credential", "equals", "(Ljava/lang/Object;)Z"⟩ : MethodName) (head1 (Jvm.Cond.code (⟨"com/example/collector_urchin/collectorurchin/store/Credential", "equals", "(Ljava/lang/Object;)Z"⟩ : MethodName) prog_7_method_5_code 2 (some .boolean) :: ws) ({ frames := 0, cells := 0, slots := 0, locals := 0 } : Room)) (fun a U => a = #[(.ref o0), .null] ∧ Z.Warmed39 U.vm ∧ U.heap = h0) (fun _ _ _ _ _ => True) (fun _ U o U' => ∃ v L, o = .returned v ∧ Q8n Z o0 h0 n0 v U'.heap L ∧ FrameEnd U o U' L ({ frames := 0, cells := 0, slots := 0, locals := 0 } : Room).cells ({ frames := 0, cells := 0, slots := 0, locals := 0 } : Room).slots) := by
  refine MetFree.of_bodySF (plainFor_of_name pn_3) hisR ?_
  intro p e s m args below meth c s₁ Bd hml0 hP hK
  obtain ⟨rfl, hZ, hh⟩ := hP
  have hx := Bd.exec
  have hby := Bd.bytes
  have hml : c.maxLocals = 2 := hml0
  have hown : s.vm.findClass "com/example/collector_urchin/collectorurchin/store/Credential" = some m.cls := findClass_of_methodNamed Bd.named
  have hnm := (name_of_methodNamed Bd.named Bd.method).1
  have X0 : Stand p l e ({ frames := 0, cells := 0, slots := 0, locals := 0 } : Room) s m #[(.ref o0), .null] below meth c s₁ [] 0 0 := Stand.of_body Bd
  have e0 : s₁.heap = h0 := by rw [← hh, Bd.state]; rfl
  have N0 := Fr.nil n0
  have hret := Bd.returns
  have hlk := BodyLoose.notSynchronized Bd
  show own_Out p e below (fun o U' => ∃ v L, o = .returned v ∧ Q8n Z o0 h0 n0 v U'.heap L ∧ FrameEnd s o U' L ({ frames := 0, cells := 0, slots := 0, locals := 0 } : Room).cells ({ frames := 0, cells := 0, slots := 0, locals := 0 } : Room).slots) (s₁.setTop (entryFrame m #[(.ref o0), .null] 2))
  refine own_of (fun t k => castTop (ef_8n m o0) k) ?_
  show own_Out p e below _ (s₁.setTop (mkF m 0 #[rv o0, .val (.null)] []))
  refine o_aloadN X0 hx hby d8_0 rfl rfl (q := 1) rfl ?_
  refine own_of (X0.instanceofNull hx (g := (mkF m 1 #[rv o0, .val (.null)] [.null])) rfl rfl (hb hby d8_1)) ?_
  show own_Out p e below _ (s₁.setTop (mkF m 4 #[rv o0, .val (.null)] [.int 0]))
  refine o_ifY X0 hx hby d8_4 ((if0 _ _).trans (teq (by decide : (0 : Int32) = (0 : Int32))).1) (by decide) (q := 62) (by decide) ?_
  refine o_iconst X0 hx hby d8_62 (z := 0) rfl (q := 63) rfl ?_
  exact own_outN X0 hx hlk (t := .boolean) hret (by simp) (hb hby d8_63) (z' := (0 : Int32)) rfl (Q := Q8n Z o0 h0 n0) ⟨rfl, N0, e0⟩ (by decide) (by decide)
theorem own_b (c : Int32) (h0 : ¬ c < (0 : Int32)) (h1 : ¬ ((255 : Int32) < c)) (d : Int32) (g0 : ¬ d < (0 : Int32)) (g1 : ¬ ((255 : Int32) < d)) : ((c.toInt8.toInt32).toInt8.toInt32) = ((d.toInt8.toInt32).toInt8.toInt32) ↔ c = d := by
  have n255 : (255 : Int32).toInt = 255 := rfl
  have n0 : (0 : Int32).toInt = 0 := rfl
  rw [Int32.lt_iff_toInt_lt] at h0 h1 g0 g1
  have a1 := c_i2b c; have a2 := c_i2b (c.toInt8.toInt32); have b1 := c_i2b d; have b2 := c_i2b (d.toInt8.toInt32)
  refine ⟨fun q => Int32.toInt_inj.mp ?_, fun q => by rw [q]⟩
  have q' := Int32.toInt_inj.mpr q
  omega

theorem pd_6 : parseMethodDescriptor "(C)Ljava/lang/String;" = some ⟨[.char], some (.object "java/lang/String")⟩ := by decide +kernel
theorem pd_7 : parseMethodDescriptor "(Ljava/lang/String;Ljava/lang/String;Ljava/lang/String;)V" = some ⟨[(.object "java/lang/String"), (.object "java/lang/String"), (.object "java/lang/String")], none⟩ := by decide +kernel
theorem sg91_dead0 (p0 : Int32) (p1 : Int32) (p2 : Int32) (ia : Int32) (ua : Int32) (ka : Int32) (ib : Int32) (ub : Int32) (kb : Int32) (cs : Int32) (hcs : ¬ (cs = (0 : Int32))) (s_ia : ¬ ((255 : Int32) < ia)) (s_ua : ¬ ((255 : Int32) < ua)) (s_ka : ¬ ((255 : Int32) < ka)) (s_ib : ¬ ((255 : Int32) < ib)) (s_ub : ¬ ((255 : Int32) < ub)) (s_kb : ¬ ((255 : Int32) < kb)) (z_ia : ¬ (ia < (0 : Int32))) (z_ua : ¬ (ua < (0 : Int32))) (z_ka : ¬ (ka < (0 : Int32))) (z_ib : ¬ (ib < (0 : Int32))) (z_ub : ¬ (ub < (0 : Int32))) (z_kb : ¬ (kb < (0 : Int32))) (hc147_39 : (((p2.toUInt32 >>> ((3 : Int32) &&& 31).toUInt32).toInt32) &&& (3 : Int32)) = (0 : Int32)) (hc153_40 : ia = ib) (hc160_41 : ua = ub) (hc167_42 : ka = kb) (hc186_74 : ¬ ((fqe ((ia.toInt8.toInt32).toInt8.toInt32) ((ua.toInt8.toInt32).toInt8.toInt32) ((ka.toInt8.toInt32).toInt8.toInt32) ((ib.toInt8.toInt32).toInt8.toInt32) ((ub.toInt8.toInt32).toInt8.toInt32) ((kb.toInt8.toInt32).toInt8.toInt32) cs) = (1 : Int32))) : False := by
  have e0 := own_b ia z_ia s_ia ib z_ib s_ib
  have g0 := own_b ib z_ib s_ib ia z_ia s_ia
  have e1 := own_b ua z_ua s_ua ub z_ub s_ub
  have g1 := own_b ub z_ub s_ub ua z_ua s_ua
  have e2 := own_b ka z_ka s_ka kb z_kb s_kb
  have g2 := own_b kb z_kb s_kb ka z_ka s_ka
  apply hc186_74
  simp only [fqe, fse, fl1, e0, e1, e2, g0, g1, g2]
  by_cases q0 : ia = ib <;> by_cases q1 : ua = ub <;> by_cases q2 : ka = kb <;> simp_all [eq_comm]
theorem sg91_dead1 (p0 : Int32) (p1 : Int32) (p2 : Int32) (ia : Int32) (ua : Int32) (ka : Int32) (ib : Int32) (ub : Int32) (kb : Int32) (cs : Int32) (hcs : ¬ (cs = (0 : Int32))) (s_ia : ¬ ((255 : Int32) < ia)) (s_ua : ¬ ((255 : Int32) < ua)) (s_ka : ¬ ((255 : Int32) < ka)) (s_ib : ¬ ((255 : Int32) < ib)) (s_ub : ¬ ((255 : Int32) < ub)) (s_kb : ¬ ((255 : Int32) < kb)) (z_ia : ¬ (ia < (0 : Int32))) (z_ua : ¬ (ua < (0 : Int32))) (z_ka : ¬ (ka < (0 : Int32))) (z_ib : ¬ (ib < (0 : Int32))) (z_ub : ¬ (ub < (0 : Int32))) (z_kb : ¬ (kb < (0 : Int32))) (hc147_39 : (((p2.toUInt32 >>> ((3 : Int32) &&& 31).toUInt32).toInt32) &&& (3 : Int32)) = (0 : Int32)) (hc153_40 : ia = ib) (hc160_41 : ua = ub) (hc167_42 : ¬ (ka = kb)) (hc186_106 : ¬ ((fqe ((ia.toInt8.toInt32).toInt8.toInt32) ((ua.toInt8.toInt32).toInt8.toInt32) ((ka.toInt8.toInt32).toInt8.toInt32) ((ib.toInt8.toInt32).toInt8.toInt32) ((ub.toInt8.toInt32).toInt8.toInt32) ((kb.toInt8.toInt32).toInt8.toInt32) cs) = (0 : Int32))) : False := by
  have e0 := own_b ia z_ia s_ia ib z_ib s_ib
  have g0 := own_b ib z_ib s_ib ia z_ia s_ia
  have e1 := own_b ua z_ua s_ua ub z_ub s_ub
  have g1 := own_b ub z_ub s_ub ua z_ua s_ua
  have e2 := own_b ka z_ka s_ka kb z_kb s_kb
  have g2 := own_b kb z_kb s_kb ka z_ka s_ka
  apply hc186_106
  simp only [fqe, fse, fl1, e0, e1, e2, g0, g1, g2]
  by_cases q0 : ia = ib <;> by_cases q1 : ua = ub <;> by_cases q2 : ka = kb <;> simp_all [eq_comm]
theorem sg91_dead2 (p0 : Int32) (p1 : Int32) (p2 : Int32) (ia : Int32) (ua : Int32) (ka : Int32) (ib : Int32) (ub : Int32) (kb : Int32) (cs : Int32) (hcs : ¬ (cs = (0 : Int32))) (s_ia : ¬ ((255 : Int32) < ia)) (s_ua : ¬ ((255 : Int32) < ua)) (s_ka : ¬ ((255 : Int32) < ka)) (s_ib : ¬ ((255 : Int32) < ib)) (s_ub : ¬ ((255 : Int32) < ub)) (s_kb : ¬ ((255 : Int32) < kb)) (z_ia : ¬ (ia < (0 : Int32))) (z_ua : ¬ (ua < (0 : Int32))) (z_ka : ¬ (ka < (0 : Int32))) (z_ib : ¬ (ib < (0 : Int32))) (z_ub : ¬ (ub < (0 : Int32))) (z_kb : ¬ (kb < (0 : Int32))) (hc147_39 : (((p2.toUInt32 >>> ((3 : Int32) &&& 31).toUInt32).toInt32) &&& (3 : Int32)) = (0 : Int32)) (hc153_40 : ia = ib) (hc160_41 : ¬ (ua = ub)) (hc186_138 : ¬ ((fqe ((ia.toInt8.toInt32).toInt8.toInt32) ((ua.toInt8.toInt32).toInt8.toInt32) ((ka.toInt8.toInt32).toInt8.toInt32) ((ib.toInt8.toInt32).toInt8.toInt32) ((ub.toInt8.toInt32).toInt8.toInt32) ((kb.toInt8.toInt32).toInt8.toInt32) cs) = (0 : Int32))) : False := by
  have e0 := own_b ia z_ia s_ia ib z_ib s_ib
  have g0 := own_b ib z_ib s_ib ia z_ia s_ia
  have e1 := own_b ua z_ua s_ua ub z_ub s_ub
  have g1 := own_b ub z_ub s_ub ua z_ua s_ua
  have e2 := own_b ka z_ka s_ka kb z_kb s_kb
  have g2 := own_b kb z_kb s_kb ka z_ka s_ka
  apply hc186_138
  simp only [fqe, fse, fl1, e0, e1, e2, g0, g1, g2]
  by_cases q0 : ia = ib <;> by_cases q1 : ua = ub <;> by_cases q2 : ka = kb <;> simp_all [eq_comm]
theorem sg91_dead3 (p0 : Int32) (p1 : Int32) (p2 : Int32) (ia : Int32) (ua : Int32) (ka : Int32) (ib : Int32) (ub : Int32) (kb : Int32) (cs : Int32) (hcs : ¬ (cs = (0 : Int32))) (s_ia : ¬ ((255 : Int32) < ia)) (s_ua : ¬ ((255 : Int32) < ua)) (s_ka : ¬ ((255 : Int32) < ka)) (s_ib : ¬ ((255 : Int32) < ib)) (s_ub : ¬ ((255 : Int32) < ub)) (s_kb : ¬ ((255 : Int32) < kb)) (z_ia : ¬ (ia < (0 : Int32))) (z_ua : ¬ (ua < (0 : Int32))) (z_ka : ¬ (ka < (0 : Int32))) (z_ib : ¬ (ib < (0 : Int32))) (z_ub : ¬ (ub < (0 : Int32))) (z_kb : ¬ (kb < (0 : Int32))) (hc147_39 : (((p2.toUInt32 >>> ((3 : Int32) &&& 31).toUInt32).toInt32) &&& (3 : Int32)) = (0 : Int32)) (hc153_40 : ¬ (ia = ib)) (hc186_170 : ¬ ((fqe ((ia.toInt8.toInt32).toInt8.toInt32) ((ua.toInt8.toInt32).toInt8.toInt32) ((ka.toInt8.toInt32).toInt8.toInt32) ((ib.toInt8.toInt32).toInt8.toInt32) ((ub.toInt8.toInt32).toInt8.toInt32) ((kb.toInt8.toInt32).toInt8.toInt32) cs) = (0 : Int32))) : False := by
  have e0 := own_b ia z_ia s_ia ib z_ib s_ib
  have g0 := own_b ib z_ib s_ib ia z_ia s_ia
  have e1 := own_b ua z_ua s_ua ub z_ub s_ub
  have g1 := own_b ub z_ub s_ub ua z_ua s_ua
  have e2 := own_b ka z_ka s_ka kb z_kb s_kb
  have g2 := own_b kb z_kb s_kb ka z_ka s_ka
  apply hc186_170
  simp only [fqe, fse, fl1, e0, e1, e2, g0, g1, g2]
  by_cases q0 : ia = ib <;> by_cases q1 : ua = ub <;> by_cases q2 : ka = kb <;> simp_all [eq_comm]
theorem sg91_dead4 (p0 : Int32) (p1 : Int32) (p2 : Int32) (ia : Int32) (ua : Int32) (ka : Int32) (ib : Int32) (ub : Int32) (kb : Int32) (cs : Int32) (hcs : ¬ (cs = (0 : Int32))) (s_ia : ¬ ((255 : Int32) < ia)) (s_ua : ¬ ((255 : Int32) < ua)) (s_ka : ¬ ((255 : Int32) < ka)) (s_ib : ¬ ((255 : Int32) < ib)) (s_ub : ¬ ((255 : Int32) < ub)) (s_kb : ¬ ((255 : Int32) < kb)) (z_ia : ¬ (ia < (0 : Int32))) (z_ua : ¬ (ua < (0 : Int32))) (z_ka : ¬ (ka < (0 : Int32))) (z_ib : ¬ (ib < (0 : Int32))) (z_ub : ¬ (ub < (0 : Int32))) (z_kb : ¬ (kb < (0 : Int32))) (hc147_39 : ¬ ((((p2.toUInt32 >>> ((3 : Int32) &&& 31).toUInt32).toInt32) &&& (3 : Int32)) = (0 : Int32))) (hc198_171 : ¬ ((((p2.toUInt32 >>> ((3 : Int32) &&& 31).toUInt32).toInt32) &&& (3 : Int32)) = (1 : Int32))) (hc226_179 : ¬ ((((p2.toUInt32 >>> ((3 : Int32) &&& 31).toUInt32).toInt32) &&& (3 : Int32)) = (2 : Int32))) (hc258_215 : ¬ ((fqe ((ia.toInt8.toInt32).toInt8.toInt32) ((ua.toInt8.toInt32).toInt8.toInt32) ((ka.toInt8.toInt32).toInt8.toInt32) ((ib.toInt8.toInt32).toInt8.toInt32) ((ub.toInt8.toInt32).toInt8.toInt32) ((kb.toInt8.toInt32).toInt8.toInt32) cs) = (fqe ((ib.toInt8.toInt32).toInt8.toInt32) ((ub.toInt8.toInt32).toInt8.toInt32) ((kb.toInt8.toInt32).toInt8.toInt32) ((ia.toInt8.toInt32).toInt8.toInt32) ((ua.toInt8.toInt32).toInt8.toInt32) ((ka.toInt8.toInt32).toInt8.toInt32) cs))) : False := by
  have e0 := own_b ia z_ia s_ia ib z_ib s_ib
  have g0 := own_b ib z_ib s_ib ia z_ia s_ia
  have e1 := own_b ua z_ua s_ua ub z_ub s_ub
  have g1 := own_b ub z_ub s_ub ua z_ua s_ua
  have e2 := own_b ka z_ka s_ka kb z_kb s_kb
  have g2 := own_b kb z_kb s_kb ka z_ka s_ka
  apply hc258_215
  simp only [fqe, fse, fl1, e0, e1, e2, g0, g1, g2]
  by_cases q0 : ia = ib <;> by_cases q1 : ua = ub <;> by_cases q2 : ka = kb <;> simp_all [eq_comm]
set_option maxRecDepth 65536 in
set_option maxHeartbeats 40000000 in
theorem sg91 {p : Program} {l : Launch} {e : Env} {s : State} {m : MethodId} {args : Array Value} {below : List Frame} {meth : Method} {c : Code} {T0 : State} {locs : List Loc} {Z : State} {a0 : Array Value} {Q : Option Value → Heap → List Loc → Prop} (p0 : Int32) (p1 : Int32) (p2 : Int32) (ia : Int32) (ua : Int32) (ka : Int32) (ib : Int32) (ub : Int32) (kb : Int32) (cs : Int32) (h0 : Heap) (n0 : Nat)
    (X0 : Stand p l e room_1 s m args below meth c T0 locs 0 0) (hx : p.tables.exec = Jvm.exec) (hZ : Z.Warmed39 s.vm) (hw : ∀ d ∈ tables_1, d.before a0 Z = true) (hby : c.code = code) (hml : c.maxLocals = 13) (hown : s.vm.findClass "com/example/collector_urchin/collectorurchin/store/CredentialEqualsPinLaw" = some m.cls) (hret : meth.sig.returnType = ret) (hlk : meth.locks = false)
    (hQ : ∀ h L, Fr n0 L → Q (some (.int 1)) h L) (e0 : T0.heap = h0) (Z0 : n0 ≤ h0.size) (N0 : Fr n0 locs) (S_cs : Sta Z h0 "java/lang/String" "COMPACT_STRINGS" "Z" (.int cs)) (hcs : ¬ (cs = (0 : Int32))) (s_ia : ¬ ((255 : Int32) < ia)) (s_ua : ¬ ((255 : Int32) < ua)) (s_ka : ¬ ((255 : Int32) < ka)) (s_ib : ¬ ((255 : Int32) < ib)) (s_ub : ¬ ((255 : Int32) < ub)) (s_kb : ¬ ((255 : Int32) < kb)) (z_ia : ¬ (ia < (0 : Int32))) (z_ua : ¬ (ua < (0 : Int32))) (z_ka : ¬ (ka < (0 : Int32))) (z_ib : ¬ (ib < (0 : Int32))) (z_ub : ¬ (ub < (0 : Int32))) (z_kb : ¬ (kb < (0 : Int32))) :
    own_Out p e below (fun o U' => ∃ v L, o = .returned v ∧ Q v U'.heap L ∧ ReturnedEndW s o U' L 40 400) (T0.setTop (mkF m 91 #[.val (.int p0), .val (.int p1), .val (.int p2), .val (.int ia), .val (.int ua), .val (.int ka), .val (.int ib), .val (.int ub), .val (.int kb), .unset, .unset, .unset, .unset] [])) := by
  show own_Out p e below _ (T0.setTop (mkF m 91 #[iv p0, iv p1, iv p2, iv ia, iv ua, iv ka, iv ib, iv ub, iv kb, .unset, .unset, .unset, .unset] []))
  obtain ⟨T1, h1, X1, e1, E1, A1, D1, -, st1⟩ := newO X0 hx hZ hown (w_ hw 0 rfl) (w_ hw 1 rfl) (w_ hw 2 rfl) e0 (g := (mkF m 91 #[iv p0, iv p1, iv p2, iv ia, iv ua, iv ka, iv ib, iv ub, iv kb, .unset, .unset, .unset, .unset] [])) rfl (hb hby at_91) (by decide) (by decide)
  obtain ⟨b1, g1⟩ : ∃ z, z = h0.size := ⟨_, rfl⟩
  rw [← g1] at A1 D1 st1
  have g_b1 : n0 ≤ b1 := Nat.le_trans Z0 (Nat.le_of_eq g1.symm)
  have F_b1_id : Fld Z h1 b1 "com/example/collector_urchin/collectorurchin/store/Credential" "id" "Ljava/lang/String;" .null := D1 (Or.inr (w_ hw 42 rfl)) (ty := (.object "java/lang/String")) (by decide)
  have F_b1_user : Fld Z h1 b1 "com/example/collector_urchin/collectorurchin/store/Credential" "user" "Ljava/lang/String;" .null := D1 (Or.inr (w_ hw 45 rfl)) (ty := (.object "java/lang/String")) (by decide)
  have F_b1_key : Fld Z h1 b1 "com/example/collector_urchin/collectorurchin/store/Credential" "key" "Ljava/lang/String;" .null := D1 (Or.inr (w_ hw 48 rfl)) (ty := (.object "java/lang/String")) (by decide)
  refine own_of st1 ?_
  show own_Out p e below _ (T1.setTop (mkF m 94 #[iv p0, iv p1, iv p2, iv ia, iv ua, iv ka, iv ib, iv ub, iv kb, .unset, .unset, .unset, .unset] [.ref b1]))
  refine o_dup X1 hx hby at_94 rfl (q := 95) rfl ?_
  refine o_iloadN X1 hx hby at_95 rfl (q := 96) rfl ?_
  have q3 := (S_cs.ext E1)
  have q4 := (Nat.le_trans Z0 E1.1)
  obtain ⟨_, _, ⟨T2, L2, k2, n2⟩, -, X2, ⟨Lc2, hQ2, l2, y2, z2⟩, st2⟩ := Jvm.LawKit.callS X1 hx (y := (⟨"java/lang/String", "valueOf", "(C)Ljava/lang/String;"⟩ : MethodName)) hown (mvT hZ (w_ hw 3 rfl)) (mvT hZ (w_ hw 4 rfl)) (mvT hZ (w_ hw 5 rfl)) (mvT hZ (w_ hw 6 rfl)) (by decide) (backOf (W := 2) (rm1l l Z a0 hw [] ia cs h1 n0 q4 q3 hcs s_ia) hZ (w_ hw 6 rfl) (w_ hw 5 rfl) (by decide) (by decide)) (g := (mkF m 96 #[iv p0, iv p1, iv p2, iv ia, iv ua, iv ka, iv ib, iv ub, iv kb, .unset, .unset, .unset, .unset] [.int ia, .ref b1, .ref b1])) rfl (by rw [hml]; rfl) (argsL := [(.int ia)]) (rest := [(.ref b1), (.ref b1)]) (lenOf pd_6 rfl) rfl (by show 2 * 0 + _ ≤ _; exact Nat.le_of_eq rfl) (hb hby at_96) (fun _ _ => ⟨rfl, e1, (by decide : 1 + 2 ≤ _), (by decide : 3 + 5 ≤ _)⟩)
  dsimp only [Pt.U, Pt.locs, Pt.cells, Pt.slots] at X2 l2 y2 z2 st2 hQ2
  subst l2 y2 z2
  obtain ⟨r2, b2, k2, rfl, N2q, K2, E2, Fv2, Fc2, V2, hgr_2, hsr_2, hgb_2, hsb_2, hnrb_2⟩ := hQ2
  have N2 := Fr.app N0 N2q
  refine own_of st2 ?_
  show own_Out p e below _ (T2.setTop (mkF m 99 #[iv p0, iv p1, iv p2, iv ia, iv ua, iv ka, iv ib, iv ub, iv kb, .unset, .unset, .unset, .unset] [.ref r2, .ref b1, .ref b1]))
  refine o_iload X2 hx hby at_99 rfl (q := 101) rfl ?_
  have q6 := (own_staK0 q3 K2)
  have q7 := (Nat.le_trans q4 K2.1)
  obtain ⟨_, _, ⟨T5, L5, k5, n5⟩, -, X5, ⟨Lc5, hQ5, l5, y5, z5⟩, st5⟩ := Jvm.LawKit.callS X2 hx (y := (⟨"java/lang/String", "valueOf", "(C)Ljava/lang/String;"⟩ : MethodName)) hown (mvT hZ (w_ hw 3 rfl)) (mvT hZ (w_ hw 4 rfl)) (mvT hZ (w_ hw 5 rfl)) (mvT hZ (w_ hw 6 rfl)) (by decide) (backOf (W := 3) (rm1l l Z a0 hw [] ua cs T2.heap n0 q7 q6 hcs s_ua) hZ (w_ hw 6 rfl) (w_ hw 5 rfl) (by decide) (by decide)) (g := (mkF m 101 #[iv p0, iv p1, iv p2, iv ia, iv ua, iv ka, iv ib, iv ub, iv kb, .unset, .unset, .unset, .unset] [.int ua, .ref r2, .ref b1, .ref b1])) rfl (by rw [hml]; rfl) (argsL := [(.int ua)]) (rest := [(.ref r2), (.ref b1), (.ref b1)]) (lenOf pd_6 rfl) rfl (by show 2 * 0 + _ ≤ _; exact Nat.le_of_eq rfl) (hb hby at_101) (fun _ _ => ⟨rfl, rfl, (by decide : 3 + 2 ≤ _), (by decide : 8 + 5 ≤ _)⟩)
  dsimp only [Pt.U, Pt.locs, Pt.cells, Pt.slots] at X5 l5 y5 z5 st5 hQ5
  subst l5 y5 z5
  obtain ⟨r5, b5, k5, rfl, N5q, K5, E5, Fv5, Fc5, V5, hgr_5, hsr_5, hgb_5, hsb_5, hnrb_5⟩ := hQ5
  have N5 := Fr.app N2 N5q
  refine own_of st5 ?_
  show own_Out p e below _ (T5.setTop (mkF m 104 #[iv p0, iv p1, iv p2, iv ia, iv ua, iv ka, iv ib, iv ub, iv kb, .unset, .unset, .unset, .unset] [.ref r5, .ref r2, .ref b1, .ref b1]))
  refine o_iload X5 hx hby at_104 rfl (q := 106) rfl ?_
  have q9 := (own_staK0 q6 K5)
  have q10 := (Nat.le_trans q7 K5.1)
  obtain ⟨_, _, ⟨T8, L8, k8, n8⟩, -, X8, ⟨Lc8, hQ8, l8, y8, z8⟩, st8⟩ := Jvm.LawKit.callS X5 hx (y := (⟨"java/lang/String", "valueOf", "(C)Ljava/lang/String;"⟩ : MethodName)) hown (mvT hZ (w_ hw 3 rfl)) (mvT hZ (w_ hw 4 rfl)) (mvT hZ (w_ hw 5 rfl)) (mvT hZ (w_ hw 6 rfl)) (by decide) (backOf (W := 4) (rm1l l Z a0 hw [] ka cs T5.heap n0 q10 q9 hcs s_ka) hZ (w_ hw 6 rfl) (w_ hw 5 rfl) (by decide) (by decide)) (g := (mkF m 106 #[iv p0, iv p1, iv p2, iv ia, iv ua, iv ka, iv ib, iv ub, iv kb, .unset, .unset, .unset, .unset] [.int ka, .ref r5, .ref r2, .ref b1, .ref b1])) rfl (by rw [hml]; rfl) (argsL := [(.int ka)]) (rest := [(.ref r5), (.ref r2), (.ref b1), (.ref b1)]) (lenOf pd_6 rfl) rfl (by show 2 * 0 + _ ≤ _; exact Nat.le_of_eq rfl) (hb hby at_106) (fun _ _ => ⟨rfl, rfl, (by decide : 5 + 2 ≤ _), (by decide : 13 + 5 ≤ _)⟩)
  dsimp only [Pt.U, Pt.locs, Pt.cells, Pt.slots] at X8 l8 y8 z8 st8 hQ8
  subst l8 y8 z8
  obtain ⟨r8, b8, k8, rfl, N8q, K8, E8, Fv8, Fc8, V8, hgr_8, hsr_8, hgb_8, hsb_8, hnrb_8⟩ := hQ8
  have N8 := Fr.app N5 N8q
  refine own_of st8 ?_
  show own_Out p e below _ (T8.setTop (mkF m 109 #[iv p0, iv p1, iv p2, iv ia, iv ua, iv ka, iv ib, iv ub, iv kb, .unset, .unset, .unset, .unset] [.ref r8, .ref r5, .ref r2, .ref b1, .ref b1]))
  have q12 := (((A1.keep K2).keep K5).keep K8)
  have q13 := (((F_b1_id.keep K2 nin0).keep K5 nin0).keep K8 nin0)
  have q14 := (((F_b1_user.keep K2 nin0).keep K5 nin0).keep K8 nin0)
  have q15 := (((F_b1_key.keep K2 nin0).keep K5 nin0).keep K8 nin0)
  have q16 := ((E2.keep K5).keep K8)
  have q17 := (E5.keep K8)
  have q18 := (Nat.le_trans q10 K8.1)
  obtain ⟨_, _, ⟨T11, L11, k11, n11⟩, -, X11, Sn11, gz11, ⟨Lc11, hQ11, l11, y11, z11⟩, st11⟩ := X8.specialBackS hx (y := (⟨"com/example/collector_urchin/collectorurchin/store/Credential", "<init>", "(Ljava/lang/String;Ljava/lang/String;Ljava/lang/String;)V"⟩ : MethodName)) rfl hown (mvT hZ (w_ hw 29 rfl)) (mvT hZ (w_ hw 30 rfl)) (mvT hZ (w_ hw 31 rfl)) (by decide) (backOfS (W := 1) (rm6 l Z a0 hw [] b1 r2 r5 r8 T8.heap n0 q18 q12 q13 q14 q15 g_b1 q16 q17 E8) hZ (w_ hw 31 rfl) (w_ hw 2 rfl) (by decide) (by decide)) (g := (mkF m 109 #[iv p0, iv p1, iv p2, iv ia, iv ua, iv ka, iv ib, iv ub, iv kb, .unset, .unset, .unset, .unset] [.ref r8, .ref r5, .ref r2, .ref b1, .ref b1])) rfl (by rw [hml]; rfl) (Steps.refl _) (a := b1) (argsL := [(.ref r2), (.ref r5), (.ref r8)]) (rest := [(.ref b1)]) (lenOf pd_7 rfl) rfl (by show 2 * 0 + _ ≤ _; exact Nat.le_of_eq rfl) (hb hby at_109) (fun _ _ => ⟨rfl, rfl, (by decide : 7 + 6 ≤ _), (by decide : 18 + 48 ≤ _)⟩)
  dsimp only [Pt.U, Pt.locs, Pt.cells, Pt.slots] at X11 l11 y11 z11 st11 hQ11 Sn11 gz11
  subst l11 y11 z11
  have S11 : s.Since T11.vm T11.heap.size := foldS (s := s) (vm0 := s.vm) ((State.WarmedH.refl s).since 0) (Nat.zero_le _) Sn11 gz11
  have hZ11 : Z.Warmed39 (s.setVm T11.vm).vm := State.Warmed39.trans (t := s.setVm s.vm) hZ Sn11.1
  have hown11 : (s.setVm T11.vm).vm.findClass "com/example/collector_urchin/collectorurchin/store/CredentialEqualsPinLaw" = some m.cls := by rw [show (s.setVm T11.vm).vm = T11.vm from rfl, Sn11.1.alike.findClass]; exact hown
  obtain ⟨rfl, N11q, K11, E11, F11_id, F11_user, F11_key⟩ := hQ11
  have N11 := Fr.app N8 N11q
  refine own_of (fun _ k => st11.trans k) ?_
  show own_Out p e below _ (T11.setTop (mkF m 112 #[iv p0, iv p1, iv p2, iv ia, iv ua, iv ka, iv ib, iv ub, iv kb, .unset, .unset, .unset, .unset] [.ref b1]))
  refine o_astore X11 hx hby at_112 rfl (l' := #[iv p0, iv p1, iv p2, iv ia, iv ua, iv ka, iv ib, iv ub, iv kb, rv b1, .unset, .unset, .unset]) rfl (q := 114) rfl ?_
  obtain ⟨T19, h19, X19, e19, E19, A19, D19, -, st19⟩ := newO X11 hx hZ11 hown11 (w_ hw 0 rfl) (w_ hw 1 rfl) (w_ hw 2 rfl) rfl (g := (mkF m 114 #[iv p0, iv p1, iv p2, iv ia, iv ua, iv ka, iv ib, iv ub, iv kb, rv b1, .unset, .unset, .unset] [])) rfl (hb hby at_114) (by decide) (by decide)
  obtain ⟨b19, g19⟩ : ∃ z, z = T11.heap.size := ⟨_, rfl⟩
  rw [← g19] at A19 D19 st19
  have q20 := (Nat.le_trans q18 K11.1)
  have g_b19 : n0 ≤ b19 := Nat.le_trans q20 (Nat.le_of_eq g19.symm)
  have F_b19_id : Fld Z h19 b19 "com/example/collector_urchin/collectorurchin/store/Credential" "id" "Ljava/lang/String;" .null := D19 (Or.inr (w_ hw 42 rfl)) (ty := (.object "java/lang/String")) (by decide)
  have F_b19_user : Fld Z h19 b19 "com/example/collector_urchin/collectorurchin/store/Credential" "user" "Ljava/lang/String;" .null := D19 (Or.inr (w_ hw 45 rfl)) (ty := (.object "java/lang/String")) (by decide)
  have F_b19_key : Fld Z h19 b19 "com/example/collector_urchin/collectorurchin/store/Credential" "key" "Ljava/lang/String;" .null := D19 (Or.inr (w_ hw 48 rfl)) (ty := (.object "java/lang/String")) (by decide)
  refine own_of st19 ?_
  show own_Out p e below _ (T19.setTop (mkF m 117 #[iv p0, iv p1, iv p2, iv ia, iv ua, iv ka, iv ib, iv ub, iv kb, rv b1, .unset, .unset, .unset] [.ref b19]))
  refine o_dup X19 hx hby at_117 rfl (q := 118) rfl ?_
  refine o_iload X19 hx hby at_118 rfl (q := 120) rfl ?_
  have q22 := ((own_staK1 (own_staK0 q9 K8) K11 (own_plainE q12)).ext E19)
  have q23 := (Nat.le_trans q20 E19.1)
  obtain ⟨_, _, ⟨T21, L21, k21, n21⟩, -, X21, ⟨Lc21, hQ21, l21, y21, z21⟩, st21⟩ := Jvm.LawKit.callS X19 hx (y := (⟨"java/lang/String", "valueOf", "(C)Ljava/lang/String;"⟩ : MethodName)) hown11 (mvT hZ11 (w_ hw 3 rfl)) (mvT hZ11 (w_ hw 4 rfl)) (mvT hZ11 (w_ hw 5 rfl)) (mvT hZ11 (w_ hw 6 rfl)) (by decide) (backOf (W := 2) (rm1l l Z a0 hw [] ib cs h19 n0 q23 q22 hcs s_ib) hZ11 (w_ hw 6 rfl) (w_ hw 5 rfl) (by decide) (by decide)) (g := (mkF m 120 #[iv p0, iv p1, iv p2, iv ia, iv ua, iv ka, iv ib, iv ub, iv kb, rv b1, .unset, .unset, .unset] [.int ib, .ref b19, .ref b19])) rfl (by rw [hml]; rfl) (argsL := [(.int ib)]) (rest := [(.ref b19), (.ref b19)]) (lenOf pd_6 rfl) rfl (by show 2 * 0 + _ ≤ _; exact Nat.le_of_eq rfl) (hb hby at_120) (fun _ _ => ⟨rfl, e19, (by decide : 14 + 2 ≤ _), (by decide : 69 + 5 ≤ _)⟩)
  dsimp only [Pt.U, Pt.locs, Pt.cells, Pt.slots] at X21 l21 y21 z21 st21 hQ21
  subst l21 y21 z21
  obtain ⟨r21, b21, k21, rfl, N21q, K21, E21, Fv21, Fc21, V21, hgr_21, hsr_21, hgb_21, hsb_21, hnrb_21⟩ := hQ21
  have N21 := Fr.app N11 N21q
  refine own_of st21 ?_
  show own_Out p e below _ (T21.setTop (mkF m 123 #[iv p0, iv p1, iv p2, iv ia, iv ua, iv ka, iv ib, iv ub, iv kb, rv b1, .unset, .unset, .unset] [.ref r21, .ref b19, .ref b19]))
  refine o_iload X21 hx hby at_123 rfl (q := 125) rfl ?_
  have q25 := (own_staK0 q22 K21)
  have q26 := (Nat.le_trans q23 K21.1)
  obtain ⟨_, _, ⟨T24, L24, k24, n24⟩, -, X24, ⟨Lc24, hQ24, l24, y24, z24⟩, st24⟩ := Jvm.LawKit.callS X21 hx (y := (⟨"java/lang/String", "valueOf", "(C)Ljava/lang/String;"⟩ : MethodName)) hown11 (mvT hZ11 (w_ hw 3 rfl)) (mvT hZ11 (w_ hw 4 rfl)) (mvT hZ11 (w_ hw 5 rfl)) (mvT hZ11 (w_ hw 6 rfl)) (by decide) (backOf (W := 3) (rm1l l Z a0 hw [] ub cs T21.heap n0 q26 q25 hcs s_ub) hZ11 (w_ hw 6 rfl) (w_ hw 5 rfl) (by decide) (by decide)) (g := (mkF m 125 #[iv p0, iv p1, iv p2, iv ia, iv ua, iv ka, iv ib, iv ub, iv kb, rv b1, .unset, .unset, .unset] [.int ub, .ref r21, .ref b19, .ref b19])) rfl (by rw [hml]; rfl) (argsL := [(.int ub)]) (rest := [(.ref r21), (.ref b19), (.ref b19)]) (lenOf pd_6 rfl) rfl (by show 2 * 0 + _ ≤ _; exact Nat.le_of_eq rfl) (hb hby at_125) (fun _ _ => ⟨rfl, rfl, (by decide : 16 + 2 ≤ _), (by decide : 74 + 5 ≤ _)⟩)
  dsimp only [Pt.U, Pt.locs, Pt.cells, Pt.slots] at X24 l24 y24 z24 st24 hQ24
  subst l24 y24 z24
  obtain ⟨r24, b24, k24, rfl, N24q, K24, E24, Fv24, Fc24, V24, hgr_24, hsr_24, hgb_24, hsb_24, hnrb_24⟩ := hQ24
  have N24 := Fr.app N21 N24q
  refine own_of st24 ?_
  show own_Out p e below _ (T24.setTop (mkF m 128 #[iv p0, iv p1, iv p2, iv ia, iv ua, iv ka, iv ib, iv ub, iv kb, rv b1, .unset, .unset, .unset] [.ref r24, .ref r21, .ref b19, .ref b19]))
  refine o_iload X24 hx hby at_128 rfl (q := 130) rfl ?_
  have q28 := (own_staK0 q25 K24)
  have q29 := (Nat.le_trans q26 K24.1)
  obtain ⟨_, _, ⟨T27, L27, k27, n27⟩, -, X27, ⟨Lc27, hQ27, l27, y27, z27⟩, st27⟩ := Jvm.LawKit.callS X24 hx (y := (⟨"java/lang/String", "valueOf", "(C)Ljava/lang/String;"⟩ : MethodName)) hown11 (mvT hZ11 (w_ hw 3 rfl)) (mvT hZ11 (w_ hw 4 rfl)) (mvT hZ11 (w_ hw 5 rfl)) (mvT hZ11 (w_ hw 6 rfl)) (by decide) (backOf (W := 4) (rm1l l Z a0 hw [] kb cs T24.heap n0 q29 q28 hcs s_kb) hZ11 (w_ hw 6 rfl) (w_ hw 5 rfl) (by decide) (by decide)) (g := (mkF m 130 #[iv p0, iv p1, iv p2, iv ia, iv ua, iv ka, iv ib, iv ub, iv kb, rv b1, .unset, .unset, .unset] [.int kb, .ref r24, .ref r21, .ref b19, .ref b19])) rfl (by rw [hml]; rfl) (argsL := [(.int kb)]) (rest := [(.ref r24), (.ref r21), (.ref b19), (.ref b19)]) (lenOf pd_6 rfl) rfl (by show 2 * 0 + _ ≤ _; exact Nat.le_of_eq rfl) (hb hby at_130) (fun _ _ => ⟨rfl, rfl, (by decide : 18 + 2 ≤ _), (by decide : 79 + 5 ≤ _)⟩)
  dsimp only [Pt.U, Pt.locs, Pt.cells, Pt.slots] at X27 l27 y27 z27 st27 hQ27
  subst l27 y27 z27
  obtain ⟨r27, b27, k27, rfl, N27q, K27, E27, Fv27, Fc27, V27, hgr_27, hsr_27, hgb_27, hsb_27, hnrb_27⟩ := hQ27
  have N27 := Fr.app N24 N27q
  refine own_of st27 ?_
  show own_Out p e below _ (T27.setTop (mkF m 133 #[iv p0, iv p1, iv p2, iv ia, iv ua, iv ka, iv ib, iv ub, iv kb, rv b1, .unset, .unset, .unset] [.ref r27, .ref r24, .ref r21, .ref b19, .ref b19]))
  have q31 := (((A19.keep K21).keep K24).keep K27)
  have q32 := (((F_b19_id.keep K21 nin0).keep K24 nin0).keep K27 nin0)
  have q33 := (((F_b19_user.keep K21 nin0).keep K24 nin0).keep K27 nin0)
  have q34 := (((F_b19_key.keep K21 nin0).keep K24 nin0).keep K27 nin0)
  have q35 := ((E21.keep K24).keep K27)
  have q36 := (E24.keep K27)
  have q37 := (Nat.le_trans q29 K27.1)
  obtain ⟨_, _, ⟨T30, L30, k30, n30⟩, -, X30, Sn30, gz30, ⟨Lc30, hQ30, l30, y30, z30⟩, st30⟩ := X27.specialBackS hx (y := (⟨"com/example/collector_urchin/collectorurchin/store/Credential", "<init>", "(Ljava/lang/String;Ljava/lang/String;Ljava/lang/String;)V"⟩ : MethodName)) rfl hown11 (mvT hZ11 (w_ hw 29 rfl)) (mvT hZ11 (w_ hw 30 rfl)) (mvT hZ11 (w_ hw 31 rfl)) (by decide) (backOfS (W := 1) (rm6 l Z a0 hw [] b19 r21 r24 r27 T27.heap n0 q37 q31 q32 q33 q34 g_b19 q35 q36 E27) hZ11 (w_ hw 31 rfl) (w_ hw 2 rfl) (by decide) (by decide)) (g := (mkF m 133 #[iv p0, iv p1, iv p2, iv ia, iv ua, iv ka, iv ib, iv ub, iv kb, rv b1, .unset, .unset, .unset] [.ref r27, .ref r24, .ref r21, .ref b19, .ref b19])) rfl (by rw [hml]; rfl) (Steps.refl _) (a := b19) (argsL := [(.ref r21), (.ref r24), (.ref r27)]) (rest := [(.ref b19)]) (lenOf pd_7 rfl) rfl (by show 2 * 0 + _ ≤ _; exact Nat.le_of_eq rfl) (hb hby at_133) (fun _ _ => ⟨rfl, rfl, (by decide : 20 + 6 ≤ _), (by decide : 84 + 48 ≤ _)⟩)
  dsimp only [Pt.U, Pt.locs, Pt.cells, Pt.slots] at X30 l30 y30 z30 st30 hQ30 Sn30 gz30
  subst l30 y30 z30
  have q38 := (Nat.le_trans (Nat.le_trans (Nat.le_trans (Nat.le_trans (Nat.le_refl T11.heap.size) E19.1) K21.1) K24.1) K27.1)
  have S30 : s.Since T30.vm T30.heap.size := foldS (s := s) (vm0 := T11.vm) S11 q38 Sn30 gz30
  have hZ30 : Z.Warmed39 (s.setVm T30.vm).vm := State.Warmed39.trans (t := s.setVm T11.vm) hZ11 Sn30.1
  have hown30 : (s.setVm T30.vm).vm.findClass "com/example/collector_urchin/collectorurchin/store/CredentialEqualsPinLaw" = some m.cls := by rw [show (s.setVm T30.vm).vm = T30.vm from rfl, Sn30.1.alike.findClass]; exact hown11
  obtain ⟨rfl, N30q, K30, E30, F30_id, F30_user, F30_key⟩ := hQ30
  have N30 := Fr.app N27 N30q
  refine own_of (fun _ k => st30.trans k) ?_
  show own_Out p e below _ (T30.setTop (mkF m 136 #[iv p0, iv p1, iv p2, iv ia, iv ua, iv ka, iv ib, iv ub, iv kb, rv b1, .unset, .unset, .unset] [.ref b19]))
  refine o_astore X30 hx hby at_136 rfl (l' := #[iv p0, iv p1, iv p2, iv ia, iv ua, iv ka, iv ib, iv ub, iv kb, rv b1, rv b19, .unset, .unset]) rfl (q := 138) rfl ?_
  refine o_iloadN X30 hx hby at_138 rfl (q := 139) rfl ?_
  refine o_iconst X30 hx hby at_139 (z := 3) rfl (q := 140) rfl ?_
  refine o_iushr X30 hx hby at_140 rfl (q := 141) rfl ?_
  refine o_iconst X30 hx hby at_141 (z := 3) rfl (q := 142) rfl ?_
  refine o_iand X30 hx hby at_142 rfl (q := 143) rfl ?_
  refine o_istore X30 hx hby at_143 (l' := #[iv p0, iv p1, iv p2, iv ia, iv ua, iv ka, iv ib, iv ub, iv kb, rv b1, rv b19, iv (((p2.toUInt32 >>> ((3 : Int32) &&& 31).toUInt32).toInt32) &&& (3 : Int32)), .unset]) rfl (q := 145) rfl ?_
  refine o_iload X30 hx hby at_145 rfl (q := 147) rfl ?_
  by_cases hc147_39 : (((p2.toUInt32 >>> ((3 : Int32) &&& 31).toUInt32).toInt32) &&& (3 : Int32)) = (0 : Int32)
  · skip
    refine o_ifN X30 hx hby at_147 ((if0 _ _).trans (teq hc147_39).2) (q := 150) rfl ?_
    refine o_iloadN X30 hx hby at_150 rfl (q := 151) rfl ?_
    refine o_iload X30 hx hby at_151 rfl (q := 153) rfl ?_
    by_cases hc153_40 : ia = ib
    · skip
      refine o_icN X30 hx hby at_153 (teq hc153_40).2 (q := 156) rfl ?_
      refine o_iload X30 hx hby at_156 rfl (q := 158) rfl ?_
      refine o_iload X30 hx hby at_158 rfl (q := 160) rfl ?_
      by_cases hc160_41 : ua = ub
      · skip
        refine o_icN X30 hx hby at_160 (teq hc160_41).2 (q := 163) rfl ?_
        refine o_iload X30 hx hby at_163 rfl (q := 165) rfl ?_
        refine o_iload X30 hx hby at_165 rfl (q := 167) rfl ?_
        by_cases hc167_42 : ka = kb
        · skip
          refine o_icN X30 hx hby at_167 (teq hc167_42).2 (q := 170) rfl ?_
          refine o_iconst X30 hx hby at_170 (z := 1) rfl (q := 171) rfl ?_
          refine o_goto X30 hx hby at_171 (by decide) (q := 175) (by decide) ?_
          refine o_istore X30 hx hby at_175 (l' := #[iv p0, iv p1, iv p2, iv ia, iv ua, iv ka, iv ib, iv ub, iv kb, rv b1, rv b19, iv (((p2.toUInt32 >>> ((3 : Int32) &&& 31).toUInt32).toInt32) &&& (3 : Int32)), iv 1]) rfl (q := 177) rfl ?_
          refine o_aload X30 hx hby at_177 rfl rfl (q := 179) rfl ?_
          refine o_aload X30 hx hby at_179 rfl rfl (q := 181) rfl ?_
          have ne_r2_r21 : r2 ≠ r21 := Nat.ne_of_lt (Nat.lt_of_lt_of_le (Nat.lt_of_lt_of_le (Nat.lt_of_lt_of_le (Nat.lt_of_lt_of_le (Nat.lt_of_lt_of_le E2.lt K5.1) K8.1) K11.1) E19.1) hsr_21)
          have ne_r5_r24 : r5 ≠ r24 := Nat.ne_of_lt (Nat.lt_of_lt_of_le (Nat.lt_of_lt_of_le (Nat.lt_of_lt_of_le (Nat.lt_of_lt_of_le (Nat.lt_of_lt_of_le E5.lt K8.1) K11.1) E19.1) K21.1) hsr_24)
          have ne_r8_r27 : r8 ≠ r27 := Nat.ne_of_lt (Nat.lt_of_lt_of_le (Nat.lt_of_lt_of_le (Nat.lt_of_lt_of_le (Nat.lt_of_lt_of_le (Nat.lt_of_lt_of_le E8.lt K11.1) E19.1) K21.1) K24.1) hsr_27)
          have q44 := (((((E11.ext E19).keep K21).keep K24).keep K27).keep K30)
          have ne_b1_b19 : b1 ≠ b19 := Nat.ne_of_lt (Nat.lt_of_lt_of_le (Nat.lt_of_lt_of_le (Nat.lt_of_lt_of_le (Nat.lt_of_lt_of_le (Nat.lt_of_lt_of_le A1.lt K2.1) K5.1) K8.1) K11.1) (Nat.le_of_eq g19.symm))
          have q45 := (((((F11_id.ext E19).keep K21 nin0).keep K24 nin0).keep K27 nin0).keep K30 (ninS ne_b1_b19 nin0))
          have q46 := ((((((q16.keep K11).ext E19).keep K21).keep K24).keep K27).keep K30)
          have ne_b1_r2 : b1 ≠ r2 := Nat.ne_of_lt (Nat.lt_of_lt_of_le A1.lt hsr_2)
          have ne_r2_b19 : r2 ≠ b19 := Nat.ne_of_lt (Nat.lt_of_lt_of_le (Nat.lt_of_lt_of_le (Nat.lt_of_lt_of_le (Nat.lt_of_lt_of_le E2.lt K5.1) K8.1) K11.1) (Nat.le_of_eq g19.symm))
          have q47 := ((((((((Fv2.keep K5 nin0).keep K8 nin0).keep K11 (ninS (Ne.symm ne_b1_r2) nin0)).ext E19).keep K21 nin0).keep K24 nin0).keep K27 nin0).keep K30 (ninS ne_r2_b19 nin0))
          have q48 := ((((((((Fc2.keep K5 nin0).keep K8 nin0).keep K11 (ninS (Ne.symm ne_b1_r2) nin0)).ext E19).keep K21 nin0).keep K24 nin0).keep K27 nin0).keep K30 (ninS ne_r2_b19 nin0))
          have ne_b1_b2 : b1 ≠ b2 := Nat.ne_of_lt (Nat.lt_of_lt_of_le A1.lt hsb_2)
          have ne_b2_b19 : b2 ≠ b19 := Nat.ne_of_lt (Nat.lt_of_lt_of_le (Nat.lt_of_lt_of_le (Nat.lt_of_lt_of_le (Nat.lt_of_lt_of_le V2.lt K5.1) K8.1) K11.1) (Nat.le_of_eq g19.symm))
          have q49 := ((((((((V2.keep K5 nin0).keep K8 nin0).keep K11 (ninS (Ne.symm ne_b1_b2) nin0)).ext E19).keep K21 nin0).keep K24 nin0).keep K27 nin0).keep K30 (ninS ne_b2_b19 nin0))
          have q50 := (((((F11_user.ext E19).keep K21 nin0).keep K24 nin0).keep K27 nin0).keep K30 (ninS ne_b1_b19 nin0))
          have q51 := ((((((q17.keep K11).ext E19).keep K21).keep K24).keep K27).keep K30)
          have ne_b1_r5 : b1 ≠ r5 := Nat.ne_of_lt (Nat.lt_of_lt_of_le (Nat.lt_of_lt_of_le A1.lt K2.1) hsr_5)
          have ne_r5_b19 : r5 ≠ b19 := Nat.ne_of_lt (Nat.lt_of_lt_of_le (Nat.lt_of_lt_of_le (Nat.lt_of_lt_of_le E5.lt K8.1) K11.1) (Nat.le_of_eq g19.symm))
          have q52 := (((((((Fv5.keep K8 nin0).keep K11 (ninS (Ne.symm ne_b1_r5) nin0)).ext E19).keep K21 nin0).keep K24 nin0).keep K27 nin0).keep K30 (ninS ne_r5_b19 nin0))
          have q53 := (((((((Fc5.keep K8 nin0).keep K11 (ninS (Ne.symm ne_b1_r5) nin0)).ext E19).keep K21 nin0).keep K24 nin0).keep K27 nin0).keep K30 (ninS ne_r5_b19 nin0))
          have ne_b1_b5 : b1 ≠ b5 := Nat.ne_of_lt (Nat.lt_of_lt_of_le (Nat.lt_of_lt_of_le A1.lt K2.1) hsb_5)
          have ne_b5_b19 : b5 ≠ b19 := Nat.ne_of_lt (Nat.lt_of_lt_of_le (Nat.lt_of_lt_of_le (Nat.lt_of_lt_of_le V5.lt K8.1) K11.1) (Nat.le_of_eq g19.symm))
          have q54 := (((((((V5.keep K8 nin0).keep K11 (ninS (Ne.symm ne_b1_b5) nin0)).ext E19).keep K21 nin0).keep K24 nin0).keep K27 nin0).keep K30 (ninS ne_b5_b19 nin0))
          have q55 := (((((F11_key.ext E19).keep K21 nin0).keep K24 nin0).keep K27 nin0).keep K30 (ninS ne_b1_b19 nin0))
          have q56 := ((((((E8.keep K11).ext E19).keep K21).keep K24).keep K27).keep K30)
          have ne_b1_r8 : b1 ≠ r8 := Nat.ne_of_lt (Nat.lt_of_lt_of_le (Nat.lt_of_lt_of_le (Nat.lt_of_lt_of_le A1.lt K2.1) K5.1) hsr_8)
          have ne_r8_b19 : r8 ≠ b19 := Nat.ne_of_lt (Nat.lt_of_lt_of_le (Nat.lt_of_lt_of_le E8.lt K11.1) (Nat.le_of_eq g19.symm))
          have q57 := ((((((Fv8.keep K11 (ninS (Ne.symm ne_b1_r8) nin0)).ext E19).keep K21 nin0).keep K24 nin0).keep K27 nin0).keep K30 (ninS ne_r8_b19 nin0))
          have q58 := ((((((Fc8.keep K11 (ninS (Ne.symm ne_b1_r8) nin0)).ext E19).keep K21 nin0).keep K24 nin0).keep K27 nin0).keep K30 (ninS ne_r8_b19 nin0))
          have ne_b1_b8 : b1 ≠ b8 := Nat.ne_of_lt (Nat.lt_of_lt_of_le (Nat.lt_of_lt_of_le (Nat.lt_of_lt_of_le A1.lt K2.1) K5.1) hsb_8)
          have ne_b8_b19 : b8 ≠ b19 := Nat.ne_of_lt (Nat.lt_of_lt_of_le (Nat.lt_of_lt_of_le V8.lt K11.1) (Nat.le_of_eq g19.symm))
          have q59 := ((((((V8.keep K11 (ninS (Ne.symm ne_b1_b8) nin0)).ext E19).keep K21 nin0).keep K24 nin0).keep K27 nin0).keep K30 (ninS ne_b8_b19 nin0))
          have q60 := (q35.keep K30)
          have ne_b19_r21 : b19 ≠ r21 := Nat.ne_of_lt (Nat.lt_of_lt_of_le A19.lt hsr_21)
          have q61 := (((Fv21.keep K24 nin0).keep K27 nin0).keep K30 (ninS (Ne.symm ne_b19_r21) nin0))
          have q62 := (((Fc21.keep K24 nin0).keep K27 nin0).keep K30 (ninS (Ne.symm ne_b19_r21) nin0))
          have ne_b19_b21 : b19 ≠ b21 := Nat.ne_of_lt (Nat.lt_of_lt_of_le A19.lt hsb_21)
          have q63 := (((V21.keep K24 nin0).keep K27 nin0).keep K30 (ninS (Ne.symm ne_b19_b21) nin0))
          have q64 := (q36.keep K30)
          have ne_b19_r24 : b19 ≠ r24 := Nat.ne_of_lt (Nat.lt_of_lt_of_le (Nat.lt_of_lt_of_le A19.lt K21.1) hsr_24)
          have q65 := ((Fv24.keep K27 nin0).keep K30 (ninS (Ne.symm ne_b19_r24) nin0))
          have q66 := ((Fc24.keep K27 nin0).keep K30 (ninS (Ne.symm ne_b19_r24) nin0))
          have ne_b19_b24 : b19 ≠ b24 := Nat.ne_of_lt (Nat.lt_of_lt_of_le (Nat.lt_of_lt_of_le A19.lt K21.1) hsb_24)
          have q67 := ((V24.keep K27 nin0).keep K30 (ninS (Ne.symm ne_b19_b24) nin0))
          have q68 := (E27.keep K30)
          have ne_b19_r27 : b19 ≠ r27 := Nat.ne_of_lt (Nat.lt_of_lt_of_le (Nat.lt_of_lt_of_le (Nat.lt_of_lt_of_le A19.lt K21.1) K24.1) hsr_27)
          have q69 := (Fv27.keep K30 (ninS (Ne.symm ne_b19_r27) nin0))
          have q70 := (Fc27.keep K30 (ninS (Ne.symm ne_b19_r27) nin0))
          have ne_b19_b27 : b19 ≠ b27 := Nat.ne_of_lt (Nat.lt_of_lt_of_le (Nat.lt_of_lt_of_le (Nat.lt_of_lt_of_le A19.lt K21.1) K24.1) hsb_27)
          have q71 := (V27.keep K30 (ninS (Ne.symm ne_b19_b27) nin0))
          have q72 := (own_staK1 (own_staK0 q28 K27) K30 (own_plainE q31))
          have q73 := (Nat.le_trans q37 K30.1)
          obtain ⟨cq43, kq43, q43a, q43b, q43c⟩ := isOf hZ30 rfl q44
          obtain ⟨_, _, ⟨T43, L43, k43, n43⟩, -, X43, ⟨Lc43, hQ43, l43, y43, z43⟩, st43⟩ := X30.virtualBack hx (y := (⟨"com/example/collector_urchin/collectorurchin/store/Credential", "equals", "(Ljava/lang/Object;)Z"⟩ : MethodName)) (z := (⟨"com/example/collector_urchin/collectorurchin/store/Credential", "equals", "(Ljava/lang/Object;)Z"⟩ : MethodName)) hown30 (mvT hZ30 (w_ hw 49 rfl)) (mvT hZ30 (w_ hw 50 rfl)) (notFace_of_selects (args := #[]) (mvT hZ30 (w_ hw 52 rfl))) (mvT hZ30 (w_ hw 52 rfl)) (mvT hZ30 (w_ hw 51 rfl)) (by decide) (backOf (W := 0) (rm8c l Z a0 hw [] b1 b19 r2 b2 k2 ((ia.toInt8.toInt32).toInt8.toInt32) r5 b5 k5 ((ua.toInt8.toInt32).toInt8.toInt32) r8 b8 k8 ((ka.toInt8.toInt32).toInt8.toInt32) r21 b21 k21 ((ib.toInt8.toInt32).toInt8.toInt32) r24 b24 k24 ((ub.toInt8.toInt32).toInt8.toInt32) r27 b27 k27 ((kb.toInt8.toInt32).toInt8.toInt32) cs T30.heap n0 q73 q44 E30 q45 q46 q47 q48 q49 q50 q51 q52 q53 q54 q55 q56 q57 q58 q59 F30_id q60 q61 q62 q63 F30_user q64 q65 q66 q67 F30_key q68 q69 q70 q71 q72 hcs ne_r2_r21 ne_r5_r24 ne_r8_r27) hZ30 (w_ hw 53 rfl) (w_ hw 2 rfl) (by decide) (by decide)) q43a q43c (g := (mkF m 181 #[iv p0, iv p1, iv p2, iv ia, iv ua, iv ka, iv ib, iv ub, iv kb, rv b1, rv b19, iv (((p2.toUInt32 >>> ((3 : Int32) &&& 31).toUInt32).toInt32) &&& (3 : Int32)), iv 1] [.ref b19, .ref b1])) rfl (by rw [hml]; rfl) (Steps.refl _) (argsL := [(.ref b19)]) (rest := []) (lenOf pd_5 rfl) rfl (by show 2 * 0 + _ ≤ _; exact Nat.le_of_eq rfl) (hb hby at_181) (fun _ _ => ⟨rfl, rfl, (by decide : 26 + 0 ≤ _), (by decide : 132 + 0 ≤ _)⟩)
          dsimp only [Pt.U, Pt.locs, Pt.cells, Pt.slots] at X43 l43 y43 z43 st43 hQ43
          subst l43 y43 z43
          obtain ⟨rfl, N43q, hh43⟩ := hQ43
          have N43 := Fr.app N30 N43q
          refine own_of (fun _ k => st43.trans k) ?_
          show own_Out p e below _ (T43.setTop (mkF m 184 #[iv p0, iv p1, iv p2, iv ia, iv ua, iv ka, iv ib, iv ub, iv kb, rv b1, rv b19, iv (((p2.toUInt32 >>> ((3 : Int32) &&& 31).toUInt32).toInt32) &&& (3 : Int32)), iv 1] [.int (fqe ((ia.toInt8.toInt32).toInt8.toInt32) ((ua.toInt8.toInt32).toInt8.toInt32) ((ka.toInt8.toInt32).toInt8.toInt32) ((ib.toInt8.toInt32).toInt8.toInt32) ((ub.toInt8.toInt32).toInt8.toInt32) ((kb.toInt8.toInt32).toInt8.toInt32) cs)]))
          refine o_iload X43 hx hby at_184 rfl (q := 186) rfl ?_
          by_cases hc186_74 : (fqe ((ia.toInt8.toInt32).toInt8.toInt32) ((ua.toInt8.toInt32).toInt8.toInt32) ((ka.toInt8.toInt32).toInt8.toInt32) ((ib.toInt8.toInt32).toInt8.toInt32) ((ub.toInt8.toInt32).toInt8.toInt32) ((kb.toInt8.toInt32).toInt8.toInt32) cs) = (1 : Int32)
          · skip
            refine o_icN X43 hx hby at_186 (teq hc186_74).2 (q := 189) rfl ?_
            refine o_iconst X43 hx hby at_189 (z := 1) rfl (q := 190) rfl ?_
            refine o_goto X43 hx hby at_190 (by decide) (q := 194) (by decide) ?_
            exact own_outNW (s := s) (vm₁ := T30.vm) X43 S30 (by rw [hh43]; exact (Nat.le_refl T30.heap.size)) hx hlk (t := .boolean) hret (by simp) (hb hby at_194) (z' := (1 : Int32)) rfl (Q := Q) (hQ _ _ N43) (by decide) (by decide)
          · skip
            refine o_icY X43 hx hby at_186 (feq hc186_74).2 (by decide) (q := 193) (by decide) ?_
            refine o_iconst X43 hx hby at_193 (z := 0) rfl (q := 194) rfl ?_
            exact (sg91_dead0 p0 p1 p2 ia ua ka ib ub kb cs hcs s_ia s_ua s_ka s_ib s_ub s_kb z_ia z_ua z_ka z_ib z_ub z_kb hc147_39 hc153_40 hc160_41 hc167_42 hc186_74).elim
        · skip
          refine o_icY X30 hx hby at_167 (feq hc167_42).2 (by decide) (q := 174) (by decide) ?_
          refine o_iconst X30 hx hby at_174 (z := 0) rfl (q := 175) rfl ?_
          refine o_istore X30 hx hby at_175 (l' := #[iv p0, iv p1, iv p2, iv ia, iv ua, iv ka, iv ib, iv ub, iv kb, rv b1, rv b19, iv (((p2.toUInt32 >>> ((3 : Int32) &&& 31).toUInt32).toInt32) &&& (3 : Int32)), iv 0]) rfl (q := 177) rfl ?_
          refine o_aload X30 hx hby at_177 rfl rfl (q := 179) rfl ?_
          refine o_aload X30 hx hby at_179 rfl rfl (q := 181) rfl ?_
          have ne_r2_r21 : r2 ≠ r21 := Nat.ne_of_lt (Nat.lt_of_lt_of_le (Nat.lt_of_lt_of_le (Nat.lt_of_lt_of_le (Nat.lt_of_lt_of_le (Nat.lt_of_lt_of_le E2.lt K5.1) K8.1) K11.1) E19.1) hsr_21)
          have ne_r5_r24 : r5 ≠ r24 := Nat.ne_of_lt (Nat.lt_of_lt_of_le (Nat.lt_of_lt_of_le (Nat.lt_of_lt_of_le (Nat.lt_of_lt_of_le (Nat.lt_of_lt_of_le E5.lt K8.1) K11.1) E19.1) K21.1) hsr_24)
          have ne_r8_r27 : r8 ≠ r27 := Nat.ne_of_lt (Nat.lt_of_lt_of_le (Nat.lt_of_lt_of_le (Nat.lt_of_lt_of_le (Nat.lt_of_lt_of_le (Nat.lt_of_lt_of_le E8.lt K11.1) E19.1) K21.1) K24.1) hsr_27)
          have q76 := (((((E11.ext E19).keep K21).keep K24).keep K27).keep K30)
          have ne_b1_b19 : b1 ≠ b19 := Nat.ne_of_lt (Nat.lt_of_lt_of_le (Nat.lt_of_lt_of_le (Nat.lt_of_lt_of_le (Nat.lt_of_lt_of_le (Nat.lt_of_lt_of_le A1.lt K2.1) K5.1) K8.1) K11.1) (Nat.le_of_eq g19.symm))
          have q77 := (((((F11_id.ext E19).keep K21 nin0).keep K24 nin0).keep K27 nin0).keep K30 (ninS ne_b1_b19 nin0))
          have q78 := ((((((q16.keep K11).ext E19).keep K21).keep K24).keep K27).keep K30)
          have ne_b1_r2 : b1 ≠ r2 := Nat.ne_of_lt (Nat.lt_of_lt_of_le A1.lt hsr_2)
          have ne_r2_b19 : r2 ≠ b19 := Nat.ne_of_lt (Nat.lt_of_lt_of_le (Nat.lt_of_lt_of_le (Nat.lt_of_lt_of_le (Nat.lt_of_lt_of_le E2.lt K5.1) K8.1) K11.1) (Nat.le_of_eq g19.symm))
          have q79 := ((((((((Fv2.keep K5 nin0).keep K8 nin0).keep K11 (ninS (Ne.symm ne_b1_r2) nin0)).ext E19).keep K21 nin0).keep K24 nin0).keep K27 nin0).keep K30 (ninS ne_r2_b19 nin0))
          have q80 := ((((((((Fc2.keep K5 nin0).keep K8 nin0).keep K11 (ninS (Ne.symm ne_b1_r2) nin0)).ext E19).keep K21 nin0).keep K24 nin0).keep K27 nin0).keep K30 (ninS ne_r2_b19 nin0))
          have ne_b1_b2 : b1 ≠ b2 := Nat.ne_of_lt (Nat.lt_of_lt_of_le A1.lt hsb_2)
          have ne_b2_b19 : b2 ≠ b19 := Nat.ne_of_lt (Nat.lt_of_lt_of_le (Nat.lt_of_lt_of_le (Nat.lt_of_lt_of_le (Nat.lt_of_lt_of_le V2.lt K5.1) K8.1) K11.1) (Nat.le_of_eq g19.symm))
          have q81 := ((((((((V2.keep K5 nin0).keep K8 nin0).keep K11 (ninS (Ne.symm ne_b1_b2) nin0)).ext E19).keep K21 nin0).keep K24 nin0).keep K27 nin0).keep K30 (ninS ne_b2_b19 nin0))
          have q82 := (((((F11_user.ext E19).keep K21 nin0).keep K24 nin0).keep K27 nin0).keep K30 (ninS ne_b1_b19 nin0))
          have q83 := ((((((q17.keep K11).ext E19).keep K21).keep K24).keep K27).keep K30)
          have ne_b1_r5 : b1 ≠ r5 := Nat.ne_of_lt (Nat.lt_of_lt_of_le (Nat.lt_of_lt_of_le A1.lt K2.1) hsr_5)
          have ne_r5_b19 : r5 ≠ b19 := Nat.ne_of_lt (Nat.lt_of_lt_of_le (Nat.lt_of_lt_of_le (Nat.lt_of_lt_of_le E5.lt K8.1) K11.1) (Nat.le_of_eq g19.symm))
          have q84 := (((((((Fv5.keep K8 nin0).keep K11 (ninS (Ne.symm ne_b1_r5) nin0)).ext E19).keep K21 nin0).keep K24 nin0).keep K27 nin0).keep K30 (ninS ne_r5_b19 nin0))
          have q85 := (((((((Fc5.keep K8 nin0).keep K11 (ninS (Ne.symm ne_b1_r5) nin0)).ext E19).keep K21 nin0).keep K24 nin0).keep K27 nin0).keep K30 (ninS ne_r5_b19 nin0))
          have ne_b1_b5 : b1 ≠ b5 := Nat.ne_of_lt (Nat.lt_of_lt_of_le (Nat.lt_of_lt_of_le A1.lt K2.1) hsb_5)
          have ne_b5_b19 : b5 ≠ b19 := Nat.ne_of_lt (Nat.lt_of_lt_of_le (Nat.lt_of_lt_of_le (Nat.lt_of_lt_of_le V5.lt K8.1) K11.1) (Nat.le_of_eq g19.symm))
          have q86 := (((((((V5.keep K8 nin0).keep K11 (ninS (Ne.symm ne_b1_b5) nin0)).ext E19).keep K21 nin0).keep K24 nin0).keep K27 nin0).keep K30 (ninS ne_b5_b19 nin0))
          have q87 := (((((F11_key.ext E19).keep K21 nin0).keep K24 nin0).keep K27 nin0).keep K30 (ninS ne_b1_b19 nin0))
          have q88 := ((((((E8.keep K11).ext E19).keep K21).keep K24).keep K27).keep K30)
          have ne_b1_r8 : b1 ≠ r8 := Nat.ne_of_lt (Nat.lt_of_lt_of_le (Nat.lt_of_lt_of_le (Nat.lt_of_lt_of_le A1.lt K2.1) K5.1) hsr_8)
          have ne_r8_b19 : r8 ≠ b19 := Nat.ne_of_lt (Nat.lt_of_lt_of_le (Nat.lt_of_lt_of_le E8.lt K11.1) (Nat.le_of_eq g19.symm))
          have q89 := ((((((Fv8.keep K11 (ninS (Ne.symm ne_b1_r8) nin0)).ext E19).keep K21 nin0).keep K24 nin0).keep K27 nin0).keep K30 (ninS ne_r8_b19 nin0))
          have q90 := ((((((Fc8.keep K11 (ninS (Ne.symm ne_b1_r8) nin0)).ext E19).keep K21 nin0).keep K24 nin0).keep K27 nin0).keep K30 (ninS ne_r8_b19 nin0))
          have ne_b1_b8 : b1 ≠ b8 := Nat.ne_of_lt (Nat.lt_of_lt_of_le (Nat.lt_of_lt_of_le (Nat.lt_of_lt_of_le A1.lt K2.1) K5.1) hsb_8)
          have ne_b8_b19 : b8 ≠ b19 := Nat.ne_of_lt (Nat.lt_of_lt_of_le (Nat.lt_of_lt_of_le V8.lt K11.1) (Nat.le_of_eq g19.symm))
          have q91 := ((((((V8.keep K11 (ninS (Ne.symm ne_b1_b8) nin0)).ext E19).keep K21 nin0).keep K24 nin0).keep K27 nin0).keep K30 (ninS ne_b8_b19 nin0))
          have q92 := (q35.keep K30)
          have ne_b19_r21 : b19 ≠ r21 := Nat.ne_of_lt (Nat.lt_of_lt_of_le A19.lt hsr_21)
          have q93 := (((Fv21.keep K24 nin0).keep K27 nin0).keep K30 (ninS (Ne.symm ne_b19_r21) nin0))
          have q94 := (((Fc21.keep K24 nin0).keep K27 nin0).keep K30 (ninS (Ne.symm ne_b19_r21) nin0))
          have ne_b19_b21 : b19 ≠ b21 := Nat.ne_of_lt (Nat.lt_of_lt_of_le A19.lt hsb_21)
          have q95 := (((V21.keep K24 nin0).keep K27 nin0).keep K30 (ninS (Ne.symm ne_b19_b21) nin0))
          have q96 := (q36.keep K30)
          have ne_b19_r24 : b19 ≠ r24 := Nat.ne_of_lt (Nat.lt_of_lt_of_le (Nat.lt_of_lt_of_le A19.lt K21.1) hsr_24)
          have q97 := ((Fv24.keep K27 nin0).keep K30 (ninS (Ne.symm ne_b19_r24) nin0))
          have q98 := ((Fc24.keep K27 nin0).keep K30 (ninS (Ne.symm ne_b19_r24) nin0))
          have ne_b19_b24 : b19 ≠ b24 := Nat.ne_of_lt (Nat.lt_of_lt_of_le (Nat.lt_of_lt_of_le A19.lt K21.1) hsb_24)
          have q99 := ((V24.keep K27 nin0).keep K30 (ninS (Ne.symm ne_b19_b24) nin0))
          have q100 := (E27.keep K30)
          have ne_b19_r27 : b19 ≠ r27 := Nat.ne_of_lt (Nat.lt_of_lt_of_le (Nat.lt_of_lt_of_le (Nat.lt_of_lt_of_le A19.lt K21.1) K24.1) hsr_27)
          have q101 := (Fv27.keep K30 (ninS (Ne.symm ne_b19_r27) nin0))
          have q102 := (Fc27.keep K30 (ninS (Ne.symm ne_b19_r27) nin0))
          have ne_b19_b27 : b19 ≠ b27 := Nat.ne_of_lt (Nat.lt_of_lt_of_le (Nat.lt_of_lt_of_le (Nat.lt_of_lt_of_le A19.lt K21.1) K24.1) hsb_27)
          have q103 := (V27.keep K30 (ninS (Ne.symm ne_b19_b27) nin0))
          have q104 := (own_staK1 (own_staK0 q28 K27) K30 (own_plainE q31))
          have q105 := (Nat.le_trans q37 K30.1)
          obtain ⟨cq75, kq75, q75a, q75b, q75c⟩ := isOf hZ30 rfl q76
          obtain ⟨_, _, ⟨T75, L75, k75, n75⟩, -, X75, ⟨Lc75, hQ75, l75, y75, z75⟩, st75⟩ := X30.virtualBack hx (y := (⟨"com/example/collector_urchin/collectorurchin/store/Credential", "equals", "(Ljava/lang/Object;)Z"⟩ : MethodName)) (z := (⟨"com/example/collector_urchin/collectorurchin/store/Credential", "equals", "(Ljava/lang/Object;)Z"⟩ : MethodName)) hown30 (mvT hZ30 (w_ hw 49 rfl)) (mvT hZ30 (w_ hw 50 rfl)) (notFace_of_selects (args := #[]) (mvT hZ30 (w_ hw 52 rfl))) (mvT hZ30 (w_ hw 52 rfl)) (mvT hZ30 (w_ hw 51 rfl)) (by decide) (backOf (W := 0) (rm8c l Z a0 hw [] b1 b19 r2 b2 k2 ((ia.toInt8.toInt32).toInt8.toInt32) r5 b5 k5 ((ua.toInt8.toInt32).toInt8.toInt32) r8 b8 k8 ((ka.toInt8.toInt32).toInt8.toInt32) r21 b21 k21 ((ib.toInt8.toInt32).toInt8.toInt32) r24 b24 k24 ((ub.toInt8.toInt32).toInt8.toInt32) r27 b27 k27 ((kb.toInt8.toInt32).toInt8.toInt32) cs T30.heap n0 q105 q76 E30 q77 q78 q79 q80 q81 q82 q83 q84 q85 q86 q87 q88 q89 q90 q91 F30_id q92 q93 q94 q95 F30_user q96 q97 q98 q99 F30_key q100 q101 q102 q103 q104 hcs ne_r2_r21 ne_r5_r24 ne_r8_r27) hZ30 (w_ hw 53 rfl) (w_ hw 2 rfl) (by decide) (by decide)) q75a q75c (g := (mkF m 181 #[iv p0, iv p1, iv p2, iv ia, iv ua, iv ka, iv ib, iv ub, iv kb, rv b1, rv b19, iv (((p2.toUInt32 >>> ((3 : Int32) &&& 31).toUInt32).toInt32) &&& (3 : Int32)), iv 0] [.ref b19, .ref b1])) rfl (by rw [hml]; rfl) (Steps.refl _) (argsL := [(.ref b19)]) (rest := []) (lenOf pd_5 rfl) rfl (by show 2 * 0 + _ ≤ _; exact Nat.le_of_eq rfl) (hb hby at_181) (fun _ _ => ⟨rfl, rfl, (by decide : 26 + 0 ≤ _), (by decide : 132 + 0 ≤ _)⟩)
          dsimp only [Pt.U, Pt.locs, Pt.cells, Pt.slots] at X75 l75 y75 z75 st75 hQ75
          subst l75 y75 z75
          obtain ⟨rfl, N75q, hh75⟩ := hQ75
          have N75 := Fr.app N30 N75q
          refine own_of (fun _ k => st75.trans k) ?_
          show own_Out p e below _ (T75.setTop (mkF m 184 #[iv p0, iv p1, iv p2, iv ia, iv ua, iv ka, iv ib, iv ub, iv kb, rv b1, rv b19, iv (((p2.toUInt32 >>> ((3 : Int32) &&& 31).toUInt32).toInt32) &&& (3 : Int32)), iv 0] [.int (fqe ((ia.toInt8.toInt32).toInt8.toInt32) ((ua.toInt8.toInt32).toInt8.toInt32) ((ka.toInt8.toInt32).toInt8.toInt32) ((ib.toInt8.toInt32).toInt8.toInt32) ((ub.toInt8.toInt32).toInt8.toInt32) ((kb.toInt8.toInt32).toInt8.toInt32) cs)]))
          refine o_iload X75 hx hby at_184 rfl (q := 186) rfl ?_
          by_cases hc186_106 : (fqe ((ia.toInt8.toInt32).toInt8.toInt32) ((ua.toInt8.toInt32).toInt8.toInt32) ((ka.toInt8.toInt32).toInt8.toInt32) ((ib.toInt8.toInt32).toInt8.toInt32) ((ub.toInt8.toInt32).toInt8.toInt32) ((kb.toInt8.toInt32).toInt8.toInt32) cs) = (0 : Int32)
          · skip
            refine o_icN X75 hx hby at_186 (teq hc186_106).2 (q := 189) rfl ?_
            refine o_iconst X75 hx hby at_189 (z := 1) rfl (q := 190) rfl ?_
            refine o_goto X75 hx hby at_190 (by decide) (q := 194) (by decide) ?_
            exact own_outNW (s := s) (vm₁ := T30.vm) X75 S30 (by rw [hh75]; exact (Nat.le_refl T30.heap.size)) hx hlk (t := .boolean) hret (by simp) (hb hby at_194) (z' := (1 : Int32)) rfl (Q := Q) (hQ _ _ N75) (by decide) (by decide)
          · skip
            refine o_icY X75 hx hby at_186 (feq hc186_106).2 (by decide) (q := 193) (by decide) ?_
            refine o_iconst X75 hx hby at_193 (z := 0) rfl (q := 194) rfl ?_
            exact (sg91_dead1 p0 p1 p2 ia ua ka ib ub kb cs hcs s_ia s_ua s_ka s_ib s_ub s_kb z_ia z_ua z_ka z_ib z_ub z_kb hc147_39 hc153_40 hc160_41 hc167_42 hc186_106).elim
      · skip
        refine o_icY X30 hx hby at_160 (feq hc160_41).2 (by decide) (q := 174) (by decide) ?_
        refine o_iconst X30 hx hby at_174 (z := 0) rfl (q := 175) rfl ?_
        refine o_istore X30 hx hby at_175 (l' := #[iv p0, iv p1, iv p2, iv ia, iv ua, iv ka, iv ib, iv ub, iv kb, rv b1, rv b19, iv (((p2.toUInt32 >>> ((3 : Int32) &&& 31).toUInt32).toInt32) &&& (3 : Int32)), iv 0]) rfl (q := 177) rfl ?_
        refine o_aload X30 hx hby at_177 rfl rfl (q := 179) rfl ?_
        refine o_aload X30 hx hby at_179 rfl rfl (q := 181) rfl ?_
        have ne_r2_r21 : r2 ≠ r21 := Nat.ne_of_lt (Nat.lt_of_lt_of_le (Nat.lt_of_lt_of_le (Nat.lt_of_lt_of_le (Nat.lt_of_lt_of_le (Nat.lt_of_lt_of_le E2.lt K5.1) K8.1) K11.1) E19.1) hsr_21)
        have ne_r5_r24 : r5 ≠ r24 := Nat.ne_of_lt (Nat.lt_of_lt_of_le (Nat.lt_of_lt_of_le (Nat.lt_of_lt_of_le (Nat.lt_of_lt_of_le (Nat.lt_of_lt_of_le E5.lt K8.1) K11.1) E19.1) K21.1) hsr_24)
        have ne_r8_r27 : r8 ≠ r27 := Nat.ne_of_lt (Nat.lt_of_lt_of_le (Nat.lt_of_lt_of_le (Nat.lt_of_lt_of_le (Nat.lt_of_lt_of_le (Nat.lt_of_lt_of_le E8.lt K11.1) E19.1) K21.1) K24.1) hsr_27)
        have q108 := (((((E11.ext E19).keep K21).keep K24).keep K27).keep K30)
        have ne_b1_b19 : b1 ≠ b19 := Nat.ne_of_lt (Nat.lt_of_lt_of_le (Nat.lt_of_lt_of_le (Nat.lt_of_lt_of_le (Nat.lt_of_lt_of_le (Nat.lt_of_lt_of_le A1.lt K2.1) K5.1) K8.1) K11.1) (Nat.le_of_eq g19.symm))
        have q109 := (((((F11_id.ext E19).keep K21 nin0).keep K24 nin0).keep K27 nin0).keep K30 (ninS ne_b1_b19 nin0))
        have q110 := ((((((q16.keep K11).ext E19).keep K21).keep K24).keep K27).keep K30)
        have ne_b1_r2 : b1 ≠ r2 := Nat.ne_of_lt (Nat.lt_of_lt_of_le A1.lt hsr_2)
        have ne_r2_b19 : r2 ≠ b19 := Nat.ne_of_lt (Nat.lt_of_lt_of_le (Nat.lt_of_lt_of_le (Nat.lt_of_lt_of_le (Nat.lt_of_lt_of_le E2.lt K5.1) K8.1) K11.1) (Nat.le_of_eq g19.symm))
        have q111 := ((((((((Fv2.keep K5 nin0).keep K8 nin0).keep K11 (ninS (Ne.symm ne_b1_r2) nin0)).ext E19).keep K21 nin0).keep K24 nin0).keep K27 nin0).keep K30 (ninS ne_r2_b19 nin0))
        have q112 := ((((((((Fc2.keep K5 nin0).keep K8 nin0).keep K11 (ninS (Ne.symm ne_b1_r2) nin0)).ext E19).keep K21 nin0).keep K24 nin0).keep K27 nin0).keep K30 (ninS ne_r2_b19 nin0))
        have ne_b1_b2 : b1 ≠ b2 := Nat.ne_of_lt (Nat.lt_of_lt_of_le A1.lt hsb_2)
        have ne_b2_b19 : b2 ≠ b19 := Nat.ne_of_lt (Nat.lt_of_lt_of_le (Nat.lt_of_lt_of_le (Nat.lt_of_lt_of_le (Nat.lt_of_lt_of_le V2.lt K5.1) K8.1) K11.1) (Nat.le_of_eq g19.symm))
        have q113 := ((((((((V2.keep K5 nin0).keep K8 nin0).keep K11 (ninS (Ne.symm ne_b1_b2) nin0)).ext E19).keep K21 nin0).keep K24 nin0).keep K27 nin0).keep K30 (ninS ne_b2_b19 nin0))
        have q114 := (((((F11_user.ext E19).keep K21 nin0).keep K24 nin0).keep K27 nin0).keep K30 (ninS ne_b1_b19 nin0))
        have q115 := ((((((q17.keep K11).ext E19).keep K21).keep K24).keep K27).keep K30)
        have ne_b1_r5 : b1 ≠ r5 := Nat.ne_of_lt (Nat.lt_of_lt_of_le (Nat.lt_of_lt_of_le A1.lt K2.1) hsr_5)
        have ne_r5_b19 : r5 ≠ b19 := Nat.ne_of_lt (Nat.lt_of_lt_of_le (Nat.lt_of_lt_of_le (Nat.lt_of_lt_of_le E5.lt K8.1) K11.1) (Nat.le_of_eq g19.symm))
        have q116 := (((((((Fv5.keep K8 nin0).keep K11 (ninS (Ne.symm ne_b1_r5) nin0)).ext E19).keep K21 nin0).keep K24 nin0).keep K27 nin0).keep K30 (ninS ne_r5_b19 nin0))
        have q117 := (((((((Fc5.keep K8 nin0).keep K11 (ninS (Ne.symm ne_b1_r5) nin0)).ext E19).keep K21 nin0).keep K24 nin0).keep K27 nin0).keep K30 (ninS ne_r5_b19 nin0))
        have ne_b1_b5 : b1 ≠ b5 := Nat.ne_of_lt (Nat.lt_of_lt_of_le (Nat.lt_of_lt_of_le A1.lt K2.1) hsb_5)
        have ne_b5_b19 : b5 ≠ b19 := Nat.ne_of_lt (Nat.lt_of_lt_of_le (Nat.lt_of_lt_of_le (Nat.lt_of_lt_of_le V5.lt K8.1) K11.1) (Nat.le_of_eq g19.symm))
        have q118 := (((((((V5.keep K8 nin0).keep K11 (ninS (Ne.symm ne_b1_b5) nin0)).ext E19).keep K21 nin0).keep K24 nin0).keep K27 nin0).keep K30 (ninS ne_b5_b19 nin0))
        have q119 := (((((F11_key.ext E19).keep K21 nin0).keep K24 nin0).keep K27 nin0).keep K30 (ninS ne_b1_b19 nin0))
        have q120 := ((((((E8.keep K11).ext E19).keep K21).keep K24).keep K27).keep K30)
        have ne_b1_r8 : b1 ≠ r8 := Nat.ne_of_lt (Nat.lt_of_lt_of_le (Nat.lt_of_lt_of_le (Nat.lt_of_lt_of_le A1.lt K2.1) K5.1) hsr_8)
        have ne_r8_b19 : r8 ≠ b19 := Nat.ne_of_lt (Nat.lt_of_lt_of_le (Nat.lt_of_lt_of_le E8.lt K11.1) (Nat.le_of_eq g19.symm))
        have q121 := ((((((Fv8.keep K11 (ninS (Ne.symm ne_b1_r8) nin0)).ext E19).keep K21 nin0).keep K24 nin0).keep K27 nin0).keep K30 (ninS ne_r8_b19 nin0))
        have q122 := ((((((Fc8.keep K11 (ninS (Ne.symm ne_b1_r8) nin0)).ext E19).keep K21 nin0).keep K24 nin0).keep K27 nin0).keep K30 (ninS ne_r8_b19 nin0))
        have ne_b1_b8 : b1 ≠ b8 := Nat.ne_of_lt (Nat.lt_of_lt_of_le (Nat.lt_of_lt_of_le (Nat.lt_of_lt_of_le A1.lt K2.1) K5.1) hsb_8)
        have ne_b8_b19 : b8 ≠ b19 := Nat.ne_of_lt (Nat.lt_of_lt_of_le (Nat.lt_of_lt_of_le V8.lt K11.1) (Nat.le_of_eq g19.symm))
        have q123 := ((((((V8.keep K11 (ninS (Ne.symm ne_b1_b8) nin0)).ext E19).keep K21 nin0).keep K24 nin0).keep K27 nin0).keep K30 (ninS ne_b8_b19 nin0))
        have q124 := (q35.keep K30)
        have ne_b19_r21 : b19 ≠ r21 := Nat.ne_of_lt (Nat.lt_of_lt_of_le A19.lt hsr_21)
        have q125 := (((Fv21.keep K24 nin0).keep K27 nin0).keep K30 (ninS (Ne.symm ne_b19_r21) nin0))
        have q126 := (((Fc21.keep K24 nin0).keep K27 nin0).keep K30 (ninS (Ne.symm ne_b19_r21) nin0))
        have ne_b19_b21 : b19 ≠ b21 := Nat.ne_of_lt (Nat.lt_of_lt_of_le A19.lt hsb_21)
        have q127 := (((V21.keep K24 nin0).keep K27 nin0).keep K30 (ninS (Ne.symm ne_b19_b21) nin0))
        have q128 := (q36.keep K30)
        have ne_b19_r24 : b19 ≠ r24 := Nat.ne_of_lt (Nat.lt_of_lt_of_le (Nat.lt_of_lt_of_le A19.lt K21.1) hsr_24)
        have q129 := ((Fv24.keep K27 nin0).keep K30 (ninS (Ne.symm ne_b19_r24) nin0))
        have q130 := ((Fc24.keep K27 nin0).keep K30 (ninS (Ne.symm ne_b19_r24) nin0))
        have ne_b19_b24 : b19 ≠ b24 := Nat.ne_of_lt (Nat.lt_of_lt_of_le (Nat.lt_of_lt_of_le A19.lt K21.1) hsb_24)
        have q131 := ((V24.keep K27 nin0).keep K30 (ninS (Ne.symm ne_b19_b24) nin0))
        have q132 := (E27.keep K30)
        have ne_b19_r27 : b19 ≠ r27 := Nat.ne_of_lt (Nat.lt_of_lt_of_le (Nat.lt_of_lt_of_le (Nat.lt_of_lt_of_le A19.lt K21.1) K24.1) hsr_27)
        have q133 := (Fv27.keep K30 (ninS (Ne.symm ne_b19_r27) nin0))
        have q134 := (Fc27.keep K30 (ninS (Ne.symm ne_b19_r27) nin0))
        have ne_b19_b27 : b19 ≠ b27 := Nat.ne_of_lt (Nat.lt_of_lt_of_le (Nat.lt_of_lt_of_le (Nat.lt_of_lt_of_le A19.lt K21.1) K24.1) hsb_27)
        have q135 := (V27.keep K30 (ninS (Ne.symm ne_b19_b27) nin0))
        have q136 := (own_staK1 (own_staK0 q28 K27) K30 (own_plainE q31))
        have q137 := (Nat.le_trans q37 K30.1)
        obtain ⟨cq107, kq107, q107a, q107b, q107c⟩ := isOf hZ30 rfl q108
        obtain ⟨_, _, ⟨T107, L107, k107, n107⟩, -, X107, ⟨Lc107, hQ107, l107, y107, z107⟩, st107⟩ := X30.virtualBack hx (y := (⟨"com/example/collector_urchin/collectorurchin/store/Credential", "equals", "(Ljava/lang/Object;)Z"⟩ : MethodName)) (z := (⟨"com/example/collector_urchin/collectorurchin/store/Credential", "equals", "(Ljava/lang/Object;)Z"⟩ : MethodName)) hown30 (mvT hZ30 (w_ hw 49 rfl)) (mvT hZ30 (w_ hw 50 rfl)) (notFace_of_selects (args := #[]) (mvT hZ30 (w_ hw 52 rfl))) (mvT hZ30 (w_ hw 52 rfl)) (mvT hZ30 (w_ hw 51 rfl)) (by decide) (backOf (W := 0) (rm8c l Z a0 hw [] b1 b19 r2 b2 k2 ((ia.toInt8.toInt32).toInt8.toInt32) r5 b5 k5 ((ua.toInt8.toInt32).toInt8.toInt32) r8 b8 k8 ((ka.toInt8.toInt32).toInt8.toInt32) r21 b21 k21 ((ib.toInt8.toInt32).toInt8.toInt32) r24 b24 k24 ((ub.toInt8.toInt32).toInt8.toInt32) r27 b27 k27 ((kb.toInt8.toInt32).toInt8.toInt32) cs T30.heap n0 q137 q108 E30 q109 q110 q111 q112 q113 q114 q115 q116 q117 q118 q119 q120 q121 q122 q123 F30_id q124 q125 q126 q127 F30_user q128 q129 q130 q131 F30_key q132 q133 q134 q135 q136 hcs ne_r2_r21 ne_r5_r24 ne_r8_r27) hZ30 (w_ hw 53 rfl) (w_ hw 2 rfl) (by decide) (by decide)) q107a q107c (g := (mkF m 181 #[iv p0, iv p1, iv p2, iv ia, iv ua, iv ka, iv ib, iv ub, iv kb, rv b1, rv b19, iv (((p2.toUInt32 >>> ((3 : Int32) &&& 31).toUInt32).toInt32) &&& (3 : Int32)), iv 0] [.ref b19, .ref b1])) rfl (by rw [hml]; rfl) (Steps.refl _) (argsL := [(.ref b19)]) (rest := []) (lenOf pd_5 rfl) rfl (by show 2 * 0 + _ ≤ _; exact Nat.le_of_eq rfl) (hb hby at_181) (fun _ _ => ⟨rfl, rfl, (by decide : 26 + 0 ≤ _), (by decide : 132 + 0 ≤ _)⟩)
        dsimp only [Pt.U, Pt.locs, Pt.cells, Pt.slots] at X107 l107 y107 z107 st107 hQ107
        subst l107 y107 z107
        obtain ⟨rfl, N107q, hh107⟩ := hQ107
        have N107 := Fr.app N30 N107q
        refine own_of (fun _ k => st107.trans k) ?_
        show own_Out p e below _ (T107.setTop (mkF m 184 #[iv p0, iv p1, iv p2, iv ia, iv ua, iv ka, iv ib, iv ub, iv kb, rv b1, rv b19, iv (((p2.toUInt32 >>> ((3 : Int32) &&& 31).toUInt32).toInt32) &&& (3 : Int32)), iv 0] [.int (fqe ((ia.toInt8.toInt32).toInt8.toInt32) ((ua.toInt8.toInt32).toInt8.toInt32) ((ka.toInt8.toInt32).toInt8.toInt32) ((ib.toInt8.toInt32).toInt8.toInt32) ((ub.toInt8.toInt32).toInt8.toInt32) ((kb.toInt8.toInt32).toInt8.toInt32) cs)]))
        refine o_iload X107 hx hby at_184 rfl (q := 186) rfl ?_
        by_cases hc186_138 : (fqe ((ia.toInt8.toInt32).toInt8.toInt32) ((ua.toInt8.toInt32).toInt8.toInt32) ((ka.toInt8.toInt32).toInt8.toInt32) ((ib.toInt8.toInt32).toInt8.toInt32) ((ub.toInt8.toInt32).toInt8.toInt32) ((kb.toInt8.toInt32).toInt8.toInt32) cs) = (0 : Int32)
        · skip
          refine o_icN X107 hx hby at_186 (teq hc186_138).2 (q := 189) rfl ?_
          refine o_iconst X107 hx hby at_189 (z := 1) rfl (q := 190) rfl ?_
          refine o_goto X107 hx hby at_190 (by decide) (q := 194) (by decide) ?_
          exact own_outNW (s := s) (vm₁ := T30.vm) X107 S30 (by rw [hh107]; exact (Nat.le_refl T30.heap.size)) hx hlk (t := .boolean) hret (by simp) (hb hby at_194) (z' := (1 : Int32)) rfl (Q := Q) (hQ _ _ N107) (by decide) (by decide)
        · skip
          refine o_icY X107 hx hby at_186 (feq hc186_138).2 (by decide) (q := 193) (by decide) ?_
          refine o_iconst X107 hx hby at_193 (z := 0) rfl (q := 194) rfl ?_
          exact (sg91_dead2 p0 p1 p2 ia ua ka ib ub kb cs hcs s_ia s_ua s_ka s_ib s_ub s_kb z_ia z_ua z_ka z_ib z_ub z_kb hc147_39 hc153_40 hc160_41 hc186_138).elim
    · skip
      refine o_icY X30 hx hby at_153 (feq hc153_40).2 (by decide) (q := 174) (by decide) ?_
      refine o_iconst X30 hx hby at_174 (z := 0) rfl (q := 175) rfl ?_
      refine o_istore X30 hx hby at_175 (l' := #[iv p0, iv p1, iv p2, iv ia, iv ua, iv ka, iv ib, iv ub, iv kb, rv b1, rv b19, iv (((p2.toUInt32 >>> ((3 : Int32) &&& 31).toUInt32).toInt32) &&& (3 : Int32)), iv 0]) rfl (q := 177) rfl ?_
      refine o_aload X30 hx hby at_177 rfl rfl (q := 179) rfl ?_
      refine o_aload X30 hx hby at_179 rfl rfl (q := 181) rfl ?_
      have ne_r2_r21 : r2 ≠ r21 := Nat.ne_of_lt (Nat.lt_of_lt_of_le (Nat.lt_of_lt_of_le (Nat.lt_of_lt_of_le (Nat.lt_of_lt_of_le (Nat.lt_of_lt_of_le E2.lt K5.1) K8.1) K11.1) E19.1) hsr_21)
      have ne_r5_r24 : r5 ≠ r24 := Nat.ne_of_lt (Nat.lt_of_lt_of_le (Nat.lt_of_lt_of_le (Nat.lt_of_lt_of_le (Nat.lt_of_lt_of_le (Nat.lt_of_lt_of_le E5.lt K8.1) K11.1) E19.1) K21.1) hsr_24)
      have ne_r8_r27 : r8 ≠ r27 := Nat.ne_of_lt (Nat.lt_of_lt_of_le (Nat.lt_of_lt_of_le (Nat.lt_of_lt_of_le (Nat.lt_of_lt_of_le (Nat.lt_of_lt_of_le E8.lt K11.1) E19.1) K21.1) K24.1) hsr_27)
      have q140 := (((((E11.ext E19).keep K21).keep K24).keep K27).keep K30)
      have ne_b1_b19 : b1 ≠ b19 := Nat.ne_of_lt (Nat.lt_of_lt_of_le (Nat.lt_of_lt_of_le (Nat.lt_of_lt_of_le (Nat.lt_of_lt_of_le (Nat.lt_of_lt_of_le A1.lt K2.1) K5.1) K8.1) K11.1) (Nat.le_of_eq g19.symm))
      have q141 := (((((F11_id.ext E19).keep K21 nin0).keep K24 nin0).keep K27 nin0).keep K30 (ninS ne_b1_b19 nin0))
      have q142 := ((((((q16.keep K11).ext E19).keep K21).keep K24).keep K27).keep K30)
      have ne_b1_r2 : b1 ≠ r2 := Nat.ne_of_lt (Nat.lt_of_lt_of_le A1.lt hsr_2)
      have ne_r2_b19 : r2 ≠ b19 := Nat.ne_of_lt (Nat.lt_of_lt_of_le (Nat.lt_of_lt_of_le (Nat.lt_of_lt_of_le (Nat.lt_of_lt_of_le E2.lt K5.1) K8.1) K11.1) (Nat.le_of_eq g19.symm))
      have q143 := ((((((((Fv2.keep K5 nin0).keep K8 nin0).keep K11 (ninS (Ne.symm ne_b1_r2) nin0)).ext E19).keep K21 nin0).keep K24 nin0).keep K27 nin0).keep K30 (ninS ne_r2_b19 nin0))
      have q144 := ((((((((Fc2.keep K5 nin0).keep K8 nin0).keep K11 (ninS (Ne.symm ne_b1_r2) nin0)).ext E19).keep K21 nin0).keep K24 nin0).keep K27 nin0).keep K30 (ninS ne_r2_b19 nin0))
      have ne_b1_b2 : b1 ≠ b2 := Nat.ne_of_lt (Nat.lt_of_lt_of_le A1.lt hsb_2)
      have ne_b2_b19 : b2 ≠ b19 := Nat.ne_of_lt (Nat.lt_of_lt_of_le (Nat.lt_of_lt_of_le (Nat.lt_of_lt_of_le (Nat.lt_of_lt_of_le V2.lt K5.1) K8.1) K11.1) (Nat.le_of_eq g19.symm))
      have q145 := ((((((((V2.keep K5 nin0).keep K8 nin0).keep K11 (ninS (Ne.symm ne_b1_b2) nin0)).ext E19).keep K21 nin0).keep K24 nin0).keep K27 nin0).keep K30 (ninS ne_b2_b19 nin0))
      have q146 := (((((F11_user.ext E19).keep K21 nin0).keep K24 nin0).keep K27 nin0).keep K30 (ninS ne_b1_b19 nin0))
      have q147 := ((((((q17.keep K11).ext E19).keep K21).keep K24).keep K27).keep K30)
      have ne_b1_r5 : b1 ≠ r5 := Nat.ne_of_lt (Nat.lt_of_lt_of_le (Nat.lt_of_lt_of_le A1.lt K2.1) hsr_5)
      have ne_r5_b19 : r5 ≠ b19 := Nat.ne_of_lt (Nat.lt_of_lt_of_le (Nat.lt_of_lt_of_le (Nat.lt_of_lt_of_le E5.lt K8.1) K11.1) (Nat.le_of_eq g19.symm))
      have q148 := (((((((Fv5.keep K8 nin0).keep K11 (ninS (Ne.symm ne_b1_r5) nin0)).ext E19).keep K21 nin0).keep K24 nin0).keep K27 nin0).keep K30 (ninS ne_r5_b19 nin0))
      have q149 := (((((((Fc5.keep K8 nin0).keep K11 (ninS (Ne.symm ne_b1_r5) nin0)).ext E19).keep K21 nin0).keep K24 nin0).keep K27 nin0).keep K30 (ninS ne_r5_b19 nin0))
      have ne_b1_b5 : b1 ≠ b5 := Nat.ne_of_lt (Nat.lt_of_lt_of_le (Nat.lt_of_lt_of_le A1.lt K2.1) hsb_5)
      have ne_b5_b19 : b5 ≠ b19 := Nat.ne_of_lt (Nat.lt_of_lt_of_le (Nat.lt_of_lt_of_le (Nat.lt_of_lt_of_le V5.lt K8.1) K11.1) (Nat.le_of_eq g19.symm))
      have q150 := (((((((V5.keep K8 nin0).keep K11 (ninS (Ne.symm ne_b1_b5) nin0)).ext E19).keep K21 nin0).keep K24 nin0).keep K27 nin0).keep K30 (ninS ne_b5_b19 nin0))
      have q151 := (((((F11_key.ext E19).keep K21 nin0).keep K24 nin0).keep K27 nin0).keep K30 (ninS ne_b1_b19 nin0))
      have q152 := ((((((E8.keep K11).ext E19).keep K21).keep K24).keep K27).keep K30)
      have ne_b1_r8 : b1 ≠ r8 := Nat.ne_of_lt (Nat.lt_of_lt_of_le (Nat.lt_of_lt_of_le (Nat.lt_of_lt_of_le A1.lt K2.1) K5.1) hsr_8)
      have ne_r8_b19 : r8 ≠ b19 := Nat.ne_of_lt (Nat.lt_of_lt_of_le (Nat.lt_of_lt_of_le E8.lt K11.1) (Nat.le_of_eq g19.symm))
      have q153 := ((((((Fv8.keep K11 (ninS (Ne.symm ne_b1_r8) nin0)).ext E19).keep K21 nin0).keep K24 nin0).keep K27 nin0).keep K30 (ninS ne_r8_b19 nin0))
      have q154 := ((((((Fc8.keep K11 (ninS (Ne.symm ne_b1_r8) nin0)).ext E19).keep K21 nin0).keep K24 nin0).keep K27 nin0).keep K30 (ninS ne_r8_b19 nin0))
      have ne_b1_b8 : b1 ≠ b8 := Nat.ne_of_lt (Nat.lt_of_lt_of_le (Nat.lt_of_lt_of_le (Nat.lt_of_lt_of_le A1.lt K2.1) K5.1) hsb_8)
      have ne_b8_b19 : b8 ≠ b19 := Nat.ne_of_lt (Nat.lt_of_lt_of_le (Nat.lt_of_lt_of_le V8.lt K11.1) (Nat.le_of_eq g19.symm))
      have q155 := ((((((V8.keep K11 (ninS (Ne.symm ne_b1_b8) nin0)).ext E19).keep K21 nin0).keep K24 nin0).keep K27 nin0).keep K30 (ninS ne_b8_b19 nin0))
      have q156 := (q35.keep K30)
      have ne_b19_r21 : b19 ≠ r21 := Nat.ne_of_lt (Nat.lt_of_lt_of_le A19.lt hsr_21)
      have q157 := (((Fv21.keep K24 nin0).keep K27 nin0).keep K30 (ninS (Ne.symm ne_b19_r21) nin0))
      have q158 := (((Fc21.keep K24 nin0).keep K27 nin0).keep K30 (ninS (Ne.symm ne_b19_r21) nin0))
      have ne_b19_b21 : b19 ≠ b21 := Nat.ne_of_lt (Nat.lt_of_lt_of_le A19.lt hsb_21)
      have q159 := (((V21.keep K24 nin0).keep K27 nin0).keep K30 (ninS (Ne.symm ne_b19_b21) nin0))
      have q160 := (q36.keep K30)
      have ne_b19_r24 : b19 ≠ r24 := Nat.ne_of_lt (Nat.lt_of_lt_of_le (Nat.lt_of_lt_of_le A19.lt K21.1) hsr_24)
      have q161 := ((Fv24.keep K27 nin0).keep K30 (ninS (Ne.symm ne_b19_r24) nin0))
      have q162 := ((Fc24.keep K27 nin0).keep K30 (ninS (Ne.symm ne_b19_r24) nin0))
      have ne_b19_b24 : b19 ≠ b24 := Nat.ne_of_lt (Nat.lt_of_lt_of_le (Nat.lt_of_lt_of_le A19.lt K21.1) hsb_24)
      have q163 := ((V24.keep K27 nin0).keep K30 (ninS (Ne.symm ne_b19_b24) nin0))
      have q164 := (E27.keep K30)
      have ne_b19_r27 : b19 ≠ r27 := Nat.ne_of_lt (Nat.lt_of_lt_of_le (Nat.lt_of_lt_of_le (Nat.lt_of_lt_of_le A19.lt K21.1) K24.1) hsr_27)
      have q165 := (Fv27.keep K30 (ninS (Ne.symm ne_b19_r27) nin0))
      have q166 := (Fc27.keep K30 (ninS (Ne.symm ne_b19_r27) nin0))
      have ne_b19_b27 : b19 ≠ b27 := Nat.ne_of_lt (Nat.lt_of_lt_of_le (Nat.lt_of_lt_of_le (Nat.lt_of_lt_of_le A19.lt K21.1) K24.1) hsb_27)
      have q167 := (V27.keep K30 (ninS (Ne.symm ne_b19_b27) nin0))
      have q168 := (own_staK1 (own_staK0 q28 K27) K30 (own_plainE q31))
      have q169 := (Nat.le_trans q37 K30.1)
      obtain ⟨cq139, kq139, q139a, q139b, q139c⟩ := isOf hZ30 rfl q140
      obtain ⟨_, _, ⟨T139, L139, k139, n139⟩, -, X139, ⟨Lc139, hQ139, l139, y139, z139⟩, st139⟩ := X30.virtualBack hx (y := (⟨"com/example/collector_urchin/collectorurchin/store/Credential", "equals", "(Ljava/lang/Object;)Z"⟩ : MethodName)) (z := (⟨"com/example/collector_urchin/collectorurchin/store/Credential", "equals", "(Ljava/lang/Object;)Z"⟩ : MethodName)) hown30 (mvT hZ30 (w_ hw 49 rfl)) (mvT hZ30 (w_ hw 50 rfl)) (notFace_of_selects (args := #[]) (mvT hZ30 (w_ hw 52 rfl))) (mvT hZ30 (w_ hw 52 rfl)) (mvT hZ30 (w_ hw 51 rfl)) (by decide) (backOf (W := 0) (rm8c l Z a0 hw [] b1 b19 r2 b2 k2 ((ia.toInt8.toInt32).toInt8.toInt32) r5 b5 k5 ((ua.toInt8.toInt32).toInt8.toInt32) r8 b8 k8 ((ka.toInt8.toInt32).toInt8.toInt32) r21 b21 k21 ((ib.toInt8.toInt32).toInt8.toInt32) r24 b24 k24 ((ub.toInt8.toInt32).toInt8.toInt32) r27 b27 k27 ((kb.toInt8.toInt32).toInt8.toInt32) cs T30.heap n0 q169 q140 E30 q141 q142 q143 q144 q145 q146 q147 q148 q149 q150 q151 q152 q153 q154 q155 F30_id q156 q157 q158 q159 F30_user q160 q161 q162 q163 F30_key q164 q165 q166 q167 q168 hcs ne_r2_r21 ne_r5_r24 ne_r8_r27) hZ30 (w_ hw 53 rfl) (w_ hw 2 rfl) (by decide) (by decide)) q139a q139c (g := (mkF m 181 #[iv p0, iv p1, iv p2, iv ia, iv ua, iv ka, iv ib, iv ub, iv kb, rv b1, rv b19, iv (((p2.toUInt32 >>> ((3 : Int32) &&& 31).toUInt32).toInt32) &&& (3 : Int32)), iv 0] [.ref b19, .ref b1])) rfl (by rw [hml]; rfl) (Steps.refl _) (argsL := [(.ref b19)]) (rest := []) (lenOf pd_5 rfl) rfl (by show 2 * 0 + _ ≤ _; exact Nat.le_of_eq rfl) (hb hby at_181) (fun _ _ => ⟨rfl, rfl, (by decide : 26 + 0 ≤ _), (by decide : 132 + 0 ≤ _)⟩)
      dsimp only [Pt.U, Pt.locs, Pt.cells, Pt.slots] at X139 l139 y139 z139 st139 hQ139
      subst l139 y139 z139
      obtain ⟨rfl, N139q, hh139⟩ := hQ139
      have N139 := Fr.app N30 N139q
      refine own_of (fun _ k => st139.trans k) ?_
      show own_Out p e below _ (T139.setTop (mkF m 184 #[iv p0, iv p1, iv p2, iv ia, iv ua, iv ka, iv ib, iv ub, iv kb, rv b1, rv b19, iv (((p2.toUInt32 >>> ((3 : Int32) &&& 31).toUInt32).toInt32) &&& (3 : Int32)), iv 0] [.int (fqe ((ia.toInt8.toInt32).toInt8.toInt32) ((ua.toInt8.toInt32).toInt8.toInt32) ((ka.toInt8.toInt32).toInt8.toInt32) ((ib.toInt8.toInt32).toInt8.toInt32) ((ub.toInt8.toInt32).toInt8.toInt32) ((kb.toInt8.toInt32).toInt8.toInt32) cs)]))
      refine o_iload X139 hx hby at_184 rfl (q := 186) rfl ?_
      by_cases hc186_170 : (fqe ((ia.toInt8.toInt32).toInt8.toInt32) ((ua.toInt8.toInt32).toInt8.toInt32) ((ka.toInt8.toInt32).toInt8.toInt32) ((ib.toInt8.toInt32).toInt8.toInt32) ((ub.toInt8.toInt32).toInt8.toInt32) ((kb.toInt8.toInt32).toInt8.toInt32) cs) = (0 : Int32)
      · skip
        refine o_icN X139 hx hby at_186 (teq hc186_170).2 (q := 189) rfl ?_
        refine o_iconst X139 hx hby at_189 (z := 1) rfl (q := 190) rfl ?_
        refine o_goto X139 hx hby at_190 (by decide) (q := 194) (by decide) ?_
        exact own_outNW (s := s) (vm₁ := T30.vm) X139 S30 (by rw [hh139]; exact (Nat.le_refl T30.heap.size)) hx hlk (t := .boolean) hret (by simp) (hb hby at_194) (z' := (1 : Int32)) rfl (Q := Q) (hQ _ _ N139) (by decide) (by decide)
      · skip
        refine o_icY X139 hx hby at_186 (feq hc186_170).2 (by decide) (q := 193) (by decide) ?_
        refine o_iconst X139 hx hby at_193 (z := 0) rfl (q := 194) rfl ?_
        exact (sg91_dead3 p0 p1 p2 ia ua ka ib ub kb cs hcs s_ia s_ua s_ka s_ib s_ub s_kb z_ia z_ua z_ka z_ib z_ub z_kb hc147_39 hc153_40 hc186_170).elim
  · skip
    refine o_ifY X30 hx hby at_147 ((if0 _ _).trans (feq hc147_39).2) (by decide) (q := 195) (by decide) ?_
    refine o_iload X30 hx hby at_195 rfl (q := 197) rfl ?_
    refine o_iconst X30 hx hby at_197 (z := 1) rfl (q := 198) rfl ?_
    by_cases hc198_171 : (((p2.toUInt32 >>> ((3 : Int32) &&& 31).toUInt32).toInt32) &&& (3 : Int32)) = (1 : Int32)
    · skip
      refine o_icN X30 hx hby at_198 (teq hc198_171).2 (q := 201) rfl ?_
      refine o_iloadN X30 hx hby at_201 rfl (q := 202) rfl ?_
      have q173 := (own_staK1 (own_staK0 q28 K27) K30 (own_plainE q31))
      have q174 := (Nat.le_trans q37 K30.1)
      obtain ⟨_, _, ⟨T172, L172, k172, n172⟩, -, X172, ⟨Lc172, hQ172, l172, y172, z172⟩, st172⟩ := Jvm.LawKit.callS X30 hx (y := (⟨"java/lang/String", "valueOf", "(C)Ljava/lang/String;"⟩ : MethodName)) hown30 (mvT hZ30 (w_ hw 3 rfl)) (mvT hZ30 (w_ hw 4 rfl)) (mvT hZ30 (w_ hw 5 rfl)) (mvT hZ30 (w_ hw 6 rfl)) (by decide) (backOf (W := 0) (rm1l l Z a0 hw [] ia cs T30.heap n0 q174 q173 hcs s_ia) hZ30 (w_ hw 6 rfl) (w_ hw 5 rfl) (by decide) (by decide)) (g := (mkF m 202 #[iv p0, iv p1, iv p2, iv ia, iv ua, iv ka, iv ib, iv ub, iv kb, rv b1, rv b19, iv (((p2.toUInt32 >>> ((3 : Int32) &&& 31).toUInt32).toInt32) &&& (3 : Int32)), .unset] [.int ia])) rfl (by rw [hml]; rfl) (argsL := [(.int ia)]) (rest := []) (lenOf pd_6 rfl) rfl (by show 2 * 0 + _ ≤ _; exact Nat.le_of_eq rfl) (hb hby at_202) (fun _ _ => ⟨rfl, rfl, (by decide : 26 + 2 ≤ _), (by decide : 132 + 5 ≤ _)⟩)
      dsimp only [Pt.U, Pt.locs, Pt.cells, Pt.slots] at X172 l172 y172 z172 st172 hQ172
      subst l172 y172 z172
      obtain ⟨r172, b172, k172, rfl, N172q, K172, E172, Fv172, Fc172, V172, hgr_172, hsr_172, hgb_172, hsb_172, hnrb_172⟩ := hQ172
      have N172 := Fr.app N30 N172q
      refine own_of st172 ?_
      show own_Out p e below _ (T172.setTop (mkF m 205 #[iv p0, iv p1, iv p2, iv ia, iv ua, iv ka, iv ib, iv ub, iv kb, rv b1, rv b19, iv (((p2.toUInt32 >>> ((3 : Int32) &&& 31).toUInt32).toInt32) &&& (3 : Int32)), .unset] [.ref r172]))
      refine o_astore X172 hx hby at_205 rfl (l' := #[iv p0, iv p1, iv p2, iv ia, iv ua, iv ka, iv ib, iv ub, iv kb, rv b1, rv b19, iv (((p2.toUInt32 >>> ((3 : Int32) &&& 31).toUInt32).toInt32) &&& (3 : Int32)), rv r172]) rfl (q := 207) rfl ?_
      refine o_aload X172 hx hby at_207 rfl rfl (q := 209) rfl ?_
      refine o_aload X172 hx hby at_209 rfl rfl (q := 211) rfl ?_
      have q176 := (Nat.le_trans q174 K172.1)
      have q177 := ((((((E11.ext E19).keep K21).keep K24).keep K27).keep K30).keep K172)
      obtain ⟨cq175, kq175, q175a, q175b, q175c⟩ := isOf hZ30 rfl q177
      obtain ⟨_, _, ⟨T175, L175, k175, n175⟩, -, X175, ⟨Lc175, hQ175, l175, y175, z175⟩, st175⟩ := X172.virtualBack hx (y := (⟨"com/example/collector_urchin/collectorurchin/store/Credential", "equals", "(Ljava/lang/Object;)Z"⟩ : MethodName)) (z := (⟨"com/example/collector_urchin/collectorurchin/store/Credential", "equals", "(Ljava/lang/Object;)Z"⟩ : MethodName)) hown30 (mvT hZ30 (w_ hw 49 rfl)) (mvT hZ30 (w_ hw 50 rfl)) (notFace_of_selects (args := #[]) (mvT hZ30 (w_ hw 52 rfl))) (mvT hZ30 (w_ hw 52 rfl)) (mvT hZ30 (w_ hw 51 rfl)) (by decide) (backOf (W := 0) (rm8s l Z a0 hw [] b1 r172 T172.heap n0 q176 E172) hZ30 (w_ hw 53 rfl) (w_ hw 2 rfl) (by decide) (by decide)) q175a q175c (g := (mkF m 211 #[iv p0, iv p1, iv p2, iv ia, iv ua, iv ka, iv ib, iv ub, iv kb, rv b1, rv b19, iv (((p2.toUInt32 >>> ((3 : Int32) &&& 31).toUInt32).toInt32) &&& (3 : Int32)), rv r172] [.ref r172, .ref b1])) rfl (by rw [hml]; rfl) (Steps.refl _) (argsL := [(.ref r172)]) (rest := []) (lenOf pd_5 rfl) rfl (by show 2 * 0 + _ ≤ _; exact Nat.le_of_eq rfl) (hb hby at_211) (fun _ _ => ⟨rfl, rfl, (by decide : 28 + 0 ≤ _), (by decide : 137 + 0 ≤ _)⟩)
      dsimp only [Pt.U, Pt.locs, Pt.cells, Pt.slots] at X175 l175 y175 z175 st175 hQ175
      subst l175 y175 z175
      obtain ⟨rfl, N175q, hh175⟩ := hQ175
      have N175 := Fr.app N172 N175q
      refine own_of (fun _ k => st175.trans k) ?_
      show own_Out p e below _ (T175.setTop (mkF m 214 #[iv p0, iv p1, iv p2, iv ia, iv ua, iv ka, iv ib, iv ub, iv kb, rv b1, rv b19, iv (((p2.toUInt32 >>> ((3 : Int32) &&& 31).toUInt32).toInt32) &&& (3 : Int32)), rv r172] [.int 0]))
      refine o_ifN X175 hx hby at_214 ((if0 _ _).trans (teq (by decide : (0 : Int32) = (0 : Int32))).2) (q := 217) rfl ?_
      refine o_iconst X175 hx hby at_217 (z := 1) rfl (q := 218) rfl ?_
      refine o_goto X175 hx hby at_218 (by decide) (q := 222) (by decide) ?_
      have q178 := (Nat.le_trans (Nat.le_refl T30.heap.size) K172.1)
      exact own_outNW (s := s) (vm₁ := T30.vm) X175 S30 (by rw [hh175]; exact q178) hx hlk (t := .boolean) hret (by simp) (hb hby at_222) (z' := (1 : Int32)) rfl (Q := Q) (hQ _ _ N175) (by decide) (by decide)
    · skip
      refine o_icY X30 hx hby at_198 (feq hc198_171).2 (by decide) (q := 223) (by decide) ?_
      refine o_iload X30 hx hby at_223 rfl (q := 225) rfl ?_
      refine o_iconst X30 hx hby at_225 (z := 2) rfl (q := 226) rfl ?_
      by_cases hc226_179 : (((p2.toUInt32 >>> ((3 : Int32) &&& 31).toUInt32).toInt32) &&& (3 : Int32)) = (2 : Int32)
      · skip
        refine o_icN X30 hx hby at_226 (teq hc226_179).2 (q := 229) rfl ?_
        refine o_aload X30 hx hby at_229 rfl rfl (q := 231) rfl ?_
        refine o_aconst_null X30 hx hby at_231 (q := 232) rfl ?_
        have q181 := (Nat.le_trans q37 K30.1)
        have q182 := (((((E11.ext E19).keep K21).keep K24).keep K27).keep K30)
        obtain ⟨cq180, kq180, q180a, q180b, q180c⟩ := isOf hZ30 rfl q182
        obtain ⟨_, _, ⟨T180, L180, k180, n180⟩, -, X180, ⟨Lc180, hQ180, l180, y180, z180⟩, st180⟩ := X30.virtualBack hx (y := (⟨"com/example/collector_urchin/collectorurchin/store/Credential", "equals", "(Ljava/lang/Object;)Z"⟩ : MethodName)) (z := (⟨"com/example/collector_urchin/collectorurchin/store/Credential", "equals", "(Ljava/lang/Object;)Z"⟩ : MethodName)) hown30 (mvT hZ30 (w_ hw 49 rfl)) (mvT hZ30 (w_ hw 50 rfl)) (notFace_of_selects (args := #[]) (mvT hZ30 (w_ hw 52 rfl))) (mvT hZ30 (w_ hw 52 rfl)) (mvT hZ30 (w_ hw 51 rfl)) (by decide) (backOf (W := 0) (rm8n l Z a0 hw [] b1 T30.heap n0 q181 ) hZ30 (w_ hw 53 rfl) (w_ hw 2 rfl) (by decide) (by decide)) q180a q180c (g := (mkF m 232 #[iv p0, iv p1, iv p2, iv ia, iv ua, iv ka, iv ib, iv ub, iv kb, rv b1, rv b19, iv (((p2.toUInt32 >>> ((3 : Int32) &&& 31).toUInt32).toInt32) &&& (3 : Int32)), .unset] [.null, .ref b1])) rfl (by rw [hml]; rfl) (Steps.refl _) (argsL := [.null]) (rest := []) (lenOf pd_5 rfl) rfl (by show 2 * 0 + _ ≤ _; exact Nat.le_of_eq rfl) (hb hby at_232) (fun _ _ => ⟨rfl, rfl, (by decide : 26 + 0 ≤ _), (by decide : 132 + 0 ≤ _)⟩)
        dsimp only [Pt.U, Pt.locs, Pt.cells, Pt.slots] at X180 l180 y180 z180 st180 hQ180
        subst l180 y180 z180
        obtain ⟨rfl, N180q, hh180⟩ := hQ180
        have N180 := Fr.app N30 N180q
        refine own_of (fun _ k => st180.trans k) ?_
        show own_Out p e below _ (T180.setTop (mkF m 235 #[iv p0, iv p1, iv p2, iv ia, iv ua, iv ka, iv ib, iv ub, iv kb, rv b1, rv b19, iv (((p2.toUInt32 >>> ((3 : Int32) &&& 31).toUInt32).toInt32) &&& (3 : Int32)), .unset] [.int 0]))
        refine o_ifN X180 hx hby at_235 ((if0 _ _).trans (teq (by decide : (0 : Int32) = (0 : Int32))).2) (q := 238) rfl ?_
        refine o_iconst X180 hx hby at_238 (z := 1) rfl (q := 239) rfl ?_
        refine o_goto X180 hx hby at_239 (by decide) (q := 243) (by decide) ?_
        exact own_outNW (s := s) (vm₁ := T30.vm) X180 S30 (by rw [hh180]; exact (Nat.le_refl T30.heap.size)) hx hlk (t := .boolean) hret (by simp) (hb hby at_243) (z' := (1 : Int32)) rfl (Q := Q) (hQ _ _ N180) (by decide) (by decide)
      · skip
        refine o_icY X30 hx hby at_226 (feq hc226_179).2 (by decide) (q := 244) (by decide) ?_
        refine o_aload X30 hx hby at_244 rfl rfl (q := 246) rfl ?_
        refine o_aload X30 hx hby at_246 rfl rfl (q := 248) rfl ?_
        have ne_r2_r21 : r2 ≠ r21 := Nat.ne_of_lt (Nat.lt_of_lt_of_le (Nat.lt_of_lt_of_le (Nat.lt_of_lt_of_le (Nat.lt_of_lt_of_le (Nat.lt_of_lt_of_le E2.lt K5.1) K8.1) K11.1) E19.1) hsr_21)
        have ne_r5_r24 : r5 ≠ r24 := Nat.ne_of_lt (Nat.lt_of_lt_of_le (Nat.lt_of_lt_of_le (Nat.lt_of_lt_of_le (Nat.lt_of_lt_of_le (Nat.lt_of_lt_of_le E5.lt K8.1) K11.1) E19.1) K21.1) hsr_24)
        have ne_r8_r27 : r8 ≠ r27 := Nat.ne_of_lt (Nat.lt_of_lt_of_le (Nat.lt_of_lt_of_le (Nat.lt_of_lt_of_le (Nat.lt_of_lt_of_le (Nat.lt_of_lt_of_le E8.lt K11.1) E19.1) K21.1) K24.1) hsr_27)
        have q184 := (((((E11.ext E19).keep K21).keep K24).keep K27).keep K30)
        have ne_b1_b19 : b1 ≠ b19 := Nat.ne_of_lt (Nat.lt_of_lt_of_le (Nat.lt_of_lt_of_le (Nat.lt_of_lt_of_le (Nat.lt_of_lt_of_le (Nat.lt_of_lt_of_le A1.lt K2.1) K5.1) K8.1) K11.1) (Nat.le_of_eq g19.symm))
        have q185 := (((((F11_id.ext E19).keep K21 nin0).keep K24 nin0).keep K27 nin0).keep K30 (ninS ne_b1_b19 nin0))
        have q186 := ((((((q16.keep K11).ext E19).keep K21).keep K24).keep K27).keep K30)
        have ne_b1_r2 : b1 ≠ r2 := Nat.ne_of_lt (Nat.lt_of_lt_of_le A1.lt hsr_2)
        have ne_r2_b19 : r2 ≠ b19 := Nat.ne_of_lt (Nat.lt_of_lt_of_le (Nat.lt_of_lt_of_le (Nat.lt_of_lt_of_le (Nat.lt_of_lt_of_le E2.lt K5.1) K8.1) K11.1) (Nat.le_of_eq g19.symm))
        have q187 := ((((((((Fv2.keep K5 nin0).keep K8 nin0).keep K11 (ninS (Ne.symm ne_b1_r2) nin0)).ext E19).keep K21 nin0).keep K24 nin0).keep K27 nin0).keep K30 (ninS ne_r2_b19 nin0))
        have q188 := ((((((((Fc2.keep K5 nin0).keep K8 nin0).keep K11 (ninS (Ne.symm ne_b1_r2) nin0)).ext E19).keep K21 nin0).keep K24 nin0).keep K27 nin0).keep K30 (ninS ne_r2_b19 nin0))
        have ne_b1_b2 : b1 ≠ b2 := Nat.ne_of_lt (Nat.lt_of_lt_of_le A1.lt hsb_2)
        have ne_b2_b19 : b2 ≠ b19 := Nat.ne_of_lt (Nat.lt_of_lt_of_le (Nat.lt_of_lt_of_le (Nat.lt_of_lt_of_le (Nat.lt_of_lt_of_le V2.lt K5.1) K8.1) K11.1) (Nat.le_of_eq g19.symm))
        have q189 := ((((((((V2.keep K5 nin0).keep K8 nin0).keep K11 (ninS (Ne.symm ne_b1_b2) nin0)).ext E19).keep K21 nin0).keep K24 nin0).keep K27 nin0).keep K30 (ninS ne_b2_b19 nin0))
        have q190 := (((((F11_user.ext E19).keep K21 nin0).keep K24 nin0).keep K27 nin0).keep K30 (ninS ne_b1_b19 nin0))
        have q191 := ((((((q17.keep K11).ext E19).keep K21).keep K24).keep K27).keep K30)
        have ne_b1_r5 : b1 ≠ r5 := Nat.ne_of_lt (Nat.lt_of_lt_of_le (Nat.lt_of_lt_of_le A1.lt K2.1) hsr_5)
        have ne_r5_b19 : r5 ≠ b19 := Nat.ne_of_lt (Nat.lt_of_lt_of_le (Nat.lt_of_lt_of_le (Nat.lt_of_lt_of_le E5.lt K8.1) K11.1) (Nat.le_of_eq g19.symm))
        have q192 := (((((((Fv5.keep K8 nin0).keep K11 (ninS (Ne.symm ne_b1_r5) nin0)).ext E19).keep K21 nin0).keep K24 nin0).keep K27 nin0).keep K30 (ninS ne_r5_b19 nin0))
        have q193 := (((((((Fc5.keep K8 nin0).keep K11 (ninS (Ne.symm ne_b1_r5) nin0)).ext E19).keep K21 nin0).keep K24 nin0).keep K27 nin0).keep K30 (ninS ne_r5_b19 nin0))
        have ne_b1_b5 : b1 ≠ b5 := Nat.ne_of_lt (Nat.lt_of_lt_of_le (Nat.lt_of_lt_of_le A1.lt K2.1) hsb_5)
        have ne_b5_b19 : b5 ≠ b19 := Nat.ne_of_lt (Nat.lt_of_lt_of_le (Nat.lt_of_lt_of_le (Nat.lt_of_lt_of_le V5.lt K8.1) K11.1) (Nat.le_of_eq g19.symm))
        have q194 := (((((((V5.keep K8 nin0).keep K11 (ninS (Ne.symm ne_b1_b5) nin0)).ext E19).keep K21 nin0).keep K24 nin0).keep K27 nin0).keep K30 (ninS ne_b5_b19 nin0))
        have q195 := (((((F11_key.ext E19).keep K21 nin0).keep K24 nin0).keep K27 nin0).keep K30 (ninS ne_b1_b19 nin0))
        have q196 := ((((((E8.keep K11).ext E19).keep K21).keep K24).keep K27).keep K30)
        have ne_b1_r8 : b1 ≠ r8 := Nat.ne_of_lt (Nat.lt_of_lt_of_le (Nat.lt_of_lt_of_le (Nat.lt_of_lt_of_le A1.lt K2.1) K5.1) hsr_8)
        have ne_r8_b19 : r8 ≠ b19 := Nat.ne_of_lt (Nat.lt_of_lt_of_le (Nat.lt_of_lt_of_le E8.lt K11.1) (Nat.le_of_eq g19.symm))
        have q197 := ((((((Fv8.keep K11 (ninS (Ne.symm ne_b1_r8) nin0)).ext E19).keep K21 nin0).keep K24 nin0).keep K27 nin0).keep K30 (ninS ne_r8_b19 nin0))
        have q198 := ((((((Fc8.keep K11 (ninS (Ne.symm ne_b1_r8) nin0)).ext E19).keep K21 nin0).keep K24 nin0).keep K27 nin0).keep K30 (ninS ne_r8_b19 nin0))
        have ne_b1_b8 : b1 ≠ b8 := Nat.ne_of_lt (Nat.lt_of_lt_of_le (Nat.lt_of_lt_of_le (Nat.lt_of_lt_of_le A1.lt K2.1) K5.1) hsb_8)
        have ne_b8_b19 : b8 ≠ b19 := Nat.ne_of_lt (Nat.lt_of_lt_of_le (Nat.lt_of_lt_of_le V8.lt K11.1) (Nat.le_of_eq g19.symm))
        have q199 := ((((((V8.keep K11 (ninS (Ne.symm ne_b1_b8) nin0)).ext E19).keep K21 nin0).keep K24 nin0).keep K27 nin0).keep K30 (ninS ne_b8_b19 nin0))
        have q200 := (q35.keep K30)
        have ne_b19_r21 : b19 ≠ r21 := Nat.ne_of_lt (Nat.lt_of_lt_of_le A19.lt hsr_21)
        have q201 := (((Fv21.keep K24 nin0).keep K27 nin0).keep K30 (ninS (Ne.symm ne_b19_r21) nin0))
        have q202 := (((Fc21.keep K24 nin0).keep K27 nin0).keep K30 (ninS (Ne.symm ne_b19_r21) nin0))
        have ne_b19_b21 : b19 ≠ b21 := Nat.ne_of_lt (Nat.lt_of_lt_of_le A19.lt hsb_21)
        have q203 := (((V21.keep K24 nin0).keep K27 nin0).keep K30 (ninS (Ne.symm ne_b19_b21) nin0))
        have q204 := (q36.keep K30)
        have ne_b19_r24 : b19 ≠ r24 := Nat.ne_of_lt (Nat.lt_of_lt_of_le (Nat.lt_of_lt_of_le A19.lt K21.1) hsr_24)
        have q205 := ((Fv24.keep K27 nin0).keep K30 (ninS (Ne.symm ne_b19_r24) nin0))
        have q206 := ((Fc24.keep K27 nin0).keep K30 (ninS (Ne.symm ne_b19_r24) nin0))
        have ne_b19_b24 : b19 ≠ b24 := Nat.ne_of_lt (Nat.lt_of_lt_of_le (Nat.lt_of_lt_of_le A19.lt K21.1) hsb_24)
        have q207 := ((V24.keep K27 nin0).keep K30 (ninS (Ne.symm ne_b19_b24) nin0))
        have q208 := (E27.keep K30)
        have ne_b19_r27 : b19 ≠ r27 := Nat.ne_of_lt (Nat.lt_of_lt_of_le (Nat.lt_of_lt_of_le (Nat.lt_of_lt_of_le A19.lt K21.1) K24.1) hsr_27)
        have q209 := (Fv27.keep K30 (ninS (Ne.symm ne_b19_r27) nin0))
        have q210 := (Fc27.keep K30 (ninS (Ne.symm ne_b19_r27) nin0))
        have ne_b19_b27 : b19 ≠ b27 := Nat.ne_of_lt (Nat.lt_of_lt_of_le (Nat.lt_of_lt_of_le (Nat.lt_of_lt_of_le A19.lt K21.1) K24.1) hsb_27)
        have q211 := (V27.keep K30 (ninS (Ne.symm ne_b19_b27) nin0))
        have q212 := (own_staK1 (own_staK0 q28 K27) K30 (own_plainE q31))
        have q213 := (Nat.le_trans q37 K30.1)
        obtain ⟨cq183, kq183, q183a, q183b, q183c⟩ := isOf hZ30 rfl q184
        obtain ⟨_, _, ⟨T183, L183, k183, n183⟩, -, X183, ⟨Lc183, hQ183, l183, y183, z183⟩, st183⟩ := X30.virtualBack hx (y := (⟨"com/example/collector_urchin/collectorurchin/store/Credential", "equals", "(Ljava/lang/Object;)Z"⟩ : MethodName)) (z := (⟨"com/example/collector_urchin/collectorurchin/store/Credential", "equals", "(Ljava/lang/Object;)Z"⟩ : MethodName)) hown30 (mvT hZ30 (w_ hw 49 rfl)) (mvT hZ30 (w_ hw 50 rfl)) (notFace_of_selects (args := #[]) (mvT hZ30 (w_ hw 52 rfl))) (mvT hZ30 (w_ hw 52 rfl)) (mvT hZ30 (w_ hw 51 rfl)) (by decide) (backOf (W := 0) (rm8c l Z a0 hw [] b1 b19 r2 b2 k2 ((ia.toInt8.toInt32).toInt8.toInt32) r5 b5 k5 ((ua.toInt8.toInt32).toInt8.toInt32) r8 b8 k8 ((ka.toInt8.toInt32).toInt8.toInt32) r21 b21 k21 ((ib.toInt8.toInt32).toInt8.toInt32) r24 b24 k24 ((ub.toInt8.toInt32).toInt8.toInt32) r27 b27 k27 ((kb.toInt8.toInt32).toInt8.toInt32) cs T30.heap n0 q213 q184 E30 q185 q186 q187 q188 q189 q190 q191 q192 q193 q194 q195 q196 q197 q198 q199 F30_id q200 q201 q202 q203 F30_user q204 q205 q206 q207 F30_key q208 q209 q210 q211 q212 hcs ne_r2_r21 ne_r5_r24 ne_r8_r27) hZ30 (w_ hw 53 rfl) (w_ hw 2 rfl) (by decide) (by decide)) q183a q183c (g := (mkF m 248 #[iv p0, iv p1, iv p2, iv ia, iv ua, iv ka, iv ib, iv ub, iv kb, rv b1, rv b19, iv (((p2.toUInt32 >>> ((3 : Int32) &&& 31).toUInt32).toInt32) &&& (3 : Int32)), .unset] [.ref b19, .ref b1])) rfl (by rw [hml]; rfl) (Steps.refl _) (argsL := [(.ref b19)]) (rest := []) (lenOf pd_5 rfl) rfl (by show 2 * 0 + _ ≤ _; exact Nat.le_of_eq rfl) (hb hby at_248) (fun _ _ => ⟨rfl, rfl, (by decide : 26 + 0 ≤ _), (by decide : 132 + 0 ≤ _)⟩)
        dsimp only [Pt.U, Pt.locs, Pt.cells, Pt.slots] at X183 l183 y183 z183 st183 hQ183
        subst l183 y183 z183
        obtain ⟨rfl, N183q, hh183⟩ := hQ183
        have N183 := Fr.app N30 N183q
        refine own_of (fun _ k => st183.trans k) ?_
        show own_Out p e below _ (T183.setTop (mkF m 251 #[iv p0, iv p1, iv p2, iv ia, iv ua, iv ka, iv ib, iv ub, iv kb, rv b1, rv b19, iv (((p2.toUInt32 >>> ((3 : Int32) &&& 31).toUInt32).toInt32) &&& (3 : Int32)), .unset] [.int (fqe ((ia.toInt8.toInt32).toInt8.toInt32) ((ua.toInt8.toInt32).toInt8.toInt32) ((ka.toInt8.toInt32).toInt8.toInt32) ((ib.toInt8.toInt32).toInt8.toInt32) ((ub.toInt8.toInt32).toInt8.toInt32) ((kb.toInt8.toInt32).toInt8.toInt32) cs)]))
        refine o_aload X183 hx hby at_251 rfl rfl (q := 253) rfl ?_
        refine o_aload X183 hx hby at_253 rfl rfl (q := 255) rfl ?_
        obtain ⟨cq214, kq214, q214a, q214b, q214c⟩ := isOf hZ30 hh183 E30
        obtain ⟨_, _, ⟨T214, L214, k214, n214⟩, -, X214, ⟨Lc214, hQ214, l214, y214, z214⟩, st214⟩ := X183.virtualBack hx (y := (⟨"com/example/collector_urchin/collectorurchin/store/Credential", "equals", "(Ljava/lang/Object;)Z"⟩ : MethodName)) (z := (⟨"com/example/collector_urchin/collectorurchin/store/Credential", "equals", "(Ljava/lang/Object;)Z"⟩ : MethodName)) hown30 (mvT hZ30 (w_ hw 49 rfl)) (mvT hZ30 (w_ hw 50 rfl)) (notFace_of_selects (args := #[]) (mvT hZ30 (w_ hw 52 rfl))) (mvT hZ30 (w_ hw 52 rfl)) (mvT hZ30 (w_ hw 51 rfl)) (by decide) (backOf (W := 1) (rm8c l Z a0 hw [] b19 b1 r21 b21 k21 ((ib.toInt8.toInt32).toInt8.toInt32) r24 b24 k24 ((ub.toInt8.toInt32).toInt8.toInt32) r27 b27 k27 ((kb.toInt8.toInt32).toInt8.toInt32) r2 b2 k2 ((ia.toInt8.toInt32).toInt8.toInt32) r5 b5 k5 ((ua.toInt8.toInt32).toInt8.toInt32) r8 b8 k8 ((ka.toInt8.toInt32).toInt8.toInt32) cs T30.heap n0 q213 E30 q184 F30_id q200 q201 q202 q203 F30_user q204 q205 q206 q207 F30_key q208 q209 q210 q211 q185 q186 q187 q188 q189 q190 q191 q192 q193 q194 q195 q196 q197 q198 q199 q212 hcs (Ne.symm ne_r2_r21) (Ne.symm ne_r5_r24) (Ne.symm ne_r8_r27)) hZ30 (w_ hw 53 rfl) (w_ hw 2 rfl) (by decide) (by decide)) q214a q214c (g := (mkF m 255 #[iv p0, iv p1, iv p2, iv ia, iv ua, iv ka, iv ib, iv ub, iv kb, rv b1, rv b19, iv (((p2.toUInt32 >>> ((3 : Int32) &&& 31).toUInt32).toInt32) &&& (3 : Int32)), .unset] [.ref b1, .ref b19, .int (fqe ((ia.toInt8.toInt32).toInt8.toInt32) ((ua.toInt8.toInt32).toInt8.toInt32) ((ka.toInt8.toInt32).toInt8.toInt32) ((ib.toInt8.toInt32).toInt8.toInt32) ((ub.toInt8.toInt32).toInt8.toInt32) ((kb.toInt8.toInt32).toInt8.toInt32) cs)])) rfl (by rw [hml]; rfl) (Steps.refl _) (argsL := [(.ref b1)]) (rest := [(.int (fqe ((ia.toInt8.toInt32).toInt8.toInt32) ((ua.toInt8.toInt32).toInt8.toInt32) ((ka.toInt8.toInt32).toInt8.toInt32) ((ib.toInt8.toInt32).toInt8.toInt32) ((ub.toInt8.toInt32).toInt8.toInt32) ((kb.toInt8.toInt32).toInt8.toInt32) cs))]) (lenOf pd_5 rfl) rfl (by show 2 * 0 + _ ≤ _; exact Nat.le_of_eq rfl) (hb hby at_255) (fun _ _ => ⟨rfl, hh183, (by decide : 26 + 0 ≤ _), (by decide : 132 + 0 ≤ _)⟩)
        dsimp only [Pt.U, Pt.locs, Pt.cells, Pt.slots] at X214 l214 y214 z214 st214 hQ214
        subst l214 y214 z214
        obtain ⟨rfl, N214q, hh214⟩ := hQ214
        have N214 := Fr.app N183 N214q
        refine own_of (fun _ k => st214.trans k) ?_
        show own_Out p e below _ (T214.setTop (mkF m 258 #[iv p0, iv p1, iv p2, iv ia, iv ua, iv ka, iv ib, iv ub, iv kb, rv b1, rv b19, iv (((p2.toUInt32 >>> ((3 : Int32) &&& 31).toUInt32).toInt32) &&& (3 : Int32)), .unset] [.int (fqe ((ib.toInt8.toInt32).toInt8.toInt32) ((ub.toInt8.toInt32).toInt8.toInt32) ((kb.toInt8.toInt32).toInt8.toInt32) ((ia.toInt8.toInt32).toInt8.toInt32) ((ua.toInt8.toInt32).toInt8.toInt32) ((ka.toInt8.toInt32).toInt8.toInt32) cs), .int (fqe ((ia.toInt8.toInt32).toInt8.toInt32) ((ua.toInt8.toInt32).toInt8.toInt32) ((ka.toInt8.toInt32).toInt8.toInt32) ((ib.toInt8.toInt32).toInt8.toInt32) ((ub.toInt8.toInt32).toInt8.toInt32) ((kb.toInt8.toInt32).toInt8.toInt32) cs)]))
        by_cases hc258_215 : (fqe ((ia.toInt8.toInt32).toInt8.toInt32) ((ua.toInt8.toInt32).toInt8.toInt32) ((ka.toInt8.toInt32).toInt8.toInt32) ((ib.toInt8.toInt32).toInt8.toInt32) ((ub.toInt8.toInt32).toInt8.toInt32) ((kb.toInt8.toInt32).toInt8.toInt32) cs) = (fqe ((ib.toInt8.toInt32).toInt8.toInt32) ((ub.toInt8.toInt32).toInt8.toInt32) ((kb.toInt8.toInt32).toInt8.toInt32) ((ia.toInt8.toInt32).toInt8.toInt32) ((ua.toInt8.toInt32).toInt8.toInt32) ((ka.toInt8.toInt32).toInt8.toInt32) cs)
        · skip
          refine o_icN X214 hx hby at_258 (teq hc258_215).2 (q := 261) rfl ?_
          refine o_iconst X214 hx hby at_261 (z := 1) rfl (q := 262) rfl ?_
          refine o_goto X214 hx hby at_262 (by decide) (q := 266) (by decide) ?_
          exact own_outNW (s := s) (vm₁ := T30.vm) X214 S30 (by rw [hh214]; exact (Nat.le_refl T30.heap.size)) hx hlk (t := .boolean) hret (by simp) (hb hby at_266) (z' := (1 : Int32)) rfl (Q := Q) (hQ _ _ N214) (by decide) (by decide)
        · skip
          refine o_icY X214 hx hby at_258 (feq hc258_215).2 (by decide) (q := 265) (by decide) ?_
          refine o_iconst X214 hx hby at_265 (z := 0) rfl (q := 266) rfl ?_
          exact (sg91_dead4 p0 p1 p2 ia ua ka ib ub kb cs hcs s_ia s_ua s_ka s_ib s_ub s_kb z_ia z_ua z_ka z_ib z_ub z_kb hc147_39 hc198_171 hc226_179 hc258_215).elim
theorem own_ch (x : Int32) : ¬ ((255 : Int32) < ((x &&& (255 : Int32)).toUInt32.toUInt16.toUInt32.toInt32)) ∧ ¬ (((x &&& (255 : Int32)).toUInt32.toUInt16.toUInt32.toInt32) < (0 : Int32)) := by
  have n255 : (255 : Int32).toInt = 255 := rfl
  have n0 : (0 : Int32).toInt = 0 := rfl
  have a := c_mask x 255 8 (by decide) (by decide)
  have b := c_i2c (x &&& (255 : Int32))
  rw [Int32.lt_iff_toInt_lt, Int32.lt_iff_toInt_lt]
  omega
theorem pn_4 : plainName "com/example/collector_urchin/collectorurchin/store/CredentialEqualsPinLaw" = true := by first | (simp [plainName, overriddenIn]; done) | decide +kernel
theorem ef_0 (m : MethodId) (x0 : Int32) (x1 : Int32) (x2 : Int32) : entryFrame m #[(.int x0), (.int x1), (.int x2)] maxLocals = mkF m 0 #[.val (.int x0), .val (.int x1), .val (.int x2), .unset, .unset, .unset, .unset, .unset, .unset, .unset, .unset, .unset, .unset] [] := by first | (simp [entryFrame, mkF, argsToLocals, Value.category, maxLocals]; done) | rfl
def Q0 (Z : State) (p0 : Int32) (p1 : Int32) (p2 : Int32) (cs : Int32) (h0 : Heap) (n0 : Nat) (v : Option Value) (h : Heap) (L : List Loc) : Prop := v = some (.int 1) ∧ Fr n0 L
set_option maxRecDepth 65536 in
set_option maxHeartbeats 40000000 in
theorem rm0 (l : Launch) (Z : State) (a0 : Array Value) (hw : ∀ d ∈ tables_1, d.before a0 Z = true) (ws : List Jvm.Cond) (p0 : Int32) (p1 : Int32) (p2 : Int32) (cs : Int32) (h0 : Heap) (n0 : Nat) (Z0 : n0 ≤ h0.size) (S_cs : Sta Z h0 "java/lang/String" "COMPACT_STRINGS" "Z" (.int cs)) (hcs : ¬ (cs = (0 : Int32))) :
    MetFree l x (head1 (Jvm.Cond.code x code maxLocals ret :: ws) room_1) (fun a U => a = #[(.int p0), (.int p1), (.int p2)] ∧ Z.Warmed39 U.vm ∧ U.heap = h0) (fun _ _ _ _ _ => True) (fun _ U o U' => ∃ v L, o = .returned v ∧ Q0 Z p0 p1 p2 cs h0 n0 v U'.heap L ∧ ReturnedEndW U o U' L 40 400) := by
  refine MetFree.of_bodySF (plainFor_of_name pn_4) hisR ?_
  intro p e s m args below meth c s₁ Bd hml0 hP hK
  obtain ⟨rfl, hZ, hh⟩ := hP
  have hx := Bd.exec
  have hby := Bd.bytes
  have hml : c.maxLocals = 13 := hml0
  have hown : s.vm.findClass "com/example/collector_urchin/collectorurchin/store/CredentialEqualsPinLaw" = some m.cls := findClass_of_methodNamed Bd.named
  have hnm := (name_of_methodNamed Bd.named Bd.method).1
  have X0 : Stand p l e room_1 s m #[(.int p0), (.int p1), (.int p2)] below meth c s₁ [] 0 0 := Stand.of_body Bd
  have e0 : s₁.heap = h0 := by rw [← hh, Bd.state]; rfl
  have N0 := Fr.nil n0
  have hret := Bd.returns
  have hlk := BodyLoose.notSynchronized Bd
  show own_Out p e below (fun o U' => ∃ v L, o = .returned v ∧ Q0 Z p0 p1 p2 cs h0 n0 v U'.heap L ∧ ReturnedEndW s o U' L 40 400) (s₁.setTop (entryFrame m #[(.int p0), (.int p1), (.int p2)] maxLocals))
  refine own_of (fun t k => castTop (ef_0 m p0 p1 p2) k) ?_
  show own_Out p e below _ (s₁.setTop (mkF m 0 #[iv p0, iv p1, iv p2, .unset, .unset, .unset, .unset, .unset, .unset, .unset, .unset, .unset, .unset] []))
  refine o_iloadN X0 hx hby at_0 rfl (q := 1) rfl ?_
  refine o_sipush X0 hx hby at_1 (z := 255) rfl (q := 4) rfl ?_
  refine o_iand X0 hx hby at_4 rfl (q := 5) rfl ?_
  refine o_i2c X0 hx hby at_5 rfl (q := 6) rfl ?_
  refine o_istoreN X0 hx hby at_6 (l' := #[iv p0, iv p1, iv p2, iv ((p0 &&& (255 : Int32)).toUInt32.toUInt16.toUInt32.toInt32), .unset, .unset, .unset, .unset, .unset, .unset, .unset, .unset, .unset]) rfl (q := 7) rfl ?_
  refine o_iloadN X0 hx hby at_7 rfl (q := 8) rfl ?_
  refine o_bipush X0 hx hby at_8 (z := 8) rfl (q := 10) rfl ?_
  refine o_iushr X0 hx hby at_10 rfl (q := 11) rfl ?_
  refine o_sipush X0 hx hby at_11 (z := 255) rfl (q := 14) rfl ?_
  refine o_iand X0 hx hby at_14 rfl (q := 15) rfl ?_
  refine o_i2c X0 hx hby at_15 rfl (q := 16) rfl ?_
  refine o_istore X0 hx hby at_16 (l' := #[iv p0, iv p1, iv p2, iv ((p0 &&& (255 : Int32)).toUInt32.toUInt16.toUInt32.toInt32), iv ((((p0.toUInt32 >>> ((8 : Int32) &&& 31).toUInt32).toInt32) &&& (255 : Int32)).toUInt32.toUInt16.toUInt32.toInt32), .unset, .unset, .unset, .unset, .unset, .unset, .unset, .unset]) rfl (q := 18) rfl ?_
  refine o_iloadN X0 hx hby at_18 rfl (q := 19) rfl ?_
  refine o_bipush X0 hx hby at_19 (z := 16) rfl (q := 21) rfl ?_
  refine o_iushr X0 hx hby at_21 rfl (q := 22) rfl ?_
  refine o_sipush X0 hx hby at_22 (z := 255) rfl (q := 25) rfl ?_
  refine o_iand X0 hx hby at_25 rfl (q := 26) rfl ?_
  refine o_i2c X0 hx hby at_26 rfl (q := 27) rfl ?_
  refine o_istore X0 hx hby at_27 (l' := #[iv p0, iv p1, iv p2, iv ((p0 &&& (255 : Int32)).toUInt32.toUInt16.toUInt32.toInt32), iv ((((p0.toUInt32 >>> ((8 : Int32) &&& 31).toUInt32).toInt32) &&& (255 : Int32)).toUInt32.toUInt16.toUInt32.toInt32), iv ((((p0.toUInt32 >>> ((16 : Int32) &&& 31).toUInt32).toInt32) &&& (255 : Int32)).toUInt32.toUInt16.toUInt32.toInt32), .unset, .unset, .unset, .unset, .unset, .unset, .unset]) rfl (q := 29) rfl ?_
  refine o_iloadN X0 hx hby at_29 rfl (q := 30) rfl ?_
  refine o_iconst X0 hx hby at_30 (z := 1) rfl (q := 31) rfl ?_
  refine o_iand X0 hx hby at_31 rfl (q := 32) rfl ?_
  by_cases hc32_1 : (p2 &&& (1 : Int32)) = (0 : Int32)
  · skip
    refine o_ifY X0 hx hby at_32 ((if0 _ _).trans (teq hc32_1).1) (by decide) (q := 39) (by decide) ?_
    refine o_iloadN X0 hx hby at_39 rfl (q := 40) rfl ?_
    refine o_sipush X0 hx hby at_40 (z := 255) rfl (q := 43) rfl ?_
    refine o_iand X0 hx hby at_43 rfl (q := 44) rfl ?_
    refine o_i2c X0 hx hby at_44 rfl (q := 45) rfl ?_
    refine o_istore X0 hx hby at_45 (l' := #[iv p0, iv p1, iv p2, iv ((p0 &&& (255 : Int32)).toUInt32.toUInt16.toUInt32.toInt32), iv ((((p0.toUInt32 >>> ((8 : Int32) &&& 31).toUInt32).toInt32) &&& (255 : Int32)).toUInt32.toUInt16.toUInt32.toInt32), iv ((((p0.toUInt32 >>> ((16 : Int32) &&& 31).toUInt32).toInt32) &&& (255 : Int32)).toUInt32.toUInt16.toUInt32.toInt32), iv ((p1 &&& (255 : Int32)).toUInt32.toUInt16.toUInt32.toInt32), .unset, .unset, .unset, .unset, .unset, .unset]) rfl (q := 47) rfl ?_
    refine o_iloadN X0 hx hby at_47 rfl (q := 48) rfl ?_
    refine o_iconst X0 hx hby at_48 (z := 2) rfl (q := 49) rfl ?_
    refine o_iand X0 hx hby at_49 rfl (q := 50) rfl ?_
    by_cases hc50_2 : (p2 &&& (2 : Int32)) = (0 : Int32)
    · skip
      refine o_ifY X0 hx hby at_50 ((if0 _ _).trans (teq hc50_2).1) (by decide) (q := 58) (by decide) ?_
      refine o_iloadN X0 hx hby at_58 rfl (q := 59) rfl ?_
      refine o_bipush X0 hx hby at_59 (z := 8) rfl (q := 61) rfl ?_
      refine o_iushr X0 hx hby at_61 rfl (q := 62) rfl ?_
      refine o_sipush X0 hx hby at_62 (z := 255) rfl (q := 65) rfl ?_
      refine o_iand X0 hx hby at_65 rfl (q := 66) rfl ?_
      refine o_i2c X0 hx hby at_66 rfl (q := 67) rfl ?_
      refine o_istore X0 hx hby at_67 (l' := #[iv p0, iv p1, iv p2, iv ((p0 &&& (255 : Int32)).toUInt32.toUInt16.toUInt32.toInt32), iv ((((p0.toUInt32 >>> ((8 : Int32) &&& 31).toUInt32).toInt32) &&& (255 : Int32)).toUInt32.toUInt16.toUInt32.toInt32), iv ((((p0.toUInt32 >>> ((16 : Int32) &&& 31).toUInt32).toInt32) &&& (255 : Int32)).toUInt32.toUInt16.toUInt32.toInt32), iv ((p1 &&& (255 : Int32)).toUInt32.toUInt16.toUInt32.toInt32), iv ((((p1.toUInt32 >>> ((8 : Int32) &&& 31).toUInt32).toInt32) &&& (255 : Int32)).toUInt32.toUInt16.toUInt32.toInt32), .unset, .unset, .unset, .unset, .unset]) rfl (q := 69) rfl ?_
      refine o_iloadN X0 hx hby at_69 rfl (q := 70) rfl ?_
      refine o_iconst X0 hx hby at_70 (z := 4) rfl (q := 71) rfl ?_
      refine o_iand X0 hx hby at_71 rfl (q := 72) rfl ?_
      by_cases hc72_3 : (p2 &&& (4 : Int32)) = (0 : Int32)
      · skip
        refine o_ifY X0 hx hby at_72 ((if0 _ _).trans (teq hc72_3).1) (by decide) (q := 80) (by decide) ?_
        refine o_iloadN X0 hx hby at_80 rfl (q := 81) rfl ?_
        refine o_bipush X0 hx hby at_81 (z := 16) rfl (q := 83) rfl ?_
        refine o_iushr X0 hx hby at_83 rfl (q := 84) rfl ?_
        refine o_sipush X0 hx hby at_84 (z := 255) rfl (q := 87) rfl ?_
        refine o_iand X0 hx hby at_87 rfl (q := 88) rfl ?_
        refine o_i2c X0 hx hby at_88 rfl (q := 89) rfl ?_
        refine o_istore X0 hx hby at_89 (l' := #[iv p0, iv p1, iv p2, iv ((p0 &&& (255 : Int32)).toUInt32.toUInt16.toUInt32.toInt32), iv ((((p0.toUInt32 >>> ((8 : Int32) &&& 31).toUInt32).toInt32) &&& (255 : Int32)).toUInt32.toUInt16.toUInt32.toInt32), iv ((((p0.toUInt32 >>> ((16 : Int32) &&& 31).toUInt32).toInt32) &&& (255 : Int32)).toUInt32.toUInt16.toUInt32.toInt32), iv ((p1 &&& (255 : Int32)).toUInt32.toUInt16.toUInt32.toInt32), iv ((((p1.toUInt32 >>> ((8 : Int32) &&& 31).toUInt32).toInt32) &&& (255 : Int32)).toUInt32.toUInt16.toUInt32.toInt32), iv ((((p1.toUInt32 >>> ((16 : Int32) &&& 31).toUInt32).toInt32) &&& (255 : Int32)).toUInt32.toUInt16.toUInt32.toInt32), .unset, .unset, .unset, .unset]) rfl (q := 91) rfl ?_
        exact sg91 (Q := Q0 Z p0 p1 p2 cs h0 n0) p0 p1 p2 ((p0 &&& (255 : Int32)).toUInt32.toUInt16.toUInt32.toInt32) ((((p0.toUInt32 >>> ((8 : Int32) &&& 31).toUInt32).toInt32) &&& (255 : Int32)).toUInt32.toUInt16.toUInt32.toInt32) ((((p0.toUInt32 >>> ((16 : Int32) &&& 31).toUInt32).toInt32) &&& (255 : Int32)).toUInt32.toUInt16.toUInt32.toInt32) ((p1 &&& (255 : Int32)).toUInt32.toUInt16.toUInt32.toInt32) ((((p1.toUInt32 >>> ((8 : Int32) &&& 31).toUInt32).toInt32) &&& (255 : Int32)).toUInt32.toUInt16.toUInt32.toInt32) ((((p1.toUInt32 >>> ((16 : Int32) &&& 31).toUInt32).toInt32) &&& (255 : Int32)).toUInt32.toUInt16.toUInt32.toInt32) cs h0 n0 X0 hx hZ hw hby hml hown hret hlk (fun _ _ N => ⟨rfl, N⟩) e0 Z0 N0 S_cs hcs (own_ch _).1 (own_ch _).1 (own_ch _).1 (own_ch _).1 (own_ch _).1 (own_ch _).1 (own_ch _).2 (own_ch _).2 (own_ch _).2 (own_ch _).2 (own_ch _).2 (own_ch _).2
      · skip
        refine o_ifN X0 hx hby at_72 ((if0 _ _).trans (feq hc72_3).1) (q := 75) rfl ?_
        refine o_iload X0 hx hby at_75 rfl (q := 77) rfl ?_
        refine o_goto X0 hx hby at_77 (by decide) (q := 89) (by decide) ?_
        refine o_istore X0 hx hby at_89 (l' := #[iv p0, iv p1, iv p2, iv ((p0 &&& (255 : Int32)).toUInt32.toUInt16.toUInt32.toInt32), iv ((((p0.toUInt32 >>> ((8 : Int32) &&& 31).toUInt32).toInt32) &&& (255 : Int32)).toUInt32.toUInt16.toUInt32.toInt32), iv ((((p0.toUInt32 >>> ((16 : Int32) &&& 31).toUInt32).toInt32) &&& (255 : Int32)).toUInt32.toUInt16.toUInt32.toInt32), iv ((p1 &&& (255 : Int32)).toUInt32.toUInt16.toUInt32.toInt32), iv ((((p1.toUInt32 >>> ((8 : Int32) &&& 31).toUInt32).toInt32) &&& (255 : Int32)).toUInt32.toUInt16.toUInt32.toInt32), iv ((((p0.toUInt32 >>> ((16 : Int32) &&& 31).toUInt32).toInt32) &&& (255 : Int32)).toUInt32.toUInt16.toUInt32.toInt32), .unset, .unset, .unset, .unset]) rfl (q := 91) rfl ?_
        exact sg91 (Q := Q0 Z p0 p1 p2 cs h0 n0) p0 p1 p2 ((p0 &&& (255 : Int32)).toUInt32.toUInt16.toUInt32.toInt32) ((((p0.toUInt32 >>> ((8 : Int32) &&& 31).toUInt32).toInt32) &&& (255 : Int32)).toUInt32.toUInt16.toUInt32.toInt32) ((((p0.toUInt32 >>> ((16 : Int32) &&& 31).toUInt32).toInt32) &&& (255 : Int32)).toUInt32.toUInt16.toUInt32.toInt32) ((p1 &&& (255 : Int32)).toUInt32.toUInt16.toUInt32.toInt32) ((((p1.toUInt32 >>> ((8 : Int32) &&& 31).toUInt32).toInt32) &&& (255 : Int32)).toUInt32.toUInt16.toUInt32.toInt32) ((((p0.toUInt32 >>> ((16 : Int32) &&& 31).toUInt32).toInt32) &&& (255 : Int32)).toUInt32.toUInt16.toUInt32.toInt32) cs h0 n0 X0 hx hZ hw hby hml hown hret hlk (fun _ _ N => ⟨rfl, N⟩) e0 Z0 N0 S_cs hcs (own_ch _).1 (own_ch _).1 (own_ch _).1 (own_ch _).1 (own_ch _).1 (own_ch _).1 (own_ch _).2 (own_ch _).2 (own_ch _).2 (own_ch _).2 (own_ch _).2 (own_ch _).2
    · skip
      refine o_ifN X0 hx hby at_50 ((if0 _ _).trans (feq hc50_2).1) (q := 53) rfl ?_
      refine o_iload X0 hx hby at_53 rfl (q := 55) rfl ?_
      refine o_goto X0 hx hby at_55 (by decide) (q := 67) (by decide) ?_
      refine o_istore X0 hx hby at_67 (l' := #[iv p0, iv p1, iv p2, iv ((p0 &&& (255 : Int32)).toUInt32.toUInt16.toUInt32.toInt32), iv ((((p0.toUInt32 >>> ((8 : Int32) &&& 31).toUInt32).toInt32) &&& (255 : Int32)).toUInt32.toUInt16.toUInt32.toInt32), iv ((((p0.toUInt32 >>> ((16 : Int32) &&& 31).toUInt32).toInt32) &&& (255 : Int32)).toUInt32.toUInt16.toUInt32.toInt32), iv ((p1 &&& (255 : Int32)).toUInt32.toUInt16.toUInt32.toInt32), iv ((((p0.toUInt32 >>> ((8 : Int32) &&& 31).toUInt32).toInt32) &&& (255 : Int32)).toUInt32.toUInt16.toUInt32.toInt32), .unset, .unset, .unset, .unset, .unset]) rfl (q := 69) rfl ?_
      refine o_iloadN X0 hx hby at_69 rfl (q := 70) rfl ?_
      refine o_iconst X0 hx hby at_70 (z := 4) rfl (q := 71) rfl ?_
      refine o_iand X0 hx hby at_71 rfl (q := 72) rfl ?_
      by_cases hc72_4 : (p2 &&& (4 : Int32)) = (0 : Int32)
      · skip
        refine o_ifY X0 hx hby at_72 ((if0 _ _).trans (teq hc72_4).1) (by decide) (q := 80) (by decide) ?_
        refine o_iloadN X0 hx hby at_80 rfl (q := 81) rfl ?_
        refine o_bipush X0 hx hby at_81 (z := 16) rfl (q := 83) rfl ?_
        refine o_iushr X0 hx hby at_83 rfl (q := 84) rfl ?_
        refine o_sipush X0 hx hby at_84 (z := 255) rfl (q := 87) rfl ?_
        refine o_iand X0 hx hby at_87 rfl (q := 88) rfl ?_
        refine o_i2c X0 hx hby at_88 rfl (q := 89) rfl ?_
        refine o_istore X0 hx hby at_89 (l' := #[iv p0, iv p1, iv p2, iv ((p0 &&& (255 : Int32)).toUInt32.toUInt16.toUInt32.toInt32), iv ((((p0.toUInt32 >>> ((8 : Int32) &&& 31).toUInt32).toInt32) &&& (255 : Int32)).toUInt32.toUInt16.toUInt32.toInt32), iv ((((p0.toUInt32 >>> ((16 : Int32) &&& 31).toUInt32).toInt32) &&& (255 : Int32)).toUInt32.toUInt16.toUInt32.toInt32), iv ((p1 &&& (255 : Int32)).toUInt32.toUInt16.toUInt32.toInt32), iv ((((p0.toUInt32 >>> ((8 : Int32) &&& 31).toUInt32).toInt32) &&& (255 : Int32)).toUInt32.toUInt16.toUInt32.toInt32), iv ((((p1.toUInt32 >>> ((16 : Int32) &&& 31).toUInt32).toInt32) &&& (255 : Int32)).toUInt32.toUInt16.toUInt32.toInt32), .unset, .unset, .unset, .unset]) rfl (q := 91) rfl ?_
        exact sg91 (Q := Q0 Z p0 p1 p2 cs h0 n0) p0 p1 p2 ((p0 &&& (255 : Int32)).toUInt32.toUInt16.toUInt32.toInt32) ((((p0.toUInt32 >>> ((8 : Int32) &&& 31).toUInt32).toInt32) &&& (255 : Int32)).toUInt32.toUInt16.toUInt32.toInt32) ((((p0.toUInt32 >>> ((16 : Int32) &&& 31).toUInt32).toInt32) &&& (255 : Int32)).toUInt32.toUInt16.toUInt32.toInt32) ((p1 &&& (255 : Int32)).toUInt32.toUInt16.toUInt32.toInt32) ((((p0.toUInt32 >>> ((8 : Int32) &&& 31).toUInt32).toInt32) &&& (255 : Int32)).toUInt32.toUInt16.toUInt32.toInt32) ((((p1.toUInt32 >>> ((16 : Int32) &&& 31).toUInt32).toInt32) &&& (255 : Int32)).toUInt32.toUInt16.toUInt32.toInt32) cs h0 n0 X0 hx hZ hw hby hml hown hret hlk (fun _ _ N => ⟨rfl, N⟩) e0 Z0 N0 S_cs hcs (own_ch _).1 (own_ch _).1 (own_ch _).1 (own_ch _).1 (own_ch _).1 (own_ch _).1 (own_ch _).2 (own_ch _).2 (own_ch _).2 (own_ch _).2 (own_ch _).2 (own_ch _).2
      · skip
        refine o_ifN X0 hx hby at_72 ((if0 _ _).trans (feq hc72_4).1) (q := 75) rfl ?_
        refine o_iload X0 hx hby at_75 rfl (q := 77) rfl ?_
        refine o_goto X0 hx hby at_77 (by decide) (q := 89) (by decide) ?_
        refine o_istore X0 hx hby at_89 (l' := #[iv p0, iv p1, iv p2, iv ((p0 &&& (255 : Int32)).toUInt32.toUInt16.toUInt32.toInt32), iv ((((p0.toUInt32 >>> ((8 : Int32) &&& 31).toUInt32).toInt32) &&& (255 : Int32)).toUInt32.toUInt16.toUInt32.toInt32), iv ((((p0.toUInt32 >>> ((16 : Int32) &&& 31).toUInt32).toInt32) &&& (255 : Int32)).toUInt32.toUInt16.toUInt32.toInt32), iv ((p1 &&& (255 : Int32)).toUInt32.toUInt16.toUInt32.toInt32), iv ((((p0.toUInt32 >>> ((8 : Int32) &&& 31).toUInt32).toInt32) &&& (255 : Int32)).toUInt32.toUInt16.toUInt32.toInt32), iv ((((p0.toUInt32 >>> ((16 : Int32) &&& 31).toUInt32).toInt32) &&& (255 : Int32)).toUInt32.toUInt16.toUInt32.toInt32), .unset, .unset, .unset, .unset]) rfl (q := 91) rfl ?_
        exact sg91 (Q := Q0 Z p0 p1 p2 cs h0 n0) p0 p1 p2 ((p0 &&& (255 : Int32)).toUInt32.toUInt16.toUInt32.toInt32) ((((p0.toUInt32 >>> ((8 : Int32) &&& 31).toUInt32).toInt32) &&& (255 : Int32)).toUInt32.toUInt16.toUInt32.toInt32) ((((p0.toUInt32 >>> ((16 : Int32) &&& 31).toUInt32).toInt32) &&& (255 : Int32)).toUInt32.toUInt16.toUInt32.toInt32) ((p1 &&& (255 : Int32)).toUInt32.toUInt16.toUInt32.toInt32) ((((p0.toUInt32 >>> ((8 : Int32) &&& 31).toUInt32).toInt32) &&& (255 : Int32)).toUInt32.toUInt16.toUInt32.toInt32) ((((p0.toUInt32 >>> ((16 : Int32) &&& 31).toUInt32).toInt32) &&& (255 : Int32)).toUInt32.toUInt16.toUInt32.toInt32) cs h0 n0 X0 hx hZ hw hby hml hown hret hlk (fun _ _ N => ⟨rfl, N⟩) e0 Z0 N0 S_cs hcs (own_ch _).1 (own_ch _).1 (own_ch _).1 (own_ch _).1 (own_ch _).1 (own_ch _).1 (own_ch _).2 (own_ch _).2 (own_ch _).2 (own_ch _).2 (own_ch _).2 (own_ch _).2
  · skip
    refine o_ifN X0 hx hby at_32 ((if0 _ _).trans (feq hc32_1).1) (q := 35) rfl ?_
    refine o_iloadN X0 hx hby at_35 rfl (q := 36) rfl ?_
    refine o_goto X0 hx hby at_36 (by decide) (q := 45) (by decide) ?_
    refine o_istore X0 hx hby at_45 (l' := #[iv p0, iv p1, iv p2, iv ((p0 &&& (255 : Int32)).toUInt32.toUInt16.toUInt32.toInt32), iv ((((p0.toUInt32 >>> ((8 : Int32) &&& 31).toUInt32).toInt32) &&& (255 : Int32)).toUInt32.toUInt16.toUInt32.toInt32), iv ((((p0.toUInt32 >>> ((16 : Int32) &&& 31).toUInt32).toInt32) &&& (255 : Int32)).toUInt32.toUInt16.toUInt32.toInt32), iv ((p0 &&& (255 : Int32)).toUInt32.toUInt16.toUInt32.toInt32), .unset, .unset, .unset, .unset, .unset, .unset]) rfl (q := 47) rfl ?_
    refine o_iloadN X0 hx hby at_47 rfl (q := 48) rfl ?_
    refine o_iconst X0 hx hby at_48 (z := 2) rfl (q := 49) rfl ?_
    refine o_iand X0 hx hby at_49 rfl (q := 50) rfl ?_
    by_cases hc50_5 : (p2 &&& (2 : Int32)) = (0 : Int32)
    · skip
      refine o_ifY X0 hx hby at_50 ((if0 _ _).trans (teq hc50_5).1) (by decide) (q := 58) (by decide) ?_
      refine o_iloadN X0 hx hby at_58 rfl (q := 59) rfl ?_
      refine o_bipush X0 hx hby at_59 (z := 8) rfl (q := 61) rfl ?_
      refine o_iushr X0 hx hby at_61 rfl (q := 62) rfl ?_
      refine o_sipush X0 hx hby at_62 (z := 255) rfl (q := 65) rfl ?_
      refine o_iand X0 hx hby at_65 rfl (q := 66) rfl ?_
      refine o_i2c X0 hx hby at_66 rfl (q := 67) rfl ?_
      refine o_istore X0 hx hby at_67 (l' := #[iv p0, iv p1, iv p2, iv ((p0 &&& (255 : Int32)).toUInt32.toUInt16.toUInt32.toInt32), iv ((((p0.toUInt32 >>> ((8 : Int32) &&& 31).toUInt32).toInt32) &&& (255 : Int32)).toUInt32.toUInt16.toUInt32.toInt32), iv ((((p0.toUInt32 >>> ((16 : Int32) &&& 31).toUInt32).toInt32) &&& (255 : Int32)).toUInt32.toUInt16.toUInt32.toInt32), iv ((p0 &&& (255 : Int32)).toUInt32.toUInt16.toUInt32.toInt32), iv ((((p1.toUInt32 >>> ((8 : Int32) &&& 31).toUInt32).toInt32) &&& (255 : Int32)).toUInt32.toUInt16.toUInt32.toInt32), .unset, .unset, .unset, .unset, .unset]) rfl (q := 69) rfl ?_
      refine o_iloadN X0 hx hby at_69 rfl (q := 70) rfl ?_
      refine o_iconst X0 hx hby at_70 (z := 4) rfl (q := 71) rfl ?_
      refine o_iand X0 hx hby at_71 rfl (q := 72) rfl ?_
      by_cases hc72_6 : (p2 &&& (4 : Int32)) = (0 : Int32)
      · skip
        refine o_ifY X0 hx hby at_72 ((if0 _ _).trans (teq hc72_6).1) (by decide) (q := 80) (by decide) ?_
        refine o_iloadN X0 hx hby at_80 rfl (q := 81) rfl ?_
        refine o_bipush X0 hx hby at_81 (z := 16) rfl (q := 83) rfl ?_
        refine o_iushr X0 hx hby at_83 rfl (q := 84) rfl ?_
        refine o_sipush X0 hx hby at_84 (z := 255) rfl (q := 87) rfl ?_
        refine o_iand X0 hx hby at_87 rfl (q := 88) rfl ?_
        refine o_i2c X0 hx hby at_88 rfl (q := 89) rfl ?_
        refine o_istore X0 hx hby at_89 (l' := #[iv p0, iv p1, iv p2, iv ((p0 &&& (255 : Int32)).toUInt32.toUInt16.toUInt32.toInt32), iv ((((p0.toUInt32 >>> ((8 : Int32) &&& 31).toUInt32).toInt32) &&& (255 : Int32)).toUInt32.toUInt16.toUInt32.toInt32), iv ((((p0.toUInt32 >>> ((16 : Int32) &&& 31).toUInt32).toInt32) &&& (255 : Int32)).toUInt32.toUInt16.toUInt32.toInt32), iv ((p0 &&& (255 : Int32)).toUInt32.toUInt16.toUInt32.toInt32), iv ((((p1.toUInt32 >>> ((8 : Int32) &&& 31).toUInt32).toInt32) &&& (255 : Int32)).toUInt32.toUInt16.toUInt32.toInt32), iv ((((p1.toUInt32 >>> ((16 : Int32) &&& 31).toUInt32).toInt32) &&& (255 : Int32)).toUInt32.toUInt16.toUInt32.toInt32), .unset, .unset, .unset, .unset]) rfl (q := 91) rfl ?_
        exact sg91 (Q := Q0 Z p0 p1 p2 cs h0 n0) p0 p1 p2 ((p0 &&& (255 : Int32)).toUInt32.toUInt16.toUInt32.toInt32) ((((p0.toUInt32 >>> ((8 : Int32) &&& 31).toUInt32).toInt32) &&& (255 : Int32)).toUInt32.toUInt16.toUInt32.toInt32) ((((p0.toUInt32 >>> ((16 : Int32) &&& 31).toUInt32).toInt32) &&& (255 : Int32)).toUInt32.toUInt16.toUInt32.toInt32) ((p0 &&& (255 : Int32)).toUInt32.toUInt16.toUInt32.toInt32) ((((p1.toUInt32 >>> ((8 : Int32) &&& 31).toUInt32).toInt32) &&& (255 : Int32)).toUInt32.toUInt16.toUInt32.toInt32) ((((p1.toUInt32 >>> ((16 : Int32) &&& 31).toUInt32).toInt32) &&& (255 : Int32)).toUInt32.toUInt16.toUInt32.toInt32) cs h0 n0 X0 hx hZ hw hby hml hown hret hlk (fun _ _ N => ⟨rfl, N⟩) e0 Z0 N0 S_cs hcs (own_ch _).1 (own_ch _).1 (own_ch _).1 (own_ch _).1 (own_ch _).1 (own_ch _).1 (own_ch _).2 (own_ch _).2 (own_ch _).2 (own_ch _).2 (own_ch _).2 (own_ch _).2
      · skip
        refine o_ifN X0 hx hby at_72 ((if0 _ _).trans (feq hc72_6).1) (q := 75) rfl ?_
        refine o_iload X0 hx hby at_75 rfl (q := 77) rfl ?_
        refine o_goto X0 hx hby at_77 (by decide) (q := 89) (by decide) ?_
        refine o_istore X0 hx hby at_89 (l' := #[iv p0, iv p1, iv p2, iv ((p0 &&& (255 : Int32)).toUInt32.toUInt16.toUInt32.toInt32), iv ((((p0.toUInt32 >>> ((8 : Int32) &&& 31).toUInt32).toInt32) &&& (255 : Int32)).toUInt32.toUInt16.toUInt32.toInt32), iv ((((p0.toUInt32 >>> ((16 : Int32) &&& 31).toUInt32).toInt32) &&& (255 : Int32)).toUInt32.toUInt16.toUInt32.toInt32), iv ((p0 &&& (255 : Int32)).toUInt32.toUInt16.toUInt32.toInt32), iv ((((p1.toUInt32 >>> ((8 : Int32) &&& 31).toUInt32).toInt32) &&& (255 : Int32)).toUInt32.toUInt16.toUInt32.toInt32), iv ((((p0.toUInt32 >>> ((16 : Int32) &&& 31).toUInt32).toInt32) &&& (255 : Int32)).toUInt32.toUInt16.toUInt32.toInt32), .unset, .unset, .unset, .unset]) rfl (q := 91) rfl ?_
        exact sg91 (Q := Q0 Z p0 p1 p2 cs h0 n0) p0 p1 p2 ((p0 &&& (255 : Int32)).toUInt32.toUInt16.toUInt32.toInt32) ((((p0.toUInt32 >>> ((8 : Int32) &&& 31).toUInt32).toInt32) &&& (255 : Int32)).toUInt32.toUInt16.toUInt32.toInt32) ((((p0.toUInt32 >>> ((16 : Int32) &&& 31).toUInt32).toInt32) &&& (255 : Int32)).toUInt32.toUInt16.toUInt32.toInt32) ((p0 &&& (255 : Int32)).toUInt32.toUInt16.toUInt32.toInt32) ((((p1.toUInt32 >>> ((8 : Int32) &&& 31).toUInt32).toInt32) &&& (255 : Int32)).toUInt32.toUInt16.toUInt32.toInt32) ((((p0.toUInt32 >>> ((16 : Int32) &&& 31).toUInt32).toInt32) &&& (255 : Int32)).toUInt32.toUInt16.toUInt32.toInt32) cs h0 n0 X0 hx hZ hw hby hml hown hret hlk (fun _ _ N => ⟨rfl, N⟩) e0 Z0 N0 S_cs hcs (own_ch _).1 (own_ch _).1 (own_ch _).1 (own_ch _).1 (own_ch _).1 (own_ch _).1 (own_ch _).2 (own_ch _).2 (own_ch _).2 (own_ch _).2 (own_ch _).2 (own_ch _).2
    · skip
      refine o_ifN X0 hx hby at_50 ((if0 _ _).trans (feq hc50_5).1) (q := 53) rfl ?_
      refine o_iload X0 hx hby at_53 rfl (q := 55) rfl ?_
      refine o_goto X0 hx hby at_55 (by decide) (q := 67) (by decide) ?_
      refine o_istore X0 hx hby at_67 (l' := #[iv p0, iv p1, iv p2, iv ((p0 &&& (255 : Int32)).toUInt32.toUInt16.toUInt32.toInt32), iv ((((p0.toUInt32 >>> ((8 : Int32) &&& 31).toUInt32).toInt32) &&& (255 : Int32)).toUInt32.toUInt16.toUInt32.toInt32), iv ((((p0.toUInt32 >>> ((16 : Int32) &&& 31).toUInt32).toInt32) &&& (255 : Int32)).toUInt32.toUInt16.toUInt32.toInt32), iv ((p0 &&& (255 : Int32)).toUInt32.toUInt16.toUInt32.toInt32), iv ((((p0.toUInt32 >>> ((8 : Int32) &&& 31).toUInt32).toInt32) &&& (255 : Int32)).toUInt32.toUInt16.toUInt32.toInt32), .unset, .unset, .unset, .unset, .unset]) rfl (q := 69) rfl ?_
      refine o_iloadN X0 hx hby at_69 rfl (q := 70) rfl ?_
      refine o_iconst X0 hx hby at_70 (z := 4) rfl (q := 71) rfl ?_
      refine o_iand X0 hx hby at_71 rfl (q := 72) rfl ?_
      by_cases hc72_7 : (p2 &&& (4 : Int32)) = (0 : Int32)
      · skip
        refine o_ifY X0 hx hby at_72 ((if0 _ _).trans (teq hc72_7).1) (by decide) (q := 80) (by decide) ?_
        refine o_iloadN X0 hx hby at_80 rfl (q := 81) rfl ?_
        refine o_bipush X0 hx hby at_81 (z := 16) rfl (q := 83) rfl ?_
        refine o_iushr X0 hx hby at_83 rfl (q := 84) rfl ?_
        refine o_sipush X0 hx hby at_84 (z := 255) rfl (q := 87) rfl ?_
        refine o_iand X0 hx hby at_87 rfl (q := 88) rfl ?_
        refine o_i2c X0 hx hby at_88 rfl (q := 89) rfl ?_
        refine o_istore X0 hx hby at_89 (l' := #[iv p0, iv p1, iv p2, iv ((p0 &&& (255 : Int32)).toUInt32.toUInt16.toUInt32.toInt32), iv ((((p0.toUInt32 >>> ((8 : Int32) &&& 31).toUInt32).toInt32) &&& (255 : Int32)).toUInt32.toUInt16.toUInt32.toInt32), iv ((((p0.toUInt32 >>> ((16 : Int32) &&& 31).toUInt32).toInt32) &&& (255 : Int32)).toUInt32.toUInt16.toUInt32.toInt32), iv ((p0 &&& (255 : Int32)).toUInt32.toUInt16.toUInt32.toInt32), iv ((((p0.toUInt32 >>> ((8 : Int32) &&& 31).toUInt32).toInt32) &&& (255 : Int32)).toUInt32.toUInt16.toUInt32.toInt32), iv ((((p1.toUInt32 >>> ((16 : Int32) &&& 31).toUInt32).toInt32) &&& (255 : Int32)).toUInt32.toUInt16.toUInt32.toInt32), .unset, .unset, .unset, .unset]) rfl (q := 91) rfl ?_
        exact sg91 (Q := Q0 Z p0 p1 p2 cs h0 n0) p0 p1 p2 ((p0 &&& (255 : Int32)).toUInt32.toUInt16.toUInt32.toInt32) ((((p0.toUInt32 >>> ((8 : Int32) &&& 31).toUInt32).toInt32) &&& (255 : Int32)).toUInt32.toUInt16.toUInt32.toInt32) ((((p0.toUInt32 >>> ((16 : Int32) &&& 31).toUInt32).toInt32) &&& (255 : Int32)).toUInt32.toUInt16.toUInt32.toInt32) ((p0 &&& (255 : Int32)).toUInt32.toUInt16.toUInt32.toInt32) ((((p0.toUInt32 >>> ((8 : Int32) &&& 31).toUInt32).toInt32) &&& (255 : Int32)).toUInt32.toUInt16.toUInt32.toInt32) ((((p1.toUInt32 >>> ((16 : Int32) &&& 31).toUInt32).toInt32) &&& (255 : Int32)).toUInt32.toUInt16.toUInt32.toInt32) cs h0 n0 X0 hx hZ hw hby hml hown hret hlk (fun _ _ N => ⟨rfl, N⟩) e0 Z0 N0 S_cs hcs (own_ch _).1 (own_ch _).1 (own_ch _).1 (own_ch _).1 (own_ch _).1 (own_ch _).1 (own_ch _).2 (own_ch _).2 (own_ch _).2 (own_ch _).2 (own_ch _).2 (own_ch _).2
      · skip
        refine o_ifN X0 hx hby at_72 ((if0 _ _).trans (feq hc72_7).1) (q := 75) rfl ?_
        refine o_iload X0 hx hby at_75 rfl (q := 77) rfl ?_
        refine o_goto X0 hx hby at_77 (by decide) (q := 89) (by decide) ?_
        refine o_istore X0 hx hby at_89 (l' := #[iv p0, iv p1, iv p2, iv ((p0 &&& (255 : Int32)).toUInt32.toUInt16.toUInt32.toInt32), iv ((((p0.toUInt32 >>> ((8 : Int32) &&& 31).toUInt32).toInt32) &&& (255 : Int32)).toUInt32.toUInt16.toUInt32.toInt32), iv ((((p0.toUInt32 >>> ((16 : Int32) &&& 31).toUInt32).toInt32) &&& (255 : Int32)).toUInt32.toUInt16.toUInt32.toInt32), iv ((p0 &&& (255 : Int32)).toUInt32.toUInt16.toUInt32.toInt32), iv ((((p0.toUInt32 >>> ((8 : Int32) &&& 31).toUInt32).toInt32) &&& (255 : Int32)).toUInt32.toUInt16.toUInt32.toInt32), iv ((((p0.toUInt32 >>> ((16 : Int32) &&& 31).toUInt32).toInt32) &&& (255 : Int32)).toUInt32.toUInt16.toUInt32.toInt32), .unset, .unset, .unset, .unset]) rfl (q := 91) rfl ?_
        exact sg91 (Q := Q0 Z p0 p1 p2 cs h0 n0) p0 p1 p2 ((p0 &&& (255 : Int32)).toUInt32.toUInt16.toUInt32.toInt32) ((((p0.toUInt32 >>> ((8 : Int32) &&& 31).toUInt32).toInt32) &&& (255 : Int32)).toUInt32.toUInt16.toUInt32.toInt32) ((((p0.toUInt32 >>> ((16 : Int32) &&& 31).toUInt32).toInt32) &&& (255 : Int32)).toUInt32.toUInt16.toUInt32.toInt32) ((p0 &&& (255 : Int32)).toUInt32.toUInt16.toUInt32.toInt32) ((((p0.toUInt32 >>> ((8 : Int32) &&& 31).toUInt32).toInt32) &&& (255 : Int32)).toUInt32.toUInt16.toUInt32.toInt32) ((((p0.toUInt32 >>> ((16 : Int32) &&& 31).toUInt32).toInt32) &&& (255 : Int32)).toUInt32.toUInt16.toUInt32.toInt32) cs h0 n0 X0 hx hZ hw hby hml hown hret hlk (fun _ _ N => ⟨rfl, N⟩) e0 Z0 N0 S_cs hcs (own_ch _).1 (own_ch _).1 (own_ch _).1 (own_ch _).1 (own_ch _).1 (own_ch _).1 (own_ch _).2 (own_ch _).2 (own_ch _).2 (own_ch _).2 (own_ch _).2 (own_ch _).2
theorem own_not0 {args : Array Value} {s : State} {t : Term} {x : Int32} (e : t.eval args s none [] s = some (.int x)) (h : (Jvm.Cond.not (Jvm.Cond.eq t (.int 0))).value args s none s [] = some true) : ¬ (x = (0 : Int32)) := gotF (Cond.eq_ints e (Term.int_eval 0)) (not_v h)
set_option maxRecDepth 65536 in
set_option maxHeartbeats 40000000 in
theorem comes_1 {Post : Tables → Env → Array Value → State → Outcome → State → Prop} (hpost : ∀ tb e args s v u, (limb_1_1.after args s (.returned v) u = true ∧ limb_1_2.after args s (.returned v) u = true ∧ True) → ReturnedEndW s (.returned v) u (Jvm.fieldLocs frame_1_writes args s ++ Jvm.arrayLocs frame_1_arrays args s ++ Jvm.staticLocs frame_1_statics s) 48 3264 → Post tb e args s (.returned v) u) :
    ArmFor flags0 classFile x code maxLocals ret World_1 tables_1 room_1 Calls_1 rest_1 Pre_1 Post := by
  intro l hfl _ _ p e ha hc hk s m args below hf hA hF happ hP
  obtain ⟨hcalls, hrest, hpre⟩ := hP
  obtain ⟨-, -, -, hnamed, -, -, -, hat⟩ := (Spec.applies_iff hf).mp happ
  obtain ⟨hg, hn⟩ := and_e (Cond.before_iff.mp (show (Jvm.Cond.and given_1 narrow_1).before args s = true from hpre))
  obtain ⟨g1, g2⟩ := and_e hg
  obtain ⟨g3, g4⟩ := and_e g2
  obtain ⟨g5, g6⟩ := and_e g4
  obtain ⟨w0, w1, w2, rfl⟩ : ∃ w0 w1 w2 : Value, args = #[w0, w1, w2] := by
    have hs : args.size = 3 := by simpa [Cond.value, given_1] using g1
    obtain ⟨L⟩ := args
    match L, hs with
    | [w0, w1, w2], _ => exact ⟨w0, w1, w2, rfl⟩
  have hw := fun d (hd : d ∈ tables_1) => atoms_spec (ws := Jvm.Cond.code x code maxLocals ret :: tables_1) hat d (List.mem_cons_of_mem _ hd)
  have hfit : Fit s := fun {y c} hc i hi => by
    obtain ⟨ha, rfl⟩ := Array.getElem?_eq_some_iff.mp hc
    have q := List.all_eq_true.mp ((Array.all_eq_true_iff_forall_mem.mp hF) _ (Array.getElem_mem ha)) i (List.mem_range.mpr hi)
    simpa [Array.getElem?_eq_getElem hi] using q
  obtain ⟨hsets, hown0⟩ := atoms_of _ (rest_1_c_eq ▸ (show rest_1_c.before _ s = true from hrest))
  have hr0 := Cond.before_iff.mp hown0
  obtain ⟨i0, ei0⟩ := is_v g3
  obtain rfl : w0 = (.int i0) := Option.some.inj ei0
  obtain ⟨i1, ei1⟩ := is_v g5
  obtain rfl : w1 = (.int i1) := Option.some.inj ei1
  obtain ⟨i2, ei2⟩ := is_v g6
  obtain rfl : w2 = (.int i2) := Option.some.inj ei2
  obtain ⟨cs, ecs⟩ := is_v (Cond.before_iff.mp (hsets _ (List.mem_of_getElem? (i := 1) rfl)))
  have S_cs := Sta.start ecs (Or.inl (hsets _ (List.mem_of_getElem? (i := 0) rfl)))
  have hcs : ¬ (cs = (0 : Int32)) := own_not0 ecs (Cond.before_iff.mp (hsets _ (List.mem_of_getElem? (i := 2) rfl)))
  obtain ⟨n, o, h1, h2, h3, _, L, rfl, ⟨rfl, N⟩, hq⟩ := rm0 l s _ hw tables_1 i0 i1 i2 cs s.heap s.heap.size (Nat.le_refl _) S_cs hcs p e ha hc hk s m _ below hf ((Spec.applies_iff_loose hf).mp happ).1 ⟨rfl, State.Warmed39.refl s, rfl⟩ trivial
  refine ⟨n, _, h1, h2, h3, hpost _ _ _ _ _ _ ⟨Cond.after_iff.mpr rfl, Cond.after_iff.mpr (eq_i res_at (Term.int_eval (1)) rfl), trivial⟩ ⟨hq.1, hq.2.1, hq.2.2.1, (hq.2.2.2.sift fun y hy => Or.inr (N y hy)).mono (by decide) (by decide)⟩⟩
theorem main_1_1 : Claimed_1_1 := comes_1 fun _ _ _ _ _ _ h hF => ⟨h.1, hF⟩
theorem main_1_2 : Claimed_1_2 := comes_1 fun _ _ _ _ _ _ h hF => ⟨h.2.1, hF⟩
end Jvm.Pilot.@@N@@
namespace Jvm.Pilot.@@N@@
open Jvm Jvm.ClassFile Sem Op Lib Jvm.Free Jvm.Stand Jvm.Pilot.@@N@@.Jvm.D
/-! MADE BY PROGRAM (witnessworld.py) out of the Statement's table words and the real class files: 18 classes; the members and pool entries that the words name. The judged class is class 1, her method 1. -/
namespace start1
open Jvm.ClassFile
def u (s : String) : CpInfo := .utf8 (stringToUtf16 s)
/-- a pool by its gaps: so many unusable entries, then the entry; so many at the end -/
def gap : Nat → List CpInfo → List CpInfo
  | 0, r => r
  | n + 1, r => .unusable :: gap n r
def poolList (es : List (Nat × CpInfo)) (last : Nat) : List CpInfo := es.foldr (fun e r => gap e.1 (e.2 :: r)) (gap last [])
def pool (es : List (Nat × CpInfo)) (last : Nat) : Array CpInfo := ⟨poolList es last⟩
def fileOf (pool : Array CpInfo) (this : Nat) (attrs : Array Attribute := #[]) (ms : Array MethodInfo := #[]) (fl : Nat := 33) (sup : Nat := 0) (ifs : Array Nat := #[]) (fds : Array FieldInfo := #[]) : ClassFile where
  minorVersion := 0
  majorVersion := 65
  constantPool := pool
  accessFlags := fl
  thisClass := this
  superClass := sup
  interfaces := ifs
  fields := fds
  methods := ms
  attributes := attrs
def plain (name : String) (sup : Option ClassId) : Class where
  name := name
  kind := .ordinary
  loader := none
  accessFlags := 33
  super := sup
  interfaces := #[]
  cf := none
  fields := #[]
  methods := #[]
  instanceTypes := #[]
  staticTypes := #[]
  resolved := #[]
  callSites := []
  init := .initialized
  statics := none
  mirror := none

def pool0 : Array CpInfo := pool [(5, u "<init>"), (0, u "()V"), (1, .class_ 10), (1, u "java/lang/Object")] 113

def k0c0 : Code := { maxStack := 0, maxLocals := 1, code := object_method_1_code, exceptionTable := #[], attributes := #[] }
def k0m0 : Method := { name := "<init>", desc := "()V", sig := { parameters := [], returnType := none }, accessFlags := 1, code := some k0c0 }
/-- java/lang/Object -/
def k0 : Class := { plain "java/lang/Object" none with
  accessFlags := 33
  interfaces := #[]
  cf := some (fileOf pool0 8 #[] #[{ accessFlags := 1, nameIndex := 5, descriptorIndex := 6, attributes := #[] }] 33 0 #[] #[])
  fields := #[]
  methods := #[k0m0]
  instanceTypes := #[]
  staticTypes := #[]
  resolved := Array.replicate 124 none
  statics := none }

def pool1 : Array CpInfo := pool [(2, .class_ 4), (1, u "java/lang/Object"), (0, u "<init>"), (0, u "()V"), (0, .class_ 8), (0, u "com/example/collector_urchin/collectorurchin/store/Credential"), (0, .methodref 10 11), (0, .class_ 12), (0, .nameAndType 13 14), (0, u "java/lang/String"), (0, u "valueOf"), (0, u "(C)Ljava/lang/String;"), (0, .methodref 7 16), (0, .nameAndType 5 17), (0, u "(Ljava/lang/String;Ljava/lang/String;Ljava/lang/String;)V"), (0, .methodref 7 19), (0, .nameAndType 20 21), (0, u "equals"), (0, u "(Ljava/lang/Object;)Z"), (0, .class_ 23), (0, u "com/example/collector_urchin/collectorurchin/store/CredentialEqualsPinLaw"), (2, u "law"), (0, u "(III)Z")] 3

def k1m0 : Method := { name := "<init>", desc := "()V", sig := { parameters := [], returnType := none }, accessFlags := 1, code := none }
def k1c1 : Code := { maxStack := 5, maxLocals := 13, code := code, exceptionTable := #[], attributes := #[] }
def k1m1 : Method := { name := "law", desc := "(III)Z", sig := { parameters := [.int, .int, .int], returnType := some .boolean }, accessFlags := 9, code := some k1c1 }
/-- com/example/collector_urchin/collectorurchin/store/CredentialEqualsPinLaw -/
def k1 : Class := { plain "com/example/collector_urchin/collectorurchin/store/CredentialEqualsPinLaw" (some 0) with
  accessFlags := 49
  interfaces := #[]
  cf := some (fileOf pool1 22 #[] #[{ accessFlags := 1, nameIndex := 5, descriptorIndex := 6, attributes := #[] }, { accessFlags := 9, nameIndex := 26, descriptorIndex := 27, attributes := #[] }] 49 2 #[] #[])
  fields := #[]
  methods := #[k1m0, k1m1]
  instanceTypes := #[]
  staticTypes := #[]
  resolved := Array.replicate 31 none
  statics := none }

def pool2 : Array CpInfo := pool [(1, .methodref 2 3), (0, .class_ 4), (0, .nameAndType 5 6), (0, u "java/lang/Object"), (0, u "<init>"), (0, u "()V"), (0, .string 8), (0, u "id"), (0, .methodref 10 11), (0, .class_ 12), (0, .nameAndType 13 14), (0, u "java/util/Objects"), (0, u "requireNonNull"), (0, u "(Ljava/lang/Object;Ljava/lang/String;)Ljava/lang/Object;"), (0, .class_ 16), (0, u "java/lang/String"), (0, .fieldref 18 19), (0, .class_ 20), (0, .nameAndType 8 21), (0, u "com/example/collector_urchin/collectorurchin/store/Credential"), (0, u "Ljava/lang/String;"), (0, .string 23), (0, u "user"), (0, .fieldref 18 25), (0, .nameAndType 23 21), (0, .string 27), (0, u "key"), (0, .fieldref 18 29), (0, .nameAndType 27 21), (0, .methodref 15 31), (0, .nameAndType 32 33), (0, u "equals"), (0, u "(Ljava/lang/Object;)Z"), (8, u "(Ljava/lang/String;Ljava/lang/String;Ljava/lang/String;)V")] 27

def k2c0 : Code := { maxStack := 3, maxLocals := 4, code := prog_7_method_1_code, exceptionTable := #[], attributes := #[] }
def k2m0 : Method := { name := "<init>", desc := "(Ljava/lang/String;Ljava/lang/String;Ljava/lang/String;)V", sig := { parameters := [(.object "java/lang/String"), (.object "java/lang/String"), (.object "java/lang/String")], returnType := none }, accessFlags := 1, code := some k2c0 }
def k2c1 : Code := { maxStack := 2, maxLocals := 2, code := prog_7_method_5_code, exceptionTable := #[], attributes := #[] }
def k2m1 : Method := { name := "equals", desc := "(Ljava/lang/Object;)Z", sig := { parameters := [(.object "java/lang/Object")], returnType := some .boolean }, accessFlags := 1, code := some k2c1 }
/-- com/example/collector_urchin/collectorurchin/store/Credential -/
def k2 : Class := { plain "com/example/collector_urchin/collectorurchin/store/Credential" (some 0) with
  accessFlags := 49
  interfaces := #[]
  cf := some (fileOf pool2 18 #[] #[{ accessFlags := 1, nameIndex := 5, descriptorIndex := 42, attributes := #[] }, { accessFlags := 1, nameIndex := 32, descriptorIndex := 33, attributes := #[] }] 49 2 #[] #[{ accessFlags := 18, nameIndex := 8, descriptorIndex := 21, attributes := #[] }, { accessFlags := 18, nameIndex := 23, descriptorIndex := 21, attributes := #[] }, { accessFlags := 18, nameIndex := 27, descriptorIndex := 21, attributes := #[] }])
  fields := #[{ name := "id", type := (.object "java/lang/String"), accessFlags := 18, slot := 0, constantValue := 0 }, { name := "user", type := (.object "java/lang/String"), accessFlags := 18, slot := 1, constantValue := 0 }, { name := "key", type := (.object "java/lang/String"), accessFlags := 18, slot := 2, constantValue := 0 }]
  methods := #[k2m0, k2m1]
  instanceTypes := #[(.object "java/lang/String"), (.object "java/lang/String"), (.object "java/lang/String")]
  staticTypes := #[]
  resolved := Array.replicate 70 none
  statics := none }

def pool3 : Array CpInfo := pool [(1, .class_ 2), (0, u "java/io/Serializable"), (0, .class_ 4), (0, u "java/lang/Object")] 2

/-- java/io/Serializable -/
def k3 : Class := { plain "java/io/Serializable" (some 0) with
  accessFlags := 1537
  interfaces := #[]
  cf := some (fileOf pool3 1 #[] #[] 1537 3 #[] #[])
  fields := #[]
  methods := #[]
  instanceTypes := #[]
  staticTypes := #[]
  resolved := Array.replicate 7 none
  statics := none }

def pool4 : Array CpInfo := pool [(1, .class_ 2), (0, u "java/lang/Comparable"), (0, .class_ 4), (0, u "java/lang/Object")] 7

/-- java/lang/Comparable -/
def k4 : Class := { plain "java/lang/Comparable" (some 0) with
  accessFlags := 1537
  interfaces := #[]
  cf := some (fileOf pool4 1 #[] #[] 1537 3 #[] #[])
  fields := #[]
  methods := #[]
  instanceTypes := #[]
  staticTypes := #[]
  resolved := Array.replicate 12 none
  statics := none }

def pool5 : Array CpInfo := pool [(2, .class_ 4), (1, u "java/lang/CharSequence"), (42, .class_ 48), (0, u "java/lang/CharSequence$1CodePointIterator"), (10, .class_ 60), (0, u "java/lang/CharSequence$1CharIterator"), (5, .class_ 67), (0, u "java/lang/Object")] 63

/-- java/lang/CharSequence -/
def k5 : Class := { plain "java/lang/CharSequence" (some 0) with
  accessFlags := 1537
  interfaces := #[]
  cf := some (fileOf pool5 2 #[.nestMembers #[47, 59]] #[] 1537 66 #[] #[])
  fields := #[]
  methods := #[]
  instanceTypes := #[]
  staticTypes := #[]
  resolved := Array.replicate 131 none
  statics := none }

def pool6 : Array CpInfo := pool [(1, .class_ 2), (0, u "java/lang/constant/Constable"), (0, .class_ 4), (0, u "java/lang/Object")] 6

/-- java/lang/constant/Constable -/
def k6 : Class := { plain "java/lang/constant/Constable" (some 0) with
  accessFlags := 1537
  interfaces := #[]
  cf := some (fileOf pool6 1 #[] #[] 1537 3 #[] #[])
  fields := #[]
  methods := #[]
  instanceTypes := #[]
  staticTypes := #[]
  resolved := Array.replicate 11 none
  statics := none }

def pool7 : Array CpInfo := pool [(1, .class_ 2), (0, u "java/lang/constant/ConstantDesc"), (0, .class_ 4), (0, u "java/lang/Object")] 32

/-- java/lang/constant/ConstantDesc -/
def k7 : Class := { plain "java/lang/constant/ConstantDesc" (some 0) with
  accessFlags := 1537
  interfaces := #[]
  cf := some (fileOf pool7 1 #[] #[] 1537 3 #[] #[])
  fields := #[]
  methods := #[]
  instanceTypes := #[]
  staticTypes := #[]
  resolved := Array.replicate 37 none
  statics := none }

def pool8 : Array CpInfo := pool [(1, .methodref 2 3), (0, .class_ 4), (0, .nameAndType 5 6), (0, u "java/lang/Object"), (0, u "<init>"), (0, u "()V"), (2, .fieldref 10 11), (0, .class_ 12), (0, .nameAndType 13 14), (0, u "java/lang/String"), (0, u "value"), (0, u "[B"), (0, .fieldref 10 16), (0, .nameAndType 17 18), (0, u "coder"), (0, u "B"), (2, u "hash"), (0, u "I"), (2, u "hashIsZero"), (0, u "Z"), (11, .fieldref 10 39), (0, .nameAndType 40 26), (0, u "COMPACT_STRINGS"), (12, u "toBytes"), (53, .class_ 109), (1, u "java/lang/StringLatin1"), (99, .methodref 10 210), (0, .nameAndType 5 211), (0, u "([BB)V"), (157, u "(C)Z"), (171, .methodref 107 542), (0, .nameAndType 543 544), (0, u "equals"), (0, u "([B[B)Z"), (28, u "(Ljava/lang/Object;)Z"), (1, .class_ 576), (0, u "java/lang/CharSequence"), (22, u "CASE_INSENSITIVE_ORDER"), (0, u "Ljava/util/Comparator;"), (181, u "valueOf"), (0, u "(C)Ljava/lang/String;"), (231, .methodref 107 1016), (0, .nameAndType 1017 369), (0, u "canEncode"), (0, .methodref 107 1019), (0, .nameAndType 53 1020), (0, u "(C)[B"), (80, u "serialPersistentFields"), (0, u "[Ljava/io/ObjectStreamField;"), (0, .class_ 1104), (0, u "java/lang/String$CaseInsensitiveComparator"), (1, .class_ 1107), (0, u "java/io/Serializable"), (0, .class_ 1109), (0, u "java/lang/Comparable"), (0, .class_ 1111), (0, u "java/lang/constant/Constable"), (0, .class_ 1113), (0, u "java/lang/constant/ConstantDesc"), (2, u "serialVersionUID"), (0, u "J"), (3, u "REPL"), (0, u "C"), (2, u "LATIN1"), (1, u "UTF16")] 323

def k8m0 : Method := { name := "<init>", desc := "()V", sig := { parameters := [], returnType := none }, accessFlags := 1, code := none }
def k8c1 : Code := { maxStack := 2, maxLocals := 3, code := jdk_42_method_66_code, exceptionTable := #[], attributes := #[] }
def k8m1 : Method := { name := "equals", desc := "(Ljava/lang/Object;)Z", sig := { parameters := [(.object "java/lang/Object")], returnType := some .boolean }, accessFlags := 1, code := some k8c1 }
def k8c2 : Code := { maxStack := 4, maxLocals := 1, code := jdk_42_method_139_code, exceptionTable := #[], attributes := #[] }
def k8m2 : Method := { name := "valueOf", desc := "(C)Ljava/lang/String;", sig := { parameters := [.char], returnType := some (.object "java/lang/String") }, accessFlags := 9, code := some k8c2 }
def k8c3 : Code := { maxStack := 2, maxLocals := 3, code := jdk_42_method_151_code, exceptionTable := #[], attributes := #[] }
def k8m3 : Method := { name := "<init>", desc := "([BB)V", sig := { parameters := [(.array .byte), .byte], returnType := none }, accessFlags := 0, code := some k8c3 }
/-- java/lang/String -/
def k8 : Class := { plain "java/lang/String" (some 0) with
  accessFlags := 49
  interfaces := #[3, 4, 5, 6, 7]
  cf := some (fileOf pool8 10 #[.nestMembers #[1103]] #[{ accessFlags := 1, nameIndex := 5, descriptorIndex := 6, attributes := #[] }, { accessFlags := 1, nameIndex := 543, descriptorIndex := 573, attributes := #[] }, { accessFlags := 9, nameIndex := 782, descriptorIndex := 783, attributes := #[] }, { accessFlags := 0, nameIndex := 5, descriptorIndex := 211, attributes := #[] }] 49 2 #[1106, 1108, 575, 1110, 1112] #[{ accessFlags := 18, nameIndex := 13, descriptorIndex := 14, attributes := #[] }, { accessFlags := 18, nameIndex := 17, descriptorIndex := 18, attributes := #[] }, { accessFlags := 2, nameIndex := 21, descriptorIndex := 22, attributes := #[] }, { accessFlags := 2, nameIndex := 25, descriptorIndex := 26, attributes := #[] }, { accessFlags := 26, nameIndex := 1116, descriptorIndex := 1117, attributes := #[] }, { accessFlags := 24, nameIndex := 40, descriptorIndex := 26, attributes := #[] }, { accessFlags := 26, nameIndex := 1101, descriptorIndex := 1102, attributes := #[] }, { accessFlags := 26, nameIndex := 1121, descriptorIndex := 1122, attributes := #[] }, { accessFlags := 25, nameIndex := 599, descriptorIndex := 600, attributes := #[] }, { accessFlags := 24, nameIndex := 1125, descriptorIndex := 18, attributes := #[] }, { accessFlags := 24, nameIndex := 1127, descriptorIndex := 18, attributes := #[] }])
  fields := #[{ name := "value", type := (.array .byte), accessFlags := 18, slot := 0, constantValue := 0 }, { name := "coder", type := .byte, accessFlags := 18, slot := 1, constantValue := 0 }, { name := "hash", type := .int, accessFlags := 2, slot := 2, constantValue := 0 }, { name := "hashIsZero", type := .boolean, accessFlags := 2, slot := 3, constantValue := 0 }, { name := "serialVersionUID", type := .long, accessFlags := 26, slot := 0, constantValue := 0 }, { name := "COMPACT_STRINGS", type := .boolean, accessFlags := 24, slot := 1, constantValue := 0 }, { name := "serialPersistentFields", type := (.array (.object "java/io/ObjectStreamField")), accessFlags := 26, slot := 2, constantValue := 0 }, { name := "REPL", type := .char, accessFlags := 26, slot := 3, constantValue := 0 }, { name := "CASE_INSENSITIVE_ORDER", type := (.object "java/util/Comparator"), accessFlags := 25, slot := 4, constantValue := 0 }, { name := "LATIN1", type := .byte, accessFlags := 24, slot := 5, constantValue := 0 }, { name := "UTF16", type := .byte, accessFlags := 24, slot := 6, constantValue := 0 }]
  methods := #[k8m0, k8m1, k8m2, k8m3]
  instanceTypes := #[(.array .byte), .byte, .int, .boolean]
  staticTypes := #[.long, .boolean, (.array (.object "java/io/ObjectStreamField")), .char, (.object "java/util/Comparator"), .byte, .byte]
  resolved := Array.replicate 1451 none
  statics := some 0 }

def pool9 : Array CpInfo := pool [(4, .class_ 6), (1, u "java/lang/Object"), (0, u "<init>"), (0, u "()V"), (5, .class_ 16), (1, u "java/lang/StringLatin1"), (73, u "canEncode"), (14, u "(C)Z"), (15, u "$assertionsDisabled"), (0, u "Z"), (98, .class_ 223), (1, u "java/lang/StringLatin1$LinesSpliterator"), (57, u "equals"), (0, u "([B[B)Z"), (97, u "toBytes"), (1, u "(C)[B"), (7, .class_ 391), (0, u "java/lang/StringLatin1$CharsSpliterator")] 3

def k9m0 : Method := { name := "<init>", desc := "()V", sig := { parameters := [], returnType := none }, accessFlags := 0, code := none }
def k9c1 : Code := { maxStack := 2, maxLocals := 1, code := jdk_43_method_3_code, exceptionTable := #[], attributes := #[] }
def k9m1 : Method := { name := "canEncode", desc := "(C)Z", sig := { parameters := [.char], returnType := some .boolean }, accessFlags := 9, code := some k9c1 }
def k9c2 : Code := { maxStack := 3, maxLocals := 3, code := jdk_43_method_13_code, exceptionTable := #[], attributes := #[] }
def k9m2 : Method := { name := "equals", desc := "([B[B)Z", sig := { parameters := [(.array .byte), (.array .byte)], returnType := some .boolean }, accessFlags := 9, code := some k9c2 }
def k9c3 : Code := { maxStack := 4, maxLocals := 1, code := jdk_43_method_46_code, exceptionTable := #[], attributes := #[] }
def k9m3 : Method := { name := "toBytes", desc := "(C)[B", sig := { parameters := [.char], returnType := some (.array .byte) }, accessFlags := 9, code := some k9c3 }
/-- java/lang/StringLatin1 -/
def k9 : Class := { plain "java/lang/StringLatin1" (some 0) with
  accessFlags := 48
  interfaces := #[]
  cf := some (fileOf pool9 14 #[.nestMembers #[390, 221]] #[{ accessFlags := 0, nameIndex := 7, descriptorIndex := 8, attributes := #[] }, { accessFlags := 9, nameIndex := 90, descriptorIndex := 105, attributes := #[] }, { accessFlags := 9, nameIndex := 281, descriptorIndex := 282, attributes := #[] }, { accessFlags := 9, nameIndex := 380, descriptorIndex := 382, attributes := #[] }] 48 4 #[] #[{ accessFlags := 4120, nameIndex := 121, descriptorIndex := 122, attributes := #[] }])
  fields := #[{ name := "$assertionsDisabled", type := .boolean, accessFlags := 4120, slot := 0, constantValue := 0 }]
  methods := #[k9m0, k9m1, k9m2, k9m3]
  instanceTypes := #[]
  staticTypes := #[.boolean]
  resolved := Array.replicate 395 none
  statics := none }

def pool10 : Array CpInfo := pool [(2, .class_ 4), (1, u "java/lang/Object"), (0, u "<init>"), (0, u "()V"), (35, .class_ 44), (1, u "java/util/Objects"), (0, u "requireNonNull"), (48, u "(Ljava/lang/Object;Ljava/lang/String;)Ljava/lang/Object;")] 89

def k10m0 : Method := { name := "<init>", desc := "()V", sig := { parameters := [], returnType := none }, accessFlags := 2, code := none }
def k10c1 : Code := { maxStack := 3, maxLocals := 2, code := jdk_31_method_11_code, exceptionTable := #[], attributes := #[] }
def k10m1 : Method := { name := "requireNonNull", desc := "(Ljava/lang/Object;Ljava/lang/String;)Ljava/lang/Object;", sig := { parameters := [(.object "java/lang/Object"), (.object "java/lang/String")], returnType := some (.object "java/lang/Object") }, accessFlags := 9, code := some k10c1 }
/-- java/util/Objects -/
def k10 : Class := { plain "java/util/Objects" (some 0) with
  accessFlags := 49
  interfaces := #[]
  cf := some (fileOf pool10 42 #[] #[{ accessFlags := 2, nameIndex := 5, descriptorIndex := 6, attributes := #[] }, { accessFlags := 9, nameIndex := 45, descriptorIndex := 94, attributes := #[] }] 49 2 #[] #[])
  fields := #[]
  methods := #[k10m0, k10m1]
  instanceTypes := #[]
  staticTypes := #[]
  resolved := Array.replicate 184 none
  statics := none }

def pool11 : Array CpInfo := pool [(2, .class_ 4), (1, u "java/lang/Object"), (0, u "<init>"), (0, u "()V"), (17, .class_ 26), (1, u "jdk/internal/util/Preconditions"), (28, .class_ 56), (0, u "jdk/internal/util/Preconditions$4"), (57, .class_ 115), (0, u "jdk/internal/util/Preconditions$1"), (7, u "SIOOBE_FORMATTER"), (0, u "Ljava/util/function/BiFunction;"), (0, .class_ 126), (0, u "jdk/internal/util/Preconditions$2"), (3, u "AIOOBE_FORMATTER"), (0, .class_ 132), (0, u "jdk/internal/util/Preconditions$3"), (3, u "IOOBE_FORMATTER")] 57

def k11m0 : Method := { name := "<init>", desc := "()V", sig := { parameters := [], returnType := none }, accessFlags := 1, code := none }
/-- jdk/internal/util/Preconditions -/
def k11 : Class := { plain "jdk/internal/util/Preconditions" (some 0) with
  accessFlags := 33
  interfaces := #[]
  cf := some (fileOf pool11 24 #[.nestMembers #[55, 131, 125, 114]] #[{ accessFlags := 1, nameIndex := 5, descriptorIndex := 6, attributes := #[] }] 33 2 #[] #[{ accessFlags := 25, nameIndex := 123, descriptorIndex := 124, attributes := #[] }, { accessFlags := 25, nameIndex := 130, descriptorIndex := 124, attributes := #[] }, { accessFlags := 25, nameIndex := 136, descriptorIndex := 124, attributes := #[] }])
  fields := #[{ name := "SIOOBE_FORMATTER", type := (.object "java/util/function/BiFunction"), accessFlags := 25, slot := 0, constantValue := 0 }, { name := "AIOOBE_FORMATTER", type := (.object "java/util/function/BiFunction"), accessFlags := 25, slot := 1, constantValue := 0 }, { name := "IOOBE_FORMATTER", type := (.object "java/util/function/BiFunction"), accessFlags := 25, slot := 2, constantValue := 0 }]
  methods := #[k11m0]
  instanceTypes := #[]
  staticTypes := #[(.object "java/util/function/BiFunction"), (.object "java/util/function/BiFunction"), (.object "java/util/function/BiFunction")]
  resolved := Array.replicate 194 none
  statics := some 1 }

def pool12 : Array CpInfo := pool [(9, u "<init>"), (6, .class_ 18), (1, u "java/lang/Object"), (0, u "()V"), (1, .class_ 23), (1, u "jdk/internal/util/ArraysSupport"), (0, u "LOG2_ARRAY_LONG_INDEX_SCALE"), (0, u "I"), (2, u "U"), (0, u "Ljdk/internal/misc/Unsafe;"), (8, u "BIG_ENDIAN"), (0, u "Z"), (8, u "LOG2_BYTE_BIT_SIZE"), (4, u "LOG2_ARRAY_INT_INDEX_SCALE"), (54, u "JLA"), (0, u "Ljdk/internal/access/JavaLangAccess;"), (11, u "LOG2_ARRAY_BOOLEAN_INDEX_SCALE"), (9, u "LOG2_ARRAY_BYTE_INDEX_SCALE"), (5, u "LOG2_ARRAY_CHAR_INDEX_SCALE"), (5, u "LOG2_ARRAY_SHORT_INDEX_SCALE"), (18, u "LOG2_ARRAY_FLOAT_INDEX_SCALE"), (24, u "LOG2_ARRAY_DOUBLE_INDEX_SCALE"), (89, u "T_BOOLEAN"), (2, u "T_CHAR"), (1, u "T_FLOAT"), (1, u "T_DOUBLE"), (1, u "T_BYTE"), (1, u "T_SHORT"), (1, u "T_INT"), (1, u "T_LONG"), (1, u "SOFT_MAX_ARRAY_LENGTH")] 83

def k12m0 : Method := { name := "<init>", desc := "()V", sig := { parameters := [], returnType := none }, accessFlags := 2, code := none }
/-- jdk/internal/util/ArraysSupport -/
def k12 : Class := { plain "jdk/internal/util/ArraysSupport" (some 0) with
  accessFlags := 33
  interfaces := #[]
  cf := some (fileOf pool12 21 #[] #[{ accessFlags := 2, nameIndex := 9, descriptorIndex := 19, attributes := #[] }] 33 16 #[] #[{ accessFlags := 24, nameIndex := 28, descriptorIndex := 29, attributes := #[] }, { accessFlags := 26, nameIndex := 38, descriptorIndex := 39, attributes := #[] }, { accessFlags := 25, nameIndex := 121, descriptorIndex := 25, attributes := #[] }, { accessFlags := 25, nameIndex := 131, descriptorIndex := 25, attributes := #[] }, { accessFlags := 25, nameIndex := 137, descriptorIndex := 25, attributes := #[] }, { accessFlags := 25, nameIndex := 143, descriptorIndex := 25, attributes := #[] }, { accessFlags := 25, nameIndex := 53, descriptorIndex := 25, attributes := #[] }, { accessFlags := 25, nameIndex := 24, descriptorIndex := 25, attributes := #[] }, { accessFlags := 25, nameIndex := 162, descriptorIndex := 25, attributes := #[] }, { accessFlags := 25, nameIndex := 187, descriptorIndex := 25, attributes := #[] }, { accessFlags := 26, nameIndex := 48, descriptorIndex := 25, attributes := #[] }, { accessFlags := 25, nameIndex := 277, descriptorIndex := 25, attributes := #[] }, { accessFlags := 25, nameIndex := 280, descriptorIndex := 25, attributes := #[] }, { accessFlags := 25, nameIndex := 282, descriptorIndex := 25, attributes := #[] }, { accessFlags := 25, nameIndex := 284, descriptorIndex := 25, attributes := #[] }, { accessFlags := 25, nameIndex := 286, descriptorIndex := 25, attributes := #[] }, { accessFlags := 25, nameIndex := 288, descriptorIndex := 25, attributes := #[] }, { accessFlags := 25, nameIndex := 290, descriptorIndex := 25, attributes := #[] }, { accessFlags := 25, nameIndex := 292, descriptorIndex := 25, attributes := #[] }, { accessFlags := 26, nameIndex := 108, descriptorIndex := 109, attributes := #[] }, { accessFlags := 25, nameIndex := 294, descriptorIndex := 25, attributes := #[] }])
  fields := #[{ name := "U", type := (.object "jdk/internal/misc/Unsafe"), accessFlags := 24, slot := 0, constantValue := 0 }, { name := "BIG_ENDIAN", type := .boolean, accessFlags := 26, slot := 1, constantValue := 0 }, { name := "LOG2_ARRAY_BOOLEAN_INDEX_SCALE", type := .int, accessFlags := 25, slot := 2, constantValue := 0 }, { name := "LOG2_ARRAY_BYTE_INDEX_SCALE", type := .int, accessFlags := 25, slot := 3, constantValue := 0 }, { name := "LOG2_ARRAY_CHAR_INDEX_SCALE", type := .int, accessFlags := 25, slot := 4, constantValue := 0 }, { name := "LOG2_ARRAY_SHORT_INDEX_SCALE", type := .int, accessFlags := 25, slot := 5, constantValue := 0 }, { name := "LOG2_ARRAY_INT_INDEX_SCALE", type := .int, accessFlags := 25, slot := 6, constantValue := 0 }, { name := "LOG2_ARRAY_LONG_INDEX_SCALE", type := .int, accessFlags := 25, slot := 7, constantValue := 0 }, { name := "LOG2_ARRAY_FLOAT_INDEX_SCALE", type := .int, accessFlags := 25, slot := 8, constantValue := 0 }, { name := "LOG2_ARRAY_DOUBLE_INDEX_SCALE", type := .int, accessFlags := 25, slot := 9, constantValue := 0 }, { name := "LOG2_BYTE_BIT_SIZE", type := .int, accessFlags := 26, slot := 10, constantValue := 0 }, { name := "T_BOOLEAN", type := .int, accessFlags := 25, slot := 11, constantValue := 0 }, { name := "T_CHAR", type := .int, accessFlags := 25, slot := 12, constantValue := 0 }, { name := "T_FLOAT", type := .int, accessFlags := 25, slot := 13, constantValue := 0 }, { name := "T_DOUBLE", type := .int, accessFlags := 25, slot := 14, constantValue := 0 }, { name := "T_BYTE", type := .int, accessFlags := 25, slot := 15, constantValue := 0 }, { name := "T_SHORT", type := .int, accessFlags := 25, slot := 16, constantValue := 0 }, { name := "T_INT", type := .int, accessFlags := 25, slot := 17, constantValue := 0 }, { name := "T_LONG", type := .int, accessFlags := 25, slot := 18, constantValue := 0 }, { name := "JLA", type := (.object "jdk/internal/access/JavaLangAccess"), accessFlags := 26, slot := 19, constantValue := 0 }, { name := "SOFT_MAX_ARRAY_LENGTH", type := .int, accessFlags := 25, slot := 20, constantValue := 0 }]
  methods := #[k12m0]
  instanceTypes := #[]
  staticTypes := #[(.object "jdk/internal/misc/Unsafe"), .boolean, .int, .int, .int, .int, .int, .int, .int, .int, .int, .int, .int, .int, .int, .int, .int, .int, .int, (.object "jdk/internal/access/JavaLangAccess"), .int]
  resolved := Array.replicate 378 none
  statics := none }

def pool13 : Array CpInfo := pool [(1, u "java/lang/Cloneable"), (0, .class_ 1), (0, u "java/lang/Object"), (0, .class_ 3)] 3

/-- java/lang/Cloneable -/
def k13 : Class := { plain "java/lang/Cloneable" (some 0) with
  accessFlags := 1537
  interfaces := #[]
  cf := some (fileOf pool13 2 #[] #[] 1537 4 #[] #[])
  fields := #[]
  methods := #[]
  instanceTypes := #[]
  staticTypes := #[]
  resolved := Array.replicate 8 none
  statics := none }

/-- the primitive byte -/
def k14 : Class := { plain "byte" none with kind := .primitive 'B', accessFlags := 0x411 }
/-- [B -/
def k15 : Class := { plain "[B" (some 0) with kind := .array 14 .byte, interfaces := #[13, 3], accessFlags := 1041 }

/-- the primitive int -/
def k16 : Class := { plain "int" none with kind := .primitive 'I', accessFlags := 0x411 }
/-- [I -/
def k17 : Class := { plain "[I" (some 0) with kind := .array 16 .int, interfaces := #[13, 3], accessFlags := 1041 }

def heap : Heap := #[{ cls := 8, slots := #[.long 0, .int 1, .null, .int 0, .null, .int 0, .int 0], vm := .statics 8 },
  { cls := 11, slots := #[.null, .null, .null], vm := .statics 11 }]
def classes : Array Class := #[k0, k1, k2, k3, k4, k5, k6, k7, k8, k9, k10, k11, k12, k13, k14, k15, k16, k17]
def interned : List (Array UInt16 × Addr) := []
def slotsUsed : Nat := 10
def theMethod : MethodId := ⟨1, 1⟩
def args0 : Array Value := #[.int 5, .int 7, .int 3]
def aboutOver (below : List Frame) : State where
  vm := { classes := classes, interned := interned.toArray }
  heap := heap
  slotsUsed := slotsUsed
  threads := #[{ frames := .invoking theMethod args0 :: below }]
def below0 : List Frame := [.native { method := ⟨0, 0⟩, args := #[] }]
def about1 : State := aboutOver below0
def p0 : Program := .bare "" "" ""
def e0 : Env := launch0.env 0 0 0
theorem w_frames : about1.frames = Frame.invoking theMethod args0 :: below0 := rfl
set_option maxRecDepth 65536 in
theorem w_args : argsFit about1.vm theMethod args0 = true := by decide +kernel
set_option maxRecDepth 65536 in
theorem w_heap : heapFits about1 = true := by decide +kernel
set_option maxRecDepth 65536 in
theorem w_runnable : about1.curStatus? = some .runnable := by decide +kernel
set_option maxRecDepth 65536 in
theorem w_alone : about1.alone = true := by decide +kernel
set_option maxRecDepth 65536 in
theorem w_named : about1.methodNamed? x = some theMethod := by decide +kernel
set_option maxRecDepth 65536 in
theorem w_hears : about1.hears theMethod below0 = true := by decide +kernel
set_option maxRecDepth 65536 in
theorem w_ripe : about1.ripe theMethod args0 below0 = true := by decide +kernel
theorem w_running : about1.status = .running := rfl
set_option maxRecDepth 65536 in
theorem w_room : about1.hasRoom e0.platform room_1 = true :=
  launch0.hasRoom_least _ room_1 (by decide +kernel) (by decide +kernel) (by decide +kernel) (by decide +kernel) (by decide +kernel) (by decide +kernel)
theorem allAtoms_all (ts : List Jvm.Cond) (a : Array Jvm.Value) (st : Jvm.State) : (allAtoms ts).before a st = ts.all (fun c => c.before a st) := by
  induction ts with
  | nil => rfl
  | cons c t ih =>
    show (Jvm.Cond.and c (allAtoms t)).before a st = _
    rw [Jvm.Cond.before_and, ih, List.all_cons]
def words1 : List Jvm.Cond := Jvm.Cond.code x code maxLocals ret :: tables_1
/-- a 'code' word, met by the world's own term for the bytes: nothing is compared byte by byte -/
theorem code_word {y : MethodName} {bytes : ByteArray} {mx : Nat} {rt : Option FieldType} {a : Array Value} {s : State} {m : MethodId} {meth : Method} {c : Code} (h1 : s.methodNamed? y = some m) (h2 : s.vm.method? m = some meth) (h3 : meth.code = some c) (h4 : c.code = bytes)
    (h5 : (c.maxLocals == mx && c.exceptionTable.isEmpty && decide (c.maxStack ≤ mostOperands) && decide (meth.sig.returnType = rt) && !meth.locks && decide (parseMethodDescriptor y.desc = some meth.sig)) = true) : (Jvm.Cond.code y bytes mx rt).before a s = true := by
  simp only [Bool.and_eq_true, beq_iff_eq, Bool.not_eq_true', decide_eq_true_eq] at h5
  obtain ⟨⟨⟨⟨⟨g1, g2⟩, g3⟩, g4⟩, g5⟩, g6⟩ := h5
  simp [Cond.before, Cond.holds, Cond.value, h1, h2, h3, h4, g1, g2, g3, g4, g5, g6]
def isCode : Jvm.Cond → Bool
  | .code _ _ _ _ => true
  | _ => false
theorem all_split {L : List Jvm.Cond} {P : Jvm.Cond → Bool} (h1 : L.all (fun c => isCode c || P c) = true) (h2 : ∀ c ∈ L.filter isCode, P c = true) : L.all P = true := by
  refine List.all_eq_true.mpr fun c hc => ?_
  have h := List.all_eq_true.mp h1 c hc
  rcases Bool.eq_false_or_eq_true (isCode c) with hi | hi
  · exact h2 c (List.mem_filter.mpr ⟨hc, hi⟩)
  · simpa [hi] using h
set_option maxRecDepth 65536 in
theorem w_c0 : (Jvm.Cond.code x code maxLocals ret).before args0 about1 = true := code_word (m := ⟨1, 1⟩) (meth := k1m1) (c := k1c1) (by decide +kernel) rfl rfl rfl (by decide +kernel)
set_option maxRecDepth 65536 in
theorem w_c1 : (Jvm.Cond.code ({ cls := "java/lang/String", name := "valueOf", desc := "(C)Ljava/lang/String;" } : Jvm.MethodName) jdk_42_method_139_code (1 : Nat) (Option.some (Jvm.ClassFile.FieldType.object "java/lang/String"))).before args0 about1 = true := code_word (m := ⟨8, 2⟩) (meth := k8m2) (c := k8c2) (by decide +kernel) rfl rfl rfl (by decide +kernel)
set_option maxRecDepth 65536 in
theorem w_c2 : (Jvm.Cond.code ({ cls := "java/lang/StringLatin1", name := "canEncode", desc := "(C)Z" } : Jvm.MethodName) jdk_43_method_3_code (1 : Nat) (Option.some Jvm.ClassFile.FieldType.boolean)).before args0 about1 = true := code_word (m := ⟨9, 1⟩) (meth := k9m1) (c := k9c1) (by decide +kernel) rfl rfl rfl (by decide +kernel)
set_option maxRecDepth 65536 in
theorem w_c3 : (Jvm.Cond.code ({ cls := "java/lang/StringLatin1", name := "toBytes", desc := "(C)[B" } : Jvm.MethodName) jdk_43_method_46_code (1 : Nat) (Option.some (Jvm.ClassFile.FieldType.array Jvm.ClassFile.FieldType.byte))).before args0 about1 = true := code_word (m := ⟨9, 3⟩) (meth := k9m3) (c := k9c3) (by decide +kernel) rfl rfl rfl (by decide +kernel)
set_option maxRecDepth 65536 in
theorem w_c4 : (Jvm.Cond.code ({ cls := "java/lang/String", name := "<init>", desc := "([BB)V" } : Jvm.MethodName) jdk_42_method_151_code (3 : Nat) (Option.none : Option Jvm.ClassFile.FieldType)).before args0 about1 = true := code_word (m := ⟨8, 3⟩) (meth := k8m3) (c := k8c3) (by decide +kernel) rfl rfl rfl (by decide +kernel)
set_option maxRecDepth 65536 in
theorem w_c5 : (Jvm.Cond.code ({ cls := "java/lang/Object", name := "<init>", desc := "()V" } : Jvm.MethodName) object_method_1_code (1 : Nat) (Option.none : Option Jvm.ClassFile.FieldType)).before args0 about1 = true := code_word (m := ⟨0, 0⟩) (meth := k0m0) (c := k0c0) (by decide +kernel) rfl rfl rfl (by decide +kernel)
set_option maxRecDepth 65536 in
theorem w_c6 : (Jvm.Cond.code ({ cls := "com/example/collector_urchin/collectorurchin/store/Credential", name := "<init>", desc := "(Ljava/lang/String;Ljava/lang/String;Ljava/lang/String;)V" } : Jvm.MethodName) prog_7_method_1_code (4 : Nat) (Option.none : Option Jvm.ClassFile.FieldType)).before args0 about1 = true := code_word (m := ⟨2, 0⟩) (meth := k2m0) (c := k2c0) (by decide +kernel) rfl rfl rfl (by decide +kernel)
set_option maxRecDepth 65536 in
theorem w_c7 : (Jvm.Cond.code ({ cls := "java/util/Objects", name := "requireNonNull", desc := "(Ljava/lang/Object;Ljava/lang/String;)Ljava/lang/Object;" } : Jvm.MethodName) jdk_31_method_11_code (2 : Nat) (Option.some (Jvm.ClassFile.FieldType.object "java/lang/Object"))).before args0 about1 = true := code_word (m := ⟨10, 1⟩) (meth := k10m1) (c := k10c1) (by decide +kernel) rfl rfl rfl (by decide +kernel)
set_option maxRecDepth 65536 in
theorem w_c8 : (Jvm.Cond.code ({ cls := "com/example/collector_urchin/collectorurchin/store/Credential", name := "equals", desc := "(Ljava/lang/Object;)Z" } : Jvm.MethodName) prog_7_method_5_code (2 : Nat) (Option.some Jvm.ClassFile.FieldType.boolean)).before args0 about1 = true := code_word (m := ⟨2, 1⟩) (meth := k2m1) (c := k2c1) (by decide +kernel) rfl rfl rfl (by decide +kernel)
set_option maxRecDepth 65536 in
theorem w_c9 : (Jvm.Cond.code ({ cls := "java/lang/String", name := "equals", desc := "(Ljava/lang/Object;)Z" } : Jvm.MethodName) jdk_42_method_66_code (3 : Nat) (Option.some Jvm.ClassFile.FieldType.boolean)).before args0 about1 = true := code_word (m := ⟨8, 1⟩) (meth := k8m1) (c := k8c1) (by decide +kernel) rfl rfl rfl (by decide +kernel)
set_option maxRecDepth 65536 in
theorem w_c10 : (Jvm.Cond.code ({ cls := "java/lang/StringLatin1", name := "equals", desc := "([B[B)Z" } : Jvm.MethodName) jdk_43_method_13_code (3 : Nat) (Option.some Jvm.ClassFile.FieldType.boolean)).before args0 about1 = true := code_word (m := ⟨9, 2⟩) (meth := k9m2) (c := k9c2) (by decide +kernel) rfl rfl rfl (by decide +kernel)
def codes1 : List Jvm.Cond := [Jvm.Cond.code x code maxLocals ret, Jvm.Cond.code ({ cls := "java/lang/String", name := "valueOf", desc := "(C)Ljava/lang/String;" } : Jvm.MethodName) jdk_42_method_139_code (1 : Nat) (Option.some (Jvm.ClassFile.FieldType.object "java/lang/String")), Jvm.Cond.code ({ cls := "java/lang/StringLatin1", name := "canEncode", desc := "(C)Z" } : Jvm.MethodName) jdk_43_method_3_code (1 : Nat) (Option.some Jvm.ClassFile.FieldType.boolean), Jvm.Cond.code ({ cls := "java/lang/StringLatin1", name := "toBytes", desc := "(C)[B" } : Jvm.MethodName) jdk_43_method_46_code (1 : Nat) (Option.some (Jvm.ClassFile.FieldType.array Jvm.ClassFile.FieldType.byte)), Jvm.Cond.code ({ cls := "java/lang/String", name := "<init>", desc := "([BB)V" } : Jvm.MethodName) jdk_42_method_151_code (3 : Nat) (Option.none : Option Jvm.ClassFile.FieldType), Jvm.Cond.code ({ cls := "java/lang/Object", name := "<init>", desc := "()V" } : Jvm.MethodName) object_method_1_code (1 : Nat) (Option.none : Option Jvm.ClassFile.FieldType), Jvm.Cond.code ({ cls := "com/example/collector_urchin/collectorurchin/store/Credential", name := "<init>", desc := "(Ljava/lang/String;Ljava/lang/String;Ljava/lang/String;)V" } : Jvm.MethodName) prog_7_method_1_code (4 : Nat) (Option.none : Option Jvm.ClassFile.FieldType), Jvm.Cond.code ({ cls := "java/util/Objects", name := "requireNonNull", desc := "(Ljava/lang/Object;Ljava/lang/String;)Ljava/lang/Object;" } : Jvm.MethodName) jdk_31_method_11_code (2 : Nat) (Option.some (Jvm.ClassFile.FieldType.object "java/lang/Object")), Jvm.Cond.code ({ cls := "com/example/collector_urchin/collectorurchin/store/Credential", name := "equals", desc := "(Ljava/lang/Object;)Z" } : Jvm.MethodName) prog_7_method_5_code (2 : Nat) (Option.some Jvm.ClassFile.FieldType.boolean), Jvm.Cond.code ({ cls := "java/lang/String", name := "equals", desc := "(Ljava/lang/Object;)Z" } : Jvm.MethodName) jdk_42_method_66_code (3 : Nat) (Option.some Jvm.ClassFile.FieldType.boolean), Jvm.Cond.code ({ cls := "java/lang/StringLatin1", name := "equals", desc := "([B[B)Z" } : Jvm.MethodName) jdk_43_method_13_code (3 : Nat) (Option.some Jvm.ClassFile.FieldType.boolean)]
set_option maxRecDepth 65536 in
theorem codes_eq : words1.filter isCode = codes1 := rfl
theorem w_codes : ∀ c ∈ words1.filter isCode, c.before args0 about1 = true := by
  rw [codes_eq]
  intro c hc
  simp only [codes1, List.mem_cons, List.not_mem_nil, or_false] at hc
  rcases hc with rfl | rfl | rfl | rfl | rfl | rfl | rfl | rfl | rfl | rfl | rfl
  · exact w_c0
  · exact w_c1
  · exact w_c2
  · exact w_c3
  · exact w_c4
  · exact w_c5
  · exact w_c6
  · exact w_c7
  · exact w_c8
  · exact w_c9
  · exact w_c10
set_option maxRecDepth 65536 in
theorem w_t1 : (words1.take 24).all (fun c => isCode c || c.before args0 about1) = true := by decide +kernel
set_option maxRecDepth 65536 in
theorem w_t2 : ((words1.drop 24).take 24).all (fun c => isCode c || c.before args0 about1) = true := by decide +kernel
set_option maxRecDepth 65536 in
theorem w_t3 : ((words1.drop 24).drop 24).all (fun c => isCode c || c.before args0 about1) = true := by decide +kernel
theorem w_tables : (allAtoms (Jvm.Cond.code x code maxLocals ret :: tables_1)).before args0 about1 = true := by
  rw [allAtoms_all]
  show words1.all (fun c => c.before args0 about1) = true
  refine all_split ?_ w_codes
  rw [← List.take_append_drop 24 words1, List.all_append, w_t1, ← List.take_append_drop 24 (words1.drop 24), List.all_append, w_t2, w_t3]
  rfl
set_option maxRecDepth 65536 in
theorem w_rest : rest_1_c.before args0 about1 = true := by decide +kernel
set_option maxRecDepth 65536 in
theorem w_case : (Jvm.Cond.and given_1 narrow_1).before args0 about1 = true := by decide +kernel
theorem w_applies : (headSpec (Jvm.Cond.code x code maxLocals ret :: tables_1) room_1).applies x e0.platform about1 = true :=
  (Spec.applies_iff w_frames).mpr ⟨w_running, w_runnable, w_alone, w_named, w_hears, w_ripe, w_room, w_tables⟩
theorem atStart : AtStart classFile x code maxLocals ret World_1 tables_1 room_1 Calls_1 rest_1 Pre_1 launch0 p0 e0 about1 theMethod args0 below0 :=
  ⟨lists_1, trivial, launch0.admits_env _ _ _, launch0.least_env, fairChoices_fair.cas, fairChoices_fair.clock, w_frames, w_args, w_heap, w_applies, trivial, w_rest, w_case⟩
end start1
theorem witness_1 : WitnessClaimed_1 := ⟨start1.p0, start1.e0, start1.about1, start1.theMethod, start1.args0, start1.below0, start1.atStart⟩
end Jvm.Pilot.@@N@@
