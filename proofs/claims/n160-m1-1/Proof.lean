import JvmDerived
import JvmDerived.Pilot.@@N@@Statement
import JvmDerived.Pilot.@@N@@Code
set_option linter.unusedVariables false
set_option linter.unusedSimpArgs false
@@BLOCK:NumsL.lean.txt@@
namespace Jvm.RoadKit
open Sem ClassFile Op Lib Jvm.Stand Jvm.Free Jvm.LawKit
/-- from the state S the run comes to an end that P holds of -/
def own_Out (p : Program) (e : Env) (below : List Frame) (P : Outcome → State → Prop) (S : State) : Prop := ∃ s₂ o, Steps p.tables e below S s₂ ∧ s₂.status = .running ∧ Ended s₂ below o ∧ P o s₂
theorem own_dupX2 {tb : Tables} [Ours tb] {e : Env} {below : List Frame} {T target : State} {m : MethodId} {c : Code} {g : JFrame} (h : At T m c below) (hx : tb.exec = Jvm.exec) (hg : g.method = m) {x y z : Value} {rest : List Value} (hd : decode c.code g.pc = .ok (.dup_x2, 1)) (hs : g.stack = x :: y :: z :: rest) (h1 : x.category = 1) (h2 : y.category = 1) (h3 : z.category = 1)
    (hr : Steps tb e below (T.setTop { g with pc := g.pc + 1, stack := x :: y :: z :: x :: rest }) target) : Steps tb e below (T.setTop g) target := by
  subst hg
  jvm_step h [h.top, hx, hd, hs, h1, h2, h3]
  exact hr
theorem own_of {p : Program} {e : Env} {below : List Frame} {P : Outcome → State → Prop} {S S' : State} (h : ∀ t, Steps p.tables e below S' t → Steps p.tables e below S t) (k : own_Out p e below P S') : own_Out p e below P S := by
  obtain ⟨a, b, c, d⟩ := k
  exact ⟨a, b, h a c, d⟩
section New
variable {p : Program} {l : Launch} {e : Env} {R : Room} {s : State} {m : MethodId} {args : Array Value} {below : List Frame} {meth : Method} {c : Code} {T : State} {locs : List Loc} {cells slots : Nat}
theorem own_more (X : Stand p l e R s m args below meth c T locs cells slots) {c' n' : Nat} (hc : cells ≤ c') (hn : slots ≤ n') : Stand p l e R s m args below meth c T locs c' n' := { X with same := X.same.mono hc hn }
theorem own_retI (X : Stand p l e R s m args below meth c T locs cells slots) (hx : p.tables.exec = Jvm.exec) {pc : Nat} {Ls : Array Slot} {z : Int32} {rest : List Value} (hret : meth.sig.returnType = some .int) (hd : decode c.code pc = .ok (.ireturn, 1)) {fs : List Frame}
    (hl : ∀ (f : JFrame) (acts : List Action), f.method = m → f.locked = none → f.entered = [] → (doReturn e (T.setTop f) acts (some (.int z))).1 = T.setFrames fs) : Steps p.tables e below (T.setTop (mkF m pc Ls (.int z :: rest))) (T.setFrames fs) := retOut X hx hret rfl (Or.inl ⟨rfl, Or.inl rfl, z, rfl⟩) hd hl
theorem own_end (X : Stand p l e R s m args below meth c T locs cells slots) (hlk : meth.locks = false) {v : Option Value} (hv : meth.sig.returnType = none → v = none) {g : JFrame}
    (hs : ∀ fs, (∀ (f : JFrame) (acts : List Action), f.method = m → f.locked = none → f.entered = [] → (doReturn e (T.setTop f) acts v).1 = T.setFrames fs) → Steps p.tables e below (T.setTop g) (T.setFrames fs))
    {Q : Option Value → Heap → List Loc → Prop} (hQ : Q v T.heap locs) {C N : Nat} (hC : cells ≤ C) (hN : slots ≤ N) :
    own_Out p e below (fun o U' => ∃ v L, o = .returned v ∧ Q v U'.heap L ∧ FrameEnd s o U' L C N) (T.setTop g) := by
  obtain ⟨fs, hr, hrun, hended, hW, hsame⟩ := X.leave (v := v) hv hlk
  exact ⟨_, _, hs fs hr, hrun, hended, _, _, rfl, hQ, ⟨_, rfl⟩, hW, hsame.mono hC hN⟩
theorem own_endW {vm₁ : Vm} (X : Stand p l e R (s.setVm vm₁) m args below meth c T locs cells slots) {n : Nat} (hS : s.Since vm₁ n) (hn : n ≤ T.heap.size) (hlk : meth.locks = false) {v : Option Value} (hv : meth.sig.returnType = none → v = none) {g : JFrame}
    (hs : ∀ fs, (∀ (f : JFrame) (acts : List Action), f.method = m → f.locked = none → f.entered = [] → (doReturn e (T.setTop f) acts v).1 = T.setFrames fs) → Steps p.tables e below (T.setTop g) (T.setFrames fs))
    {Q : Option Value → Heap → List Loc → Prop} (hQ : Q v T.heap locs) {C N : Nat} (hC : cells ≤ C) (hN : slots ≤ N) :
    own_Out p e below (fun o U' => ∃ v L, o = .returned v ∧ Q v U'.heap L ∧ ReturnedEndW s o U' L C N) (T.setTop g) := by
  obtain ⟨fs, hr, hrun, hended, hE⟩ := X.leaveW hS hn (v := v) hv hlk
  exact ⟨_, _, hs fs hr, hrun, hended, _, _, rfl, hQ, hE.1, hE.2.1, hE.2.2.1, hE.2.2.2.mono hC hN⟩
theorem own_outNW {vm₁ : Vm} (X : Stand p l e R (s.setVm vm₁) m args below meth c T locs cells slots) {n : Nat} (hS : s.Since vm₁ n) (hn : n ≤ T.heap.size) (hx : p.tables.exec = Jvm.exec) (hlk : meth.locks = false) {pc : Nat} {Ls : Array Slot} {z z' : Int32} {t : FieldType} {rest : List Value} (hret : meth.sig.returnType = some t) (ht : t = .boolean ∨ t = .byte ∨ t = .char ∨ t = .short) (hd : decode c.code pc = .ok (.ireturn, 1)) (hz : nar t z = z')
    {Q : Option Value → Heap → List Loc → Prop} (hQ : Q (some (.int z')) T.heap locs) {C N : Nat} (hC : cells ≤ C) (hN : slots ≤ N) :
    own_Out p e below (fun o U' => ∃ v L, o = .returned v ∧ Q v U'.heap L ∧ ReturnedEndW s o U' L C N) (T.setTop (mkF m pc Ls (.int z :: rest))) :=
  own_endW X hS hn hlk (fun h => by rw [hret] at h; cases h) (fun fs hr => retN X hx hret ht hd (by rw [hz]; exact hr)) hQ hC hN
theorem own_outVW {vm₁ : Vm} (X : Stand p l e R (s.setVm vm₁) m args below meth c T locs cells slots) {n : Nat} (hS : s.Since vm₁ n) (hn : n ≤ T.heap.size) (hx : p.tables.exec = Jvm.exec) (hlk : meth.locks = false) {pc : Nat} {Ls : Array Slot} (hret : meth.sig.returnType = none) (hd : decode c.code pc = .ok (.return_, 1))
    {Q : Option Value → Heap → List Loc → Prop} (hQ : Q none T.heap locs) {C N : Nat} (hC : cells ≤ C) (hN : slots ≤ N) :
    own_Out p e below (fun o U' => ∃ v L, o = .returned v ∧ Q v U'.heap L ∧ ReturnedEndW s o U' L C N) (T.setTop (mkF m pc Ls [])) :=
  own_endW X hS hn hlk (fun _ => rfl) (fun fs hr => X.returnOut hx hret hd hr) hQ hC hN
theorem own_outI (X : Stand p l e R s m args below meth c T locs cells slots) (hx : p.tables.exec = Jvm.exec) (hlk : meth.locks = false) {pc : Nat} {Ls : Array Slot} {z : Int32} {rest : List Value} (hret : meth.sig.returnType = some .int) (hd : decode c.code pc = .ok (.ireturn, 1))
    {Q : Option Value → Heap → List Loc → Prop} (hQ : Q (some (.int z)) T.heap locs) {C N : Nat} (hC : cells ≤ C) (hN : slots ≤ N) :
    own_Out p e below (fun o U' => ∃ v L, o = .returned v ∧ Q v U'.heap L ∧ FrameEnd s o U' L C N) (T.setTop (mkF m pc Ls (.int z :: rest))) :=
  own_end X hlk (fun h => by rw [hret] at h; cases h) (fun fs hr => own_retI X hx hret hd hr) hQ hC hN
theorem own_outN (X : Stand p l e R s m args below meth c T locs cells slots) (hx : p.tables.exec = Jvm.exec) (hlk : meth.locks = false) {pc : Nat} {Ls : Array Slot} {z z' : Int32} {t : FieldType} {rest : List Value} (hret : meth.sig.returnType = some t) (ht : t = .boolean ∨ t = .byte ∨ t = .char ∨ t = .short) (hd : decode c.code pc = .ok (.ireturn, 1)) (hz : nar t z = z')
    {Q : Option Value → Heap → List Loc → Prop} (hQ : Q (some (.int z')) T.heap locs) {C N : Nat} (hC : cells ≤ C) (hN : slots ≤ N) :
    own_Out p e below (fun o U' => ∃ v L, o = .returned v ∧ Q v U'.heap L ∧ FrameEnd s o U' L C N) (T.setTop (mkF m pc Ls (.int z :: rest))) :=
  own_end X hlk (fun h => by rw [hret] at h; cases h) (fun fs hr => retN X hx hret ht hd (by rw [hz]; exact hr)) hQ hC hN
theorem own_outL (X : Stand p l e R s m args below meth c T locs cells slots) (hx : p.tables.exec = Jvm.exec) (hlk : meth.locks = false) {pc : Nat} {Ls : Array Slot} {z : Int64} {rest : List Value} (hret : meth.sig.returnType = some .long) (hd : decode c.code pc = .ok (.lreturn, 1))
    {Q : Option Value → Heap → List Loc → Prop} (hQ : Q (some (.long z)) T.heap locs) {C N : Nat} (hC : cells ≤ C) (hN : slots ≤ N) :
    own_Out p e below (fun o U' => ∃ v L, o = .returned v ∧ Q v U'.heap L ∧ FrameEnd s o U' L C N) (T.setTop (mkF m pc Ls (.long z :: rest))) :=
  own_end X hlk (fun h => by rw [hret] at h; cases h) (fun fs hr => retOut X hx hret rfl (Or.inr (Or.inl ⟨rfl, rfl, z, rfl⟩)) hd hr) hQ hC hN
theorem own_outD (X : Stand p l e R s m args below meth c T locs cells slots) (hx : p.tables.exec = Jvm.exec) (hlk : meth.locks = false) {pc : Nat} {Ls : Array Slot} {z : UInt64} {rest : List Value} (hret : meth.sig.returnType = some .double) (hd : decode c.code pc = .ok (.dreturn, 1))
    {Q : Option Value → Heap → List Loc → Prop} (hQ : Q (some (.double z)) T.heap locs) {C N : Nat} (hC : cells ≤ C) (hN : slots ≤ N) :
    own_Out p e below (fun o U' => ∃ v L, o = .returned v ∧ Q v U'.heap L ∧ FrameEnd s o U' L C N) (T.setTop (mkF m pc Ls (.double z :: rest))) :=
  own_end X hlk (fun h => by rw [hret] at h; cases h) (fun fs hr => retOut X hx hret rfl (Or.inr (Or.inr (Or.inl ⟨rfl, rfl, z, rfl⟩))) hd hr) hQ hC hN
theorem own_outR (X : Stand p l e R s m args below meth c T locs cells slots) (hx : p.tables.exec = Jvm.exec) (hlk : meth.locks = false) {pc : Nat} {Ls : Array Slot} {w : Value} {t : FieldType} {rest : List Value} (hret : meth.sig.returnType = some t) (ht : t.isReference = true) (hw : w.isRef = true) (hn : narrow t w = w) (hd : decode c.code pc = .ok (.areturn, 1))
    {Q : Option Value → Heap → List Loc → Prop} (hQ : Q (some w) T.heap locs) {C N : Nat} (hC : cells ≤ C) (hN : slots ≤ N) :
    own_Out p e below (fun o U' => ∃ v L, o = .returned v ∧ Q v U'.heap L ∧ FrameEnd s o U' L C N) (T.setTop (mkF m pc Ls (w :: rest))) :=
  own_end X hlk (fun h => by rw [hret] at h; cases h) (fun fs hr => retOut X hx hret hn (Or.inr (Or.inr (Or.inr (Or.inr ⟨rfl, ht, hw⟩)))) hd hr) hQ hC hN
theorem own_outV (X : Stand p l e R s m args below meth c T locs cells slots) (hx : p.tables.exec = Jvm.exec) (hlk : meth.locks = false) {pc : Nat} {Ls : Array Slot} (hret : meth.sig.returnType = none) (hd : decode c.code pc = .ok (.return_, 1))
    {Q : Option Value → Heap → List Loc → Prop} (hQ : Q none T.heap locs) {C N : Nat} (hC : cells ≤ C) (hN : slots ≤ N) :
    own_Out p e below (fun o U' => ∃ v L, o = .returned v ∧ Q v U'.heap L ∧ FrameEnd s o U' L C N) (T.setTop (mkF m pc Ls [])) :=
  own_end X hlk (fun _ => rfl) (fun fs hr => X.returnOut hx hret hd hr) hQ hC hN
end New
theorem own_ltlt {x y : Int64} (h : x < y) : ifCond.holds .lt (lcmpW x y) = true ∧ ifCond.holds .ge (lcmpW x y) = false ∧ ifCond.holds .gt (lcmpW y x) = true ∧ ifCond.holds .le (lcmpW y x) = false := by
  have h1 : ¬ x > y := fun q => by rw [gt_iff_lt, Int64.lt_iff_toInt_lt] at q; rw [Int64.lt_iff_toInt_lt] at h; omega
  have h2 : ¬ x = y := fun q => by subst q; rw [Int64.lt_iff_toInt_lt] at h; omega
  have e1 : lcmpW x y = -1 := by simp only [lcmpW, if_neg h1, if_neg h2]
  have e2 : lcmpW y x = 1 := by simp only [lcmpW, if_pos (show y > x from h)]
  rw [e1, e2]; decide
theorem own_leq {x y : Int64} (h : x = y) : ifCond.holds .eq (lcmpW x y) = true ∧ ifCond.holds .ne (lcmpW x y) = false := by
  subst h
  have h1 : ¬ x > x := fun q => by rw [gt_iff_lt, Int64.lt_iff_toInt_lt] at q; omega
  have e1 : lcmpW x x = 0 := by simp only [lcmpW, if_neg h1, if_pos]
  rw [e1]; decide
theorem own_lfeq {x y : Int64} (h : ¬ x = y) : ifCond.holds .eq (lcmpW x y) = false ∧ ifCond.holds .ne (lcmpW x y) = true := by
  by_cases h1 : x > y
  · have e1 : lcmpW x y = 1 := by simp only [lcmpW, if_pos h1]
    rw [e1]; decide
  · have e1 : lcmpW x y = -1 := by simp only [lcmpW, if_neg h1, if_neg h]
    rw [e1]; decide
theorem own_lflt {x y : Int64} (h : ¬ x < y) : ifCond.holds .lt (lcmpW x y) = false ∧ ifCond.holds .ge (lcmpW x y) = true ∧ ifCond.holds .gt (lcmpW y x) = false ∧ ifCond.holds .le (lcmpW y x) = true := by
  by_cases h1 : x = y
  · subst h1
    have h1 : ¬ x > x := fun q => by rw [gt_iff_lt, Int64.lt_iff_toInt_lt] at q; omega
    have e1 : lcmpW x x = 0 := by simp only [lcmpW, if_neg h1, if_pos]
    rw [e1]; decide
  · have h2 : x > y := by
      rw [gt_iff_lt, Int64.lt_iff_toInt_lt]; rw [Int64.lt_iff_toInt_lt] at h
      have h3 : ¬ x.toInt = y.toInt := fun q => h1 (Int64.toInt_inj.mp q)
      omega
    have h3 : ¬ y > x := fun q => by rw [gt_iff_lt, Int64.lt_iff_toInt_lt] at q h2; omega
    have e1 : lcmpW x y = 1 := by simp only [lcmpW, if_pos h2]
    have e2 : lcmpW y x = -1 := by simp only [lcmpW, if_neg h3, if_neg (fun q => h1 (Eq.symm q))]
    rw [e1, e2]; decide
theorem own_staK0 {Z : State} {h h' : Heap} {C n d : String} {v : Value} (F : Sta Z h C n d v) (K : Keep h h' []) : Sta Z h' C n d v := by
  obtain ⟨cf, i, k, f, st, cell, h1, h2, h3, h4, h5, r⟩ := F
  exact ⟨cf, i, k, f, st, cell, h1, h2, h3, h4, K.2.1 st cell h5 nin0, r⟩
theorem own_staK1 {Z : State} {h h' : Heap} {C n d : String} {v : Value} {a : Addr} (F : Sta Z h C n d v) (K : Keep h h' [a]) (q : ∀ cell : Cell, h[a]? = some cell → cell.vm.isStatics = false) : Sta Z h' C n d v := by
  obtain ⟨cf, i, k, f, st, cell, h1, h2, h3, h4, h5, h6, h7⟩ := F
  have ne : st ≠ a := fun e => by subst e; rw [q _ h5] at h6; cases h6
  exact ⟨cf, i, k, f, st, cell, h1, h2, h3, h4, K.2.1 st cell h5 (ninS ne nin0), h6, h7⟩
theorem own_plainE {Z : State} {h : Heap} {a : Addr} {C : String} (E : Exa Z h a C) : ∀ cell : Cell, h[a]? = some cell → cell.vm.isStatics = false := fun cell hc => by
  obtain ⟨c, k, h1, -, -, h4, -⟩ := E; cases h1.symm.trans hc; exact h4
theorem own_plainV {Z : State} {h : Heap} {a : Addr} {k : ClassId} {ty : FieldType} {z : Int32} {vs : List Value} {dv : Value} (F : Arv Z h a k ty z vs dv) : ∀ cell : Cell, h[a]? = some cell → cell.vm.isStatics = false := fun cell hc => by
  obtain ⟨c, A, -⟩ := F; cases A.1.symm.trans hc; exact A.plain
section Bounds
variable {x a k : Int32} {u : Int}
theorem own_L1 (h : ¬ (x < a)) : a.toInt ≤ x.toInt := by rw [Int32.lt_iff_toInt_lt] at h; omega
theorem own_L2 (h : a < x) : a.toInt + 1 ≤ x.toInt := by rw [Int32.lt_iff_toInt_lt] at h; omega
theorem own_L3 (h : x = a) : a.toInt ≤ x.toInt := by subst h; omega
theorem own_U1 (h : x < a) : x.toInt ≤ a.toInt - 1 := by rw [Int32.lt_iff_toInt_lt] at h; omega
theorem own_U2 (h : ¬ (a < x)) : x.toInt ≤ a.toInt := by rw [Int32.lt_iff_toInt_lt] at h; omega
theorem own_U3 (h : x = a) : x.toInt ≤ a.toInt := by subst h; omega
theorem own_T1 (h : x.toInt ≤ u) (d : u < k.toInt) : x < k := by rw [Int32.lt_iff_toInt_lt]; omega
theorem own_T2 (h : u ≤ x.toInt) (d : k.toInt ≤ u) : ¬ (x < k) := by rw [Int32.lt_iff_toInt_lt]; omega
theorem own_T3 (h : u ≤ x.toInt) (d : k.toInt < u) : k < x := by rw [Int32.lt_iff_toInt_lt]; omega
theorem own_T4 (h : x.toInt ≤ u) (d : u ≤ k.toInt) : ¬ (k < x) := by rw [Int32.lt_iff_toInt_lt]; omega
theorem own_T5 (h : x.toInt ≤ u) (d : u < k.toInt) : ¬ (x = k) := fun q => by subst q; omega
theorem own_T6 (h : u ≤ x.toInt) (d : k.toInt < u) : ¬ (x = k) := fun q => by subst q; omega
theorem own_T7 {u' : Int} (h : u ≤ x.toInt) (h' : x.toInt ≤ u') (d : k.toInt ≤ u ∧ u' ≤ k.toInt) : x = k := Int32.toInt_inj.mp (by omega)
end Bounds
section Rel
theorem own_JR1 {a b : Int64} (h : a < b) : ¬ (b < a) := by rw [Int64.lt_iff_toInt_lt] at *; omega
theorem own_JR2 {a b : Int64} (h : a < b) : ¬ (a = b) := fun q => by subst q; rw [Int64.lt_iff_toInt_lt] at h; omega
theorem own_JR2' {a b : Int64} (h : a < b) : ¬ (b = a) := fun q => by subst q; rw [Int64.lt_iff_toInt_lt] at h; omega
theorem own_JR3 {a b : Int64} (h : a = b) : ¬ (a < b) := fun q => by subst h; rw [Int64.lt_iff_toInt_lt] at q; omega
theorem own_JR3' {a b : Int64} (h : a = b) : ¬ (b < a) := fun q => by subst h; rw [Int64.lt_iff_toInt_lt] at q; omega
theorem own_JR4 {a b : Int64} (h : ¬ (a < b)) (h' : ¬ (b < a)) : a = b := by rw [Int64.lt_iff_toInt_lt] at h h'; exact Int64.toInt_inj.mp (by omega)
theorem own_JR5 {a b : Int64} (h : ¬ (a < b)) (h' : ¬ (a = b)) : b < a := by rw [← Int64.toInt_inj] at h'; rw [Int64.lt_iff_toInt_lt] at *; omega
theorem own_JR5' {a b : Int64} (h : ¬ (a < b)) (h' : ¬ (b = a)) : b < a := by rw [← Int64.toInt_inj] at h'; rw [Int64.lt_iff_toInt_lt] at *; omega
theorem own_IR1 {a b : Int32} (h : a < b) : ¬ (b < a) := by rw [Int32.lt_iff_toInt_lt] at *; omega
theorem own_IR2 {a b : Int32} (h : a < b) : ¬ (a = b) := fun q => by subst q; rw [Int32.lt_iff_toInt_lt] at h; omega
theorem own_IR2' {a b : Int32} (h : a < b) : ¬ (b = a) := fun q => by subst q; rw [Int32.lt_iff_toInt_lt] at h; omega
theorem own_IR3 {a b : Int32} (h : a = b) : ¬ (a < b) := fun q => by subst h; rw [Int32.lt_iff_toInt_lt] at q; omega
theorem own_IR3' {a b : Int32} (h : a = b) : ¬ (b < a) := fun q => by subst h; rw [Int32.lt_iff_toInt_lt] at q; omega
theorem own_IR4 {a b : Int32} (h : ¬ (a < b)) (h' : ¬ (b < a)) : a = b := by rw [Int32.lt_iff_toInt_lt] at h h'; exact Int32.toInt_inj.mp (by omega)
theorem own_IR5 {a b : Int32} (h : ¬ (a < b)) (h' : ¬ (a = b)) : b < a := by rw [← Int32.toInt_inj] at h'; rw [Int32.lt_iff_toInt_lt] at *; omega
theorem own_IR5' {a b : Int32} (h : ¬ (a < b)) (h' : ¬ (b = a)) : b < a := by rw [← Int32.toInt_inj] at h'; rw [Int32.lt_iff_toInt_lt] at *; omega
end Rel
end Jvm.RoadKit
namespace Jvm.RoadKit
open Sem ClassFile Op Lib Jvm.Stand Jvm.Free Jvm.LawKit
section Short
variable {p : Program} {l : Launch} {e : Env} {R : Room} {s : State} {m : MethodId} {args : Array Value} {below : List Frame} {meth : Method} {c : Code} {T : State} {locs : List Loc} {cells slots : Nat} {P : Outcome → State → Prop} {bytes : ByteArray} {pc q : Nat} {ls l' : Array Slot} {st : List Value}
theorem o_iloadN (X : Stand p l e R s m args below meth c T locs cells slots) (hx : p.tables.exec = Jvm.exec) (hby : c.code = bytes) {k : Fin 4} {v : Int32} (hd : decode bytes pc = .ok (.iload_n k, 1)) (hl : ls[k.val]? = some (.val (.int v))) (hq : pc + 1 = q) (hr : own_Out p e below P (T.setTop (mkF m q ls (.int v :: st)))) : own_Out p e below P (T.setTop (mkF m pc ls (st))) := by
  subst hq; exact own_of (fun _ k => XS.iloadN X.here hx rfl (hb hby hd) hl k) hr
theorem o_iload (X : Stand p l e R s m args below meth c T locs cells slots) (hx : p.tables.exec = Jvm.exec) (hby : c.code = bytes) {k : Nat} {v : Int32} (hd : decode bytes pc = .ok (.iload k, 2)) (hl : ls[k]? = some (.val (.int v))) (hq : pc + 2 = q) (hr : own_Out p e below P (T.setTop (mkF m q ls (.int v :: st)))) : own_Out p e below P (T.setTop (mkF m pc ls (st))) := by
  subst hq; exact own_of (fun _ k => XS.iload X.here hx rfl (hb hby hd) hl k) hr
theorem o_istoreN (X : Stand p l e R s m args below meth c T locs cells slots) (hx : p.tables.exec = Jvm.exec) (hby : c.code = bytes) {k : Fin 4} {x : Int32} (hd : decode bytes pc = .ok (.istore_n k, 1)) (hl : storeLocals ls k.val (.int x) = some l') (hq : pc + 1 = q) (hr : own_Out p e below P (T.setTop (mkF m q l' (st)))) : own_Out p e below P (T.setTop (mkF m pc ls (.int x :: st))) := by
  subst hq; exact own_of (fun _ k => XS.istoreN X.here hx rfl (hb hby hd) rfl hl k) hr
theorem o_istore (X : Stand p l e R s m args below meth c T locs cells slots) (hx : p.tables.exec = Jvm.exec) (hby : c.code = bytes) {k : Nat} {x : Int32} (hd : decode bytes pc = .ok (.istore k, 2)) (hl : storeLocals ls k (.int x) = some l') (hq : pc + 2 = q) (hr : own_Out p e below P (T.setTop (mkF m q l' (st)))) : own_Out p e below P (T.setTop (mkF m pc ls (.int x :: st))) := by
  subst hq; exact own_of (fun _ k => XS.istore X.here hx rfl (hb hby hd) rfl hl k) hr
theorem o_lloadN (X : Stand p l e R s m args below meth c T locs cells slots) (hx : p.tables.exec = Jvm.exec) (hby : c.code = bytes) {k : Fin 4} {v : Int64} (hd : decode bytes pc = .ok (.lload_n k, 1)) (hl : ls[k.val]? = some (.val (.long v))) (hq : pc + 1 = q) (hr : own_Out p e below P (T.setTop (mkF m q ls (.long v :: st)))) : own_Out p e below P (T.setTop (mkF m pc ls (st))) := by
  subst hq; exact own_of (fun _ k => XS.lloadN X.here hx rfl (hb hby hd) hl k) hr
theorem o_lload (X : Stand p l e R s m args below meth c T locs cells slots) (hx : p.tables.exec = Jvm.exec) (hby : c.code = bytes) {k : Nat} {v : Int64} (hd : decode bytes pc = .ok (.lload k, 2)) (hl : ls[k]? = some (.val (.long v))) (hq : pc + 2 = q) (hr : own_Out p e below P (T.setTop (mkF m q ls (.long v :: st)))) : own_Out p e below P (T.setTop (mkF m pc ls (st))) := by
  subst hq; exact own_of (fun _ k => XS.lload X.here hx rfl (hb hby hd) hl k) hr
theorem o_lstoreN (X : Stand p l e R s m args below meth c T locs cells slots) (hx : p.tables.exec = Jvm.exec) (hby : c.code = bytes) {k : Fin 4} {x : Int64} (hd : decode bytes pc = .ok (.lstore_n k, 1)) (hl : storeLocals ls k.val (.long x) = some l') (hq : pc + 1 = q) (hr : own_Out p e below P (T.setTop (mkF m q l' (st)))) : own_Out p e below P (T.setTop (mkF m pc ls (.long x :: st))) := by
  subst hq; exact own_of (fun _ k => XS.lstoreN X.here hx rfl (hb hby hd) rfl hl k) hr
theorem o_lstore (X : Stand p l e R s m args below meth c T locs cells slots) (hx : p.tables.exec = Jvm.exec) (hby : c.code = bytes) {k : Nat} {x : Int64} (hd : decode bytes pc = .ok (.lstore k, 2)) (hl : storeLocals ls k (.long x) = some l') (hq : pc + 2 = q) (hr : own_Out p e below P (T.setTop (mkF m q l' (st)))) : own_Out p e below P (T.setTop (mkF m pc ls (.long x :: st))) := by
  subst hq; exact own_of (fun _ k => XS.lstore X.here hx rfl (hb hby hd) rfl hl k) hr
theorem o_dloadN (X : Stand p l e R s m args below meth c T locs cells slots) (hx : p.tables.exec = Jvm.exec) (hby : c.code = bytes) {k : Fin 4} {v : UInt64} (hd : decode bytes pc = .ok (.dload_n k, 1)) (hl : ls[k.val]? = some (.val (.double v))) (hq : pc + 1 = q) (hr : own_Out p e below P (T.setTop (mkF m q ls (.double v :: st)))) : own_Out p e below P (T.setTop (mkF m pc ls (st))) := by
  subst hq; exact own_of (fun _ k => XS.dloadN X.here hx rfl (hb hby hd) hl k) hr
theorem o_dload (X : Stand p l e R s m args below meth c T locs cells slots) (hx : p.tables.exec = Jvm.exec) (hby : c.code = bytes) {k : Nat} {v : UInt64} (hd : decode bytes pc = .ok (.dload k, 2)) (hl : ls[k]? = some (.val (.double v))) (hq : pc + 2 = q) (hr : own_Out p e below P (T.setTop (mkF m q ls (.double v :: st)))) : own_Out p e below P (T.setTop (mkF m pc ls (st))) := by
  subst hq; exact own_of (fun _ k => XS.dload X.here hx rfl (hb hby hd) hl k) hr
theorem o_dstoreN (X : Stand p l e R s m args below meth c T locs cells slots) (hx : p.tables.exec = Jvm.exec) (hby : c.code = bytes) {k : Fin 4} {x : UInt64} (hd : decode bytes pc = .ok (.dstore_n k, 1)) (hl : storeLocals ls k.val (.double x) = some l') (hq : pc + 1 = q) (hr : own_Out p e below P (T.setTop (mkF m q l' (st)))) : own_Out p e below P (T.setTop (mkF m pc ls (.double x :: st))) := by
  subst hq; exact own_of (fun _ k => XS.dstoreN X.here hx rfl (hb hby hd) rfl hl k) hr
theorem o_dstore (X : Stand p l e R s m args below meth c T locs cells slots) (hx : p.tables.exec = Jvm.exec) (hby : c.code = bytes) {k : Nat} {x : UInt64} (hd : decode bytes pc = .ok (.dstore k, 2)) (hl : storeLocals ls k (.double x) = some l') (hq : pc + 2 = q) (hr : own_Out p e below P (T.setTop (mkF m q l' (st)))) : own_Out p e below P (T.setTop (mkF m pc ls (.double x :: st))) := by
  subst hq; exact own_of (fun _ k => XS.dstore X.here hx rfl (hb hby hd) rfl hl k) hr
theorem o_aloadN (X : Stand p l e R s m args below meth c T locs cells slots) (hx : p.tables.exec = Jvm.exec) (hby : c.code = bytes) {k : Fin 4} {v : Value} (hd : decode bytes pc = .ok (.aload_n k, 1)) (hl : ls[k.val]? = some (.val v)) (hv : v.isRef = true) (hq : pc + 1 = q) (hr : own_Out p e below P (T.setTop (mkF m q ls (v :: st)))) : own_Out p e below P (T.setTop (mkF m pc ls (st))) := by
  subst hq; exact own_of (fun _ k => XS.aloadN X.here hx rfl (hb hby hd) hl hv k) hr
theorem o_aload (X : Stand p l e R s m args below meth c T locs cells slots) (hx : p.tables.exec = Jvm.exec) (hby : c.code = bytes) {k : Nat} {v : Value} (hd : decode bytes pc = .ok (.aload k, 2)) (hl : ls[k]? = some (.val v)) (hv : v.isRef = true) (hq : pc + 2 = q) (hr : own_Out p e below P (T.setTop (mkF m q ls (v :: st)))) : own_Out p e below P (T.setTop (mkF m pc ls (st))) := by
  subst hq; exact own_of (fun _ k => XS.aload X.here hx rfl (hb hby hd) hl hv k) hr
theorem o_astoreN (X : Stand p l e R s m args below meth c T locs cells slots) (hx : p.tables.exec = Jvm.exec) (hby : c.code = bytes) {k : Fin 4} {x : Value} (hd : decode bytes pc = .ok (.astore_n k, 1)) (hv : x.isRef = true) (hl : storeLocals ls k.val x = some l') (hq : pc + 1 = q) (hr : own_Out p e below P (T.setTop (mkF m q l' (st)))) : own_Out p e below P (T.setTop (mkF m pc ls (x :: st))) := by
  subst hq; exact own_of (fun _ k => XS.astoreN X.here hx rfl (hb hby hd) rfl hv hl k) hr
theorem o_astore (X : Stand p l e R s m args below meth c T locs cells slots) (hx : p.tables.exec = Jvm.exec) (hby : c.code = bytes) {k : Nat} {x : Value} (hd : decode bytes pc = .ok (.astore k, 2)) (hv : x.isRef = true) (hl : storeLocals ls k x = some l') (hq : pc + 2 = q) (hr : own_Out p e below P (T.setTop (mkF m q l' (st)))) : own_Out p e below P (T.setTop (mkF m pc ls (x :: st))) := by
  subst hq; exact own_of (fun _ k => XS.astore X.here hx rfl (hb hby hd) rfl hv hl k) hr
theorem o_iinc (X : Stand p l e R s m args below meth c T locs cells slots) (hx : p.tables.exec = Jvm.exec) (hby : c.code = bytes) {k : Nat} {cst : Int} {x : Int32} (hd : decode bytes pc = .ok (.iinc k cst, 3)) (hl : ls[k]? = some (.val (.int x))) (hl' : storeLocals ls k (.int (x + Int32.ofInt cst)) = some l') (hq : pc + 3 = q) (hr : own_Out p e below P (T.setTop (mkF m q l' (st)))) : own_Out p e below P (T.setTop (mkF m pc ls (st))) := by
  subst hq; exact own_of (fun _ k => XS.iinc X.here hx rfl (hb hby hd) hl hl' k) hr
theorem o_iconst (X : Stand p l e R s m args below meth c T locs cells slots) (hx : p.tables.exec = Jvm.exec) (hby : c.code = bytes) {i : Int} {z : Int32} (hd : decode bytes pc = .ok (.iconst i, 1)) (hz : Int32.ofInt i = z) (hq : pc + 1 = q) (hr : own_Out p e below P (T.setTop (mkF m q ls (.int z :: st)))) : own_Out p e below P (T.setTop (mkF m pc ls (st))) := by
  subst hq; exact own_of (fun _ k => XS.iconst X.here hx rfl (hb hby hd) (by rw [hz]; exact k)) hr
theorem o_bipush (X : Stand p l e R s m args below meth c T locs cells slots) (hx : p.tables.exec = Jvm.exec) (hby : c.code = bytes) {i : Int} {z : Int32} (hd : decode bytes pc = .ok (.bipush i, 2)) (hz : (Int8.ofInt i).toInt32 = z) (hq : pc + 2 = q) (hr : own_Out p e below P (T.setTop (mkF m q ls (.int z :: st)))) : own_Out p e below P (T.setTop (mkF m pc ls (st))) := by
  subst hq; exact own_of (fun _ k => XS.bipush X.here hx rfl (hb hby hd) (by rw [hz]; exact k)) hr
theorem o_sipush (X : Stand p l e R s m args below meth c T locs cells slots) (hx : p.tables.exec = Jvm.exec) (hby : c.code = bytes) {i : Int} {z : Int32} (hd : decode bytes pc = .ok (.sipush i, 3)) (hz : (Int16.ofInt i).toInt32 = z) (hq : pc + 3 = q) (hr : own_Out p e below P (T.setTop (mkF m q ls (.int z :: st)))) : own_Out p e below P (T.setTop (mkF m pc ls (st))) := by
  subst hq; exact own_of (fun _ k => XS.sipush X.here hx rfl (hb hby hd) (by rw [hz]; exact k)) hr
theorem o_lconst (X : Stand p l e R s m args below meth c T locs cells slots) (hx : p.tables.exec = Jvm.exec) (hby : c.code = bytes) {i : Fin 2} {z : Int64} (hd : decode bytes pc = .ok (.lconst i, 1)) (hz : Int64.ofNat i = z) (hq : pc + 1 = q) (hr : own_Out p e below P (T.setTop (mkF m q ls (.long z :: st)))) : own_Out p e below P (T.setTop (mkF m pc ls (st))) := by
  subst hq; exact own_of (fun _ k => XS.lconst X.here hx rfl (hb hby hd) (by rw [hz]; exact k)) hr
theorem o_aconst_null (X : Stand p l e R s m args below meth c T locs cells slots) (hx : p.tables.exec = Jvm.exec) (hby : c.code = bytes)  (hd : decode bytes pc = .ok (.aconst_null, 1))  (hq : pc + 1 = q) (hr : own_Out p e below P (T.setTop (mkF m q ls (.null :: st)))) : own_Out p e below P (T.setTop (mkF m pc ls (st))) := by
  subst hq; exact own_of (fun _ k => XS.aconstNull X.here hx rfl (hb hby hd) k) hr
theorem o_iadd (X : Stand p l e R s m args below meth c T locs cells slots) (hx : p.tables.exec = Jvm.exec) (hby : c.code = bytes) {x y z : Int32} (hd : decode bytes pc = .ok (.iadd, 1)) (hz : x + y = z) (hq : pc + 1 = q) (hr : own_Out p e below P (T.setTop (mkF m q ls (.int z :: st)))) : own_Out p e below P (T.setTop (mkF m pc ls (.int y :: .int x :: st))) := by
  subst hq; exact own_of (fun _ k => XS.iadd X.here hx rfl (hb hby hd) rfl (by rw [hz]; exact k)) hr
theorem o_ladd (X : Stand p l e R s m args below meth c T locs cells slots) (hx : p.tables.exec = Jvm.exec) (hby : c.code = bytes) {x y z : Int64} (hd : decode bytes pc = .ok (.ladd, 1)) (hz : x + y = z) (hq : pc + 1 = q) (hr : own_Out p e below P (T.setTop (mkF m q ls (.long z :: st)))) : own_Out p e below P (T.setTop (mkF m pc ls (.long y :: .long x :: st))) := by
  subst hq; exact own_of (fun _ k => XS.ladd X.here hx rfl (hb hby hd) rfl (by rw [hz]; exact k)) hr
theorem o_isub (X : Stand p l e R s m args below meth c T locs cells slots) (hx : p.tables.exec = Jvm.exec) (hby : c.code = bytes) {x y z : Int32} (hd : decode bytes pc = .ok (.isub, 1)) (hz : x - y = z) (hq : pc + 1 = q) (hr : own_Out p e below P (T.setTop (mkF m q ls (.int z :: st)))) : own_Out p e below P (T.setTop (mkF m pc ls (.int y :: .int x :: st))) := by
  subst hq; exact own_of (fun _ k => XS.isub X.here hx rfl (hb hby hd) rfl (by rw [hz]; exact k)) hr
theorem o_lsub (X : Stand p l e R s m args below meth c T locs cells slots) (hx : p.tables.exec = Jvm.exec) (hby : c.code = bytes) {x y z : Int64} (hd : decode bytes pc = .ok (.lsub, 1)) (hz : x - y = z) (hq : pc + 1 = q) (hr : own_Out p e below P (T.setTop (mkF m q ls (.long z :: st)))) : own_Out p e below P (T.setTop (mkF m pc ls (.long y :: .long x :: st))) := by
  subst hq; exact own_of (fun _ k => XS.lsub X.here hx rfl (hb hby hd) rfl (by rw [hz]; exact k)) hr
theorem o_imul (X : Stand p l e R s m args below meth c T locs cells slots) (hx : p.tables.exec = Jvm.exec) (hby : c.code = bytes) {x y z : Int32} (hd : decode bytes pc = .ok (.imul, 1)) (hz : x * y = z) (hq : pc + 1 = q) (hr : own_Out p e below P (T.setTop (mkF m q ls (.int z :: st)))) : own_Out p e below P (T.setTop (mkF m pc ls (.int y :: .int x :: st))) := by
  subst hq; exact own_of (fun _ k => XS.imul X.here hx rfl (hb hby hd) rfl (by rw [hz]; exact k)) hr
theorem o_lmul (X : Stand p l e R s m args below meth c T locs cells slots) (hx : p.tables.exec = Jvm.exec) (hby : c.code = bytes) {x y z : Int64} (hd : decode bytes pc = .ok (.lmul, 1)) (hz : x * y = z) (hq : pc + 1 = q) (hr : own_Out p e below P (T.setTop (mkF m q ls (.long z :: st)))) : own_Out p e below P (T.setTop (mkF m pc ls (.long y :: .long x :: st))) := by
  subst hq; exact own_of (fun _ k => XS.lmul X.here hx rfl (hb hby hd) rfl (by rw [hz]; exact k)) hr
theorem o_iand (X : Stand p l e R s m args below meth c T locs cells slots) (hx : p.tables.exec = Jvm.exec) (hby : c.code = bytes) {x y z : Int32} (hd : decode bytes pc = .ok (.iand, 1)) (hz : x &&& y = z) (hq : pc + 1 = q) (hr : own_Out p e below P (T.setTop (mkF m q ls (.int z :: st)))) : own_Out p e below P (T.setTop (mkF m pc ls (.int y :: .int x :: st))) := by
  subst hq; exact own_of (fun _ k => XS.iand X.here hx rfl (hb hby hd) rfl (by rw [hz]; exact k)) hr
theorem o_land (X : Stand p l e R s m args below meth c T locs cells slots) (hx : p.tables.exec = Jvm.exec) (hby : c.code = bytes) {x y z : Int64} (hd : decode bytes pc = .ok (.land, 1)) (hz : x &&& y = z) (hq : pc + 1 = q) (hr : own_Out p e below P (T.setTop (mkF m q ls (.long z :: st)))) : own_Out p e below P (T.setTop (mkF m pc ls (.long y :: .long x :: st))) := by
  subst hq; exact own_of (fun _ k => XS.land X.here hx rfl (hb hby hd) rfl (by rw [hz]; exact k)) hr
theorem o_ior (X : Stand p l e R s m args below meth c T locs cells slots) (hx : p.tables.exec = Jvm.exec) (hby : c.code = bytes) {x y z : Int32} (hd : decode bytes pc = .ok (.ior, 1)) (hz : x ||| y = z) (hq : pc + 1 = q) (hr : own_Out p e below P (T.setTop (mkF m q ls (.int z :: st)))) : own_Out p e below P (T.setTop (mkF m pc ls (.int y :: .int x :: st))) := by
  subst hq; exact own_of (fun _ k => XS.ior X.here hx rfl (hb hby hd) rfl (by rw [hz]; exact k)) hr
theorem o_lor (X : Stand p l e R s m args below meth c T locs cells slots) (hx : p.tables.exec = Jvm.exec) (hby : c.code = bytes) {x y z : Int64} (hd : decode bytes pc = .ok (.lor, 1)) (hz : x ||| y = z) (hq : pc + 1 = q) (hr : own_Out p e below P (T.setTop (mkF m q ls (.long z :: st)))) : own_Out p e below P (T.setTop (mkF m pc ls (.long y :: .long x :: st))) := by
  subst hq; exact own_of (fun _ k => XS.lor X.here hx rfl (hb hby hd) rfl (by rw [hz]; exact k)) hr
theorem o_ixor (X : Stand p l e R s m args below meth c T locs cells slots) (hx : p.tables.exec = Jvm.exec) (hby : c.code = bytes) {x y z : Int32} (hd : decode bytes pc = .ok (.ixor, 1)) (hz : x ^^^ y = z) (hq : pc + 1 = q) (hr : own_Out p e below P (T.setTop (mkF m q ls (.int z :: st)))) : own_Out p e below P (T.setTop (mkF m pc ls (.int y :: .int x :: st))) := by
  subst hq; exact own_of (fun _ k => XS.ixor X.here hx rfl (hb hby hd) rfl (by rw [hz]; exact k)) hr
theorem o_lxor (X : Stand p l e R s m args below meth c T locs cells slots) (hx : p.tables.exec = Jvm.exec) (hby : c.code = bytes) {x y z : Int64} (hd : decode bytes pc = .ok (.lxor, 1)) (hz : x ^^^ y = z) (hq : pc + 1 = q) (hr : own_Out p e below P (T.setTop (mkF m q ls (.long z :: st)))) : own_Out p e below P (T.setTop (mkF m pc ls (.long y :: .long x :: st))) := by
  subst hq; exact own_of (fun _ k => XS.lxor X.here hx rfl (hb hby hd) rfl (by rw [hz]; exact k)) hr
theorem o_ishl (X : Stand p l e R s m args below meth c T locs cells slots) (hx : p.tables.exec = Jvm.exec) (hby : c.code = bytes) {x z : Int32} {y : Int32} (hd : decode bytes pc = .ok (.ishl, 1)) (hz : (x <<< (y &&& 31)) = z) (hq : pc + 1 = q) (hr : own_Out p e below P (T.setTop (mkF m q ls (.int z :: st)))) : own_Out p e below P (T.setTop (mkF m pc ls (.int y :: .int x :: st))) := by
  subst hq; exact own_of (fun _ k => XS.ishl X.here hx rfl (hb hby hd) rfl (by rw [hz]; exact k)) hr
theorem o_ishr (X : Stand p l e R s m args below meth c T locs cells slots) (hx : p.tables.exec = Jvm.exec) (hby : c.code = bytes) {x z : Int32} {y : Int32} (hd : decode bytes pc = .ok (.ishr, 1)) (hz : (x >>> (y &&& 31)) = z) (hq : pc + 1 = q) (hr : own_Out p e below P (T.setTop (mkF m q ls (.int z :: st)))) : own_Out p e below P (T.setTop (mkF m pc ls (.int y :: .int x :: st))) := by
  subst hq; exact own_of (fun _ k => XS.ishr X.here hx rfl (hb hby hd) rfl (by rw [hz]; exact k)) hr
theorem o_iushr (X : Stand p l e R s m args below meth c T locs cells slots) (hx : p.tables.exec = Jvm.exec) (hby : c.code = bytes) {x z : Int32} {y : Int32} (hd : decode bytes pc = .ok (.iushr, 1)) (hz : ((x.toUInt32 >>> (y &&& 31).toUInt32).toInt32) = z) (hq : pc + 1 = q) (hr : own_Out p e below P (T.setTop (mkF m q ls (.int z :: st)))) : own_Out p e below P (T.setTop (mkF m pc ls (.int y :: .int x :: st))) := by
  subst hq; exact own_of (fun _ k => XS.iushr X.here hx rfl (hb hby hd) rfl (by rw [hz]; exact k)) hr
theorem o_lshl (X : Stand p l e R s m args below meth c T locs cells slots) (hx : p.tables.exec = Jvm.exec) (hby : c.code = bytes) {x z : Int64} {y : Int32} (hd : decode bytes pc = .ok (.lshl, 1)) (hz : (x <<< (y &&& 0x3f).toInt64) = z) (hq : pc + 1 = q) (hr : own_Out p e below P (T.setTop (mkF m q ls (.long z :: st)))) : own_Out p e below P (T.setTop (mkF m pc ls (.int y :: .long x :: st))) := by
  subst hq; exact own_of (fun _ k => XS.lshl X.here hx rfl (hb hby hd) rfl (by rw [hz]; exact k)) hr
theorem o_lshr (X : Stand p l e R s m args below meth c T locs cells slots) (hx : p.tables.exec = Jvm.exec) (hby : c.code = bytes) {x z : Int64} {y : Int32} (hd : decode bytes pc = .ok (.lshr, 1)) (hz : (x >>> (y &&& 0x3f).toInt64) = z) (hq : pc + 1 = q) (hr : own_Out p e below P (T.setTop (mkF m q ls (.long z :: st)))) : own_Out p e below P (T.setTop (mkF m pc ls (.int y :: .long x :: st))) := by
  subst hq; exact own_of (fun _ k => XS.lshr X.here hx rfl (hb hby hd) rfl (by rw [hz]; exact k)) hr
theorem o_lushr (X : Stand p l e R s m args below meth c T locs cells slots) (hx : p.tables.exec = Jvm.exec) (hby : c.code = bytes) {x z : Int64} {y : Int32} (hd : decode bytes pc = .ok (.lushr, 1)) (hz : ((x.toUInt64 >>> (y &&& 0x3f).toInt64.toUInt64).toInt64) = z) (hq : pc + 1 = q) (hr : own_Out p e below P (T.setTop (mkF m q ls (.long z :: st)))) : own_Out p e below P (T.setTop (mkF m pc ls (.int y :: .long x :: st))) := by
  subst hq; exact own_of (fun _ k => XS.lushr X.here hx rfl (hb hby hd) rfl (by rw [hz]; exact k)) hr
theorem o_ineg (X : Stand p l e R s m args below meth c T locs cells slots) (hx : p.tables.exec = Jvm.exec) (hby : c.code = bytes) {x : Int32} {z : Int32} (hd : decode bytes pc = .ok (.ineg, 1)) (hz : -x = z) (hq : pc + 1 = q) (hr : own_Out p e below P (T.setTop (mkF m q ls (.int z :: st)))) : own_Out p e below P (T.setTop (mkF m pc ls (.int x :: st))) := by
  subst hq; exact own_of (fun _ k => XS.ineg X.here hx rfl (hb hby hd) rfl (by rw [hz]; exact k)) hr
theorem o_lneg (X : Stand p l e R s m args below meth c T locs cells slots) (hx : p.tables.exec = Jvm.exec) (hby : c.code = bytes) {x : Int64} {z : Int64} (hd : decode bytes pc = .ok (.lneg, 1)) (hz : -x = z) (hq : pc + 1 = q) (hr : own_Out p e below P (T.setTop (mkF m q ls (.long z :: st)))) : own_Out p e below P (T.setTop (mkF m pc ls (.long x :: st))) := by
  subst hq; exact own_of (fun _ k => XS.lneg X.here hx rfl (hb hby hd) rfl (by rw [hz]; exact k)) hr
theorem o_i2l (X : Stand p l e R s m args below meth c T locs cells slots) (hx : p.tables.exec = Jvm.exec) (hby : c.code = bytes) {x : Int32} {z : Int64} (hd : decode bytes pc = .ok (.i2l, 1)) (hz : x.toInt64 = z) (hq : pc + 1 = q) (hr : own_Out p e below P (T.setTop (mkF m q ls (.long z :: st)))) : own_Out p e below P (T.setTop (mkF m pc ls (.int x :: st))) := by
  subst hq; exact own_of (fun _ k => XS.i2l X.here hx rfl (hb hby hd) rfl (by rw [hz]; exact k)) hr
theorem o_l2i (X : Stand p l e R s m args below meth c T locs cells slots) (hx : p.tables.exec = Jvm.exec) (hby : c.code = bytes) {x : Int64} {z : Int32} (hd : decode bytes pc = .ok (.l2i, 1)) (hz : x.toInt32 = z) (hq : pc + 1 = q) (hr : own_Out p e below P (T.setTop (mkF m q ls (.int z :: st)))) : own_Out p e below P (T.setTop (mkF m pc ls (.long x :: st))) := by
  subst hq; exact own_of (fun _ k => XS.l2i X.here hx rfl (hb hby hd) rfl (by rw [hz]; exact k)) hr
theorem o_i2b (X : Stand p l e R s m args below meth c T locs cells slots) (hx : p.tables.exec = Jvm.exec) (hby : c.code = bytes) {x : Int32} {z : Int32} (hd : decode bytes pc = .ok (.i2b, 1)) (hz : x.toInt8.toInt32 = z) (hq : pc + 1 = q) (hr : own_Out p e below P (T.setTop (mkF m q ls (.int z :: st)))) : own_Out p e below P (T.setTop (mkF m pc ls (.int x :: st))) := by
  subst hq; exact own_of (fun _ k => XS.i2b X.here hx rfl (hb hby hd) rfl (by rw [hz]; exact k)) hr
theorem o_i2s (X : Stand p l e R s m args below meth c T locs cells slots) (hx : p.tables.exec = Jvm.exec) (hby : c.code = bytes) {x : Int32} {z : Int32} (hd : decode bytes pc = .ok (.i2s, 1)) (hz : x.toInt16.toInt32 = z) (hq : pc + 1 = q) (hr : own_Out p e below P (T.setTop (mkF m q ls (.int z :: st)))) : own_Out p e below P (T.setTop (mkF m pc ls (.int x :: st))) := by
  subst hq; exact own_of (fun _ k => XS.i2s X.here hx rfl (hb hby hd) rfl (by rw [hz]; exact k)) hr
theorem o_i2c (X : Stand p l e R s m args below meth c T locs cells slots) (hx : p.tables.exec = Jvm.exec) (hby : c.code = bytes) {x : Int32} {z : Int32} (hd : decode bytes pc = .ok (.i2c, 1)) (hz : x.toUInt32.toUInt16.toUInt32.toInt32 = z) (hq : pc + 1 = q) (hr : own_Out p e below P (T.setTop (mkF m q ls (.int z :: st)))) : own_Out p e below P (T.setTop (mkF m pc ls (.int x :: st))) := by
  subst hq; exact own_of (fun _ k => XS.i2c X.here hx rfl (hb hby hd) rfl (by rw [hz]; exact k)) hr
theorem o_lcmp (X : Stand p l e R s m args below meth c T locs cells slots) (hx : p.tables.exec = Jvm.exec) (hby : c.code = bytes) {x y : Int64} (hd : decode bytes pc = .ok (.lcmp, 1))  (hq : pc + 1 = q) (hr : own_Out p e below P (T.setTop (mkF m q ls (.int (lcmpW x y) :: st)))) : own_Out p e below P (T.setTop (mkF m pc ls (.long y :: .long x :: st))) := by
  subst hq; exact own_of (fun _ k => XS.lcmp X.here hx rfl (hb hby hd) rfl k) hr
theorem o_irem (X : Stand p l e R s m args below meth c T locs cells slots) (hx : p.tables.exec = Jvm.exec) (hby : c.code = bytes) {x y : Int32} (hd : decode bytes pc = .ok (.irem, 1)) (hy : y ≠ 0) (hq : pc + 1 = q) (hr : own_Out p e below P (T.setTop (mkF m q ls (.int (x % y) :: st)))) : own_Out p e below P (T.setTop (mkF m pc ls (.int y :: .int x :: st))) := by
  subst hq; exact own_of (fun _ k => iremM X hx rfl (hb hby hd) rfl hy k) hr
theorem o_goto (X : Stand p l e R s m args below meth c T locs cells slots) (hx : p.tables.exec = Jvm.exec) (hby : c.code = bytes) {o : Int} (hd : decode bytes pc = .ok (.goto o, 3))  (ho : 0 ≤ (pc : Int) + o) (hq : ((pc : Int) + o).toNat = q) (hr : own_Out p e below P (T.setTop (mkF m q ls (st)))) : own_Out p e below P (T.setTop (mkF m pc ls (st))) := by
  exact own_of (fun _ k => XS.goto X.here hx rfl rfl (hb hby hd) ho hq k) hr
theorem o_ifY (X : Stand p l e R s m args below meth c T locs cells slots) (hx : p.tables.exec = Jvm.exec) (hby : c.code = bytes) {cd : ClassFile.Cond} {x : Int32} {o : Int} (hd : decode bytes pc = .ok (.ifCond cd o, 3)) (hc : ifCond.holds cd x = true) (ho : 0 ≤ (pc : Int) + o) (hq : ((pc : Int) + o).toNat = q) (hr : own_Out p e below P (T.setTop (mkF m q ls (st)))) : own_Out p e below P (T.setTop (mkF m pc ls (.int x :: st))) := by
  exact own_of (fun _ k => XS.ifYes X.here hx rfl rfl (hb hby hd) rfl hc ho hq k) hr
theorem o_ifN (X : Stand p l e R s m args below meth c T locs cells slots) (hx : p.tables.exec = Jvm.exec) (hby : c.code = bytes) {cd : ClassFile.Cond} {x : Int32} {o : Int} (hd : decode bytes pc = .ok (.ifCond cd o, 3)) (hc : ifCond.holds cd x = false) (hq : pc + 3 = q) (hr : own_Out p e below P (T.setTop (mkF m q ls (st)))) : own_Out p e below P (T.setTop (mkF m pc ls (.int x :: st))) := by
  subst hq; exact own_of (fun _ k => XS.ifNo X.here hx rfl (hb hby hd) rfl hc k) hr
theorem o_icY (X : Stand p l e R s m args below meth c T locs cells slots) (hx : p.tables.exec = Jvm.exec) (hby : c.code = bytes) {cd : ClassFile.Cond} {x y : Int32} {o : Int} (hd : decode bytes pc = .ok (.if_icmp cd o, 3)) (hc : if_icmp.holds cd x y = true) (ho : 0 ≤ (pc : Int) + o) (hq : ((pc : Int) + o).toNat = q) (hr : own_Out p e below P (T.setTop (mkF m q ls (st)))) : own_Out p e below P (T.setTop (mkF m pc ls (.int y :: .int x :: st))) := by
  exact own_of (fun _ k => XS.icmpYes X.here hx rfl rfl (hb hby hd) rfl hc ho hq k) hr
theorem o_icN (X : Stand p l e R s m args below meth c T locs cells slots) (hx : p.tables.exec = Jvm.exec) (hby : c.code = bytes) {cd : ClassFile.Cond} {x y : Int32} {o : Int} (hd : decode bytes pc = .ok (.if_icmp cd o, 3)) (hc : if_icmp.holds cd x y = false) (hq : pc + 3 = q) (hr : own_Out p e below P (T.setTop (mkF m q ls (st)))) : own_Out p e below P (T.setTop (mkF m pc ls (.int y :: .int x :: st))) := by
  subst hq; exact own_of (fun _ k => XS.icmpNo X.here hx rfl (hb hby hd) rfl hc k) hr
theorem o_dup (X : Stand p l e R s m args below meth c T locs cells slots) (hx : p.tables.exec = Jvm.exec) (hby : c.code = bytes) {x : Value} (hd : decode bytes pc = .ok (.dup, 1)) (hc : x.category = 1) (hq : pc + 1 = q) (hr : own_Out p e below P (T.setTop (mkF m q ls (x :: x :: st)))) : own_Out p e below P (T.setTop (mkF m pc ls (x :: st))) := by
  subst hq; exact own_of (fun _ k => XS.dup X.here hx rfl (hb hby hd) rfl hc k) hr
theorem o_pop (X : Stand p l e R s m args below meth c T locs cells slots) (hx : p.tables.exec = Jvm.exec) (hby : c.code = bytes) {x : Value} (hd : decode bytes pc = .ok (.pop, 1)) (hc : x.category = 1) (hq : pc + 1 = q) (hr : own_Out p e below P (T.setTop (mkF m q ls (st)))) : own_Out p e below P (T.setTop (mkF m pc ls (x :: st))) := by
  subst hq; exact own_of (fun _ k => XS.pop X.here hx rfl (hb hby hd) rfl hc k) hr
theorem o_dup2 (X : Stand p l e R s m args below meth c T locs cells slots) (hx : p.tables.exec = Jvm.exec) (hby : c.code = bytes) {x y : Value} (hd : decode bytes pc = .ok (.dup2, 1)) (h1 : x.category = 1) (h2 : y.category = 1) (hq : pc + 1 = q) (hr : own_Out p e below P (T.setTop (mkF m q ls (x :: y :: x :: y :: st)))) : own_Out p e below P (T.setTop (mkF m pc ls (x :: y :: st))) := by
  subst hq; exact own_of (fun _ k => Jvm.Free.XT.dup2 X.here hx rfl (hb hby hd) rfl h1 h2 k) hr
theorem o_dupX2 (X : Stand p l e R s m args below meth c T locs cells slots) (hx : p.tables.exec = Jvm.exec) (hby : c.code = bytes) {x y z : Value} (hd : decode bytes pc = .ok (.dup_x2, 1)) (h1 : x.category = 1) (h2 : y.category = 1) (h3 : z.category = 1) (hq : pc + 1 = q) (hr : own_Out p e below P (T.setTop (mkF m q ls (x :: y :: z :: x :: st)))) : own_Out p e below P (T.setTop (mkF m pc ls (x :: y :: z :: st))) := by
  subst hq; exact own_of (fun _ k => own_dupX2 X.here hx rfl (hb hby hd) rfl h1 h2 h3 k) hr
variable {Z : State} {a0 : Array Value} {h : Heap}
theorem o_ldcI (X : Stand p l e R s m args below meth c T locs cells slots) (hx : p.tables.exec = Jvm.exec) (hZ : Z.Warmed39 s.vm) {own : String} (hown : s.vm.findClass own = some m.cls) (hby : c.code = bytes) {i : Nat} {v : Int32} (w : (Cond.constant own i v).before a0 Z = true) (hd : decode bytes pc = .ok (.ldc i, 2)) (hq : pc + 2 = q) (hr : own_Out p e below P (T.setTop (mkF m q ls (.int v :: st)))) : own_Out p e below P (T.setTop (mkF m pc ls st)) := by
  subst hq; exact own_of (X.ldcInt hx hown (mvT hZ w) (g := mkF m pc ls st) rfl (hb hby hd)) hr
theorem o_getF (X : Stand p l e R s m args below meth c T locs cells slots) (hx : p.tables.exec = Jvm.exec) (hZ : Z.Warmed39 s.vm) {own R0 O n d : String} (hown : s.vm.findClass own = some m.cls) (hby : c.code = bytes) {i : Nat} (w : (Cond.fieldLink own i R0 n d).before a0 Z = true) (via : Via Z R0 O n d) (eT : T.heap = h) {a : Addr} {v : Value} (F : Fld Z h a O n d v) (hd : decode bytes pc = .ok (.getfield i, 3)) (hq : pc + 3 = q)
    (hr : ∀ T', Stand p l e R s m args below meth c T' locs cells slots → T'.heap = h → own_Out p e below P (T'.setTop (mkF m q ls (v :: st)))) : own_Out p e below P (T.setTop (mkF m pc ls (.ref a :: st))) := by
  subst hq
  obtain ⟨T', X', e', t⟩ := getF X hx hZ hown (host := "") (Or.inl w) via eT F (g := mkF m pc ls (.ref a :: st)) rfl rfl (hb hby hd)
  exact own_of t (hr T' X' e')
theorem o_stI (X : Stand p l e R s m args below meth c T locs cells slots) (hx : p.tables.exec = Jvm.exec) (hZ : Z.Warmed39 s.vm) (hby : c.code = bytes) (eT : T.heap = h) {a : Addr} {cl : Cell} (A : Arr Z h a cl .int) {j x : Int32} (hj : ¬ (j < 0 ∨ cl.slots.size ≤ j.toNatClampNeg)) (hd : decode bytes pc = .ok (.iastore, 1)) (hq : pc + 1 = q)
    (hr : ∀ T' h', Stand p l e R s m args below meth c T' (locs ++ [⟨a, j.toNatClampNeg⟩]) cells slots → T'.heap = h' → Wr h h' a j.toNatClampNeg (.int x) → own_Out p e below P (T'.setTop (mkF m q ls st))) : own_Out p e below P (T.setTop (mkF m pc ls (.int x :: .int j :: .ref a :: st))) := by
  subst hq
  obtain ⟨T', h', X', e', W', t⟩ := stI X hx hZ eT A hj (g := mkF m pc ls (.int x :: .int j :: .ref a :: st)) rfl rfl (hb hby hd)
  exact own_of t (hr T' h' X' e' W')
theorem o_iaload (X : Stand p l e R s m args below meth c T locs cells slots) (hx : p.tables.exec = Jvm.exec) (hZ : Z.Warmed39 s.vm) (hby : c.code = bytes) (eT : T.heap = h) {a : Addr} {cl : Cell} (A : Arr Z h a cl .int) {j : Int32} {v : Value} (hj : ¬ (j < 0 ∨ cl.slots.size ≤ j.toNatClampNeg)) (hv : cl.slots[j.toNatClampNeg]? = some v) (hd : decode bytes pc = .ok (.iaload, 1)) (hq : pc + 1 = q)
    (hr : own_Out p e below P (T.setTop (mkF m q ls (v :: st)))) : own_Out p e below P (T.setTop (mkF m pc ls (.int j :: .ref a :: st))) := by
  subst hq
  exact own_of (X.iaload hx (by rw [eT]; exact A.1) (State.isArrayOf_alike hZ.alike A.2.1) A.2.2 hj hv (g := mkF m pc ls (.int j :: .ref a :: st)) rfl rfl (hb hby hd)) hr
theorem o_aaload (X : Stand p l e R s m args below meth c T locs cells slots) (hx : p.tables.exec = Jvm.exec) (hZ : Z.Warmed39 s.vm) (hby : c.code = bytes) (eT : T.heap = h) {a : Addr} {cl : Cell} {ty : FieldType} (A : Arr Z h a cl ty) (hty : ty.isReference = true) {j : Int32} {v : Value} (hj : ¬ (j < 0 ∨ cl.slots.size ≤ j.toNatClampNeg)) (hv : cl.slots[j.toNatClampNeg]? = some v) (hd : decode bytes pc = .ok (.aaload, 1)) (hq : pc + 1 = q)
    (hr : own_Out p e below P (T.setTop (mkF m q ls (v :: st)))) : own_Out p e below P (T.setTop (mkF m pc ls (.int j :: .ref a :: st))) := by
  subst hq
  exact own_of (X.aaload hx (by rw [eT]; exact A.1) (State.isArrayOf_alike hZ.alike A.2.1) hty A.2.2 hj hv (g := mkF m pc ls (.int j :: .ref a :: st)) rfl rfl (hb hby hd)) hr
theorem o_len (X : Stand p l e R s m args below meth c T locs cells slots) (hx : p.tables.exec = Jvm.exec) (hZ : Z.Warmed39 s.vm) (hby : c.code = bytes) (eT : T.heap = h) {a : Addr} {cl : Cell} {ty : FieldType} (A : Arr Z h a cl ty) {z : Int32} (S : cl.slots.size = z.toNatClampNeg) (N : ¬ z < 0) (hd : decode bytes pc = .ok (.arraylength, 1)) (hq : pc + 1 = q)
    (hr : own_Out p e below P (T.setTop (mkF m q ls (.int z :: st)))) : own_Out p e below P (T.setTop (mkF m pc ls (.ref a :: st))) := by
  subst hq
  refine own_of (X.arraylength hx (by rw [eT]; exact A.1) (State.isArrayOf_alike hZ.alike A.2.1) (g := mkF m pc ls (.ref a :: st)) rfl rfl (hb hby hd)) ?_
  rw [len_of S N]; exact hr
variable {a : Addr} {k : ClassId} {z j : Int32} {vs : List Value} {dv v : Value} {ty : FieldType}
theorem o_nin {c : Cell} (S : c.slots.size = z.toNatClampNeg) (hj : ¬ j < 0 ∧ j < z) : j.toNatClampNeg < c.slots.size := Nat.lt_of_not_le fun q => inb_of S hj (Or.inr q)
theorem o_iaV (X : Stand p l e R s m args below meth c T locs cells slots) (hx : p.tables.exec = Jvm.exec) (hby : c.code = bytes) (hZ : Z.Warmed39 s.vm) (eT : T.heap = h) (V : Arv Z h a k .int z vs dv) (hj : ¬ j < 0 ∧ j < z) (hv : vs.getD j.toNatClampNeg dv = v) (hd : decode bytes pc = .ok (.iaload, 1)) (hq : pc + 1 = q)
    (hr : own_Out p e below P (T.setTop (mkF m q ls (v :: st)))) : own_Out p e below P (T.setTop (mkF m pc ls (.int j :: .ref a :: st))) := by
  obtain ⟨cl, A, q1, S, N, H, G⟩ := V
  exact o_iaload X hx hZ hby eT A (inb_of S hj) ((H _ (o_nin S hj)).trans (by rw [hv])) hd hq hr
theorem o_aaV (X : Stand p l e R s m args below meth c T locs cells slots) (hx : p.tables.exec = Jvm.exec) (hby : c.code = bytes) (hZ : Z.Warmed39 s.vm) (eT : T.heap = h) (V : Arv Z h a k ty z vs dv) (hty : ty.isReference = true) (hj : ¬ j < 0 ∧ j < z) (hv : vs.getD j.toNatClampNeg dv = v) (hd : decode bytes pc = .ok (.aaload, 1)) (hq : pc + 1 = q)
    (hr : own_Out p e below P (T.setTop (mkF m q ls (v :: st)))) : own_Out p e below P (T.setTop (mkF m pc ls (.int j :: .ref a :: st))) := by
  obtain ⟨cl, A, q1, S, N, H, G⟩ := V
  exact o_aaload X hx hZ hby eT A hty (inb_of S hj) ((H _ (o_nin S hj)).trans (by rw [hv])) hd hq hr
theorem o_laV (X : Stand p l e R s m args below meth c T locs cells slots) (hx : p.tables.exec = Jvm.exec) (hby : c.code = bytes) (hZ : Z.Warmed39 s.vm) (eT : T.heap = h) (V : Arv Z h a k .long z vs dv) (hj : ¬ j < 0 ∧ j < z) (hv : vs.getD j.toNatClampNeg dv = v) (hd : decode bytes pc = .ok (.laload, 1)) (hq : pc + 1 = q)
    (hr : own_Out p e below P (T.setTop (mkF m q ls (v :: st)))) : own_Out p e below P (T.setTop (mkF m pc ls (.int j :: .ref a :: st))) := by
  obtain ⟨cl, A, q1, S, N, H, G⟩ := V
  subst hq
  exact own_of (X.laload hx (by rw [eT]; exact A.1) (State.isArrayOf_alike hZ.alike A.2.1) A.2.2 (inb_of S hj) ((H _ (o_nin S hj)).trans (by rw [hv])) (g := mkF m pc ls (.int j :: .ref a :: st)) rfl rfl (hb hby hd)) hr
theorem o_caV (X : Stand p l e R s m args below meth c T locs cells slots) (hx : p.tables.exec = Jvm.exec) (hby : c.code = bytes) (hZ : Z.Warmed39 s.vm) (eT : T.heap = h) (V : Arv Z h a k .char z vs dv) (hj : ¬ j < 0 ∧ j < z) (hv : vs.getD j.toNatClampNeg dv = v) (hd : decode bytes pc = .ok (.caload, 1)) (hq : pc + 1 = q)
    (hr : own_Out p e below P (T.setTop (mkF m q ls (v :: st)))) : own_Out p e below P (T.setTop (mkF m pc ls (.int j :: .ref a :: st))) := by
  obtain ⟨cl, A, q1, S, N, H, G⟩ := V
  subst hq
  exact own_of (X.caload hx (by rw [eT]; exact A.1) (State.isArrayOf_alike hZ.alike A.2.1) A.2.2 (inb_of S hj) ((H _ (o_nin S hj)).trans (by rw [hv])) (g := mkF m pc ls (.int j :: .ref a :: st)) rfl rfl (hb hby hd)) hr
theorem o_baV (X : Stand p l e R s m args below meth c T locs cells slots) (hx : p.tables.exec = Jvm.exec) (hby : c.code = bytes) (hZ : Z.Warmed39 s.vm) (eT : T.heap = h) (V : Arv Z h a k .byte z vs dv) (hj : ¬ j < 0 ∧ j < z) (hv : vs.getD j.toNatClampNeg dv = v) (hd : decode bytes pc = .ok (.baload, 1)) (hq : pc + 1 = q)
    (hr : own_Out p e below P (T.setTop (mkF m q ls (v :: st)))) : own_Out p e below P (T.setTop (mkF m pc ls (.int j :: .ref a :: st))) := by
  obtain ⟨cl, A, q1, S, N, H, G⟩ := V
  subst hq
  exact own_of (X.baloadBytes hx (by rw [eT]; exact A.1) (State.isArrayOf_alike hZ.alike A.2.1) A.2.2 (inb_of S hj) ((H _ (o_nin S hj)).trans (by rw [hv])) (g := mkF m pc ls (.int j :: .ref a :: st)) rfl rfl (hb hby hd)) hr
theorem o_lenV (X : Stand p l e R s m args below meth c T locs cells slots) (hx : p.tables.exec = Jvm.exec) (hby : c.code = bytes) (hZ : Z.Warmed39 s.vm) (eT : T.heap = h) (V : Arv Z h a k ty z vs dv) (hd : decode bytes pc = .ok (.arraylength, 1)) (hq : pc + 1 = q)
    (hr : own_Out p e below P (T.setTop (mkF m q ls (.int z :: st)))) : own_Out p e below P (T.setTop (mkF m pc ls (.ref a :: st))) := by
  obtain ⟨cl, A, q1, S, N, H, G⟩ := V
  exact o_len X hx hZ hby eT A S N hd hq hr
theorem o_stV (X : Stand p l e R s m args below meth c T locs cells slots) (hx : p.tables.exec = Jvm.exec) (hby : c.code = bytes) (hZ : Z.Warmed39 s.vm) (eT : T.heap = h) (V : Arv Z h a k .int z vs dv) (hj : ¬ j < 0 ∧ j < z) (i : Nat) (hi : j.toNatClampNeg = i) (hl : i < vs.length) {x : Int32} (hd : decode bytes pc = .ok (.iastore, 1)) (hq : pc + 1 = q)
    (hr : ∀ T' h', Stand p l e R s m args below meth c T' (locs ++ [⟨a, j.toNatClampNeg⟩]) cells slots → T'.heap = h' → Wr h h' a j.toNatClampNeg (.int x) → Arv Z h' a k .int z (vs.set i (.int x)) dv → own_Out p e below P (T'.setTop (mkF m q ls st))) : own_Out p e below P (T.setTop (mkF m pc ls (.int x :: .int j :: .ref a :: st))) := by
  obtain ⟨cl, A, q1, S, N, H, G⟩ := V
  exact o_stI X hx hZ hby eT A (inb_of S hj) hd hq fun T' h' X' e' W' => hr T' h' X' e' W' (Arv.set A q1 S N H G rfl W' i hi hl)
theorem o_stVR (X : Stand p l e R s m args below meth c T locs cells slots) (hx : p.tables.exec = Jvm.exec) (hby : c.code = bytes) (hZ : Z.Warmed39 s.vm) (eT : T.heap = h) (V : Arv Z h a k (.array .int) z vs dv) (hj : ¬ j < 0 ∧ j < z) (i : Nat) (hi : j.toNatClampNeg = i) (hl : i < vs.length) {y : Addr} (O : OvrA Z k .int "[I") (I : Ins Z h y "[I" true) (hd : decode bytes pc = .ok (.aastore, 1)) (hq : pc + 1 = q)
    (hr : ∀ T' h', Stand p l e R s m args below meth c T' (locs ++ [⟨a, j.toNatClampNeg⟩]) cells slots → T'.heap = h' → Wr h h' a j.toNatClampNeg (.ref y) → Arv Z h' a k (.array .int) z (vs.set i (.ref y)) dv → own_Out p e below P (T'.setTop (mkF m q ls st))) : own_Out p e below P (T.setTop (mkF m pc ls (.ref y :: .int j :: .ref a :: st))) := by
  obtain ⟨cl, A, q1, S, N, H, G⟩ := V
  subst hq
  obtain ⟨T', h', X', e', W', t⟩ := stR X hx hZ eT A (inb_of S hj) rfl (Sto.ofVA A q1 O I) (g := mkF m pc ls (.ref y :: .int j :: .ref a :: st)) rfl rfl (hb hby hd)
  exact own_of t (hr T' h' X' e' W' (Arv.set A q1 S N H G rfl W' i hi hl))
end Short
end Jvm.RoadKit
namespace Jvm.Pilot.@@N@@
open Jvm Jvm.ClassFile Sem Op Lib Jvm.Free Jvm.Stand Jvm.LawKit Jvm.RoadKit Bundle Jvm.Pilot.@@N@@.Jvm.D
theorem w_ {a0 : Array Value} {Z : State} (hw : ∀ d ∈ tables_1, d.before a0 Z = true) (i : Nat) {d : Jvm.Cond} (h : tables_1[i]? = some d) : d.before a0 Z = true := hw _ (List.mem_of_getElem? h)
theorem d2_0 : decode jdk_29_method_65_code 0 = .ok (.iload_n 0, 1) := by decide +kernel
theorem d2_1 : decode jdk_29_method_65_code 1 = .ok (.iload_n 1, 1) := by decide +kernel
theorem d2_2 : decode jdk_29_method_65_code 2 = .ok (.if_icmp .lt 7, 3) := by decide +kernel
theorem d2_5 : decode jdk_29_method_65_code 5 = .ok (.iload_n 0, 1) := by decide +kernel
theorem d2_6 : decode jdk_29_method_65_code 6 = .ok (.goto 4, 3) := by decide +kernel
theorem d2_9 : decode jdk_29_method_65_code 9 = .ok (.iload_n 1, 1) := by decide +kernel
theorem d2_10 : decode jdk_29_method_65_code 10 = .ok (.ireturn, 1) := by decide +kernel
theorem ef_2 (m : MethodId) (x0 : Int32) (x1 : Int32) : entryFrame m #[(.int x0), (.int x1)] 2 = mkF m 0 #[.val (.int x0), .val (.int x1)] [] := by first | (simp [entryFrame, mkF, argsToLocals, Value.category]; done) | rfl
def fmax (p0 : Int32) (p1 : Int32) : Int32 := if p0 < p1 then p1
  else p0
def Q2 (Z : State) (p0 : Int32) (p1 : Int32) (h0 : Heap) (n0 : Nat) (v : Option Value) (h : Heap) (L : List Loc) : Prop := v = some (.int (fmax p0 p1)) ∧ Fr n0 L ∧ h = h0
set_option maxRecDepth 65536 in
set_option maxHeartbeats 40000000 in
theorem rm2 (l : Launch) (Z : State) (a0 : Array Value) (hw : ∀ d ∈ tables_1, d.before a0 Z = true) (ws : List Jvm.Cond) (p0 : Int32) (p1 : Int32) (h0 : Heap) (n0 : Nat) (Z0 : n0 ≤ h0.size) :
    MetFree l (⟨"java/lang/Math", "max", "(II)I"⟩ : MethodName) (head1 (Jvm.Cond.code (⟨"java/lang/Math", "max", "(II)I"⟩ : MethodName) jdk_29_method_65_code 2 (some .int) :: ws) ({ frames := 0, cells := 0, slots := 0, locals := 0 } : Room)) (fun a U => a = #[(.int p0), (.int p1)] ∧ Z.Warmed39 U.vm ∧ U.heap = h0) (fun _ _ _ _ _ => True) (fun _ U o U' => ∃ v L, o = .returned v ∧ Q2 Z p0 p1 h0 n0 v U'.heap L ∧ FrameEnd U o U' L ({ frames := 0, cells := 0, slots := 0, locals := 0 } : Room).cells ({ frames := 0, cells := 0, slots := 0, locals := 0 } : Room).slots) := by
  refine MetFree.of_bodySF (Jvm.Free.JP.mathPlain rfl (by decide +kernel)) hisR ?_
  intro p e s m args below meth c s₁ Bd hml0 hP hK
  obtain ⟨rfl, hZ, hh⟩ := hP
  have hx := Bd.exec
  have hby := Bd.bytes
  have hml : c.maxLocals = 2 := hml0
  have hown : s.vm.findClass "java/lang/Math" = some m.cls := findClass_of_methodNamed Bd.named
  have hnm := (name_of_methodNamed Bd.named Bd.method).1
  have X0 : Stand p l e ({ frames := 0, cells := 0, slots := 0, locals := 0 } : Room) s m #[(.int p0), (.int p1)] below meth c s₁ [] 0 0 := Stand.of_body Bd
  have e0 : s₁.heap = h0 := by rw [← hh, Bd.state]; rfl
  have N0 := Fr.nil n0
  have hret := Bd.returns
  have hlk := BodyLoose.notSynchronized Bd
  show own_Out p e below (fun o U' => ∃ v L, o = .returned v ∧ Q2 Z p0 p1 h0 n0 v U'.heap L ∧ FrameEnd s o U' L ({ frames := 0, cells := 0, slots := 0, locals := 0 } : Room).cells ({ frames := 0, cells := 0, slots := 0, locals := 0 } : Room).slots) (s₁.setTop (entryFrame m #[(.int p0), (.int p1)] 2))
  refine own_of (fun t k => castTop (ef_2 m p0 p1) k) ?_
  show own_Out p e below _ (s₁.setTop (mkF m 0 #[iv p0, iv p1] []))
  refine o_iloadN X0 hx hby d2_0 rfl (q := 1) rfl ?_
  refine o_iloadN X0 hx hby d2_1 rfl (q := 2) rfl ?_
  by_cases hc2_1 : p0 < p1
  · skip
    refine o_icY X0 hx hby d2_2 (tlt hc2_1).1 (by decide) (q := 9) (by decide) ?_
    refine o_iloadN X0 hx hby d2_9 rfl (q := 10) rfl ?_
    exact own_outI X0 hx hlk hret (hb hby d2_10) (Q := Q2 Z p0 p1 h0 n0) ⟨by simp only [fmax, if_pos hc2_1], N0, e0⟩ (by decide) (by decide)
  · skip
    refine o_icN X0 hx hby d2_2 (flt hc2_1).1 (q := 5) rfl ?_
    refine o_iloadN X0 hx hby d2_5 rfl (q := 6) rfl ?_
    refine o_goto X0 hx hby d2_6 (by decide) (q := 10) (by decide) ?_
    exact own_outI X0 hx hlk hret (hb hby d2_10) (Q := Q2 Z p0 p1 h0 n0) ⟨by simp only [fmax, if_neg hc2_1], N0, e0⟩ (by decide) (by decide)
theorem pd_0 : parseMethodDescriptor "(II)I" = some ⟨[.int, .int], some .int⟩ := by decide +kernel
theorem d3_0 : decode method_3_code 0 = .ok (.aload_n 0, 1) := by decide +kernel
theorem d3_1 : decode method_3_code 1 = .ok (.iconst 0, 1) := by decide +kernel
theorem d3_2 : decode method_3_code 2 = .ok (.iaload, 1) := by decide +kernel
theorem d3_3 : decode method_3_code 3 = .ok (.aload_n 0, 1) := by decide +kernel
theorem d3_4 : decode method_3_code 4 = .ok (.iconst 1, 1) := by decide +kernel
theorem d3_5 : decode method_3_code 5 = .ok (.iaload, 1) := by decide +kernel
theorem d3_6 : decode method_3_code 6 = .ok (.invokestatic 7, 3) := by decide +kernel
theorem d3_9 : decode method_3_code 9 = .ok (.aload_n 0, 1) := by decide +kernel
theorem d3_10 : decode method_3_code 10 = .ok (.iconst 2, 1) := by decide +kernel
theorem d3_11 : decode method_3_code 11 = .ok (.iaload, 1) := by decide +kernel
theorem d3_12 : decode method_3_code 12 = .ok (.aload_n 0, 1) := by decide +kernel
theorem d3_13 : decode method_3_code 13 = .ok (.iconst 3, 1) := by decide +kernel
theorem d3_14 : decode method_3_code 14 = .ok (.iaload, 1) := by decide +kernel
theorem d3_15 : decode method_3_code 15 = .ok (.invokestatic 7, 3) := by decide +kernel
theorem d3_18 : decode method_3_code 18 = .ok (.invokestatic 7, 3) := by decide +kernel
theorem d3_21 : decode method_3_code 21 = .ok (.iconst 1, 1) := by decide +kernel
theorem d3_22 : decode method_3_code 22 = .ok (.iadd, 1) := by decide +kernel
theorem d3_23 : decode method_3_code 23 = .ok (.ireturn, 1) := by decide +kernel
theorem pn_0 : plainName "com/example/slimc/slimc/game/ObservationRefinesPinLaw" = true := by first | (simp [plainName, overriddenIn]; done) | decide +kernel
theorem ef_3 (m : MethodId) (x0 : Addr) : entryFrame m #[(.ref x0)] 1 = mkF m 0 #[.val (.ref x0)] [] := by first | (simp [entryFrame, mkF, argsToLocals, Value.category]; done) | rfl
def fcnt (f0 : Int32) (f1 : Int32) (f2 : Int32) (f3 : Int32) : Int32 := ((fmax (fmax f0 f1) (fmax f2 f3)) + (1 : Int32))
def Q3 (Z : State) (o0 : Addr) (k0 : ClassId) (f0 : Int32) (f1 : Int32) (f2 : Int32) (f3 : Int32) (h0 : Heap) (n0 : Nat) (v : Option Value) (h : Heap) (L : List Loc) : Prop := v = some (.int (fcnt f0 f1 f2 f3)) ∧ Fr n0 L ∧ h = h0
set_option maxRecDepth 65536 in
set_option maxHeartbeats 40000000 in
theorem rm3 (l : Launch) (Z : State) (a0 : Array Value) (hw : ∀ d ∈ tables_1, d.before a0 Z = true) (ws : List Jvm.Cond) (o0 : Addr) (k0 : ClassId) (f0 : Int32) (f1 : Int32) (f2 : Int32) (f3 : Int32) (h0 : Heap) (n0 : Nat) (Z0 : n0 ≤ h0.size) (V0 : Arv Z h0 o0 k0 .int (4 : Int32) [(.int f0), (.int f1), (.int f2), (.int f3)] (.int (0 : Int32))) :
    MetFree l (⟨"com/example/slimc/slimc/game/ObservationRefinesPinLaw", "count", "([I)I"⟩ : MethodName) (head1 (Jvm.Cond.code (⟨"com/example/slimc/slimc/game/ObservationRefinesPinLaw", "count", "([I)I"⟩ : MethodName) method_3_code 1 (some .int) :: ws) ({ frames := 1, cells := 0, slots := 0, locals := 14 } : Room)) (fun a U => a = #[(.ref o0)] ∧ Z.Warmed39 U.vm ∧ U.heap = h0) (fun _ _ _ _ _ => True) (fun _ U o U' => ∃ v L, o = .returned v ∧ Q3 Z o0 k0 f0 f1 f2 f3 h0 n0 v U'.heap L ∧ FrameEnd U o U' L ({ frames := 1, cells := 0, slots := 0, locals := 14 } : Room).cells ({ frames := 1, cells := 0, slots := 0, locals := 14 } : Room).slots) := by
  refine MetFree.of_bodySF (plainFor_of_name pn_0) hisR ?_
  intro p e s m args below meth c s₁ Bd hml0 hP hK
  obtain ⟨rfl, hZ, hh⟩ := hP
  have hx := Bd.exec
  have hby := Bd.bytes
  have hml : c.maxLocals = 1 := hml0
  have hown : s.vm.findClass "com/example/slimc/slimc/game/ObservationRefinesPinLaw" = some m.cls := findClass_of_methodNamed Bd.named
  have hnm := (name_of_methodNamed Bd.named Bd.method).1
  have X0 : Stand p l e ({ frames := 1, cells := 0, slots := 0, locals := 14 } : Room) s m #[(.ref o0)] below meth c s₁ [] 0 0 := Stand.of_body Bd
  have e0 : s₁.heap = h0 := by rw [← hh, Bd.state]; rfl
  have N0 := Fr.nil n0
  have hret := Bd.returns
  have hlk := BodyLoose.notSynchronized Bd
  show own_Out p e below (fun o U' => ∃ v L, o = .returned v ∧ Q3 Z o0 k0 f0 f1 f2 f3 h0 n0 v U'.heap L ∧ FrameEnd s o U' L ({ frames := 1, cells := 0, slots := 0, locals := 14 } : Room).cells ({ frames := 1, cells := 0, slots := 0, locals := 14 } : Room).slots) (s₁.setTop (entryFrame m #[(.ref o0)] 1))
  refine own_of (fun t k => castTop (ef_3 m o0) k) ?_
  show own_Out p e below _ (s₁.setTop (mkF m 0 #[rv o0] []))
  refine o_aloadN X0 hx hby d3_0 rfl rfl (q := 1) rfl ?_
  refine o_iconst X0 hx hby d3_1 (z := 0) rfl (q := 2) rfl ?_
  refine o_iaV X0 hx hby hZ e0 V0 ⟨by decide, by decide⟩ (v := .int f0) rfl d3_2 (q := 3) rfl ?_
  refine o_aloadN X0 hx hby d3_3 rfl rfl (q := 4) rfl ?_
  refine o_iconst X0 hx hby d3_4 (z := 1) rfl (q := 5) rfl ?_
  refine o_iaV X0 hx hby hZ e0 V0 ⟨by decide, by decide⟩ (v := .int f1) rfl d3_5 (q := 6) rfl ?_
  obtain ⟨_, _, ⟨T1, L1, k1, n1⟩, -, X1, ⟨Lc1, hQ1, l1, y1, z1⟩, st1⟩ := Jvm.LawKit.callS X0 hx (y := (⟨"java/lang/Math", "max", "(II)I"⟩ : MethodName)) hown (mvT hZ (w_ hw 5 rfl)) (mvT hZ (w_ hw 6 rfl)) (mvT hZ (w_ hw 7 rfl)) (mvT hZ (w_ hw 8 rfl)) (by decide) (backOf (W := 0) (rm2 l Z a0 hw [] f0 f1 h0 n0 Z0 ) hZ (w_ hw 8 rfl) (w_ hw 7 rfl) (by decide) (by decide)) (g := (mkF m 6 #[rv o0] [.int f1, .int f0])) rfl (by rw [hml]; rfl) (argsL := [(.int f0), (.int f1)]) (rest := []) (lenOf pd_0 rfl) rfl (by show 2 * 0 + _ ≤ _; exact Nat.le_of_eq rfl) (hb hby d3_6) (fun _ _ => ⟨rfl, e0, (by decide : 0 + 0 ≤ _), (by decide : 0 + 0 ≤ _)⟩)
  dsimp only [Pt.U, Pt.locs, Pt.cells, Pt.slots] at X1 l1 y1 z1 st1 hQ1
  subst l1 y1 z1
  obtain ⟨rfl, N1q, hh1⟩ := hQ1
  have N1 := Fr.app N0 N1q
  refine own_of st1 ?_
  show own_Out p e below _ (T1.setTop (mkF m 9 #[rv o0] [.int (fmax f0 f1)]))
  refine o_aloadN X1 hx hby d3_9 rfl rfl (q := 10) rfl ?_
  refine o_iconst X1 hx hby d3_10 (z := 2) rfl (q := 11) rfl ?_
  refine o_iaV X1 hx hby hZ hh1 V0 ⟨by decide, by decide⟩ (v := .int f2) rfl d3_11 (q := 12) rfl ?_
  refine o_aloadN X1 hx hby d3_12 rfl rfl (q := 13) rfl ?_
  refine o_iconst X1 hx hby d3_13 (z := 3) rfl (q := 14) rfl ?_
  refine o_iaV X1 hx hby hZ hh1 V0 ⟨by decide, by decide⟩ (v := .int f3) rfl d3_14 (q := 15) rfl ?_
  obtain ⟨_, _, ⟨T2, L2, k2, n2⟩, -, X2, ⟨Lc2, hQ2, l2, y2, z2⟩, st2⟩ := Jvm.LawKit.callS X1 hx (y := (⟨"java/lang/Math", "max", "(II)I"⟩ : MethodName)) hown (mvT hZ (w_ hw 5 rfl)) (mvT hZ (w_ hw 6 rfl)) (mvT hZ (w_ hw 7 rfl)) (mvT hZ (w_ hw 8 rfl)) (by decide) (backOf (W := 1) (rm2 l Z a0 hw [] f2 f3 h0 n0 Z0 ) hZ (w_ hw 8 rfl) (w_ hw 7 rfl) (by decide) (by decide)) (g := (mkF m 15 #[rv o0] [.int f3, .int f2, .int (fmax f0 f1)])) rfl (by rw [hml]; rfl) (argsL := [(.int f2), (.int f3)]) (rest := [(.int (fmax f0 f1))]) (lenOf pd_0 rfl) rfl (by show 2 * 0 + _ ≤ _; exact Nat.le_of_eq rfl) (hb hby d3_15) (fun _ _ => ⟨rfl, hh1, (by decide : 0 + 0 ≤ _), (by decide : 0 + 0 ≤ _)⟩)
  dsimp only [Pt.U, Pt.locs, Pt.cells, Pt.slots] at X2 l2 y2 z2 st2 hQ2
  subst l2 y2 z2
  obtain ⟨rfl, N2q, hh2⟩ := hQ2
  have N2 := Fr.app N1 N2q
  refine own_of st2 ?_
  show own_Out p e below _ (T2.setTop (mkF m 18 #[rv o0] [.int (fmax f2 f3), .int (fmax f0 f1)]))
  obtain ⟨_, _, ⟨T3, L3, k3, n3⟩, -, X3, ⟨Lc3, hQ3, l3, y3, z3⟩, st3⟩ := Jvm.LawKit.callS X2 hx (y := (⟨"java/lang/Math", "max", "(II)I"⟩ : MethodName)) hown (mvT hZ (w_ hw 5 rfl)) (mvT hZ (w_ hw 6 rfl)) (mvT hZ (w_ hw 7 rfl)) (mvT hZ (w_ hw 8 rfl)) (by decide) (backOf (W := 0) (rm2 l Z a0 hw [] (fmax f0 f1) (fmax f2 f3) h0 n0 Z0 ) hZ (w_ hw 8 rfl) (w_ hw 7 rfl) (by decide) (by decide)) (g := (mkF m 18 #[rv o0] [.int (fmax f2 f3), .int (fmax f0 f1)])) rfl (by rw [hml]; rfl) (argsL := [(.int (fmax f0 f1)), (.int (fmax f2 f3))]) (rest := []) (lenOf pd_0 rfl) rfl (by show 2 * 0 + _ ≤ _; exact Nat.le_of_eq rfl) (hb hby d3_18) (fun _ _ => ⟨rfl, hh2, (by decide : 0 + 0 ≤ _), (by decide : 0 + 0 ≤ _)⟩)
  dsimp only [Pt.U, Pt.locs, Pt.cells, Pt.slots] at X3 l3 y3 z3 st3 hQ3
  subst l3 y3 z3
  obtain ⟨rfl, N3q, hh3⟩ := hQ3
  have N3 := Fr.app N2 N3q
  refine own_of st3 ?_
  show own_Out p e below _ (T3.setTop (mkF m 21 #[rv o0] [.int (fmax (fmax f0 f1) (fmax f2 f3))]))
  refine o_iconst X3 hx hby d3_21 (z := 1) rfl (q := 22) rfl ?_
  refine o_iadd X3 hx hby d3_22 rfl (q := 23) rfl ?_
  exact own_outI X3 hx hlk hret (hb hby d3_23) (Q := Q3 Z o0 k0 f0 f1 f2 f3 h0 n0) ⟨by simp only [fcnt], N3, hh3⟩ (by decide) (by decide)
theorem d6_0 : decode method_4_code 0 = .ok (.aload_n 0, 1) := by decide +kernel
theorem d6_1 : decode method_4_code 1 = .ok (.iload_n 2, 1) := by decide +kernel
theorem d6_2 : decode method_4_code 2 = .ok (.iaload, 1) := by decide +kernel
theorem d6_3 : decode method_4_code 3 = .ok (.aload_n 0, 1) := by decide +kernel
theorem d6_4 : decode method_4_code 4 = .ok (.iload_n 3, 1) := by decide +kernel
theorem d6_5 : decode method_4_code 5 = .ok (.iaload, 1) := by decide +kernel
theorem d6_6 : decode method_4_code 6 = .ok (.if_icmp .ne 12, 3) := by decide +kernel
theorem d6_9 : decode method_4_code 9 = .ok (.aload_n 1, 1) := by decide +kernel
theorem d6_10 : decode method_4_code 10 = .ok (.iload_n 2, 1) := by decide +kernel
theorem d6_11 : decode method_4_code 11 = .ok (.iaload, 1) := by decide +kernel
theorem d6_12 : decode method_4_code 12 = .ok (.aload_n 1, 1) := by decide +kernel
theorem d6_13 : decode method_4_code 13 = .ok (.iload_n 3, 1) := by decide +kernel
theorem d6_14 : decode method_4_code 14 = .ok (.iaload, 1) := by decide +kernel
theorem d6_15 : decode method_4_code 15 = .ok (.if_icmp .ne 7, 3) := by decide +kernel
theorem d6_18 : decode method_4_code 18 = .ok (.iconst 1, 1) := by decide +kernel
theorem d6_19 : decode method_4_code 19 = .ok (.goto 4, 3) := by decide +kernel
theorem d6_22 : decode method_4_code 22 = .ok (.iconst 0, 1) := by decide +kernel
theorem d6_23 : decode method_4_code 23 = .ok (.ireturn, 1) := by decide +kernel
theorem ef_6p01 (m : MethodId) (x0 : Addr) (x1 : Addr) : entryFrame m #[(.ref x0), (.ref x1), (.int (0 : Int32)), (.int (1 : Int32))] 4 = mkF m 0 #[.val (.ref x0), .val (.ref x1), .val (.int (0 : Int32)), .val (.int (1 : Int32))] [] := by first | (simp [entryFrame, mkF, argsToLocals, Value.category]; done) | rfl
def fp01 (f0 : Int32) (f1 : Int32) (f2 : Int32) (f3 : Int32) (c0 : Int32) (c1 : Int32) (c2 : Int32) (c3 : Int32) : Int32 := if f0 = f1 then (if c0 = c1 then (1 : Int32)
    else (0 : Int32))
  else (1 : Int32)
def Q6p01 (Z : State) (o0 : Addr) (o1 : Addr) (k0 : ClassId) (k1 : ClassId) (f0 : Int32) (f1 : Int32) (f2 : Int32) (f3 : Int32) (c0 : Int32) (c1 : Int32) (c2 : Int32) (c3 : Int32) (h0 : Heap) (n0 : Nat) (v : Option Value) (h : Heap) (L : List Loc) : Prop := v = some (.int (fp01 f0 f1 f2 f3 c0 c1 c2 c3)) ∧ Fr n0 L ∧ h = h0
set_option maxRecDepth 65536 in
set_option maxHeartbeats 40000000 in
theorem rm6p01 (l : Launch) (Z : State) (a0 : Array Value) (hw : ∀ d ∈ tables_1, d.before a0 Z = true) (ws : List Jvm.Cond) (o0 : Addr) (o1 : Addr) (k0 : ClassId) (k1 : ClassId) (f0 : Int32) (f1 : Int32) (f2 : Int32) (f3 : Int32) (c0 : Int32) (c1 : Int32) (c2 : Int32) (c3 : Int32) (h0 : Heap) (n0 : Nat) (Z0 : n0 ≤ h0.size) (V0 : Arv Z h0 o0 k0 .int (4 : Int32) [(.int f0), (.int f1), (.int f2), (.int f3)] (.int (0 : Int32))) (V1 : Arv Z h0 o1 k1 .int (4 : Int32) [(.int c0), (.int c1), (.int c2), (.int c3)] (.int (0 : Int32))) :
    MetFree l (⟨"com/example/slimc/slimc/game/ObservationRefinesPinLaw", "pairOk", "([I[III)Z"⟩ : MethodName) (head1 (Jvm.Cond.code (⟨"com/example/slimc/slimc/game/ObservationRefinesPinLaw", "pairOk", "([I[III)Z"⟩ : MethodName) method_4_code 4 (some .boolean) :: ws) ({ frames := 0, cells := 0, slots := 0, locals := 0 } : Room)) (fun a U => a = #[(.ref o0), (.ref o1), (.int (0 : Int32)), (.int (1 : Int32))] ∧ Z.Warmed39 U.vm ∧ U.heap = h0) (fun _ _ _ _ _ => True) (fun _ U o U' => ∃ v L, o = .returned v ∧ Q6p01 Z o0 o1 k0 k1 f0 f1 f2 f3 c0 c1 c2 c3 h0 n0 v U'.heap L ∧ FrameEnd U o U' L ({ frames := 0, cells := 0, slots := 0, locals := 0 } : Room).cells ({ frames := 0, cells := 0, slots := 0, locals := 0 } : Room).slots) := by
  refine MetFree.of_bodySF (plainFor_of_name pn_0) hisR ?_
  intro p e s m args below meth c s₁ Bd hml0 hP hK
  obtain ⟨rfl, hZ, hh⟩ := hP
  have hx := Bd.exec
  have hby := Bd.bytes
  have hml : c.maxLocals = 4 := hml0
  have hown : s.vm.findClass "com/example/slimc/slimc/game/ObservationRefinesPinLaw" = some m.cls := findClass_of_methodNamed Bd.named
  have hnm := (name_of_methodNamed Bd.named Bd.method).1
  have X0 : Stand p l e ({ frames := 0, cells := 0, slots := 0, locals := 0 } : Room) s m #[(.ref o0), (.ref o1), (.int (0 : Int32)), (.int (1 : Int32))] below meth c s₁ [] 0 0 := Stand.of_body Bd
  have e0 : s₁.heap = h0 := by rw [← hh, Bd.state]; rfl
  have N0 := Fr.nil n0
  have hret := Bd.returns
  have hlk := BodyLoose.notSynchronized Bd
  show own_Out p e below (fun o U' => ∃ v L, o = .returned v ∧ Q6p01 Z o0 o1 k0 k1 f0 f1 f2 f3 c0 c1 c2 c3 h0 n0 v U'.heap L ∧ FrameEnd s o U' L ({ frames := 0, cells := 0, slots := 0, locals := 0 } : Room).cells ({ frames := 0, cells := 0, slots := 0, locals := 0 } : Room).slots) (s₁.setTop (entryFrame m #[(.ref o0), (.ref o1), (.int (0 : Int32)), (.int (1 : Int32))] 4))
  refine own_of (fun t k => castTop (ef_6p01 m o0 o1) k) ?_
  show own_Out p e below _ (s₁.setTop (mkF m 0 #[rv o0, rv o1, iv 0, iv 1] []))
  refine o_aloadN X0 hx hby d6_0 rfl rfl (q := 1) rfl ?_
  refine o_iloadN X0 hx hby d6_1 rfl (q := 2) rfl ?_
  refine o_iaV X0 hx hby hZ e0 V0 ⟨by decide, by decide⟩ (v := .int f0) rfl d6_2 (q := 3) rfl ?_
  refine o_aloadN X0 hx hby d6_3 rfl rfl (q := 4) rfl ?_
  refine o_iloadN X0 hx hby d6_4 rfl (q := 5) rfl ?_
  refine o_iaV X0 hx hby hZ e0 V0 ⟨by decide, by decide⟩ (v := .int f1) rfl d6_5 (q := 6) rfl ?_
  by_cases hc6_1 : f0 = f1
  · skip
    refine o_icN X0 hx hby d6_6 (teq hc6_1).2 (q := 9) rfl ?_
    refine o_aloadN X0 hx hby d6_9 rfl rfl (q := 10) rfl ?_
    refine o_iloadN X0 hx hby d6_10 rfl (q := 11) rfl ?_
    refine o_iaV X0 hx hby hZ e0 V1 ⟨by decide, by decide⟩ (v := .int c0) rfl d6_11 (q := 12) rfl ?_
    refine o_aloadN X0 hx hby d6_12 rfl rfl (q := 13) rfl ?_
    refine o_iloadN X0 hx hby d6_13 rfl (q := 14) rfl ?_
    refine o_iaV X0 hx hby hZ e0 V1 ⟨by decide, by decide⟩ (v := .int c1) rfl d6_14 (q := 15) rfl ?_
    by_cases hc15_2 : c0 = c1
    · skip
      refine o_icN X0 hx hby d6_15 (teq hc15_2).2 (q := 18) rfl ?_
      refine o_iconst X0 hx hby d6_18 (z := 1) rfl (q := 19) rfl ?_
      refine o_goto X0 hx hby d6_19 (by decide) (q := 23) (by decide) ?_
      exact own_outN X0 hx hlk (t := .boolean) hret (by simp) (hb hby d6_23) (z' := (1 : Int32)) rfl (Q := Q6p01 Z o0 o1 k0 k1 f0 f1 f2 f3 c0 c1 c2 c3 h0 n0) ⟨by simp only [fp01, if_pos hc6_1, if_pos hc15_2], N0, e0⟩ (by decide) (by decide)
    · skip
      refine o_icY X0 hx hby d6_15 (feq hc15_2).2 (by decide) (q := 22) (by decide) ?_
      refine o_iconst X0 hx hby d6_22 (z := 0) rfl (q := 23) rfl ?_
      exact own_outN X0 hx hlk (t := .boolean) hret (by simp) (hb hby d6_23) (z' := (0 : Int32)) rfl (Q := Q6p01 Z o0 o1 k0 k1 f0 f1 f2 f3 c0 c1 c2 c3 h0 n0) ⟨by simp only [fp01, if_pos hc6_1, if_neg hc15_2], N0, e0⟩ (by decide) (by decide)
  · skip
    refine o_icY X0 hx hby d6_6 (feq hc6_1).2 (by decide) (q := 18) (by decide) ?_
    refine o_iconst X0 hx hby d6_18 (z := 1) rfl (q := 19) rfl ?_
    refine o_goto X0 hx hby d6_19 (by decide) (q := 23) (by decide) ?_
    exact own_outN X0 hx hlk (t := .boolean) hret (by simp) (hb hby d6_23) (z' := (1 : Int32)) rfl (Q := Q6p01 Z o0 o1 k0 k1 f0 f1 f2 f3 c0 c1 c2 c3 h0 n0) ⟨by simp only [fp01, if_neg hc6_1], N0, e0⟩ (by decide) (by decide)
theorem ef_6p02 (m : MethodId) (x0 : Addr) (x1 : Addr) : entryFrame m #[(.ref x0), (.ref x1), (.int (0 : Int32)), (.int (2 : Int32))] 4 = mkF m 0 #[.val (.ref x0), .val (.ref x1), .val (.int (0 : Int32)), .val (.int (2 : Int32))] [] := by first | (simp [entryFrame, mkF, argsToLocals, Value.category]; done) | rfl
def fp02 (f0 : Int32) (f1 : Int32) (f2 : Int32) (f3 : Int32) (c0 : Int32) (c1 : Int32) (c2 : Int32) (c3 : Int32) : Int32 := if f0 = f2 then (if c0 = c2 then (1 : Int32)
    else (0 : Int32))
  else (1 : Int32)
def Q6p02 (Z : State) (o0 : Addr) (o1 : Addr) (k0 : ClassId) (k1 : ClassId) (f0 : Int32) (f1 : Int32) (f2 : Int32) (f3 : Int32) (c0 : Int32) (c1 : Int32) (c2 : Int32) (c3 : Int32) (h0 : Heap) (n0 : Nat) (v : Option Value) (h : Heap) (L : List Loc) : Prop := v = some (.int (fp02 f0 f1 f2 f3 c0 c1 c2 c3)) ∧ Fr n0 L ∧ h = h0
set_option maxRecDepth 65536 in
set_option maxHeartbeats 40000000 in
theorem rm6p02 (l : Launch) (Z : State) (a0 : Array Value) (hw : ∀ d ∈ tables_1, d.before a0 Z = true) (ws : List Jvm.Cond) (o0 : Addr) (o1 : Addr) (k0 : ClassId) (k1 : ClassId) (f0 : Int32) (f1 : Int32) (f2 : Int32) (f3 : Int32) (c0 : Int32) (c1 : Int32) (c2 : Int32) (c3 : Int32) (h0 : Heap) (n0 : Nat) (Z0 : n0 ≤ h0.size) (V0 : Arv Z h0 o0 k0 .int (4 : Int32) [(.int f0), (.int f1), (.int f2), (.int f3)] (.int (0 : Int32))) (V1 : Arv Z h0 o1 k1 .int (4 : Int32) [(.int c0), (.int c1), (.int c2), (.int c3)] (.int (0 : Int32))) :
    MetFree l (⟨"com/example/slimc/slimc/game/ObservationRefinesPinLaw", "pairOk", "([I[III)Z"⟩ : MethodName) (head1 (Jvm.Cond.code (⟨"com/example/slimc/slimc/game/ObservationRefinesPinLaw", "pairOk", "([I[III)Z"⟩ : MethodName) method_4_code 4 (some .boolean) :: ws) ({ frames := 0, cells := 0, slots := 0, locals := 0 } : Room)) (fun a U => a = #[(.ref o0), (.ref o1), (.int (0 : Int32)), (.int (2 : Int32))] ∧ Z.Warmed39 U.vm ∧ U.heap = h0) (fun _ _ _ _ _ => True) (fun _ U o U' => ∃ v L, o = .returned v ∧ Q6p02 Z o0 o1 k0 k1 f0 f1 f2 f3 c0 c1 c2 c3 h0 n0 v U'.heap L ∧ FrameEnd U o U' L ({ frames := 0, cells := 0, slots := 0, locals := 0 } : Room).cells ({ frames := 0, cells := 0, slots := 0, locals := 0 } : Room).slots) := by
  refine MetFree.of_bodySF (plainFor_of_name pn_0) hisR ?_
  intro p e s m args below meth c s₁ Bd hml0 hP hK
  obtain ⟨rfl, hZ, hh⟩ := hP
  have hx := Bd.exec
  have hby := Bd.bytes
  have hml : c.maxLocals = 4 := hml0
  have hown : s.vm.findClass "com/example/slimc/slimc/game/ObservationRefinesPinLaw" = some m.cls := findClass_of_methodNamed Bd.named
  have hnm := (name_of_methodNamed Bd.named Bd.method).1
  have X0 : Stand p l e ({ frames := 0, cells := 0, slots := 0, locals := 0 } : Room) s m #[(.ref o0), (.ref o1), (.int (0 : Int32)), (.int (2 : Int32))] below meth c s₁ [] 0 0 := Stand.of_body Bd
  have e0 : s₁.heap = h0 := by rw [← hh, Bd.state]; rfl
  have N0 := Fr.nil n0
  have hret := Bd.returns
  have hlk := BodyLoose.notSynchronized Bd
  show own_Out p e below (fun o U' => ∃ v L, o = .returned v ∧ Q6p02 Z o0 o1 k0 k1 f0 f1 f2 f3 c0 c1 c2 c3 h0 n0 v U'.heap L ∧ FrameEnd s o U' L ({ frames := 0, cells := 0, slots := 0, locals := 0 } : Room).cells ({ frames := 0, cells := 0, slots := 0, locals := 0 } : Room).slots) (s₁.setTop (entryFrame m #[(.ref o0), (.ref o1), (.int (0 : Int32)), (.int (2 : Int32))] 4))
  refine own_of (fun t k => castTop (ef_6p02 m o0 o1) k) ?_
  show own_Out p e below _ (s₁.setTop (mkF m 0 #[rv o0, rv o1, iv 0, iv 2] []))
  refine o_aloadN X0 hx hby d6_0 rfl rfl (q := 1) rfl ?_
  refine o_iloadN X0 hx hby d6_1 rfl (q := 2) rfl ?_
  refine o_iaV X0 hx hby hZ e0 V0 ⟨by decide, by decide⟩ (v := .int f0) rfl d6_2 (q := 3) rfl ?_
  refine o_aloadN X0 hx hby d6_3 rfl rfl (q := 4) rfl ?_
  refine o_iloadN X0 hx hby d6_4 rfl (q := 5) rfl ?_
  refine o_iaV X0 hx hby hZ e0 V0 ⟨by decide, by decide⟩ (v := .int f2) rfl d6_5 (q := 6) rfl ?_
  by_cases hc6_1 : f0 = f2
  · skip
    refine o_icN X0 hx hby d6_6 (teq hc6_1).2 (q := 9) rfl ?_
    refine o_aloadN X0 hx hby d6_9 rfl rfl (q := 10) rfl ?_
    refine o_iloadN X0 hx hby d6_10 rfl (q := 11) rfl ?_
    refine o_iaV X0 hx hby hZ e0 V1 ⟨by decide, by decide⟩ (v := .int c0) rfl d6_11 (q := 12) rfl ?_
    refine o_aloadN X0 hx hby d6_12 rfl rfl (q := 13) rfl ?_
    refine o_iloadN X0 hx hby d6_13 rfl (q := 14) rfl ?_
    refine o_iaV X0 hx hby hZ e0 V1 ⟨by decide, by decide⟩ (v := .int c2) rfl d6_14 (q := 15) rfl ?_
    by_cases hc15_2 : c0 = c2
    · skip
      refine o_icN X0 hx hby d6_15 (teq hc15_2).2 (q := 18) rfl ?_
      refine o_iconst X0 hx hby d6_18 (z := 1) rfl (q := 19) rfl ?_
      refine o_goto X0 hx hby d6_19 (by decide) (q := 23) (by decide) ?_
      exact own_outN X0 hx hlk (t := .boolean) hret (by simp) (hb hby d6_23) (z' := (1 : Int32)) rfl (Q := Q6p02 Z o0 o1 k0 k1 f0 f1 f2 f3 c0 c1 c2 c3 h0 n0) ⟨by simp only [fp02, if_pos hc6_1, if_pos hc15_2], N0, e0⟩ (by decide) (by decide)
    · skip
      refine o_icY X0 hx hby d6_15 (feq hc15_2).2 (by decide) (q := 22) (by decide) ?_
      refine o_iconst X0 hx hby d6_22 (z := 0) rfl (q := 23) rfl ?_
      exact own_outN X0 hx hlk (t := .boolean) hret (by simp) (hb hby d6_23) (z' := (0 : Int32)) rfl (Q := Q6p02 Z o0 o1 k0 k1 f0 f1 f2 f3 c0 c1 c2 c3 h0 n0) ⟨by simp only [fp02, if_pos hc6_1, if_neg hc15_2], N0, e0⟩ (by decide) (by decide)
  · skip
    refine o_icY X0 hx hby d6_6 (feq hc6_1).2 (by decide) (q := 18) (by decide) ?_
    refine o_iconst X0 hx hby d6_18 (z := 1) rfl (q := 19) rfl ?_
    refine o_goto X0 hx hby d6_19 (by decide) (q := 23) (by decide) ?_
    exact own_outN X0 hx hlk (t := .boolean) hret (by simp) (hb hby d6_23) (z' := (1 : Int32)) rfl (Q := Q6p02 Z o0 o1 k0 k1 f0 f1 f2 f3 c0 c1 c2 c3 h0 n0) ⟨by simp only [fp02, if_neg hc6_1], N0, e0⟩ (by decide) (by decide)
theorem ef_6p03 (m : MethodId) (x0 : Addr) (x1 : Addr) : entryFrame m #[(.ref x0), (.ref x1), (.int (0 : Int32)), (.int (3 : Int32))] 4 = mkF m 0 #[.val (.ref x0), .val (.ref x1), .val (.int (0 : Int32)), .val (.int (3 : Int32))] [] := by first | (simp [entryFrame, mkF, argsToLocals, Value.category]; done) | rfl
def fp03 (f0 : Int32) (f1 : Int32) (f2 : Int32) (f3 : Int32) (c0 : Int32) (c1 : Int32) (c2 : Int32) (c3 : Int32) : Int32 := if f0 = f3 then (if c0 = c3 then (1 : Int32)
    else (0 : Int32))
  else (1 : Int32)
def Q6p03 (Z : State) (o0 : Addr) (o1 : Addr) (k0 : ClassId) (k1 : ClassId) (f0 : Int32) (f1 : Int32) (f2 : Int32) (f3 : Int32) (c0 : Int32) (c1 : Int32) (c2 : Int32) (c3 : Int32) (h0 : Heap) (n0 : Nat) (v : Option Value) (h : Heap) (L : List Loc) : Prop := v = some (.int (fp03 f0 f1 f2 f3 c0 c1 c2 c3)) ∧ Fr n0 L ∧ h = h0
set_option maxRecDepth 65536 in
set_option maxHeartbeats 40000000 in
theorem rm6p03 (l : Launch) (Z : State) (a0 : Array Value) (hw : ∀ d ∈ tables_1, d.before a0 Z = true) (ws : List Jvm.Cond) (o0 : Addr) (o1 : Addr) (k0 : ClassId) (k1 : ClassId) (f0 : Int32) (f1 : Int32) (f2 : Int32) (f3 : Int32) (c0 : Int32) (c1 : Int32) (c2 : Int32) (c3 : Int32) (h0 : Heap) (n0 : Nat) (Z0 : n0 ≤ h0.size) (V0 : Arv Z h0 o0 k0 .int (4 : Int32) [(.int f0), (.int f1), (.int f2), (.int f3)] (.int (0 : Int32))) (V1 : Arv Z h0 o1 k1 .int (4 : Int32) [(.int c0), (.int c1), (.int c2), (.int c3)] (.int (0 : Int32))) :
    MetFree l (⟨"com/example/slimc/slimc/game/ObservationRefinesPinLaw", "pairOk", "([I[III)Z"⟩ : MethodName) (head1 (Jvm.Cond.code (⟨"com/example/slimc/slimc/game/ObservationRefinesPinLaw", "pairOk", "([I[III)Z"⟩ : MethodName) method_4_code 4 (some .boolean) :: ws) ({ frames := 0, cells := 0, slots := 0, locals := 0 } : Room)) (fun a U => a = #[(.ref o0), (.ref o1), (.int (0 : Int32)), (.int (3 : Int32))] ∧ Z.Warmed39 U.vm ∧ U.heap = h0) (fun _ _ _ _ _ => True) (fun _ U o U' => ∃ v L, o = .returned v ∧ Q6p03 Z o0 o1 k0 k1 f0 f1 f2 f3 c0 c1 c2 c3 h0 n0 v U'.heap L ∧ FrameEnd U o U' L ({ frames := 0, cells := 0, slots := 0, locals := 0 } : Room).cells ({ frames := 0, cells := 0, slots := 0, locals := 0 } : Room).slots) := by
  refine MetFree.of_bodySF (plainFor_of_name pn_0) hisR ?_
  intro p e s m args below meth c s₁ Bd hml0 hP hK
  obtain ⟨rfl, hZ, hh⟩ := hP
  have hx := Bd.exec
  have hby := Bd.bytes
  have hml : c.maxLocals = 4 := hml0
  have hown : s.vm.findClass "com/example/slimc/slimc/game/ObservationRefinesPinLaw" = some m.cls := findClass_of_methodNamed Bd.named
  have hnm := (name_of_methodNamed Bd.named Bd.method).1
  have X0 : Stand p l e ({ frames := 0, cells := 0, slots := 0, locals := 0 } : Room) s m #[(.ref o0), (.ref o1), (.int (0 : Int32)), (.int (3 : Int32))] below meth c s₁ [] 0 0 := Stand.of_body Bd
  have e0 : s₁.heap = h0 := by rw [← hh, Bd.state]; rfl
  have N0 := Fr.nil n0
  have hret := Bd.returns
  have hlk := BodyLoose.notSynchronized Bd
  show own_Out p e below (fun o U' => ∃ v L, o = .returned v ∧ Q6p03 Z o0 o1 k0 k1 f0 f1 f2 f3 c0 c1 c2 c3 h0 n0 v U'.heap L ∧ FrameEnd s o U' L ({ frames := 0, cells := 0, slots := 0, locals := 0 } : Room).cells ({ frames := 0, cells := 0, slots := 0, locals := 0 } : Room).slots) (s₁.setTop (entryFrame m #[(.ref o0), (.ref o1), (.int (0 : Int32)), (.int (3 : Int32))] 4))
  refine own_of (fun t k => castTop (ef_6p03 m o0 o1) k) ?_
  show own_Out p e below _ (s₁.setTop (mkF m 0 #[rv o0, rv o1, iv 0, iv 3] []))
  refine o_aloadN X0 hx hby d6_0 rfl rfl (q := 1) rfl ?_
  refine o_iloadN X0 hx hby d6_1 rfl (q := 2) rfl ?_
  refine o_iaV X0 hx hby hZ e0 V0 ⟨by decide, by decide⟩ (v := .int f0) rfl d6_2 (q := 3) rfl ?_
  refine o_aloadN X0 hx hby d6_3 rfl rfl (q := 4) rfl ?_
  refine o_iloadN X0 hx hby d6_4 rfl (q := 5) rfl ?_
  refine o_iaV X0 hx hby hZ e0 V0 ⟨by decide, by decide⟩ (v := .int f3) rfl d6_5 (q := 6) rfl ?_
  by_cases hc6_1 : f0 = f3
  · skip
    refine o_icN X0 hx hby d6_6 (teq hc6_1).2 (q := 9) rfl ?_
    refine o_aloadN X0 hx hby d6_9 rfl rfl (q := 10) rfl ?_
    refine o_iloadN X0 hx hby d6_10 rfl (q := 11) rfl ?_
    refine o_iaV X0 hx hby hZ e0 V1 ⟨by decide, by decide⟩ (v := .int c0) rfl d6_11 (q := 12) rfl ?_
    refine o_aloadN X0 hx hby d6_12 rfl rfl (q := 13) rfl ?_
    refine o_iloadN X0 hx hby d6_13 rfl (q := 14) rfl ?_
    refine o_iaV X0 hx hby hZ e0 V1 ⟨by decide, by decide⟩ (v := .int c3) rfl d6_14 (q := 15) rfl ?_
    by_cases hc15_2 : c0 = c3
    · skip
      refine o_icN X0 hx hby d6_15 (teq hc15_2).2 (q := 18) rfl ?_
      refine o_iconst X0 hx hby d6_18 (z := 1) rfl (q := 19) rfl ?_
      refine o_goto X0 hx hby d6_19 (by decide) (q := 23) (by decide) ?_
      exact own_outN X0 hx hlk (t := .boolean) hret (by simp) (hb hby d6_23) (z' := (1 : Int32)) rfl (Q := Q6p03 Z o0 o1 k0 k1 f0 f1 f2 f3 c0 c1 c2 c3 h0 n0) ⟨by simp only [fp03, if_pos hc6_1, if_pos hc15_2], N0, e0⟩ (by decide) (by decide)
    · skip
      refine o_icY X0 hx hby d6_15 (feq hc15_2).2 (by decide) (q := 22) (by decide) ?_
      refine o_iconst X0 hx hby d6_22 (z := 0) rfl (q := 23) rfl ?_
      exact own_outN X0 hx hlk (t := .boolean) hret (by simp) (hb hby d6_23) (z' := (0 : Int32)) rfl (Q := Q6p03 Z o0 o1 k0 k1 f0 f1 f2 f3 c0 c1 c2 c3 h0 n0) ⟨by simp only [fp03, if_pos hc6_1, if_neg hc15_2], N0, e0⟩ (by decide) (by decide)
  · skip
    refine o_icY X0 hx hby d6_6 (feq hc6_1).2 (by decide) (q := 18) (by decide) ?_
    refine o_iconst X0 hx hby d6_18 (z := 1) rfl (q := 19) rfl ?_
    refine o_goto X0 hx hby d6_19 (by decide) (q := 23) (by decide) ?_
    exact own_outN X0 hx hlk (t := .boolean) hret (by simp) (hb hby d6_23) (z' := (1 : Int32)) rfl (Q := Q6p03 Z o0 o1 k0 k1 f0 f1 f2 f3 c0 c1 c2 c3 h0 n0) ⟨by simp only [fp03, if_neg hc6_1], N0, e0⟩ (by decide) (by decide)
theorem ef_6p12 (m : MethodId) (x0 : Addr) (x1 : Addr) : entryFrame m #[(.ref x0), (.ref x1), (.int (1 : Int32)), (.int (2 : Int32))] 4 = mkF m 0 #[.val (.ref x0), .val (.ref x1), .val (.int (1 : Int32)), .val (.int (2 : Int32))] [] := by first | (simp [entryFrame, mkF, argsToLocals, Value.category]; done) | rfl
def fp12 (f0 : Int32) (f1 : Int32) (f2 : Int32) (f3 : Int32) (c0 : Int32) (c1 : Int32) (c2 : Int32) (c3 : Int32) : Int32 := if f1 = f2 then (if c1 = c2 then (1 : Int32)
    else (0 : Int32))
  else (1 : Int32)
def Q6p12 (Z : State) (o0 : Addr) (o1 : Addr) (k0 : ClassId) (k1 : ClassId) (f0 : Int32) (f1 : Int32) (f2 : Int32) (f3 : Int32) (c0 : Int32) (c1 : Int32) (c2 : Int32) (c3 : Int32) (h0 : Heap) (n0 : Nat) (v : Option Value) (h : Heap) (L : List Loc) : Prop := v = some (.int (fp12 f0 f1 f2 f3 c0 c1 c2 c3)) ∧ Fr n0 L ∧ h = h0
set_option maxRecDepth 65536 in
set_option maxHeartbeats 40000000 in
theorem rm6p12 (l : Launch) (Z : State) (a0 : Array Value) (hw : ∀ d ∈ tables_1, d.before a0 Z = true) (ws : List Jvm.Cond) (o0 : Addr) (o1 : Addr) (k0 : ClassId) (k1 : ClassId) (f0 : Int32) (f1 : Int32) (f2 : Int32) (f3 : Int32) (c0 : Int32) (c1 : Int32) (c2 : Int32) (c3 : Int32) (h0 : Heap) (n0 : Nat) (Z0 : n0 ≤ h0.size) (V0 : Arv Z h0 o0 k0 .int (4 : Int32) [(.int f0), (.int f1), (.int f2), (.int f3)] (.int (0 : Int32))) (V1 : Arv Z h0 o1 k1 .int (4 : Int32) [(.int c0), (.int c1), (.int c2), (.int c3)] (.int (0 : Int32))) :
    MetFree l (⟨"com/example/slimc/slimc/game/ObservationRefinesPinLaw", "pairOk", "([I[III)Z"⟩ : MethodName) (head1 (Jvm.Cond.code (⟨"com/example/slimc/slimc/game/ObservationRefinesPinLaw", "pairOk", "([I[III)Z"⟩ : MethodName) method_4_code 4 (some .boolean) :: ws) ({ frames := 0, cells := 0, slots := 0, locals := 0 } : Room)) (fun a U => a = #[(.ref o0), (.ref o1), (.int (1 : Int32)), (.int (2 : Int32))] ∧ Z.Warmed39 U.vm ∧ U.heap = h0) (fun _ _ _ _ _ => True) (fun _ U o U' => ∃ v L, o = .returned v ∧ Q6p12 Z o0 o1 k0 k1 f0 f1 f2 f3 c0 c1 c2 c3 h0 n0 v U'.heap L ∧ FrameEnd U o U' L ({ frames := 0, cells := 0, slots := 0, locals := 0 } : Room).cells ({ frames := 0, cells := 0, slots := 0, locals := 0 } : Room).slots) := by
  refine MetFree.of_bodySF (plainFor_of_name pn_0) hisR ?_
  intro p e s m args below meth c s₁ Bd hml0 hP hK
  obtain ⟨rfl, hZ, hh⟩ := hP
  have hx := Bd.exec
  have hby := Bd.bytes
  have hml : c.maxLocals = 4 := hml0
  have hown : s.vm.findClass "com/example/slimc/slimc/game/ObservationRefinesPinLaw" = some m.cls := findClass_of_methodNamed Bd.named
  have hnm := (name_of_methodNamed Bd.named Bd.method).1
  have X0 : Stand p l e ({ frames := 0, cells := 0, slots := 0, locals := 0 } : Room) s m #[(.ref o0), (.ref o1), (.int (1 : Int32)), (.int (2 : Int32))] below meth c s₁ [] 0 0 := Stand.of_body Bd
  have e0 : s₁.heap = h0 := by rw [← hh, Bd.state]; rfl
  have N0 := Fr.nil n0
  have hret := Bd.returns
  have hlk := BodyLoose.notSynchronized Bd
  show own_Out p e below (fun o U' => ∃ v L, o = .returned v ∧ Q6p12 Z o0 o1 k0 k1 f0 f1 f2 f3 c0 c1 c2 c3 h0 n0 v U'.heap L ∧ FrameEnd s o U' L ({ frames := 0, cells := 0, slots := 0, locals := 0 } : Room).cells ({ frames := 0, cells := 0, slots := 0, locals := 0 } : Room).slots) (s₁.setTop (entryFrame m #[(.ref o0), (.ref o1), (.int (1 : Int32)), (.int (2 : Int32))] 4))
  refine own_of (fun t k => castTop (ef_6p12 m o0 o1) k) ?_
  show own_Out p e below _ (s₁.setTop (mkF m 0 #[rv o0, rv o1, iv 1, iv 2] []))
  refine o_aloadN X0 hx hby d6_0 rfl rfl (q := 1) rfl ?_
  refine o_iloadN X0 hx hby d6_1 rfl (q := 2) rfl ?_
  refine o_iaV X0 hx hby hZ e0 V0 ⟨by decide, by decide⟩ (v := .int f1) rfl d6_2 (q := 3) rfl ?_
  refine o_aloadN X0 hx hby d6_3 rfl rfl (q := 4) rfl ?_
  refine o_iloadN X0 hx hby d6_4 rfl (q := 5) rfl ?_
  refine o_iaV X0 hx hby hZ e0 V0 ⟨by decide, by decide⟩ (v := .int f2) rfl d6_5 (q := 6) rfl ?_
  by_cases hc6_1 : f1 = f2
  · skip
    refine o_icN X0 hx hby d6_6 (teq hc6_1).2 (q := 9) rfl ?_
    refine o_aloadN X0 hx hby d6_9 rfl rfl (q := 10) rfl ?_
    refine o_iloadN X0 hx hby d6_10 rfl (q := 11) rfl ?_
    refine o_iaV X0 hx hby hZ e0 V1 ⟨by decide, by decide⟩ (v := .int c1) rfl d6_11 (q := 12) rfl ?_
    refine o_aloadN X0 hx hby d6_12 rfl rfl (q := 13) rfl ?_
    refine o_iloadN X0 hx hby d6_13 rfl (q := 14) rfl ?_
    refine o_iaV X0 hx hby hZ e0 V1 ⟨by decide, by decide⟩ (v := .int c2) rfl d6_14 (q := 15) rfl ?_
    by_cases hc15_2 : c1 = c2
    · skip
      refine o_icN X0 hx hby d6_15 (teq hc15_2).2 (q := 18) rfl ?_
      refine o_iconst X0 hx hby d6_18 (z := 1) rfl (q := 19) rfl ?_
      refine o_goto X0 hx hby d6_19 (by decide) (q := 23) (by decide) ?_
      exact own_outN X0 hx hlk (t := .boolean) hret (by simp) (hb hby d6_23) (z' := (1 : Int32)) rfl (Q := Q6p12 Z o0 o1 k0 k1 f0 f1 f2 f3 c0 c1 c2 c3 h0 n0) ⟨by simp only [fp12, if_pos hc6_1, if_pos hc15_2], N0, e0⟩ (by decide) (by decide)
    · skip
      refine o_icY X0 hx hby d6_15 (feq hc15_2).2 (by decide) (q := 22) (by decide) ?_
      refine o_iconst X0 hx hby d6_22 (z := 0) rfl (q := 23) rfl ?_
      exact own_outN X0 hx hlk (t := .boolean) hret (by simp) (hb hby d6_23) (z' := (0 : Int32)) rfl (Q := Q6p12 Z o0 o1 k0 k1 f0 f1 f2 f3 c0 c1 c2 c3 h0 n0) ⟨by simp only [fp12, if_pos hc6_1, if_neg hc15_2], N0, e0⟩ (by decide) (by decide)
  · skip
    refine o_icY X0 hx hby d6_6 (feq hc6_1).2 (by decide) (q := 18) (by decide) ?_
    refine o_iconst X0 hx hby d6_18 (z := 1) rfl (q := 19) rfl ?_
    refine o_goto X0 hx hby d6_19 (by decide) (q := 23) (by decide) ?_
    exact own_outN X0 hx hlk (t := .boolean) hret (by simp) (hb hby d6_23) (z' := (1 : Int32)) rfl (Q := Q6p12 Z o0 o1 k0 k1 f0 f1 f2 f3 c0 c1 c2 c3 h0 n0) ⟨by simp only [fp12, if_neg hc6_1], N0, e0⟩ (by decide) (by decide)
theorem ef_6p13 (m : MethodId) (x0 : Addr) (x1 : Addr) : entryFrame m #[(.ref x0), (.ref x1), (.int (1 : Int32)), (.int (3 : Int32))] 4 = mkF m 0 #[.val (.ref x0), .val (.ref x1), .val (.int (1 : Int32)), .val (.int (3 : Int32))] [] := by first | (simp [entryFrame, mkF, argsToLocals, Value.category]; done) | rfl
def fp13 (f0 : Int32) (f1 : Int32) (f2 : Int32) (f3 : Int32) (c0 : Int32) (c1 : Int32) (c2 : Int32) (c3 : Int32) : Int32 := if f1 = f3 then (if c1 = c3 then (1 : Int32)
    else (0 : Int32))
  else (1 : Int32)
def Q6p13 (Z : State) (o0 : Addr) (o1 : Addr) (k0 : ClassId) (k1 : ClassId) (f0 : Int32) (f1 : Int32) (f2 : Int32) (f3 : Int32) (c0 : Int32) (c1 : Int32) (c2 : Int32) (c3 : Int32) (h0 : Heap) (n0 : Nat) (v : Option Value) (h : Heap) (L : List Loc) : Prop := v = some (.int (fp13 f0 f1 f2 f3 c0 c1 c2 c3)) ∧ Fr n0 L ∧ h = h0
set_option maxRecDepth 65536 in
set_option maxHeartbeats 40000000 in
theorem rm6p13 (l : Launch) (Z : State) (a0 : Array Value) (hw : ∀ d ∈ tables_1, d.before a0 Z = true) (ws : List Jvm.Cond) (o0 : Addr) (o1 : Addr) (k0 : ClassId) (k1 : ClassId) (f0 : Int32) (f1 : Int32) (f2 : Int32) (f3 : Int32) (c0 : Int32) (c1 : Int32) (c2 : Int32) (c3 : Int32) (h0 : Heap) (n0 : Nat) (Z0 : n0 ≤ h0.size) (V0 : Arv Z h0 o0 k0 .int (4 : Int32) [(.int f0), (.int f1), (.int f2), (.int f3)] (.int (0 : Int32))) (V1 : Arv Z h0 o1 k1 .int (4 : Int32) [(.int c0), (.int c1), (.int c2), (.int c3)] (.int (0 : Int32))) :
    MetFree l (⟨"com/example/slimc/slimc/game/ObservationRefinesPinLaw", "pairOk", "([I[III)Z"⟩ : MethodName) (head1 (Jvm.Cond.code (⟨"com/example/slimc/slimc/game/ObservationRefinesPinLaw", "pairOk", "([I[III)Z"⟩ : MethodName) method_4_code 4 (some .boolean) :: ws) ({ frames := 0, cells := 0, slots := 0, locals := 0 } : Room)) (fun a U => a = #[(.ref o0), (.ref o1), (.int (1 : Int32)), (.int (3 : Int32))] ∧ Z.Warmed39 U.vm ∧ U.heap = h0) (fun _ _ _ _ _ => True) (fun _ U o U' => ∃ v L, o = .returned v ∧ Q6p13 Z o0 o1 k0 k1 f0 f1 f2 f3 c0 c1 c2 c3 h0 n0 v U'.heap L ∧ FrameEnd U o U' L ({ frames := 0, cells := 0, slots := 0, locals := 0 } : Room).cells ({ frames := 0, cells := 0, slots := 0, locals := 0 } : Room).slots) := by
  refine MetFree.of_bodySF (plainFor_of_name pn_0) hisR ?_
  intro p e s m args below meth c s₁ Bd hml0 hP hK
  obtain ⟨rfl, hZ, hh⟩ := hP
  have hx := Bd.exec
  have hby := Bd.bytes
  have hml : c.maxLocals = 4 := hml0
  have hown : s.vm.findClass "com/example/slimc/slimc/game/ObservationRefinesPinLaw" = some m.cls := findClass_of_methodNamed Bd.named
  have hnm := (name_of_methodNamed Bd.named Bd.method).1
  have X0 : Stand p l e ({ frames := 0, cells := 0, slots := 0, locals := 0 } : Room) s m #[(.ref o0), (.ref o1), (.int (1 : Int32)), (.int (3 : Int32))] below meth c s₁ [] 0 0 := Stand.of_body Bd
  have e0 : s₁.heap = h0 := by rw [← hh, Bd.state]; rfl
  have N0 := Fr.nil n0
  have hret := Bd.returns
  have hlk := BodyLoose.notSynchronized Bd
  show own_Out p e below (fun o U' => ∃ v L, o = .returned v ∧ Q6p13 Z o0 o1 k0 k1 f0 f1 f2 f3 c0 c1 c2 c3 h0 n0 v U'.heap L ∧ FrameEnd s o U' L ({ frames := 0, cells := 0, slots := 0, locals := 0 } : Room).cells ({ frames := 0, cells := 0, slots := 0, locals := 0 } : Room).slots) (s₁.setTop (entryFrame m #[(.ref o0), (.ref o1), (.int (1 : Int32)), (.int (3 : Int32))] 4))
  refine own_of (fun t k => castTop (ef_6p13 m o0 o1) k) ?_
  show own_Out p e below _ (s₁.setTop (mkF m 0 #[rv o0, rv o1, iv 1, iv 3] []))
  refine o_aloadN X0 hx hby d6_0 rfl rfl (q := 1) rfl ?_
  refine o_iloadN X0 hx hby d6_1 rfl (q := 2) rfl ?_
  refine o_iaV X0 hx hby hZ e0 V0 ⟨by decide, by decide⟩ (v := .int f1) rfl d6_2 (q := 3) rfl ?_
  refine o_aloadN X0 hx hby d6_3 rfl rfl (q := 4) rfl ?_
  refine o_iloadN X0 hx hby d6_4 rfl (q := 5) rfl ?_
  refine o_iaV X0 hx hby hZ e0 V0 ⟨by decide, by decide⟩ (v := .int f3) rfl d6_5 (q := 6) rfl ?_
  by_cases hc6_1 : f1 = f3
  · skip
    refine o_icN X0 hx hby d6_6 (teq hc6_1).2 (q := 9) rfl ?_
    refine o_aloadN X0 hx hby d6_9 rfl rfl (q := 10) rfl ?_
    refine o_iloadN X0 hx hby d6_10 rfl (q := 11) rfl ?_
    refine o_iaV X0 hx hby hZ e0 V1 ⟨by decide, by decide⟩ (v := .int c1) rfl d6_11 (q := 12) rfl ?_
    refine o_aloadN X0 hx hby d6_12 rfl rfl (q := 13) rfl ?_
    refine o_iloadN X0 hx hby d6_13 rfl (q := 14) rfl ?_
    refine o_iaV X0 hx hby hZ e0 V1 ⟨by decide, by decide⟩ (v := .int c3) rfl d6_14 (q := 15) rfl ?_
    by_cases hc15_2 : c1 = c3
    · skip
      refine o_icN X0 hx hby d6_15 (teq hc15_2).2 (q := 18) rfl ?_
      refine o_iconst X0 hx hby d6_18 (z := 1) rfl (q := 19) rfl ?_
      refine o_goto X0 hx hby d6_19 (by decide) (q := 23) (by decide) ?_
      exact own_outN X0 hx hlk (t := .boolean) hret (by simp) (hb hby d6_23) (z' := (1 : Int32)) rfl (Q := Q6p13 Z o0 o1 k0 k1 f0 f1 f2 f3 c0 c1 c2 c3 h0 n0) ⟨by simp only [fp13, if_pos hc6_1, if_pos hc15_2], N0, e0⟩ (by decide) (by decide)
    · skip
      refine o_icY X0 hx hby d6_15 (feq hc15_2).2 (by decide) (q := 22) (by decide) ?_
      refine o_iconst X0 hx hby d6_22 (z := 0) rfl (q := 23) rfl ?_
      exact own_outN X0 hx hlk (t := .boolean) hret (by simp) (hb hby d6_23) (z' := (0 : Int32)) rfl (Q := Q6p13 Z o0 o1 k0 k1 f0 f1 f2 f3 c0 c1 c2 c3 h0 n0) ⟨by simp only [fp13, if_pos hc6_1, if_neg hc15_2], N0, e0⟩ (by decide) (by decide)
  · skip
    refine o_icY X0 hx hby d6_6 (feq hc6_1).2 (by decide) (q := 18) (by decide) ?_
    refine o_iconst X0 hx hby d6_18 (z := 1) rfl (q := 19) rfl ?_
    refine o_goto X0 hx hby d6_19 (by decide) (q := 23) (by decide) ?_
    exact own_outN X0 hx hlk (t := .boolean) hret (by simp) (hb hby d6_23) (z' := (1 : Int32)) rfl (Q := Q6p13 Z o0 o1 k0 k1 f0 f1 f2 f3 c0 c1 c2 c3 h0 n0) ⟨by simp only [fp13, if_neg hc6_1], N0, e0⟩ (by decide) (by decide)
theorem ef_6p23 (m : MethodId) (x0 : Addr) (x1 : Addr) : entryFrame m #[(.ref x0), (.ref x1), (.int (2 : Int32)), (.int (3 : Int32))] 4 = mkF m 0 #[.val (.ref x0), .val (.ref x1), .val (.int (2 : Int32)), .val (.int (3 : Int32))] [] := by first | (simp [entryFrame, mkF, argsToLocals, Value.category]; done) | rfl
def fp23 (f0 : Int32) (f1 : Int32) (f2 : Int32) (f3 : Int32) (c0 : Int32) (c1 : Int32) (c2 : Int32) (c3 : Int32) : Int32 := if f2 = f3 then (if c2 = c3 then (1 : Int32)
    else (0 : Int32))
  else (1 : Int32)
def Q6p23 (Z : State) (o0 : Addr) (o1 : Addr) (k0 : ClassId) (k1 : ClassId) (f0 : Int32) (f1 : Int32) (f2 : Int32) (f3 : Int32) (c0 : Int32) (c1 : Int32) (c2 : Int32) (c3 : Int32) (h0 : Heap) (n0 : Nat) (v : Option Value) (h : Heap) (L : List Loc) : Prop := v = some (.int (fp23 f0 f1 f2 f3 c0 c1 c2 c3)) ∧ Fr n0 L ∧ h = h0
set_option maxRecDepth 65536 in
set_option maxHeartbeats 40000000 in
theorem rm6p23 (l : Launch) (Z : State) (a0 : Array Value) (hw : ∀ d ∈ tables_1, d.before a0 Z = true) (ws : List Jvm.Cond) (o0 : Addr) (o1 : Addr) (k0 : ClassId) (k1 : ClassId) (f0 : Int32) (f1 : Int32) (f2 : Int32) (f3 : Int32) (c0 : Int32) (c1 : Int32) (c2 : Int32) (c3 : Int32) (h0 : Heap) (n0 : Nat) (Z0 : n0 ≤ h0.size) (V0 : Arv Z h0 o0 k0 .int (4 : Int32) [(.int f0), (.int f1), (.int f2), (.int f3)] (.int (0 : Int32))) (V1 : Arv Z h0 o1 k1 .int (4 : Int32) [(.int c0), (.int c1), (.int c2), (.int c3)] (.int (0 : Int32))) :
    MetFree l (⟨"com/example/slimc/slimc/game/ObservationRefinesPinLaw", "pairOk", "([I[III)Z"⟩ : MethodName) (head1 (Jvm.Cond.code (⟨"com/example/slimc/slimc/game/ObservationRefinesPinLaw", "pairOk", "([I[III)Z"⟩ : MethodName) method_4_code 4 (some .boolean) :: ws) ({ frames := 0, cells := 0, slots := 0, locals := 0 } : Room)) (fun a U => a = #[(.ref o0), (.ref o1), (.int (2 : Int32)), (.int (3 : Int32))] ∧ Z.Warmed39 U.vm ∧ U.heap = h0) (fun _ _ _ _ _ => True) (fun _ U o U' => ∃ v L, o = .returned v ∧ Q6p23 Z o0 o1 k0 k1 f0 f1 f2 f3 c0 c1 c2 c3 h0 n0 v U'.heap L ∧ FrameEnd U o U' L ({ frames := 0, cells := 0, slots := 0, locals := 0 } : Room).cells ({ frames := 0, cells := 0, slots := 0, locals := 0 } : Room).slots) := by
  refine MetFree.of_bodySF (plainFor_of_name pn_0) hisR ?_
  intro p e s m args below meth c s₁ Bd hml0 hP hK
  obtain ⟨rfl, hZ, hh⟩ := hP
  have hx := Bd.exec
  have hby := Bd.bytes
  have hml : c.maxLocals = 4 := hml0
  have hown : s.vm.findClass "com/example/slimc/slimc/game/ObservationRefinesPinLaw" = some m.cls := findClass_of_methodNamed Bd.named
  have hnm := (name_of_methodNamed Bd.named Bd.method).1
  have X0 : Stand p l e ({ frames := 0, cells := 0, slots := 0, locals := 0 } : Room) s m #[(.ref o0), (.ref o1), (.int (2 : Int32)), (.int (3 : Int32))] below meth c s₁ [] 0 0 := Stand.of_body Bd
  have e0 : s₁.heap = h0 := by rw [← hh, Bd.state]; rfl
  have N0 := Fr.nil n0
  have hret := Bd.returns
  have hlk := BodyLoose.notSynchronized Bd
  show own_Out p e below (fun o U' => ∃ v L, o = .returned v ∧ Q6p23 Z o0 o1 k0 k1 f0 f1 f2 f3 c0 c1 c2 c3 h0 n0 v U'.heap L ∧ FrameEnd s o U' L ({ frames := 0, cells := 0, slots := 0, locals := 0 } : Room).cells ({ frames := 0, cells := 0, slots := 0, locals := 0 } : Room).slots) (s₁.setTop (entryFrame m #[(.ref o0), (.ref o1), (.int (2 : Int32)), (.int (3 : Int32))] 4))
  refine own_of (fun t k => castTop (ef_6p23 m o0 o1) k) ?_
  show own_Out p e below _ (s₁.setTop (mkF m 0 #[rv o0, rv o1, iv 2, iv 3] []))
  refine o_aloadN X0 hx hby d6_0 rfl rfl (q := 1) rfl ?_
  refine o_iloadN X0 hx hby d6_1 rfl (q := 2) rfl ?_
  refine o_iaV X0 hx hby hZ e0 V0 ⟨by decide, by decide⟩ (v := .int f2) rfl d6_2 (q := 3) rfl ?_
  refine o_aloadN X0 hx hby d6_3 rfl rfl (q := 4) rfl ?_
  refine o_iloadN X0 hx hby d6_4 rfl (q := 5) rfl ?_
  refine o_iaV X0 hx hby hZ e0 V0 ⟨by decide, by decide⟩ (v := .int f3) rfl d6_5 (q := 6) rfl ?_
  by_cases hc6_1 : f2 = f3
  · skip
    refine o_icN X0 hx hby d6_6 (teq hc6_1).2 (q := 9) rfl ?_
    refine o_aloadN X0 hx hby d6_9 rfl rfl (q := 10) rfl ?_
    refine o_iloadN X0 hx hby d6_10 rfl (q := 11) rfl ?_
    refine o_iaV X0 hx hby hZ e0 V1 ⟨by decide, by decide⟩ (v := .int c2) rfl d6_11 (q := 12) rfl ?_
    refine o_aloadN X0 hx hby d6_12 rfl rfl (q := 13) rfl ?_
    refine o_iloadN X0 hx hby d6_13 rfl (q := 14) rfl ?_
    refine o_iaV X0 hx hby hZ e0 V1 ⟨by decide, by decide⟩ (v := .int c3) rfl d6_14 (q := 15) rfl ?_
    by_cases hc15_2 : c2 = c3
    · skip
      refine o_icN X0 hx hby d6_15 (teq hc15_2).2 (q := 18) rfl ?_
      refine o_iconst X0 hx hby d6_18 (z := 1) rfl (q := 19) rfl ?_
      refine o_goto X0 hx hby d6_19 (by decide) (q := 23) (by decide) ?_
      exact own_outN X0 hx hlk (t := .boolean) hret (by simp) (hb hby d6_23) (z' := (1 : Int32)) rfl (Q := Q6p23 Z o0 o1 k0 k1 f0 f1 f2 f3 c0 c1 c2 c3 h0 n0) ⟨by simp only [fp23, if_pos hc6_1, if_pos hc15_2], N0, e0⟩ (by decide) (by decide)
    · skip
      refine o_icY X0 hx hby d6_15 (feq hc15_2).2 (by decide) (q := 22) (by decide) ?_
      refine o_iconst X0 hx hby d6_22 (z := 0) rfl (q := 23) rfl ?_
      exact own_outN X0 hx hlk (t := .boolean) hret (by simp) (hb hby d6_23) (z' := (0 : Int32)) rfl (Q := Q6p23 Z o0 o1 k0 k1 f0 f1 f2 f3 c0 c1 c2 c3 h0 n0) ⟨by simp only [fp23, if_pos hc6_1, if_neg hc15_2], N0, e0⟩ (by decide) (by decide)
  · skip
    refine o_icY X0 hx hby d6_6 (feq hc6_1).2 (by decide) (q := 18) (by decide) ?_
    refine o_iconst X0 hx hby d6_18 (z := 1) rfl (q := 19) rfl ?_
    refine o_goto X0 hx hby d6_19 (by decide) (q := 23) (by decide) ?_
    exact own_outN X0 hx hlk (t := .boolean) hret (by simp) (hb hby d6_23) (z' := (1 : Int32)) rfl (Q := Q6p23 Z o0 o1 k0 k1 f0 f1 f2 f3 c0 c1 c2 c3 h0 n0) ⟨by simp only [fp23, if_neg hc6_1], N0, e0⟩ (by decide) (by decide)
theorem own_rem (x d : Int32) (D : Int) (hd : d.toInt = D) (h0 : 0 < D) : 0 ≤ ((x &&& (255 : Int32)) % d).toInt ∧ ((x &&& (255 : Int32)) % d).toInt < D := by
  have h := c_mask x 255 8 (by decide) (by decide)
  have r := (c_irem (x &&& (255 : Int32)) d D hd).1 (by omega)
  rw [r]; exact ⟨Int.emod_nonneg _ (by omega), Int.emod_lt_of_pos _ h0⟩
theorem own_c2 {z x : Int32} (h : z = ((x &&& (255 : Int32)) % (2 : Int32))) : z = 0 ∨ z = 1 := by
  have r := own_rem x 2 2 rfl (by decide); rw [← h] at r
  simp only [← Int32.toInt_inj]; show z.toInt = 0 ∨ z.toInt = 1; omega
theorem own_c3 {z x : Int32} (h : z = ((x &&& (255 : Int32)) % (3 : Int32))) : z = 0 ∨ z = 1 ∨ z = 2 := by
  have r := own_rem x 3 3 rfl (by decide); rw [← h] at r
  simp only [← Int32.toInt_inj]; show z.toInt = 0 ∨ z.toInt = 1 ∨ z.toInt = 2; omega
theorem own_c4 {z x : Int32} (h : z = ((x &&& (255 : Int32)) % (4 : Int32))) : z = 0 ∨ z = 1 ∨ z = 2 ∨ z = 3 := by
  have r := own_rem x 4 4 rfl (by decide); rw [← h] at r
  simp only [← Int32.toInt_inj]; show z.toInt = 0 ∨ z.toInt = 1 ∨ z.toInt = 2 ∨ z.toInt = 3; omega
theorem own_max0 {a x : Int32} {D : Int} (h : 0 ≤ a.toInt ∧ a.toInt < D) (g : 0 ≤ x.toInt ∧ x.toInt < D) : 0 ≤ (fmax a x).toInt ∧ (fmax a x).toInt < D := by
  unfold fmax; split <;> assumption
theorem own_p2 {a : Int32} (h : 0 ≤ a.toInt ∧ a.toInt < 4) : (a + (2 : Int32)).toInt = a.toInt + 2 := by
  have n2 : (2 : Int32).toInt = 2 := rfl
  have e := c_iadd a 2; have r := rng32 (a + (2 : Int32)); omega
theorem own_nz {a : Int32} (h : 0 ≤ a.toInt ∧ a.toInt < 4) : (a + (2 : Int32)) ≠ 0 := fun q => by
  have e := own_p2 h; rw [q] at e; have n0 : (0 : Int32).toInt = 0 := rfl; omega
theorem own_m1 (x : Int32) : 0 ≤ (fmax (0 : Int32) ((x &&& (255 : Int32)) % (2 : Int32))).toInt ∧ (fmax (0 : Int32) ((x &&& (255 : Int32)) % (2 : Int32))).toInt < 2 := own_max0 (by decide) (own_rem x 2 2 rfl (by decide))
theorem own_r2 {a x : Int32} (h : 0 ≤ a.toInt ∧ a.toInt < 2) : 0 ≤ ((x &&& (255 : Int32)) % (a + (2 : Int32))).toInt ∧ ((x &&& (255 : Int32)) % (a + (2 : Int32))).toInt < 4 := by
  have e := own_p2 (a := a) (by omega)
  have r := own_rem x (a + (2 : Int32)) _ e (by omega)
  omega
theorem own_w {a : Int32} (h : 0 ≤ a.toInt ∧ a.toInt < 2) : 0 ≤ a.toInt ∧ a.toInt < 4 := ⟨h.1, by omega⟩
def pf1 (p0 : Int32) : Int32 := ((p0 &&& (255 : Int32)) % (2 : Int32))
def pf2 (p0 : Int32) : Int32 := ((((p0.toUInt32 >>> ((8 : Int32) &&& 31).toUInt32).toInt32) &&& (255 : Int32)) % ((fmax (0 : Int32) (pf1 p0)) + (2 : Int32)))
def pf3 (p0 : Int32) : Int32 := ((((p0.toUInt32 >>> ((16 : Int32) &&& 31).toUInt32).toInt32) &&& (255 : Int32)) % ((fmax (fmax (0 : Int32) (pf1 p0)) (pf2 p0)) + (2 : Int32)))
theorem d1_0 : decode method_2_code 0 = .ok (.iconst 4, 1) := by decide +kernel
theorem d1_1 : decode method_2_code 1 = .ok (.newarray .int, 2) := by decide +kernel
theorem d1_3 : decode method_2_code 3 = .ok (.astore_n 1, 1) := by decide +kernel
theorem d1_4 : decode method_2_code 4 = .ok (.aload_n 1, 1) := by decide +kernel
theorem d1_5 : decode method_2_code 5 = .ok (.iconst 0, 1) := by decide +kernel
theorem d1_6 : decode method_2_code 6 = .ok (.iconst 0, 1) := by decide +kernel
theorem d1_7 : decode method_2_code 7 = .ok (.iastore, 1) := by decide +kernel
theorem d1_8 : decode method_2_code 8 = .ok (.iconst 0, 1) := by decide +kernel
theorem d1_9 : decode method_2_code 9 = .ok (.istore_n 2, 1) := by decide +kernel
theorem d1_10 : decode method_2_code 10 = .ok (.aload_n 1, 1) := by decide +kernel
theorem d1_11 : decode method_2_code 11 = .ok (.iconst 1, 1) := by decide +kernel
theorem d1_12 : decode method_2_code 12 = .ok (.iload_n 0, 1) := by decide +kernel
theorem d1_13 : decode method_2_code 13 = .ok (.sipush 255, 3) := by decide +kernel
theorem d1_16 : decode method_2_code 16 = .ok (.iand, 1) := by decide +kernel
theorem d1_17 : decode method_2_code 17 = .ok (.iload_n 2, 1) := by decide +kernel
theorem d1_18 : decode method_2_code 18 = .ok (.iconst 2, 1) := by decide +kernel
theorem d1_19 : decode method_2_code 19 = .ok (.iadd, 1) := by decide +kernel
theorem d1_20 : decode method_2_code 20 = .ok (.irem, 1) := by decide +kernel
theorem d1_21 : decode method_2_code 21 = .ok (.iastore, 1) := by decide +kernel
theorem d1_22 : decode method_2_code 22 = .ok (.iload_n 2, 1) := by decide +kernel
theorem d1_23 : decode method_2_code 23 = .ok (.aload_n 1, 1) := by decide +kernel
theorem d1_24 : decode method_2_code 24 = .ok (.iconst 1, 1) := by decide +kernel
theorem d1_25 : decode method_2_code 25 = .ok (.iaload, 1) := by decide +kernel
theorem d1_26 : decode method_2_code 26 = .ok (.invokestatic 7, 3) := by decide +kernel
theorem d1_29 : decode method_2_code 29 = .ok (.istore_n 2, 1) := by decide +kernel
theorem d1_30 : decode method_2_code 30 = .ok (.aload_n 1, 1) := by decide +kernel
theorem d1_31 : decode method_2_code 31 = .ok (.iconst 2, 1) := by decide +kernel
theorem d1_32 : decode method_2_code 32 = .ok (.iload_n 0, 1) := by decide +kernel
theorem d1_33 : decode method_2_code 33 = .ok (.bipush 8, 2) := by decide +kernel
theorem d1_35 : decode method_2_code 35 = .ok (.iushr, 1) := by decide +kernel
theorem d1_36 : decode method_2_code 36 = .ok (.sipush 255, 3) := by decide +kernel
theorem d1_39 : decode method_2_code 39 = .ok (.iand, 1) := by decide +kernel
theorem d1_40 : decode method_2_code 40 = .ok (.iload_n 2, 1) := by decide +kernel
theorem d1_41 : decode method_2_code 41 = .ok (.iconst 2, 1) := by decide +kernel
theorem d1_42 : decode method_2_code 42 = .ok (.iadd, 1) := by decide +kernel
theorem d1_43 : decode method_2_code 43 = .ok (.irem, 1) := by decide +kernel
theorem d1_44 : decode method_2_code 44 = .ok (.iastore, 1) := by decide +kernel
theorem d1_45 : decode method_2_code 45 = .ok (.iload_n 2, 1) := by decide +kernel
theorem d1_46 : decode method_2_code 46 = .ok (.aload_n 1, 1) := by decide +kernel
theorem d1_47 : decode method_2_code 47 = .ok (.iconst 2, 1) := by decide +kernel
theorem d1_48 : decode method_2_code 48 = .ok (.iaload, 1) := by decide +kernel
theorem d1_49 : decode method_2_code 49 = .ok (.invokestatic 7, 3) := by decide +kernel
theorem d1_52 : decode method_2_code 52 = .ok (.istore_n 2, 1) := by decide +kernel
theorem d1_53 : decode method_2_code 53 = .ok (.aload_n 1, 1) := by decide +kernel
theorem d1_54 : decode method_2_code 54 = .ok (.iconst 3, 1) := by decide +kernel
theorem d1_55 : decode method_2_code 55 = .ok (.iload_n 0, 1) := by decide +kernel
theorem d1_56 : decode method_2_code 56 = .ok (.bipush 16, 2) := by decide +kernel
theorem d1_58 : decode method_2_code 58 = .ok (.iushr, 1) := by decide +kernel
theorem d1_59 : decode method_2_code 59 = .ok (.sipush 255, 3) := by decide +kernel
theorem d1_62 : decode method_2_code 62 = .ok (.iand, 1) := by decide +kernel
theorem d1_63 : decode method_2_code 63 = .ok (.iload_n 2, 1) := by decide +kernel
theorem d1_64 : decode method_2_code 64 = .ok (.iconst 2, 1) := by decide +kernel
theorem d1_65 : decode method_2_code 65 = .ok (.iadd, 1) := by decide +kernel
theorem d1_66 : decode method_2_code 66 = .ok (.irem, 1) := by decide +kernel
theorem d1_67 : decode method_2_code 67 = .ok (.iastore, 1) := by decide +kernel
theorem d1_68 : decode method_2_code 68 = .ok (.aload_n 1, 1) := by decide +kernel
theorem d1_69 : decode method_2_code 69 = .ok (.areturn, 1) := by decide +kernel
theorem ef_1 (m : MethodId) (x0 : Int32) : entryFrame m #[(.int x0)] 3 = mkF m 0 #[.val (.int x0), .unset, .unset] [] := by first | (simp [entryFrame, mkF, argsToLocals, Value.category]; done) | rfl
def Q1 (Z : State) (p0 : Int32) (h0 : Heap) (n0 : Nat) (v : Option Value) (h : Heap) (L : List Loc) : Prop := ∃ (r : Addr) (k : ClassId), v = some (.ref r) ∧ Fr n0 L ∧ Keep h0 h [] ∧ Arv Z h r k .int (4 : Int32) [(.int (0 : Int32)), (.int (pf1 p0)), (.int (pf2 p0)), (.int (pf3 p0))] (.int (0 : Int32)) ∧ n0 ≤ r ∧ h0.size ≤ r
set_option maxRecDepth 65536 in
set_option maxHeartbeats 40000000 in
theorem rm1 (l : Launch) (Z : State) (a0 : Array Value) (hw : ∀ d ∈ tables_1, d.before a0 Z = true) (ws : List Jvm.Cond) (p0 : Int32) (h0 : Heap) (n0 : Nat) (Z0 : n0 ≤ h0.size) :
    MetFree l (⟨"com/example/slimc/slimc/game/ObservationRefinesPinLaw", "partition", "(I)[I"⟩ : MethodName) (head1 (Jvm.Cond.code (⟨"com/example/slimc/slimc/game/ObservationRefinesPinLaw", "partition", "(I)[I"⟩ : MethodName) method_2_code 3 (some (.array .int)) :: ws) ({ frames := 1, cells := 1, slots := 4, locals := 13 } : Room)) (fun a U => a = #[(.int p0)] ∧ Z.Warmed39 U.vm ∧ U.heap = h0) (fun _ _ _ _ _ => True) (fun _ U o U' => ∃ v L, o = .returned v ∧ Q1 Z p0 h0 n0 v U'.heap L ∧ FrameEnd U o U' L ({ frames := 1, cells := 1, slots := 4, locals := 13 } : Room).cells ({ frames := 1, cells := 1, slots := 4, locals := 13 } : Room).slots) := by
  refine MetFree.of_bodySF (plainFor_of_name pn_0) hisR ?_
  intro p e s m args below meth c s₁ Bd hml0 hP hK
  obtain ⟨rfl, hZ, hh⟩ := hP
  have hx := Bd.exec
  have hby := Bd.bytes
  have hml : c.maxLocals = 3 := hml0
  have hown : s.vm.findClass "com/example/slimc/slimc/game/ObservationRefinesPinLaw" = some m.cls := findClass_of_methodNamed Bd.named
  have hnm := (name_of_methodNamed Bd.named Bd.method).1
  have X0 : Stand p l e ({ frames := 1, cells := 1, slots := 4, locals := 13 } : Room) s m #[(.int p0)] below meth c s₁ [] 0 0 := Stand.of_body Bd
  have e0 : s₁.heap = h0 := by rw [← hh, Bd.state]; rfl
  have N0 := Fr.nil n0
  have hret := Bd.returns
  have hlk := BodyLoose.notSynchronized Bd
  show own_Out p e below (fun o U' => ∃ v L, o = .returned v ∧ Q1 Z p0 h0 n0 v U'.heap L ∧ FrameEnd s o U' L ({ frames := 1, cells := 1, slots := 4, locals := 13 } : Room).cells ({ frames := 1, cells := 1, slots := 4, locals := 13 } : Room).slots) (s₁.setTop (entryFrame m #[(.int p0)] 3))
  refine own_of (fun t k => castTop (ef_1 m p0) k) ?_
  show own_Out p e below _ (s₁.setTop (mkF m 0 #[iv p0, .unset, .unset] []))
  refine o_iconst X0 hx hby d1_0 (z := 4) rfl (q := 1) rfl ?_
  obtain ⟨T1, h1, k1, X1, e1, E1, A1, st1⟩ := newP X0 hx hZ (w_ hw 4 rfl) e0 (g := (mkF m 1 #[iv p0, .unset, .unset] [.int 4])) rfl (hb hby d1_1) rfl (by decide) (cap := 4) (by decide) (by decide) (by decide) (by decide)
  obtain ⟨b1, g1⟩ : ∃ z, z = h0.size := ⟨_, rfl⟩
  rw [← g1] at A1 st1
  have g_b1 : n0 ≤ b1 := Nat.le_trans Z0 (Nat.le_of_eq g1.symm)
  have sz_b1 : h0.size ≤ b1 := Nat.le_trans (Nat.le_refl h0.size) (Nat.le_of_eq g1.symm)
  have V_b1 : Arv Z h1 b1 k1 .int (4 : Int32) [(.int (0 : Int32)), (.int (0 : Int32)), (.int (0 : Int32)), (.int (0 : Int32))] (.int (0 : Int32)) := (Arv.new A1 (by decide)).pad (pad_rep [] (.int (0 : Int32)) 4)
  refine own_of st1 ?_
  show own_Out p e below _ (T1.setTop (mkF m 3 #[iv p0, .unset, .unset] [.ref b1]))
  refine o_astoreN X1 hx hby d1_3 rfl (l' := #[iv p0, rv b1, .unset]) rfl (q := 4) rfl ?_
  refine o_aloadN X1 hx hby d1_4 rfl rfl (q := 5) rfl ?_
  refine o_iconst X1 hx hby d1_5 (z := 0) rfl (q := 6) rfl ?_
  refine o_iconst X1 hx hby d1_6 (z := 0) rfl (q := 7) rfl ?_
  refine o_stV X1 hx hby hZ e1 V_b1 ⟨by decide, by decide⟩ 0 rfl (Nat.le_of_ble_eq_true rfl) d1_7 (q := 8) rfl fun T2 h2 X2 e2 W2 V2 => ?_
  refine o_iconst X2 hx hby d1_8 (z := 0) rfl (q := 9) rfl ?_
  refine o_istoreN X2 hx hby d1_9 (l' := #[iv p0, rv b1, iv 0]) rfl (q := 10) rfl ?_
  refine o_aloadN X2 hx hby d1_10 rfl rfl (q := 11) rfl ?_
  refine o_iconst X2 hx hby d1_11 (z := 1) rfl (q := 12) rfl ?_
  refine o_iloadN X2 hx hby d1_12 rfl (q := 13) rfl ?_
  refine o_sipush X2 hx hby d1_13 (z := 255) rfl (q := 16) rfl ?_
  refine o_iand X2 hx hby d1_16 rfl (q := 17) rfl ?_
  refine o_iloadN X2 hx hby d1_17 rfl (q := 18) rfl ?_
  refine o_iconst X2 hx hby d1_18 (z := 2) rfl (q := 19) rfl ?_
  refine o_iadd X2 hx hby d1_19 (z := 2) rfl (q := 20) rfl ?_
  refine o_irem X2 hx hby d1_20 (by decide) (q := 21) rfl ?_
  refine o_stV X2 hx hby hZ e2 V2 ⟨by decide, by decide⟩ 1 rfl (Nat.le_of_ble_eq_true rfl) d1_21 (q := 22) rfl fun T3 h3 X3 e3 W3 V3 => ?_
  refine o_iloadN X3 hx hby d1_22 rfl (q := 23) rfl ?_
  refine o_aloadN X3 hx hby d1_23 rfl rfl (q := 24) rfl ?_
  refine o_iconst X3 hx hby d1_24 (z := 1) rfl (q := 25) rfl ?_
  refine o_iaV X3 hx hby hZ e3 V3 ⟨by decide, by decide⟩ (v := .int ((p0 &&& (255 : Int32)) % (2 : Int32))) rfl d1_25 (q := 26) rfl ?_
  have q5 := (Nat.le_trans (Nat.le_trans (Nat.le_trans Z0 E1.1) (Keep.of_wr W2).1) (Keep.of_wr W3).1)
  obtain ⟨_, _, ⟨T4, L4, k4, n4⟩, -, X4, ⟨Lc4, hQ4, l4, y4, z4⟩, st4⟩ := Jvm.LawKit.callS X3 hx (y := (⟨"java/lang/Math", "max", "(II)I"⟩ : MethodName)) hown (mvT hZ (w_ hw 5 rfl)) (mvT hZ (w_ hw 6 rfl)) (mvT hZ (w_ hw 7 rfl)) (mvT hZ (w_ hw 8 rfl)) (by decide) (backOf (W := 0) (rm2 l Z a0 hw [] (0 : Int32) ((p0 &&& (255 : Int32)) % (2 : Int32)) h3 n0 q5 ) hZ (w_ hw 8 rfl) (w_ hw 7 rfl) (by decide) (by decide)) (g := (mkF m 26 #[iv p0, rv b1, iv 0] [.int ((p0 &&& (255 : Int32)) % (2 : Int32)), .int 0])) rfl (by rw [hml]; rfl) (argsL := [(.int (0 : Int32)), (.int ((p0 &&& (255 : Int32)) % (2 : Int32)))]) (rest := []) (lenOf pd_0 rfl) rfl (by show 2 * 0 + _ ≤ _; exact Nat.le_of_eq rfl) (hb hby d1_26) (fun _ _ => ⟨rfl, e3, (by decide : 1 + 0 ≤ _), (by decide : 4 + 0 ≤ _)⟩)
  dsimp only [Pt.U, Pt.locs, Pt.cells, Pt.slots] at X4 l4 y4 z4 st4 hQ4
  subst l4 y4 z4
  obtain ⟨rfl, N4q, hh4⟩ := hQ4
  have N4 := Fr.app (Fr.snoc X3 (Fr.snoc X2 N0 g_b1) g_b1) N4q
  refine own_of st4 ?_
  show own_Out p e below _ (T4.setTop (mkF m 29 #[iv p0, rv b1, iv 0] [.int (fmax (0 : Int32) ((p0 &&& (255 : Int32)) % (2 : Int32)))]))
  refine o_istoreN X4 hx hby d1_29 (l' := #[iv p0, rv b1, iv (fmax (0 : Int32) ((p0 &&& (255 : Int32)) % (2 : Int32)))]) rfl (q := 30) rfl ?_
  refine o_aloadN X4 hx hby d1_30 rfl rfl (q := 31) rfl ?_
  refine o_iconst X4 hx hby d1_31 (z := 2) rfl (q := 32) rfl ?_
  refine o_iloadN X4 hx hby d1_32 rfl (q := 33) rfl ?_
  refine o_bipush X4 hx hby d1_33 (z := 8) rfl (q := 35) rfl ?_
  refine o_iushr X4 hx hby d1_35 rfl (q := 36) rfl ?_
  refine o_sipush X4 hx hby d1_36 (z := 255) rfl (q := 39) rfl ?_
  refine o_iand X4 hx hby d1_39 rfl (q := 40) rfl ?_
  refine o_iloadN X4 hx hby d1_40 rfl (q := 41) rfl ?_
  refine o_iconst X4 hx hby d1_41 (z := 2) rfl (q := 42) rfl ?_
  refine o_iadd X4 hx hby d1_42 rfl (q := 43) rfl ?_
  refine o_irem X4 hx hby d1_43 (own_nz (own_w (own_m1 _))) (q := 44) rfl ?_
  refine o_stV X4 hx hby hZ hh4 V3 ⟨by decide, by decide⟩ 2 rfl (Nat.le_of_ble_eq_true rfl) d1_44 (q := 45) rfl fun T6 h6 X6 e6 W6 V6 => ?_
  refine o_iloadN X6 hx hby d1_45 rfl (q := 46) rfl ?_
  refine o_aloadN X6 hx hby d1_46 rfl rfl (q := 47) rfl ?_
  refine o_iconst X6 hx hby d1_47 (z := 2) rfl (q := 48) rfl ?_
  refine o_iaV X6 hx hby hZ e6 V6 ⟨by decide, by decide⟩ (v := .int ((((p0.toUInt32 >>> ((8 : Int32) &&& 31).toUInt32).toInt32) &&& (255 : Int32)) % ((fmax (0 : Int32) ((p0 &&& (255 : Int32)) % (2 : Int32))) + (2 : Int32)))) rfl d1_48 (q := 49) rfl ?_
  have q8 := (Nat.le_trans q5 (Keep.of_wr W6).1)
  obtain ⟨_, _, ⟨T7, L7, k7, n7⟩, -, X7, ⟨Lc7, hQ7, l7, y7, z7⟩, st7⟩ := Jvm.LawKit.callS X6 hx (y := (⟨"java/lang/Math", "max", "(II)I"⟩ : MethodName)) hown (mvT hZ (w_ hw 5 rfl)) (mvT hZ (w_ hw 6 rfl)) (mvT hZ (w_ hw 7 rfl)) (mvT hZ (w_ hw 8 rfl)) (by decide) (backOf (W := 0) (rm2 l Z a0 hw [] (fmax (0 : Int32) ((p0 &&& (255 : Int32)) % (2 : Int32))) ((((p0.toUInt32 >>> ((8 : Int32) &&& 31).toUInt32).toInt32) &&& (255 : Int32)) % ((fmax (0 : Int32) ((p0 &&& (255 : Int32)) % (2 : Int32))) + (2 : Int32))) h6 n0 q8 ) hZ (w_ hw 8 rfl) (w_ hw 7 rfl) (by decide) (by decide)) (g := (mkF m 49 #[iv p0, rv b1, iv (fmax (0 : Int32) ((p0 &&& (255 : Int32)) % (2 : Int32)))] [.int ((((p0.toUInt32 >>> ((8 : Int32) &&& 31).toUInt32).toInt32) &&& (255 : Int32)) % ((fmax (0 : Int32) ((p0 &&& (255 : Int32)) % (2 : Int32))) + (2 : Int32))), .int (fmax (0 : Int32) ((p0 &&& (255 : Int32)) % (2 : Int32)))])) rfl (by rw [hml]; rfl) (argsL := [(.int (fmax (0 : Int32) ((p0 &&& (255 : Int32)) % (2 : Int32)))), (.int ((((p0.toUInt32 >>> ((8 : Int32) &&& 31).toUInt32).toInt32) &&& (255 : Int32)) % ((fmax (0 : Int32) ((p0 &&& (255 : Int32)) % (2 : Int32))) + (2 : Int32))))]) (rest := []) (lenOf pd_0 rfl) rfl (by show 2 * 0 + _ ≤ _; exact Nat.le_of_eq rfl) (hb hby d1_49) (fun _ _ => ⟨rfl, e6, (by decide : 1 + 0 ≤ _), (by decide : 4 + 0 ≤ _)⟩)
  dsimp only [Pt.U, Pt.locs, Pt.cells, Pt.slots] at X7 l7 y7 z7 st7 hQ7
  subst l7 y7 z7
  obtain ⟨rfl, N7q, hh7⟩ := hQ7
  have N7 := Fr.app (Fr.snoc X6 N4 g_b1) N7q
  refine own_of st7 ?_
  show own_Out p e below _ (T7.setTop (mkF m 52 #[iv p0, rv b1, iv (fmax (0 : Int32) ((p0 &&& (255 : Int32)) % (2 : Int32)))] [.int (fmax (fmax (0 : Int32) ((p0 &&& (255 : Int32)) % (2 : Int32))) ((((p0.toUInt32 >>> ((8 : Int32) &&& 31).toUInt32).toInt32) &&& (255 : Int32)) % ((fmax (0 : Int32) ((p0 &&& (255 : Int32)) % (2 : Int32))) + (2 : Int32))))]))
  refine o_istoreN X7 hx hby d1_52 (l' := #[iv p0, rv b1, iv (fmax (fmax (0 : Int32) ((p0 &&& (255 : Int32)) % (2 : Int32))) ((((p0.toUInt32 >>> ((8 : Int32) &&& 31).toUInt32).toInt32) &&& (255 : Int32)) % ((fmax (0 : Int32) ((p0 &&& (255 : Int32)) % (2 : Int32))) + (2 : Int32))))]) rfl (q := 53) rfl ?_
  refine o_aloadN X7 hx hby d1_53 rfl rfl (q := 54) rfl ?_
  refine o_iconst X7 hx hby d1_54 (z := 3) rfl (q := 55) rfl ?_
  refine o_iloadN X7 hx hby d1_55 rfl (q := 56) rfl ?_
  refine o_bipush X7 hx hby d1_56 (z := 16) rfl (q := 58) rfl ?_
  refine o_iushr X7 hx hby d1_58 rfl (q := 59) rfl ?_
  refine o_sipush X7 hx hby d1_59 (z := 255) rfl (q := 62) rfl ?_
  refine o_iand X7 hx hby d1_62 rfl (q := 63) rfl ?_
  refine o_iloadN X7 hx hby d1_63 rfl (q := 64) rfl ?_
  refine o_iconst X7 hx hby d1_64 (z := 2) rfl (q := 65) rfl ?_
  refine o_iadd X7 hx hby d1_65 rfl (q := 66) rfl ?_
  refine o_irem X7 hx hby d1_66 (own_nz (own_max0 (own_w (own_m1 _)) (own_r2 (own_m1 _)))) (q := 67) rfl ?_
  refine o_stV X7 hx hby hZ hh7 V6 ⟨by decide, by decide⟩ 3 rfl (Nat.le_of_ble_eq_true rfl) d1_67 (q := 68) rfl fun T9 h9 X9 e9 W9 V9 => ?_
  refine o_aloadN X9 hx hby d1_68 rfl rfl (q := 69) rfl ?_
  have q10 := ((((((Keep.refl h0 []).ext E1).wr W2 (Or.inr sz_b1)).wr W3 (Or.inr sz_b1)).wr W6 (Or.inr sz_b1)).wr W9 (Or.inr sz_b1))
  exact own_outR X9 hx hlk hret rfl rfl rfl (hb hby d1_69) (Q := Q1 Z p0 h0 n0) (by rw [e9]; exact ⟨b1, k1, rfl, (Fr.snoc X9 N7 g_b1), q10, V9, g_b1, sz_b1⟩) (by decide) (by decide)
def QR (r : Int32) (h0 : Heap) (n0 : Nat) (v : Option Value) (h : Heap) (L : List Loc) : Prop := v = some (.int r) ∧ Fr n0 L ∧ h = h0
def RefOk (Z : State) (h : Heap) (o0 : Addr) (rf : Int32 → Int32 → Int32 → Int32 → Int32) : Prop := ∀ (l : Launch) (a0 : Array Value) (hw : ∀ d ∈ tables_1, d.before a0 Z = true) (ws : List Jvm.Cond) (h1 : Heap) (K : Keep h h1 []) (o1 oc : Addr) (kc : ClassId) (c0 c1 c2 c3 : Int32) (n0 : Nat) (Z0 : n0 ≤ h1.size) (Fc : Fld Z h1 o1 "com/example/slimc/slimc/game/Observation" "classOf" "[I" (.ref oc)) (Vc : Arv Z h1 oc kc .int (4 : Int32) [(.int c0), (.int c1), (.int c2), (.int c3)] (.int (0 : Int32))), MetFree l (⟨"com/example/slimc/slimc/game/Observation", "refines", "(Lcom/example/slimc/slimc/game/Observation;)Z"⟩ : MethodName) (head1 (Jvm.Cond.code (⟨"com/example/slimc/slimc/game/Observation", "refines", "(Lcom/example/slimc/slimc/game/Observation;)Z"⟩ : MethodName) prog_66_method_8_code 10 (some .boolean) :: ws) ({ frames := 0, cells := 0, slots := 0, locals := 0 } : Room)) (fun a U => a = #[(.ref o0), (.ref o1)] ∧ Z.Warmed39 U.vm ∧ U.heap = h1) (fun _ _ _ _ _ => True) (fun _ U o U' => ∃ v L, o = .returned v ∧ QR (rf c0 c1 c2 c3) h1 n0 v U'.heap L ∧ FrameEnd U o U' L ({ frames := 0, cells := 0, slots := 0, locals := 0 } : Room).cells ({ frames := 0, cells := 0, slots := 0, locals := 0 } : Room).slots)
theorem rf_use {h : Heap} {rf : Int32 → Int32 → Int32 → Int32 → Int32} (l : Launch) (Z : State) (a0 : Array Value) (hw : ∀ d ∈ tables_1, d.before a0 Z = true) (ws : List Jvm.Cond) (o0 o1 oc : Addr) (kc : ClassId) (c0 c1 c2 c3 : Int32) (h1 : Heap) (n0 : Nat) (Z0 : n0 ≤ h1.size) (R : RefOk Z h o0 rf) (K : Keep h h1 []) (Fc : Fld Z h1 o1 "com/example/slimc/slimc/game/Observation" "classOf" "[I" (.ref oc)) (Vc : Arv Z h1 oc kc .int (4 : Int32) [(.int c0), (.int c1), (.int c2), (.int c3)] (.int (0 : Int32))) : MetFree l (⟨"com/example/slimc/slimc/game/Observation", "refines", "(Lcom/example/slimc/slimc/game/Observation;)Z"⟩ : MethodName) (head1 (Jvm.Cond.code (⟨"com/example/slimc/slimc/game/Observation", "refines", "(Lcom/example/slimc/slimc/game/Observation;)Z"⟩ : MethodName) prog_66_method_8_code 10 (some .boolean) :: ws) ({ frames := 0, cells := 0, slots := 0, locals := 0 } : Room)) (fun a U => a = #[(.ref o0), (.ref o1)] ∧ Z.Warmed39 U.vm ∧ U.heap = h1) (fun _ _ _ _ _ => True) (fun _ U o U' => ∃ v L, o = .returned v ∧ QR (rf c0 c1 c2 c3) h1 n0 v U'.heap L ∧ FrameEnd U o U' L ({ frames := 0, cells := 0, slots := 0, locals := 0 } : Room).cells ({ frames := 0, cells := 0, slots := 0, locals := 0 } : Room).slots) := R l a0 hw ws h1 K o1 oc kc c0 c1 c2 c3 n0 Z0 Fc Vc
theorem d4_0 : decode prog_66_method_1_code 0 = .ok (.aload_n 0, 1) := by decide +kernel
theorem d4_1 : decode prog_66_method_1_code 1 = .ok (.invokespecial 1, 3) := by decide +kernel
theorem d4_4 : decode prog_66_method_1_code 4 = .ok (.aload_n 0, 1) := by decide +kernel
theorem d4_5 : decode prog_66_method_1_code 5 = .ok (.aload_n 1, 1) := by decide +kernel
theorem d4_6 : decode prog_66_method_1_code 6 = .ok (.putfield 7, 3) := by decide +kernel
theorem d4_9 : decode prog_66_method_1_code 9 = .ok (.aload_n 0, 1) := by decide +kernel
theorem d4_10 : decode prog_66_method_1_code 10 = .ok (.aload_n 2, 1) := by decide +kernel
theorem d4_11 : decode prog_66_method_1_code 11 = .ok (.putfield 13, 3) := by decide +kernel
theorem d4_14 : decode prog_66_method_1_code 14 = .ok (.aload_n 0, 1) := by decide +kernel
theorem d4_15 : decode prog_66_method_1_code 15 = .ok (.iload_n 3, 1) := by decide +kernel
theorem d4_16 : decode prog_66_method_1_code 16 = .ok (.putfield 17, 3) := by decide +kernel
theorem d4_19 : decode prog_66_method_1_code 19 = .ok (.iload_n 3, 1) := by decide +kernel
theorem d4_20 : decode prog_66_method_1_code 20 = .ok (.newarray .int, 2) := by decide +kernel
theorem d4_22 : decode prog_66_method_1_code 22 = .ok (.astore 4, 2) := by decide +kernel
theorem d4_24 : decode prog_66_method_1_code 24 = .ok (.aload_n 2, 1) := by decide +kernel
theorem d4_25 : decode prog_66_method_1_code 25 = .ok (.astore 5, 2) := by decide +kernel
theorem d4_27 : decode prog_66_method_1_code 27 = .ok (.aload 5, 2) := by decide +kernel
theorem d4_29 : decode prog_66_method_1_code 29 = .ok (.arraylength, 1) := by decide +kernel
theorem d4_30 : decode prog_66_method_1_code 30 = .ok (.istore 6, 2) := by decide +kernel
theorem d4_32 : decode prog_66_method_1_code 32 = .ok (.iconst 0, 1) := by decide +kernel
theorem d4_33 : decode prog_66_method_1_code 33 = .ok (.istore 7, 2) := by decide +kernel
theorem d4_35 : decode prog_66_method_1_code 35 = .ok (.iload 7, 2) := by decide +kernel
theorem d4_37 : decode prog_66_method_1_code 37 = .ok (.iload 6, 2) := by decide +kernel
theorem d4_39 : decode prog_66_method_1_code 39 = .ok (.if_icmp .ge 25, 3) := by decide +kernel
theorem d4_42 : decode prog_66_method_1_code 42 = .ok (.aload 5, 2) := by decide +kernel
theorem d4_44 : decode prog_66_method_1_code 44 = .ok (.iload 7, 2) := by decide +kernel
theorem d4_46 : decode prog_66_method_1_code 46 = .ok (.iaload, 1) := by decide +kernel
theorem d4_47 : decode prog_66_method_1_code 47 = .ok (.istore 8, 2) := by decide +kernel
theorem d4_49 : decode prog_66_method_1_code 49 = .ok (.aload 4, 2) := by decide +kernel
theorem d4_51 : decode prog_66_method_1_code 51 = .ok (.iload 8, 2) := by decide +kernel
theorem d4_53 : decode prog_66_method_1_code 53 = .ok (.dup2, 1) := by decide +kernel
theorem d4_54 : decode prog_66_method_1_code 54 = .ok (.iaload, 1) := by decide +kernel
theorem d4_55 : decode prog_66_method_1_code 55 = .ok (.iconst 1, 1) := by decide +kernel
theorem d4_56 : decode prog_66_method_1_code 56 = .ok (.iadd, 1) := by decide +kernel
theorem d4_57 : decode prog_66_method_1_code 57 = .ok (.iastore, 1) := by decide +kernel
theorem d4_58 : decode prog_66_method_1_code 58 = .ok (.iinc 7 1, 3) := by decide +kernel
theorem d4_61 : decode prog_66_method_1_code 61 = .ok (.goto (-26), 3) := by decide +kernel
theorem d4_64 : decode prog_66_method_1_code 64 = .ok (.aload_n 0, 1) := by decide +kernel
theorem d4_65 : decode prog_66_method_1_code 65 = .ok (.iload_n 3, 1) := by decide +kernel
theorem d4_66 : decode prog_66_method_1_code 66 = .ok (.anewarray 21, 3) := by decide +kernel
theorem d4_69 : decode prog_66_method_1_code 69 = .ok (.putfield 22, 3) := by decide +kernel
theorem d4_72 : decode prog_66_method_1_code 72 = .ok (.iconst 0, 1) := by decide +kernel
theorem d4_73 : decode prog_66_method_1_code 73 = .ok (.istore 5, 2) := by decide +kernel
theorem d4_75 : decode prog_66_method_1_code 75 = .ok (.iload 5, 2) := by decide +kernel
theorem d4_77 : decode prog_66_method_1_code 77 = .ok (.iload_n 3, 1) := by decide +kernel
theorem d4_78 : decode prog_66_method_1_code 78 = .ok (.if_icmp .ge 23, 3) := by decide +kernel
theorem d4_81 : decode prog_66_method_1_code 81 = .ok (.aload_n 0, 1) := by decide +kernel
theorem d4_82 : decode prog_66_method_1_code 82 = .ok (.getfield 22, 3) := by decide +kernel
theorem d4_85 : decode prog_66_method_1_code 85 = .ok (.iload 5, 2) := by decide +kernel
theorem d4_87 : decode prog_66_method_1_code 87 = .ok (.aload 4, 2) := by decide +kernel
theorem d4_89 : decode prog_66_method_1_code 89 = .ok (.iload 5, 2) := by decide +kernel
theorem d4_91 : decode prog_66_method_1_code 91 = .ok (.iaload, 1) := by decide +kernel
theorem d4_92 : decode prog_66_method_1_code 92 = .ok (.newarray .int, 2) := by decide +kernel
theorem d4_94 : decode prog_66_method_1_code 94 = .ok (.aastore, 1) := by decide +kernel
theorem d4_95 : decode prog_66_method_1_code 95 = .ok (.iinc 5 1, 3) := by decide +kernel
theorem d4_98 : decode prog_66_method_1_code 98 = .ok (.goto (-23), 3) := by decide +kernel
theorem d4_101 : decode prog_66_method_1_code 101 = .ok (.iload_n 3, 1) := by decide +kernel
theorem d4_102 : decode prog_66_method_1_code 102 = .ok (.newarray .int, 2) := by decide +kernel
theorem d4_104 : decode prog_66_method_1_code 104 = .ok (.astore 5, 2) := by decide +kernel
theorem d4_106 : decode prog_66_method_1_code 106 = .ok (.iconst 0, 1) := by decide +kernel
theorem d4_107 : decode prog_66_method_1_code 107 = .ok (.istore 6, 2) := by decide +kernel
theorem d4_109 : decode prog_66_method_1_code 109 = .ok (.iload 6, 2) := by decide +kernel
theorem d4_111 : decode prog_66_method_1_code 111 = .ok (.aload_n 2, 1) := by decide +kernel
theorem d4_112 : decode prog_66_method_1_code 112 = .ok (.arraylength, 1) := by decide +kernel
theorem d4_113 : decode prog_66_method_1_code 113 = .ok (.if_icmp .ge 33, 3) := by decide +kernel
theorem d4_116 : decode prog_66_method_1_code 116 = .ok (.aload_n 0, 1) := by decide +kernel
theorem d4_117 : decode prog_66_method_1_code 117 = .ok (.getfield 22, 3) := by decide +kernel
theorem d4_120 : decode prog_66_method_1_code 120 = .ok (.aload_n 2, 1) := by decide +kernel
theorem d4_121 : decode prog_66_method_1_code 121 = .ok (.iload 6, 2) := by decide +kernel
theorem d4_123 : decode prog_66_method_1_code 123 = .ok (.iaload, 1) := by decide +kernel
theorem d4_124 : decode prog_66_method_1_code 124 = .ok (.aaload, 1) := by decide +kernel
theorem d4_125 : decode prog_66_method_1_code 125 = .ok (.aload 5, 2) := by decide +kernel
theorem d4_127 : decode prog_66_method_1_code 127 = .ok (.aload_n 2, 1) := by decide +kernel
theorem d4_128 : decode prog_66_method_1_code 128 = .ok (.iload 6, 2) := by decide +kernel
theorem d4_130 : decode prog_66_method_1_code 130 = .ok (.iaload, 1) := by decide +kernel
theorem d4_131 : decode prog_66_method_1_code 131 = .ok (.dup2, 1) := by decide +kernel
theorem d4_132 : decode prog_66_method_1_code 132 = .ok (.iaload, 1) := by decide +kernel
theorem d4_133 : decode prog_66_method_1_code 133 = .ok (.dup_x2, 1) := by decide +kernel
theorem d4_134 : decode prog_66_method_1_code 134 = .ok (.iconst 1, 1) := by decide +kernel
theorem d4_135 : decode prog_66_method_1_code 135 = .ok (.iadd, 1) := by decide +kernel
theorem d4_136 : decode prog_66_method_1_code 136 = .ok (.iastore, 1) := by decide +kernel
theorem d4_137 : decode prog_66_method_1_code 137 = .ok (.iload 6, 2) := by decide +kernel
theorem d4_139 : decode prog_66_method_1_code 139 = .ok (.iastore, 1) := by decide +kernel
theorem d4_140 : decode prog_66_method_1_code 140 = .ok (.iinc 6 1, 3) := by decide +kernel
theorem d4_143 : decode prog_66_method_1_code 143 = .ok (.goto (-34), 3) := by decide +kernel
theorem d4_146 : decode prog_66_method_1_code 146 = .ok (.return_, 1) := by decide +kernel
theorem t1 {p : Program} {l : Launch} {e : Env} {R : Room} {s : State} {m : MethodId} {args : Array Value} {below : List Frame} {meth : Method} {c : Code} {T : State} {locs : List Loc} {cells slots : Nat} {P : Outcome → State → Prop} {Z : State} {h : Heap} {o0 o1 o2 bs : Addr} {cnt n i i' cc y y' : Int32} {s8 : Slot} {k2 ks : ClassId} {v2 vss : List Value} {iN : Nat} (X : Stand p l e R s m args below meth c T locs cells slots) (hx : p.tables.exec = Jvm.exec) (hby : c.code = prog_66_method_1_code) (hZ : Z.Warmed39 s.vm) (eT : T.heap = h) (V2 : Arv Z h o2 k2 .int n v2 (.int 0)) (Vs : Arv Z h bs ks .int cnt vss (.int 0)) (h8 : storeLocals #[rv o0, rv o1, rv o2, iv cnt, rv bs, rv o2, iv n, iv i, s8] 8 (.int cc) = some #[rv o0, rv o1, rv o2, iv cnt, rv bs, rv o2, iv n, iv i, iv cc]) (hi : ¬ i < 0 ∧ i < n) (hc : v2.getD i.toNatClampNeg (.int 0) = .int cc) (hcc : ¬ cc < 0 ∧ cc < cnt) (hy : vss.getD cc.toNatClampNeg (.int 0) = .int y) (hy' : y + 1 = y') (hi' : i + Int32.ofInt 1 = i') (hiN : cc.toNatClampNeg = iN) (hl : iN < vss.length)
    (hr : ∀ T' h', Stand p l e R s m args below meth c T' (locs ++ [⟨bs, cc.toNatClampNeg⟩]) cells slots → T'.heap = h' → Wr h h' bs cc.toNatClampNeg (.int y') → Arv Z h' bs ks .int cnt (vss.set iN (.int y')) (.int 0) → own_Out p e below P (T'.setTop (mkF m 35 #[rv o0, rv o1, rv o2, iv cnt, rv bs, rv o2, iv n, iv i', iv cc] []))) : own_Out p e below P (T.setTop (mkF m 35 #[rv o0, rv o1, rv o2, iv cnt, rv bs, rv o2, iv n, iv i, s8] [])) := by
  refine o_iload X hx hby d4_35 rfl (q := 37) rfl ?_
  refine o_iload X hx hby d4_37 rfl (q := 39) rfl ?_
  refine o_icN X hx hby d4_39 (tlt hi.2).2.1 (q := 42) rfl ?_
  refine o_aload X hx hby d4_42 rfl rfl (q := 44) rfl ?_
  refine o_iload X hx hby d4_44 rfl (q := 46) rfl ?_
  refine o_iaV X hx hby hZ eT V2 hi hc d4_46 (q := 47) rfl ?_
  refine o_istore X hx hby d4_47 h8 (q := 49) rfl ?_
  refine o_aload X hx hby d4_49 rfl rfl (q := 51) rfl ?_
  refine o_iload X hx hby d4_51 rfl (q := 53) rfl ?_
  refine o_dup2 X hx hby d4_53 rfl rfl (q := 54) rfl ?_
  refine o_iaV X hx hby hZ eT Vs hcc hy d4_54 (q := 55) rfl ?_
  refine o_iconst X hx hby d4_55 (z := 1) rfl (q := 56) rfl ?_
  refine o_iadd X hx hby d4_56 hy' (q := 57) rfl ?_
  refine o_stV X hx hby hZ eT Vs hcc iN hiN hl d4_57 (q := 58) rfl fun T' h' X' e' W' V' => ?_
  refine o_iinc X' hx hby d4_58 rfl (l' := #[rv o0, rv o1, rv o2, iv cnt, rv bs, rv o2, iv n, iv i', iv cc]) (by rw [hi']; rfl) (q := 61) rfl ?_
  refine o_goto X' hx hby d4_61 (by decide) (q := 35) (by decide) ?_
  exact hr T' h' X' e' W' V'
theorem t3 {p : Program} {l : Launch} {e : Env} {R : Room} {s : State} {m : MethodId} {args : Array Value} {below : List Frame} {meth : Method} {c : Code} {T : State} {locs : List Loc} {cells slots : Nat} {P : Outcome → State → Prop} {Z : State} {a0 : Array Value} {h : Heap} {o0 o1 o2 bs bf cc d : Addr} {cnt n i i' x f f' zd : Int32} {s7 s8 : Slot} {k2 kc kf kd : ClassId} {v2 vcs vfs vds : List Value} {iN jN : Nat} (X : Stand p l e R s m args below meth c T locs cells slots) (hx : p.tables.exec = Jvm.exec) (hby : c.code = prog_66_method_1_code) (hZ : Z.Warmed39 s.vm) (eT : T.heap = h) (hw : ∀ d ∈ tables_1, d.before a0 Z = true) (hown : s.vm.findClass "com/example/slimc/slimc/game/Observation" = some m.cls) (V2 : Arv Z h o2 k2 .int n v2 (.int 0)) (F : Fld Z h o0 "com/example/slimc/slimc/game/Observation" "classes" "[[I" (.ref cc)) (Vc : Arv Z h cc kc (.array .int) cnt vcs .null) (Vf : Arv Z h bf kf .int cnt vfs (.int 0)) (Vd : Arv Z h d kd .int zd vds (.int 0)) (ne : d ≠ bf) (hi : ¬ i < 0 ∧ i < n) (hc : v2.getD i.toNatClampNeg (.int 0) = .int x) (hcc : ¬ x < 0 ∧ x < cnt) (hd : vcs.getD x.toNatClampNeg .null = .ref d) (hf : vfs.getD x.toNatClampNeg (.int 0) = .int f) (hfd : ¬ f < 0 ∧ f < zd) (hf' : f + 1 = f') (hi' : i + Int32.ofInt 1 = i') (hiN : x.toNatClampNeg = iN) (hl : iN < vfs.length) (hjN : f.toNatClampNeg = jN) (hlj : jN < vds.length)
    (hr : ∀ T' h1 h', Stand p l e R s m args below meth c T' (locs ++ [⟨bf, x.toNatClampNeg⟩] ++ [⟨d, f.toNatClampNeg⟩]) cells slots → T'.heap = h' → Wr h h1 bf x.toNatClampNeg (.int f') → Wr h1 h' d f.toNatClampNeg (.int i) → Arv Z h1 bf kf .int cnt (vfs.set iN (.int f')) (.int 0) → Arv Z h' d kd .int zd (vds.set jN (.int i)) (.int 0) → own_Out p e below P (T'.setTop (mkF m 109 #[rv o0, rv o1, rv o2, iv cnt, rv bs, rv bf, iv i', s7, s8] []))) : own_Out p e below P (T.setTop (mkF m 109 #[rv o0, rv o1, rv o2, iv cnt, rv bs, rv bf, iv i, s7, s8] [])) := by
  refine o_iload X hx hby d4_109 rfl (q := 111) rfl ?_
  refine o_aloadN X hx hby d4_111 rfl rfl (q := 112) rfl ?_
  refine o_lenV X hx hby hZ eT V2 d4_112 (q := 113) rfl ?_
  refine o_icN X hx hby d4_113 (tlt hi.2).2.1 (q := 116) rfl ?_
  refine o_aloadN X hx hby d4_116 rfl rfl (q := 117) rfl ?_
  refine o_getF X hx hZ hown hby (w_ hw 37 rfl) Via.refl eT F d4_117 (q := 120) rfl fun T1 X1 e1 => ?_
  refine o_aloadN X1 hx hby d4_120 rfl rfl (q := 121) rfl ?_
  refine o_iload X1 hx hby d4_121 rfl (q := 123) rfl ?_
  refine o_iaV X1 hx hby hZ e1 V2 hi hc d4_123 (q := 124) rfl ?_
  refine o_aaV X1 hx hby hZ e1 Vc rfl hcc hd d4_124 (q := 125) rfl ?_
  refine o_aload X1 hx hby d4_125 rfl rfl (q := 127) rfl ?_
  refine o_aloadN X1 hx hby d4_127 rfl rfl (q := 128) rfl ?_
  refine o_iload X1 hx hby d4_128 rfl (q := 130) rfl ?_
  refine o_iaV X1 hx hby hZ e1 V2 hi hc d4_130 (q := 131) rfl ?_
  refine o_dup2 X1 hx hby d4_131 rfl rfl (q := 132) rfl ?_
  refine o_iaV X1 hx hby hZ e1 Vf hcc hf d4_132 (q := 133) rfl ?_
  refine o_dupX2 X1 hx hby d4_133 rfl rfl rfl (q := 134) rfl ?_
  refine o_iconst X1 hx hby d4_134 (z := 1) rfl (q := 135) rfl ?_
  refine o_iadd X1 hx hby d4_135 hf' (q := 136) rfl ?_
  refine o_stV X1 hx hby hZ e1 Vf hcc iN hiN hl d4_136 (q := 137) rfl fun T2 h2 X2 e2 W2 V2' => ?_
  refine o_iload X2 hx hby d4_137 rfl (q := 139) rfl ?_
  refine o_stV X2 hx hby hZ e2 (Vd.other W2 ne) hfd jN hjN hlj d4_139 (q := 140) rfl fun T3 h3 X3 e3 W3 V3 => ?_
  refine o_iinc X3 hx hby d4_140 rfl (l' := #[rv o0, rv o1, rv o2, iv cnt, rv bs, rv bf, iv i', s7, s8]) (by rw [hi']; rfl) (q := 143) rfl ?_
  refine o_goto X3 hx hby d4_143 (by decide) (q := 109) (by decide) ?_
  exact hr T3 h2 h3 X3 e3 W2 W3 V2' V3
theorem own_snoc {k : Nat} {locs : List Loc} {a : Addr} {sl : Nat} (N : Fr k locs) (q : k ≤ a) : Fr k (locs ++ [⟨a, sl⟩]) := N.app fun y hy => by cases List.mem_singleton.mp hy; exact q
theorem d7_0 : decode prog_66_method_8_code 0 = .ok (.aload_n 0, 1) := by decide +kernel
theorem d7_1 : decode prog_66_method_8_code 1 = .ok (.getfield 22, 3) := by decide +kernel
theorem d7_4 : decode prog_66_method_8_code 4 = .ok (.astore_n 2, 1) := by decide +kernel
theorem d7_5 : decode prog_66_method_8_code 5 = .ok (.aload_n 2, 1) := by decide +kernel
theorem d7_6 : decode prog_66_method_8_code 6 = .ok (.arraylength, 1) := by decide +kernel
theorem d7_7 : decode prog_66_method_8_code 7 = .ok (.istore_n 3, 1) := by decide +kernel
theorem d7_8 : decode prog_66_method_8_code 8 = .ok (.iconst 0, 1) := by decide +kernel
theorem d7_9 : decode prog_66_method_8_code 9 = .ok (.istore 4, 2) := by decide +kernel
theorem d7_11 : decode prog_66_method_8_code 11 = .ok (.iload 4, 2) := by decide +kernel
theorem d7_13 : decode prog_66_method_8_code 13 = .ok (.iload_n 3, 1) := by decide +kernel
theorem d7_14 : decode prog_66_method_8_code 14 = .ok (.if_icmp .ge 68, 3) := by decide +kernel
theorem d7_17 : decode prog_66_method_8_code 17 = .ok (.aload_n 2, 1) := by decide +kernel
theorem d7_18 : decode prog_66_method_8_code 18 = .ok (.iload 4, 2) := by decide +kernel
theorem d7_20 : decode prog_66_method_8_code 20 = .ok (.aaload, 1) := by decide +kernel
theorem d7_21 : decode prog_66_method_8_code 21 = .ok (.astore 5, 2) := by decide +kernel
theorem d7_23 : decode prog_66_method_8_code 23 = .ok (.aload 5, 2) := by decide +kernel
theorem d7_25 : decode prog_66_method_8_code 25 = .ok (.astore 6, 2) := by decide +kernel
theorem d7_27 : decode prog_66_method_8_code 27 = .ok (.aload 6, 2) := by decide +kernel
theorem d7_29 : decode prog_66_method_8_code 29 = .ok (.arraylength, 1) := by decide +kernel
theorem d7_30 : decode prog_66_method_8_code 30 = .ok (.istore 7, 2) := by decide +kernel
theorem d7_32 : decode prog_66_method_8_code 32 = .ok (.iconst 0, 1) := by decide +kernel
theorem d7_33 : decode prog_66_method_8_code 33 = .ok (.istore 8, 2) := by decide +kernel
theorem d7_35 : decode prog_66_method_8_code 35 = .ok (.iload 8, 2) := by decide +kernel
theorem d7_37 : decode prog_66_method_8_code 37 = .ok (.iload 7, 2) := by decide +kernel
theorem d7_39 : decode prog_66_method_8_code 39 = .ok (.if_icmp .ge 37, 3) := by decide +kernel
theorem d7_42 : decode prog_66_method_8_code 42 = .ok (.aload 6, 2) := by decide +kernel
theorem d7_44 : decode prog_66_method_8_code 44 = .ok (.iload 8, 2) := by decide +kernel
theorem d7_46 : decode prog_66_method_8_code 46 = .ok (.iaload, 1) := by decide +kernel
theorem d7_47 : decode prog_66_method_8_code 47 = .ok (.istore 9, 2) := by decide +kernel
theorem d7_49 : decode prog_66_method_8_code 49 = .ok (.aload_n 1, 1) := by decide +kernel
theorem d7_50 : decode prog_66_method_8_code 50 = .ok (.getfield 13, 3) := by decide +kernel
theorem d7_53 : decode prog_66_method_8_code 53 = .ok (.iload 9, 2) := by decide +kernel
theorem d7_55 : decode prog_66_method_8_code 55 = .ok (.iaload, 1) := by decide +kernel
theorem d7_56 : decode prog_66_method_8_code 56 = .ok (.aload_n 1, 1) := by decide +kernel
theorem d7_57 : decode prog_66_method_8_code 57 = .ok (.getfield 13, 3) := by decide +kernel
theorem d7_60 : decode prog_66_method_8_code 60 = .ok (.aload 5, 2) := by decide +kernel
theorem d7_62 : decode prog_66_method_8_code 62 = .ok (.iconst 0, 1) := by decide +kernel
theorem d7_63 : decode prog_66_method_8_code 63 = .ok (.iaload, 1) := by decide +kernel
theorem d7_64 : decode prog_66_method_8_code 64 = .ok (.iaload, 1) := by decide +kernel
theorem d7_65 : decode prog_66_method_8_code 65 = .ok (.if_icmp .eq 5, 3) := by decide +kernel
theorem d7_68 : decode prog_66_method_8_code 68 = .ok (.iconst 0, 1) := by decide +kernel
theorem d7_69 : decode prog_66_method_8_code 69 = .ok (.ireturn, 1) := by decide +kernel
theorem d7_70 : decode prog_66_method_8_code 70 = .ok (.iinc 8 1, 3) := by decide +kernel
theorem d7_73 : decode prog_66_method_8_code 73 = .ok (.goto (-38), 3) := by decide +kernel
theorem d7_76 : decode prog_66_method_8_code 76 = .ok (.iinc 4 1, 3) := by decide +kernel
theorem d7_79 : decode prog_66_method_8_code 79 = .ok (.goto (-68), 3) := by decide +kernel
theorem d7_82 : decode prog_66_method_8_code 82 = .ok (.iconst 1, 1) := by decide +kernel
theorem d7_83 : decode prog_66_method_8_code 83 = .ok (.ireturn, 1) := by decide +kernel
theorem pn_1 : plainName "com/example/slimc/slimc/game/Observation" = true := by first | (simp [plainName, overriddenIn]; done) | decide +kernel
theorem ef_7r0000 (m : MethodId) (x0 : Addr) (x1 : Addr) : entryFrame m #[(.ref x0), (.ref x1)] 10 = mkF m 0 #[.val (.ref x0), .val (.ref x1), .unset, .unset, .unset, .unset, .unset, .unset, .unset, .unset] [] := by first | (simp [entryFrame, mkF, argsToLocals, Value.category]; done) | rfl
def fr0000 (c0 : Int32) (c1 : Int32) (c2 : Int32) (c3 : Int32) : Int32 := if c1 = c0 then (if c2 = c0 then (if c3 = c0 then (1 : Int32)
      else (0 : Int32))
    else (0 : Int32))
  else (0 : Int32)
def Q7r0000 (Z : State) (o0 : Addr) (o1 : Addr) (cc : Addr) (kcc : ClassId) (d0 : Addr) (kd0 : ClassId) (oc : Addr) (kc : ClassId) (c0 : Int32) (c1 : Int32) (c2 : Int32) (c3 : Int32) (h0 : Heap) (n0 : Nat) (v : Option Value) (h : Heap) (L : List Loc) : Prop := v = some (.int (fr0000 c0 c1 c2 c3)) ∧ Fr n0 L ∧ h = h0
set_option maxRecDepth 65536 in
set_option maxHeartbeats 40000000 in
theorem rm7r0000 (l : Launch) (Z : State) (a0 : Array Value) (hw : ∀ d ∈ tables_1, d.before a0 Z = true) (ws : List Jvm.Cond) (o0 : Addr) (o1 : Addr) (cc : Addr) (kcc : ClassId) (d0 : Addr) (kd0 : ClassId) (oc : Addr) (kc : ClassId) (c0 : Int32) (c1 : Int32) (c2 : Int32) (c3 : Int32) (h0 : Heap) (n0 : Nat) (Z0 : n0 ≤ h0.size) (Fs : Fld Z h0 o0 "com/example/slimc/slimc/game/Observation" "classes" "[[I" (.ref cc)) (Vcc : Arv Z h0 cc kcc (.array .int) (1 : Int32) [(.ref d0)] .null) (Vd0 : Arv Z h0 d0 kd0 .int (4 : Int32) [(.int (0 : Int32)), (.int (1 : Int32)), (.int (2 : Int32)), (.int (3 : Int32))] (.int (0 : Int32))) (Fc : Fld Z h0 o1 "com/example/slimc/slimc/game/Observation" "classOf" "[I" (.ref oc)) (Vc : Arv Z h0 oc kc .int (4 : Int32) [(.int c0), (.int c1), (.int c2), (.int c3)] (.int (0 : Int32))) :
    MetFree l (⟨"com/example/slimc/slimc/game/Observation", "refines", "(Lcom/example/slimc/slimc/game/Observation;)Z"⟩ : MethodName) (head1 (Jvm.Cond.code (⟨"com/example/slimc/slimc/game/Observation", "refines", "(Lcom/example/slimc/slimc/game/Observation;)Z"⟩ : MethodName) prog_66_method_8_code 10 (some .boolean) :: ws) ({ frames := 0, cells := 0, slots := 0, locals := 0 } : Room)) (fun a U => a = #[(.ref o0), (.ref o1)] ∧ Z.Warmed39 U.vm ∧ U.heap = h0) (fun _ _ _ _ _ => True) (fun _ U o U' => ∃ v L, o = .returned v ∧ Q7r0000 Z o0 o1 cc kcc d0 kd0 oc kc c0 c1 c2 c3 h0 n0 v U'.heap L ∧ FrameEnd U o U' L ({ frames := 0, cells := 0, slots := 0, locals := 0 } : Room).cells ({ frames := 0, cells := 0, slots := 0, locals := 0 } : Room).slots) := by
  refine MetFree.of_bodySF (plainFor_of_name pn_1) hisR ?_
  intro p e s m args below meth c s₁ Bd hml0 hP hK
  obtain ⟨rfl, hZ, hh⟩ := hP
  have hx := Bd.exec
  have hby := Bd.bytes
  have hml : c.maxLocals = 10 := hml0
  have hown : s.vm.findClass "com/example/slimc/slimc/game/Observation" = some m.cls := findClass_of_methodNamed Bd.named
  have hnm := (name_of_methodNamed Bd.named Bd.method).1
  have X0 : Stand p l e ({ frames := 0, cells := 0, slots := 0, locals := 0 } : Room) s m #[(.ref o0), (.ref o1)] below meth c s₁ [] 0 0 := Stand.of_body Bd
  have e0 : s₁.heap = h0 := by rw [← hh, Bd.state]; rfl
  have N0 := Fr.nil n0
  have hret := Bd.returns
  have hlk := BodyLoose.notSynchronized Bd
  show own_Out p e below (fun o U' => ∃ v L, o = .returned v ∧ Q7r0000 Z o0 o1 cc kcc d0 kd0 oc kc c0 c1 c2 c3 h0 n0 v U'.heap L ∧ FrameEnd s o U' L ({ frames := 0, cells := 0, slots := 0, locals := 0 } : Room).cells ({ frames := 0, cells := 0, slots := 0, locals := 0 } : Room).slots) (s₁.setTop (entryFrame m #[(.ref o0), (.ref o1)] 10))
  refine own_of (fun t k => castTop (ef_7r0000 m o0 o1) k) ?_
  show own_Out p e below _ (s₁.setTop (mkF m 0 #[rv o0, rv o1, .unset, .unset, .unset, .unset, .unset, .unset, .unset, .unset] []))
  refine o_aloadN X0 hx hby d7_0 rfl rfl (q := 1) rfl ?_
  refine o_getF X0 hx hZ hown hby (w_ hw 37 rfl) Via.refl e0 Fs d7_1 (q := 4) rfl fun T1 X1 e1 => ?_
  refine o_astoreN X1 hx hby d7_4 rfl (l' := #[rv o0, rv o1, rv cc, .unset, .unset, .unset, .unset, .unset, .unset, .unset]) rfl (q := 5) rfl ?_
  refine o_aloadN X1 hx hby d7_5 rfl rfl (q := 6) rfl ?_
  refine o_lenV X1 hx hby hZ e1 Vcc d7_6 (q := 7) rfl ?_
  refine o_istoreN X1 hx hby d7_7 (l' := #[rv o0, rv o1, rv cc, iv 1, .unset, .unset, .unset, .unset, .unset, .unset]) rfl (q := 8) rfl ?_
  refine o_iconst X1 hx hby d7_8 (z := 0) rfl (q := 9) rfl ?_
  refine o_istore X1 hx hby d7_9 (l' := #[rv o0, rv o1, rv cc, iv 1, iv 0, .unset, .unset, .unset, .unset, .unset]) rfl (q := 11) rfl ?_
  refine o_iload X1 hx hby d7_11 rfl (q := 13) rfl ?_
  refine o_iloadN X1 hx hby d7_13 rfl (q := 14) rfl ?_
  refine o_icN X1 hx hby d7_14 (tlt (by decide : (0 : Int32) < (1 : Int32))).2.1 (q := 17) rfl ?_
  refine o_aloadN X1 hx hby d7_17 rfl rfl (q := 18) rfl ?_
  refine o_iload X1 hx hby d7_18 rfl (q := 20) rfl ?_
  refine o_aaV X1 hx hby hZ e1 Vcc rfl ⟨by decide, by decide⟩ (v := .ref d0) rfl d7_20 (q := 21) rfl ?_
  refine o_astore X1 hx hby d7_21 rfl (l' := #[rv o0, rv o1, rv cc, iv 1, iv 0, rv d0, .unset, .unset, .unset, .unset]) rfl (q := 23) rfl ?_
  refine o_aload X1 hx hby d7_23 rfl rfl (q := 25) rfl ?_
  refine o_astore X1 hx hby d7_25 rfl (l' := #[rv o0, rv o1, rv cc, iv 1, iv 0, rv d0, rv d0, .unset, .unset, .unset]) rfl (q := 27) rfl ?_
  refine o_aload X1 hx hby d7_27 rfl rfl (q := 29) rfl ?_
  refine o_lenV X1 hx hby hZ e1 Vd0 d7_29 (q := 30) rfl ?_
  refine o_istore X1 hx hby d7_30 (l' := #[rv o0, rv o1, rv cc, iv 1, iv 0, rv d0, rv d0, iv 4, .unset, .unset]) rfl (q := 32) rfl ?_
  refine o_iconst X1 hx hby d7_32 (z := 0) rfl (q := 33) rfl ?_
  refine o_istore X1 hx hby d7_33 (l' := #[rv o0, rv o1, rv cc, iv 1, iv 0, rv d0, rv d0, iv 4, iv 0, .unset]) rfl (q := 35) rfl ?_
  refine o_iload X1 hx hby d7_35 rfl (q := 37) rfl ?_
  refine o_iload X1 hx hby d7_37 rfl (q := 39) rfl ?_
  refine o_icN X1 hx hby d7_39 (tlt (by decide : (0 : Int32) < (4 : Int32))).2.1 (q := 42) rfl ?_
  refine o_aload X1 hx hby d7_42 rfl rfl (q := 44) rfl ?_
  refine o_iload X1 hx hby d7_44 rfl (q := 46) rfl ?_
  refine o_iaV X1 hx hby hZ e1 Vd0 ⟨by decide, by decide⟩ (v := .int 0) rfl d7_46 (q := 47) rfl ?_
  refine o_istore X1 hx hby d7_47 (l' := #[rv o0, rv o1, rv cc, iv 1, iv 0, rv d0, rv d0, iv 4, iv 0, iv 0]) rfl (q := 49) rfl ?_
  refine o_aloadN X1 hx hby d7_49 rfl rfl (q := 50) rfl ?_
  refine o_getF X1 hx hZ hown hby (w_ hw 31 rfl) Via.refl e1 Fc d7_50 (q := 53) rfl fun T2 X2 e2 => ?_
  refine o_iload X2 hx hby d7_53 rfl (q := 55) rfl ?_
  refine o_iaV X2 hx hby hZ e2 Vc ⟨by decide, by decide⟩ (v := .int c0) rfl d7_55 (q := 56) rfl ?_
  refine o_aloadN X2 hx hby d7_56 rfl rfl (q := 57) rfl ?_
  refine o_getF X2 hx hZ hown hby (w_ hw 31 rfl) Via.refl e2 Fc d7_57 (q := 60) rfl fun T3 X3 e3 => ?_
  refine o_aload X3 hx hby d7_60 rfl rfl (q := 62) rfl ?_
  refine o_iconst X3 hx hby d7_62 (z := 0) rfl (q := 63) rfl ?_
  refine o_iaV X3 hx hby hZ e3 Vd0 ⟨by decide, by decide⟩ (v := .int 0) rfl d7_63 (q := 64) rfl ?_
  refine o_iaV X3 hx hby hZ e3 Vc ⟨by decide, by decide⟩ (v := .int c0) rfl d7_64 (q := 65) rfl ?_
  refine o_icY X3 hx hby d7_65 (teq (rfl : c0 = c0)).1 (by decide) (q := 70) (by decide) ?_
  refine o_iinc X3 hx hby d7_70 rfl (l' := #[rv o0, rv o1, rv cc, iv 1, iv 0, rv d0, rv d0, iv 4, iv 1, iv 0]) rfl (q := 73) rfl ?_
  refine o_goto X3 hx hby d7_73 (by decide) (q := 35) (by decide) ?_
  refine o_iload X3 hx hby d7_35 rfl (q := 37) rfl ?_
  refine o_iload X3 hx hby d7_37 rfl (q := 39) rfl ?_
  refine o_icN X3 hx hby d7_39 (tlt (by decide : (1 : Int32) < (4 : Int32))).2.1 (q := 42) rfl ?_
  refine o_aload X3 hx hby d7_42 rfl rfl (q := 44) rfl ?_
  refine o_iload X3 hx hby d7_44 rfl (q := 46) rfl ?_
  refine o_iaV X3 hx hby hZ e3 Vd0 ⟨by decide, by decide⟩ (v := .int 1) rfl d7_46 (q := 47) rfl ?_
  refine o_istore X3 hx hby d7_47 (l' := #[rv o0, rv o1, rv cc, iv 1, iv 0, rv d0, rv d0, iv 4, iv 1, iv 1]) rfl (q := 49) rfl ?_
  refine o_aloadN X3 hx hby d7_49 rfl rfl (q := 50) rfl ?_
  refine o_getF X3 hx hZ hown hby (w_ hw 31 rfl) Via.refl e3 Fc d7_50 (q := 53) rfl fun T4 X4 e4 => ?_
  refine o_iload X4 hx hby d7_53 rfl (q := 55) rfl ?_
  refine o_iaV X4 hx hby hZ e4 Vc ⟨by decide, by decide⟩ (v := .int c1) rfl d7_55 (q := 56) rfl ?_
  refine o_aloadN X4 hx hby d7_56 rfl rfl (q := 57) rfl ?_
  refine o_getF X4 hx hZ hown hby (w_ hw 31 rfl) Via.refl e4 Fc d7_57 (q := 60) rfl fun T5 X5 e5 => ?_
  refine o_aload X5 hx hby d7_60 rfl rfl (q := 62) rfl ?_
  refine o_iconst X5 hx hby d7_62 (z := 0) rfl (q := 63) rfl ?_
  refine o_iaV X5 hx hby hZ e5 Vd0 ⟨by decide, by decide⟩ (v := .int 0) rfl d7_63 (q := 64) rfl ?_
  refine o_iaV X5 hx hby hZ e5 Vc ⟨by decide, by decide⟩ (v := .int c0) rfl d7_64 (q := 65) rfl ?_
  by_cases hc65_6 : c1 = c0
  · skip
    refine o_icY X5 hx hby d7_65 (teq hc65_6).1 (by decide) (q := 70) (by decide) ?_
    refine o_iinc X5 hx hby d7_70 rfl (l' := #[rv o0, rv o1, rv cc, iv 1, iv 0, rv d0, rv d0, iv 4, iv 2, iv 1]) rfl (q := 73) rfl ?_
    refine o_goto X5 hx hby d7_73 (by decide) (q := 35) (by decide) ?_
    refine o_iload X5 hx hby d7_35 rfl (q := 37) rfl ?_
    refine o_iload X5 hx hby d7_37 rfl (q := 39) rfl ?_
    refine o_icN X5 hx hby d7_39 (tlt (by decide : (2 : Int32) < (4 : Int32))).2.1 (q := 42) rfl ?_
    refine o_aload X5 hx hby d7_42 rfl rfl (q := 44) rfl ?_
    refine o_iload X5 hx hby d7_44 rfl (q := 46) rfl ?_
    refine o_iaV X5 hx hby hZ e5 Vd0 ⟨by decide, by decide⟩ (v := .int 2) rfl d7_46 (q := 47) rfl ?_
    refine o_istore X5 hx hby d7_47 (l' := #[rv o0, rv o1, rv cc, iv 1, iv 0, rv d0, rv d0, iv 4, iv 2, iv 2]) rfl (q := 49) rfl ?_
    refine o_aloadN X5 hx hby d7_49 rfl rfl (q := 50) rfl ?_
    refine o_getF X5 hx hZ hown hby (w_ hw 31 rfl) Via.refl e5 Fc d7_50 (q := 53) rfl fun T7 X7 e7 => ?_
    refine o_iload X7 hx hby d7_53 rfl (q := 55) rfl ?_
    refine o_iaV X7 hx hby hZ e7 Vc ⟨by decide, by decide⟩ (v := .int c2) rfl d7_55 (q := 56) rfl ?_
    refine o_aloadN X7 hx hby d7_56 rfl rfl (q := 57) rfl ?_
    refine o_getF X7 hx hZ hown hby (w_ hw 31 rfl) Via.refl e7 Fc d7_57 (q := 60) rfl fun T8 X8 e8 => ?_
    refine o_aload X8 hx hby d7_60 rfl rfl (q := 62) rfl ?_
    refine o_iconst X8 hx hby d7_62 (z := 0) rfl (q := 63) rfl ?_
    refine o_iaV X8 hx hby hZ e8 Vd0 ⟨by decide, by decide⟩ (v := .int 0) rfl d7_63 (q := 64) rfl ?_
    refine o_iaV X8 hx hby hZ e8 Vc ⟨by decide, by decide⟩ (v := .int c0) rfl d7_64 (q := 65) rfl ?_
    by_cases hc65_9 : c2 = c0
    · skip
      refine o_icY X8 hx hby d7_65 (teq hc65_9).1 (by decide) (q := 70) (by decide) ?_
      refine o_iinc X8 hx hby d7_70 rfl (l' := #[rv o0, rv o1, rv cc, iv 1, iv 0, rv d0, rv d0, iv 4, iv 3, iv 2]) rfl (q := 73) rfl ?_
      refine o_goto X8 hx hby d7_73 (by decide) (q := 35) (by decide) ?_
      refine o_iload X8 hx hby d7_35 rfl (q := 37) rfl ?_
      refine o_iload X8 hx hby d7_37 rfl (q := 39) rfl ?_
      refine o_icN X8 hx hby d7_39 (tlt (by decide : (3 : Int32) < (4 : Int32))).2.1 (q := 42) rfl ?_
      refine o_aload X8 hx hby d7_42 rfl rfl (q := 44) rfl ?_
      refine o_iload X8 hx hby d7_44 rfl (q := 46) rfl ?_
      refine o_iaV X8 hx hby hZ e8 Vd0 ⟨by decide, by decide⟩ (v := .int 3) rfl d7_46 (q := 47) rfl ?_
      refine o_istore X8 hx hby d7_47 (l' := #[rv o0, rv o1, rv cc, iv 1, iv 0, rv d0, rv d0, iv 4, iv 3, iv 3]) rfl (q := 49) rfl ?_
      refine o_aloadN X8 hx hby d7_49 rfl rfl (q := 50) rfl ?_
      refine o_getF X8 hx hZ hown hby (w_ hw 31 rfl) Via.refl e8 Fc d7_50 (q := 53) rfl fun T10 X10 e10 => ?_
      refine o_iload X10 hx hby d7_53 rfl (q := 55) rfl ?_
      refine o_iaV X10 hx hby hZ e10 Vc ⟨by decide, by decide⟩ (v := .int c3) rfl d7_55 (q := 56) rfl ?_
      refine o_aloadN X10 hx hby d7_56 rfl rfl (q := 57) rfl ?_
      refine o_getF X10 hx hZ hown hby (w_ hw 31 rfl) Via.refl e10 Fc d7_57 (q := 60) rfl fun T11 X11 e11 => ?_
      refine o_aload X11 hx hby d7_60 rfl rfl (q := 62) rfl ?_
      refine o_iconst X11 hx hby d7_62 (z := 0) rfl (q := 63) rfl ?_
      refine o_iaV X11 hx hby hZ e11 Vd0 ⟨by decide, by decide⟩ (v := .int 0) rfl d7_63 (q := 64) rfl ?_
      refine o_iaV X11 hx hby hZ e11 Vc ⟨by decide, by decide⟩ (v := .int c0) rfl d7_64 (q := 65) rfl ?_
      by_cases hc65_12 : c3 = c0
      · skip
        refine o_icY X11 hx hby d7_65 (teq hc65_12).1 (by decide) (q := 70) (by decide) ?_
        refine o_iinc X11 hx hby d7_70 rfl (l' := #[rv o0, rv o1, rv cc, iv 1, iv 0, rv d0, rv d0, iv 4, iv 4, iv 3]) rfl (q := 73) rfl ?_
        refine o_goto X11 hx hby d7_73 (by decide) (q := 35) (by decide) ?_
        refine o_iload X11 hx hby d7_35 rfl (q := 37) rfl ?_
        refine o_iload X11 hx hby d7_37 rfl (q := 39) rfl ?_
        refine o_icY X11 hx hby d7_39 (flt (by decide : ¬ ((4 : Int32) < (4 : Int32)))).2.1 (by decide) (q := 76) (by decide) ?_
        refine o_iinc X11 hx hby d7_76 rfl (l' := #[rv o0, rv o1, rv cc, iv 1, iv 1, rv d0, rv d0, iv 4, iv 4, iv 3]) rfl (q := 79) rfl ?_
        refine o_goto X11 hx hby d7_79 (by decide) (q := 11) (by decide) ?_
        refine o_iload X11 hx hby d7_11 rfl (q := 13) rfl ?_
        refine o_iloadN X11 hx hby d7_13 rfl (q := 14) rfl ?_
        refine o_icY X11 hx hby d7_14 (flt (by decide : ¬ ((1 : Int32) < (1 : Int32)))).2.1 (by decide) (q := 82) (by decide) ?_
        refine o_iconst X11 hx hby d7_82 (z := 1) rfl (q := 83) rfl ?_
        exact own_outN X11 hx hlk (t := .boolean) hret (by simp) (hb hby d7_83) (z' := (1 : Int32)) rfl (Q := Q7r0000 Z o0 o1 cc kcc d0 kd0 oc kc c0 c1 c2 c3 h0 n0) ⟨by simp only [fr0000, if_pos hc65_6, if_pos hc65_9, if_pos hc65_12], N0, e11⟩ (by decide) (by decide)
      · skip
        refine o_icN X11 hx hby d7_65 (feq hc65_12).1 (q := 68) rfl ?_
        refine o_iconst X11 hx hby d7_68 (z := 0) rfl (q := 69) rfl ?_
        exact own_outN X11 hx hlk (t := .boolean) hret (by simp) (hb hby d7_69) (z' := (0 : Int32)) rfl (Q := Q7r0000 Z o0 o1 cc kcc d0 kd0 oc kc c0 c1 c2 c3 h0 n0) ⟨by simp only [fr0000, if_pos hc65_6, if_pos hc65_9, if_neg hc65_12], N0, e11⟩ (by decide) (by decide)
    · skip
      refine o_icN X8 hx hby d7_65 (feq hc65_9).1 (q := 68) rfl ?_
      refine o_iconst X8 hx hby d7_68 (z := 0) rfl (q := 69) rfl ?_
      exact own_outN X8 hx hlk (t := .boolean) hret (by simp) (hb hby d7_69) (z' := (0 : Int32)) rfl (Q := Q7r0000 Z o0 o1 cc kcc d0 kd0 oc kc c0 c1 c2 c3 h0 n0) ⟨by simp only [fr0000, if_pos hc65_6, if_neg hc65_9], N0, e8⟩ (by decide) (by decide)
  · skip
    refine o_icN X5 hx hby d7_65 (feq hc65_6).1 (q := 68) rfl ?_
    refine o_iconst X5 hx hby d7_68 (z := 0) rfl (q := 69) rfl ?_
    exact own_outN X5 hx hlk (t := .boolean) hret (by simp) (hb hby d7_69) (z' := (0 : Int32)) rfl (Q := Q7r0000 Z o0 o1 cc kcc d0 kd0 oc kc c0 c1 c2 c3 h0 n0) ⟨by simp only [fr0000, if_neg hc65_6], N0, e5⟩ (by decide) (by decide)
theorem ef_4c0000n1 (m : MethodId) (x0 : Addr) (x1 : Addr) (x2 : Addr) : entryFrame m #[(.ref x0), (.ref x1), (.ref x2), (.int (1 : Int32))] 9 = mkF m 0 #[.val (.ref x0), .val (.ref x1), .val (.ref x2), .val (.int (1 : Int32)), .unset, .unset, .unset, .unset, .unset] [] := by first | (simp [entryFrame, mkF, argsToLocals, Value.category]; done) | rfl
def Q4c0000n1 (Z : State) (o0 : Addr) (o1 : Addr) (o2 : Addr) (k2 : ClassId) (h0 : Heap) (n0 : Nat) (v : Option Value) (h : Heap) (L : List Loc) : Prop := v = none ∧ Fr n0 L ∧ Keep h0 h [o0] ∧ Exa Z h o0 "com/example/slimc/slimc/game/Observation" ∧ Fld Z h o0 "com/example/slimc/slimc/game/Observation" "classOf" "[I" (.ref o2) ∧ Fld Z h o0 "com/example/slimc/slimc/game/Observation" "classCount" "I" (.int (1 : Int32)) ∧ RefOk Z h o0 fr0000
set_option maxRecDepth 65536 in
set_option maxHeartbeats 40000000 in
theorem rm4c0000n1 (l : Launch) (Z : State) (a0 : Array Value) (hw : ∀ d ∈ tables_1, d.before a0 Z = true) (ws : List Jvm.Cond) (o0 : Addr) (o1 : Addr) (o2 : Addr) (k2 : ClassId) (h0 : Heap) (n0 : Nat) (Z0 : n0 ≤ h0.size) (E : Exa Z h0 o0 "com/example/slimc/slimc/game/Observation") (F_name : Fld Z h0 o0 "com/example/slimc/slimc/game/Observation" "name" "Ljava/lang/String;" .null) (F_classOf : Fld Z h0 o0 "com/example/slimc/slimc/game/Observation" "classOf" "[I" .null) (F_classCount : Fld Z h0 o0 "com/example/slimc/slimc/game/Observation" "classCount" "I" (.int (0 : Int32))) (F_classes : Fld Z h0 o0 "com/example/slimc/slimc/game/Observation" "classes" "[[I" .null) (g_o0 : n0 ≤ o0) (V : Arv Z h0 o2 k2 .int (4 : Int32) [(.int (0 : Int32)), (.int (0 : Int32)), (.int (0 : Int32)), (.int (0 : Int32))] (.int (0 : Int32))) (n2 : o2 ≠ o0) :
    MetFree l (⟨"com/example/slimc/slimc/game/Observation", "<init>", "(Ljava/lang/String;[II)V"⟩ : MethodName) (head1 (Jvm.Cond.code (⟨"com/example/slimc/slimc/game/Observation", "<init>", "(Ljava/lang/String;[II)V"⟩ : MethodName) prog_66_method_1_code 9 none :: ws) ({ frames := 1, cells := 7, slots := 16, locals := 14 } : Room)) (fun a U => a = #[(.ref o0), (.ref o1), (.ref o2), (.int (1 : Int32))] ∧ Z.Warmed39 U.vm ∧ U.heap = h0) (fun _ _ _ _ _ => True) (fun _ U o U' => ∃ v L, o = .returned v ∧ Q4c0000n1 Z o0 o1 o2 k2 h0 n0 v U'.heap L ∧ FrameEnd U o U' L ({ frames := 1, cells := 7, slots := 16, locals := 14 } : Room).cells ({ frames := 1, cells := 7, slots := 16, locals := 14 } : Room).slots) := by
  refine MetFree.of_bodySF (plainFor_of_name pn_1) hisR ?_
  intro p e s m args below meth c s₁ Bd hml0 hP hK
  obtain ⟨rfl, hZ, hh⟩ := hP
  have hx := Bd.exec
  have hby := Bd.bytes
  have hml : c.maxLocals = 9 := hml0
  have hown : s.vm.findClass "com/example/slimc/slimc/game/Observation" = some m.cls := findClass_of_methodNamed Bd.named
  have hnm := (name_of_methodNamed Bd.named Bd.method).1
  have X0 : Stand p l e ({ frames := 1, cells := 7, slots := 16, locals := 14 } : Room) s m #[(.ref o0), (.ref o1), (.ref o2), (.int (1 : Int32))] below meth c s₁ [] 0 0 := Stand.of_body Bd
  have e0 : s₁.heap = h0 := by rw [← hh, Bd.state]; rfl
  have N0 := Fr.nil n0
  have hret := Bd.returns
  have hlk := BodyLoose.notSynchronized Bd
  show own_Out p e below (fun o U' => ∃ v L, o = .returned v ∧ Q4c0000n1 Z o0 o1 o2 k2 h0 n0 v U'.heap L ∧ FrameEnd s o U' L ({ frames := 1, cells := 7, slots := 16, locals := 14 } : Room).cells ({ frames := 1, cells := 7, slots := 16, locals := 14 } : Room).slots) (s₁.setTop (entryFrame m #[(.ref o0), (.ref o1), (.ref o2), (.int (1 : Int32))] 9))
  refine own_of (fun t k => castTop (ef_4c0000n1 m o0 o1 o2) k) ?_
  show own_Out p e below _ (s₁.setTop (mkF m 0 #[rv o0, rv o1, rv o2, iv 1, .unset, .unset, .unset, .unset, .unset] []))
  refine o_aloadN X0 hx hby d4_0 rfl rfl (q := 1) rfl ?_
  obtain ⟨T1, X1, e1, st1⟩ := initO X0 hx hZ hown (w_ hw 26 rfl) (w_ hw 27 rfl) (w_ hw 28 rfl) e0 (g := (mkF m 1 #[rv o0, rv o1, rv o2, iv 1, .unset, .unset, .unset, .unset, .unset] [.ref o0])) rfl (by rw [hml]; rfl) rfl (hb hby d4_1) (by decide) (W := 0) (by show 2 * 0 + _ ≤ _; exact Nat.le_of_eq rfl) (by decide)
  refine own_of st1 ?_
  show own_Out p e below _ (T1.setTop (mkF m 4 #[rv o0, rv o1, rv o2, iv 1, .unset, .unset, .unset, .unset, .unset] []))
  refine o_aloadN X1 hx hby d4_4 rfl rfl (q := 5) rfl ?_
  refine o_aloadN X1 hx hby d4_5 rfl rfl (q := 6) rfl ?_
  obtain ⟨T2, h2, X2, e2, W2, st2⟩ := putF X1 hx hZ hown (host := "") (Or.inl (w_ hw 29 rfl)) Via.refl e1 F_name E (Or.inr ⟨(w_ hw 30 rfl), rfl, hnm⟩) (w_ hw 10 rfl) (ty := (.object "java/lang/String")) (by decide) rfl rfl (g := (mkF m 6 #[rv o0, rv o1, rv o2, iv 1, .unset, .unset, .unset, .unset, .unset] [.ref o1, .ref o0])) rfl rfl (hb hby d4_6)
  have Fw2 := F_name.same W2
  refine own_of st2 ?_
  show own_Out p e below _ (T2.setTop (mkF m 9 #[rv o0, rv o1, rv o2, iv 1, .unset, .unset, .unset, .unset, .unset] []))
  refine o_aloadN X2 hx hby d4_9 rfl rfl (q := 10) rfl ?_
  refine o_aloadN X2 hx hby d4_10 rfl rfl (q := 11) rfl ?_
  have q4 := (F_classOf.other W2 (Or.inr (slot_ne (Or.inr (w_ hw 32 rfl)) (Or.inr (w_ hw 30 rfl)) (by decide) (t := (.array .int)) (t' := (.object "java/lang/String")) (by decide) (by decide))))
  have q5 := (E.wr W2)
  obtain ⟨T3, h3, X3, e3, W3, st3⟩ := putF X2 hx hZ hown (host := "") (Or.inl (w_ hw 31 rfl)) Via.refl e2 q4 q5 (Or.inr ⟨(w_ hw 32 rfl), rfl, hnm⟩) (w_ hw 10 rfl) (ty := (.array .int)) (by decide) rfl rfl (g := (mkF m 11 #[rv o0, rv o1, rv o2, iv 1, .unset, .unset, .unset, .unset, .unset] [.ref o2, .ref o0])) rfl rfl (hb hby d4_11)
  have q6 := (F_classOf.other W2 (Or.inr (slot_ne (Or.inr (w_ hw 32 rfl)) (Or.inr (w_ hw 30 rfl)) (by decide) (t := (.array .int)) (t' := (.object "java/lang/String")) (by decide) (by decide))))
  have Fw3 := q6.same W3
  refine own_of st3 ?_
  show own_Out p e below _ (T3.setTop (mkF m 14 #[rv o0, rv o1, rv o2, iv 1, .unset, .unset, .unset, .unset, .unset] []))
  refine o_aloadN X3 hx hby d4_14 rfl rfl (q := 15) rfl ?_
  refine o_iloadN X3 hx hby d4_15 rfl (q := 16) rfl ?_
  have q8 := ((F_classCount.other W2 (Or.inr (slot_ne (Or.inr (w_ hw 34 rfl)) (Or.inr (w_ hw 30 rfl)) (by decide) (t := .int) (t' := (.object "java/lang/String")) (by decide) (by decide)))).other W3 (Or.inr (slot_ne (Or.inr (w_ hw 34 rfl)) (Or.inr (w_ hw 32 rfl)) (by decide) (t := .int) (t' := (.array .int)) (by decide) (by decide))))
  have q9 := (q5.wr W3)
  obtain ⟨T7, h7, X7, e7, W7, st7⟩ := putF X3 hx hZ hown (host := "") (Or.inl (w_ hw 33 rfl)) Via.refl e3 q8 q9 (Or.inr ⟨(w_ hw 34 rfl), rfl, hnm⟩) (w_ hw 10 rfl) (ty := .int) (by decide) rfl rfl (g := (mkF m 16 #[rv o0, rv o1, rv o2, iv 1, .unset, .unset, .unset, .unset, .unset] [.int 1, .ref o0])) rfl rfl (hb hby d4_16)
  have q10 := ((F_classCount.other W2 (Or.inr (slot_ne (Or.inr (w_ hw 34 rfl)) (Or.inr (w_ hw 30 rfl)) (by decide) (t := .int) (t' := (.object "java/lang/String")) (by decide) (by decide)))).other W3 (Or.inr (slot_ne (Or.inr (w_ hw 34 rfl)) (Or.inr (w_ hw 32 rfl)) (by decide) (t := .int) (t' := (.array .int)) (by decide) (by decide))))
  have Fw7 := q10.same W7
  refine own_of st7 ?_
  show own_Out p e below _ (T7.setTop (mkF m 19 #[rv o0, rv o1, rv o2, iv 1, .unset, .unset, .unset, .unset, .unset] []))
  refine o_iloadN X7 hx hby d4_19 rfl (q := 20) rfl ?_
  obtain ⟨T11, h11, k11, X11, e11, E11, A11, Ex11, st11⟩ := newPE X7 hx hZ (w_ hw 4 rfl) e7 (g := (mkF m 20 #[rv o0, rv o1, rv o2, iv 1, .unset, .unset, .unset, .unset, .unset] [.int 1])) rfl (hb hby d4_20) rfl (by decide) (cap := 1) (by decide) (by decide) (by decide) (by decide) (ad := "[I") (by decide +kernel)
  obtain ⟨b11, g11⟩ : ∃ z, z = h7.size := ⟨_, rfl⟩
  rw [← g11] at A11 Ex11 st11
  have q12 := (Nat.le_trans (Nat.le_trans (Nat.le_trans Z0 (Keep.of_wr W2).1) (Keep.of_wr W3).1) (Keep.of_wr W7).1)
  have g_b11 : n0 ≤ b11 := Nat.le_trans q12 (Nat.le_of_eq g11.symm)
  have q13 := (Nat.le_trans (Nat.le_trans (Nat.le_trans (Nat.le_refl h0.size) (Keep.of_wr W2).1) (Keep.of_wr W3).1) (Keep.of_wr W7).1)
  have sz_b11 : h0.size ≤ b11 := Nat.le_trans q13 (Nat.le_of_eq g11.symm)
  have V_b11 : Arv Z h11 b11 k11 .int (1 : Int32) [(.int (0 : Int32))] (.int (0 : Int32)) := (Arv.new A11 (by decide)).pad (pad_rep [] (.int (0 : Int32)) 1)
  refine own_of st11 ?_
  show own_Out p e below _ (T11.setTop (mkF m 22 #[rv o0, rv o1, rv o2, iv 1, .unset, .unset, .unset, .unset, .unset] [.ref b11]))
  refine o_astore X11 hx hby d4_22 rfl (l' := #[rv o0, rv o1, rv o2, iv 1, rv b11, .unset, .unset, .unset, .unset]) rfl (q := 24) rfl ?_
  refine o_aloadN X11 hx hby d4_24 rfl rfl (q := 25) rfl ?_
  refine o_astore X11 hx hby d4_25 rfl (l' := #[rv o0, rv o1, rv o2, iv 1, rv b11, rv o2, .unset, .unset, .unset]) rfl (q := 27) rfl ?_
  refine o_aload X11 hx hby d4_27 rfl rfl (q := 29) rfl ?_
  have q14 := ((((V.other W2 n2).other W3 n2).other W7 n2).ext E11)
  refine o_lenV X11 hx hby hZ e11 q14 d4_29 (q := 30) rfl ?_
  refine o_istore X11 hx hby d4_30 (l' := #[rv o0, rv o1, rv o2, iv 1, rv b11, rv o2, iv 4, .unset, .unset]) rfl (q := 32) rfl ?_
  refine o_iconst X11 hx hby d4_32 (z := 0) rfl (q := 33) rfl ?_
  refine o_istore X11 hx hby d4_33 (l' := #[rv o0, rv o1, rv o2, iv 1, rv b11, rv o2, iv 4, iv 0, .unset]) rfl (q := 35) rfl ?_
  refine t1 X11 hx hby hZ e11 q14 V_b11 rfl ⟨by decide, by decide⟩ (cc := 0) rfl ⟨by decide, by decide⟩ (y := 0) rfl (y' := 1) rfl (i' := 1) rfl (iN := 0) rfl (Nat.le_of_ble_eq_true rfl) fun T15 h15 X15 e15 W15 V15 => ?_
  have ne_o2_b11 : o2 ≠ b11 := Nat.ne_of_lt (Nat.lt_of_lt_of_le V.lt sz_b11)
  have q16 := (q14.other W15 ne_o2_b11)
  refine t1 X15 hx hby hZ e15 q16 V15 rfl ⟨by decide, by decide⟩ (cc := 0) rfl ⟨by decide, by decide⟩ (y := 1) rfl (y' := 2) rfl (i' := 2) rfl (iN := 0) rfl (Nat.le_of_ble_eq_true rfl) fun T17 h17 X17 e17 W17 V17 => ?_
  have q18 := (q16.other W17 ne_o2_b11)
  refine t1 X17 hx hby hZ e17 q18 V17 rfl ⟨by decide, by decide⟩ (cc := 0) rfl ⟨by decide, by decide⟩ (y := 2) rfl (y' := 3) rfl (i' := 3) rfl (iN := 0) rfl (Nat.le_of_ble_eq_true rfl) fun T19 h19 X19 e19 W19 V19 => ?_
  have q20 := (q18.other W19 ne_o2_b11)
  refine t1 X19 hx hby hZ e19 q20 V19 rfl ⟨by decide, by decide⟩ (cc := 0) rfl ⟨by decide, by decide⟩ (y := 3) rfl (y' := 4) rfl (i' := 4) rfl (iN := 0) rfl (Nat.le_of_ble_eq_true rfl) fun T21 h21 X21 e21 W21 V21 => ?_
  refine o_iload X21 hx hby d4_35 rfl (q := 37) rfl ?_
  refine o_iload X21 hx hby d4_37 rfl (q := 39) rfl ?_
  refine o_icY X21 hx hby d4_39 (flt (by decide : ¬ ((4 : Int32) < (4 : Int32)))).2.1 (by decide) (q := 64) (by decide) ?_
  refine o_aloadN X21 hx hby d4_64 rfl rfl (q := 65) rfl ?_
  refine o_iloadN X21 hx hby d4_65 rfl (q := 66) rfl ?_
  obtain ⟨T22, h22, k22, X22, e22, E22, A22, Ex22, O22, st22⟩ := newRA X21 hx hZ hown (ty := .int) (by decide +kernel) (w_ hw 35 rfl) (w_ hw 36 rfl) e21 (g := (mkF m 66 #[rv o0, rv o1, rv o2, iv 1, rv b11, rv o2, iv 4, iv 4, iv 0] [.int 1, .ref o0])) rfl (hb hby d4_66) rfl (by decide) (cap := 1) (by decide) (by decide) (by decide) (by decide) (ad := "[[I") (by decide +kernel)
  obtain ⟨b22, g22⟩ : ∃ z, z = h21.size := ⟨_, rfl⟩
  rw [← g22] at A22 Ex22 st22
  have q23 := (Nat.le_trans (Nat.le_trans (Nat.le_trans (Nat.le_trans (Nat.le_trans q12 E11.1) (Keep.of_wr W15).1) (Keep.of_wr W17).1) (Keep.of_wr W19).1) (Keep.of_wr W21).1)
  have g_b22 : n0 ≤ b22 := Nat.le_trans q23 (Nat.le_of_eq g22.symm)
  have q24 := (Nat.le_trans (Nat.le_trans (Nat.le_trans (Nat.le_trans (Nat.le_trans q13 E11.1) (Keep.of_wr W15).1) (Keep.of_wr W17).1) (Keep.of_wr W19).1) (Keep.of_wr W21).1)
  have sz_b22 : h0.size ≤ b22 := Nat.le_trans q24 (Nat.le_of_eq g22.symm)
  have V_b22 : Arv Z h22 b22 k22 (.array .int) (1 : Int32) [.null] .null := (Arv.new A22 (by decide)).pad (pad_rep [] .null 1)
  refine own_of st22 ?_
  show own_Out p e below _ (T22.setTop (mkF m 69 #[rv o0, rv o1, rv o2, iv 1, rv b11, rv o2, iv 4, iv 4, iv 0] [.ref b22, .ref o0]))
  have ne_o0_b11 : o0 ≠ b11 := Nat.ne_of_lt (Nat.lt_of_lt_of_le E.lt sz_b11)
  have q26 := (((((((((F_classes.other W2 (Or.inr (slot_ne (Or.inr (w_ hw 38 rfl)) (Or.inr (w_ hw 30 rfl)) (by decide) (t := (.array (.array .int))) (t' := (.object "java/lang/String")) (by decide) (by decide)))).other W3 (Or.inr (slot_ne (Or.inr (w_ hw 38 rfl)) (Or.inr (w_ hw 32 rfl)) (by decide) (t := (.array (.array .int))) (t' := (.array .int)) (by decide) (by decide)))).other W7 (Or.inr (slot_ne (Or.inr (w_ hw 38 rfl)) (Or.inr (w_ hw 34 rfl)) (by decide) (t := (.array (.array .int))) (t' := .int) (by decide) (by decide)))).ext E11).other W15 (Or.inl ne_o0_b11)).other W17 (Or.inl ne_o0_b11)).other W19 (Or.inl ne_o0_b11)).other W21 (Or.inl ne_o0_b11)).ext E22)
  have q27 := (((((((q9.wr W7).ext E11).wr W15).wr W17).wr W19).wr W21).ext E22)
  obtain ⟨T25, h25, X25, e25, W25, st25⟩ := putF X22 hx hZ hown (host := "") (Or.inl (w_ hw 37 rfl)) Via.refl e22 q26 q27 (Or.inr ⟨(w_ hw 38 rfl), rfl, hnm⟩) (w_ hw 10 rfl) (ty := (.array (.array .int))) (by decide) rfl rfl (g := (mkF m 69 #[rv o0, rv o1, rv o2, iv 1, rv b11, rv o2, iv 4, iv 4, iv 0] [.ref b22, .ref o0])) rfl rfl (hb hby d4_69)
  have q28 := (((((((((F_classes.other W2 (Or.inr (slot_ne (Or.inr (w_ hw 38 rfl)) (Or.inr (w_ hw 30 rfl)) (by decide) (t := (.array (.array .int))) (t' := (.object "java/lang/String")) (by decide) (by decide)))).other W3 (Or.inr (slot_ne (Or.inr (w_ hw 38 rfl)) (Or.inr (w_ hw 32 rfl)) (by decide) (t := (.array (.array .int))) (t' := (.array .int)) (by decide) (by decide)))).other W7 (Or.inr (slot_ne (Or.inr (w_ hw 38 rfl)) (Or.inr (w_ hw 34 rfl)) (by decide) (t := (.array (.array .int))) (t' := .int) (by decide) (by decide)))).ext E11).other W15 (Or.inl ne_o0_b11)).other W17 (Or.inl ne_o0_b11)).other W19 (Or.inl ne_o0_b11)).other W21 (Or.inl ne_o0_b11)).ext E22)
  have Fw25 := q28.same W25
  refine own_of st25 ?_
  show own_Out p e below _ (T25.setTop (mkF m 72 #[rv o0, rv o1, rv o2, iv 1, rv b11, rv o2, iv 4, iv 4, iv 0] []))
  refine o_iconst X25 hx hby d4_72 (z := 0) rfl (q := 73) rfl ?_
  refine o_istore X25 hx hby d4_73 (l' := #[rv o0, rv o1, rv o2, iv 1, rv b11, iv 0, iv 4, iv 4, iv 0]) rfl (q := 75) rfl ?_
  refine o_iload X25 hx hby d4_75 rfl (q := 77) rfl ?_
  refine o_iloadN X25 hx hby d4_77 rfl (q := 78) rfl ?_
  refine o_icN X25 hx hby d4_78 (tlt (by decide : (0 : Int32) < (1 : Int32))).2.1 (q := 81) rfl ?_
  refine o_aloadN X25 hx hby d4_81 rfl rfl (q := 82) rfl ?_
  refine o_getF X25 hx hZ hown hby (w_ hw 37 rfl) Via.refl e25 Fw25 d4_82 (q := 85) rfl fun T29 X29 e29 => ?_
  refine o_iload X29 hx hby d4_85 rfl (q := 87) rfl ?_
  refine o_aload X29 hx hby d4_87 rfl rfl (q := 89) rfl ?_
  refine o_iload X29 hx hby d4_89 rfl (q := 91) rfl ?_
  have q30 := ((V21.ext E22).other W25 (Ne.symm ne_o0_b11))
  refine o_iaV X29 hx hby hZ e29 q30 ⟨by decide, by decide⟩ (v := .int 4) rfl d4_91 (q := 92) rfl ?_
  obtain ⟨T31, h31, k31, X31, e31, E31, A31, Ex31, st31⟩ := newPE X29 hx hZ (w_ hw 4 rfl) e29 (g := (mkF m 92 #[rv o0, rv o1, rv o2, iv 1, rv b11, iv 0, iv 4, iv 4, iv 0] [.int 4, .int 0, .ref b22])) rfl (hb hby d4_92) rfl (by decide) (cap := 4) (by decide) (by decide) (by decide) (by decide) (ad := "[I") (by decide +kernel)
  obtain ⟨b31, g31⟩ : ∃ z, z = h25.size := ⟨_, rfl⟩
  rw [← g31] at A31 Ex31 st31
  have q32 := (Nat.le_trans (Nat.le_trans q23 E22.1) (Keep.of_wr W25).1)
  have g_b31 : n0 ≤ b31 := Nat.le_trans q32 (Nat.le_of_eq g31.symm)
  have q33 := (Nat.le_trans (Nat.le_trans q24 E22.1) (Keep.of_wr W25).1)
  have sz_b31 : h0.size ≤ b31 := Nat.le_trans q33 (Nat.le_of_eq g31.symm)
  have V_b31 : Arv Z h31 b31 k31 .int (4 : Int32) [(.int (0 : Int32)), (.int (0 : Int32)), (.int (0 : Int32)), (.int (0 : Int32))] (.int (0 : Int32)) := (Arv.new A31 (by decide)).pad (pad_rep [] (.int (0 : Int32)) 4)
  refine own_of st31 ?_
  show own_Out p e below _ (T31.setTop (mkF m 94 #[rv o0, rv o1, rv o2, iv 1, rv b11, iv 0, iv 4, iv 4, iv 0] [.ref b31, .int 0, .ref b22]))
  have ne_o0_b22 : o0 ≠ b22 := Nat.ne_of_lt (Nat.lt_of_lt_of_le E.lt sz_b22)
  have q34 := ((V_b22.other W25 (Ne.symm ne_o0_b22)).ext E31)
  refine o_stVR X31 hx hby hZ e31 q34 ⟨by decide, by decide⟩ 0 rfl (Nat.le_of_ble_eq_true rfl) O22 (Ins.self Ex31) d4_94 (q := 95) rfl fun T35 h35 X35 e35 W35 V35 => ?_
  refine o_iinc X35 hx hby d4_95 rfl (l' := #[rv o0, rv o1, rv o2, iv 1, rv b11, iv 1, iv 4, iv 4, iv 0]) rfl (q := 98) rfl ?_
  refine o_goto X35 hx hby d4_98 (by decide) (q := 75) (by decide) ?_
  refine o_iload X35 hx hby d4_75 rfl (q := 77) rfl ?_
  refine o_iloadN X35 hx hby d4_77 rfl (q := 78) rfl ?_
  refine o_icY X35 hx hby d4_78 (flt (by decide : ¬ ((1 : Int32) < (1 : Int32)))).2.1 (by decide) (q := 101) (by decide) ?_
  refine o_iloadN X35 hx hby d4_101 rfl (q := 102) rfl ?_
  obtain ⟨T36, h36, k36, X36, e36, E36, A36, Ex36, st36⟩ := newPE X35 hx hZ (w_ hw 4 rfl) e35 (g := (mkF m 102 #[rv o0, rv o1, rv o2, iv 1, rv b11, iv 1, iv 4, iv 4, iv 0] [.int 1])) rfl (hb hby d4_102) rfl (by decide) (cap := 1) (by decide) (by decide) (by decide) (by decide) (ad := "[I") (by decide +kernel)
  obtain ⟨b36, g36⟩ : ∃ z, z = h35.size := ⟨_, rfl⟩
  rw [← g36] at A36 Ex36 st36
  have q37 := (Nat.le_trans (Nat.le_trans q32 E31.1) (Keep.of_wr W35).1)
  have g_b36 : n0 ≤ b36 := Nat.le_trans q37 (Nat.le_of_eq g36.symm)
  have q38 := (Nat.le_trans (Nat.le_trans q33 E31.1) (Keep.of_wr W35).1)
  have sz_b36 : h0.size ≤ b36 := Nat.le_trans q38 (Nat.le_of_eq g36.symm)
  have V_b36 : Arv Z h36 b36 k36 .int (1 : Int32) [(.int (0 : Int32))] (.int (0 : Int32)) := (Arv.new A36 (by decide)).pad (pad_rep [] (.int (0 : Int32)) 1)
  refine own_of st36 ?_
  show own_Out p e below _ (T36.setTop (mkF m 104 #[rv o0, rv o1, rv o2, iv 1, rv b11, iv 1, iv 4, iv 4, iv 0] [.ref b36]))
  refine o_astore X36 hx hby d4_104 rfl (l' := #[rv o0, rv o1, rv o2, iv 1, rv b11, rv b36, iv 4, iv 4, iv 0]) rfl (q := 106) rfl ?_
  refine o_iconst X36 hx hby d4_106 (z := 0) rfl (q := 107) rfl ?_
  refine o_istore X36 hx hby d4_107 (l' := #[rv o0, rv o1, rv o2, iv 1, rv b11, rv b36, iv 0, iv 4, iv 0]) rfl (q := 109) rfl ?_
  have ne_o2_b22 : o2 ≠ b22 := Nat.ne_of_lt (Nat.lt_of_lt_of_le V.lt sz_b22)
  have q41 := ((((((q20.other W21 ne_o2_b11).ext E22).other W25 n2).ext E31).other W35 ne_o2_b22).ext E36)
  have q42 := (((Fw25.ext E31).other W35 (Or.inl ne_o0_b22)).ext E36)
  have q43 := (V35.ext E36)
  have ne_b22_b31 : b22 ≠ b31 := Nat.ne_of_lt (Nat.lt_of_lt_of_le (Nat.lt_of_lt_of_le A22.lt (Keep.of_wr W25).1) (Nat.le_of_eq g31.symm))
  have q44 := ((V_b31.other W35 (Ne.symm ne_b22_b31)).ext E36)
  have ne_b31_b36 : b31 ≠ b36 := Nat.ne_of_lt (Nat.lt_of_lt_of_le (Nat.lt_of_lt_of_le A31.lt (Keep.of_wr W35).1) (Nat.le_of_eq g36.symm))
  refine t3 X36 hx hby hZ e36 hw hown q41 q42 q43 V_b36 q44 ne_b31_b36 ⟨by decide, by decide⟩ (x := 0) rfl ⟨by decide, by decide⟩ rfl (f := 0) rfl ⟨by decide, by decide⟩ (f' := 1) rfl (i' := 1) rfl (iN := 0) rfl (Nat.le_of_ble_eq_true rfl) (jN := 0) rfl (Nat.le_of_ble_eq_true rfl) fun T40 h39 h40 X40 e40 W39 W40 V39 V40 => ?_
  have ne_o2_b36 : o2 ≠ b36 := Nat.ne_of_lt (Nat.lt_of_lt_of_le V.lt sz_b36)
  have ne_o2_b31 : o2 ≠ b31 := Nat.ne_of_lt (Nat.lt_of_lt_of_le V.lt sz_b31)
  have q47 := ((q41.other W39 ne_o2_b36).other W40 ne_o2_b31)
  have ne_o0_b36 : o0 ≠ b36 := Nat.ne_of_lt (Nat.lt_of_lt_of_le E.lt sz_b36)
  have ne_o0_b31 : o0 ≠ b31 := Nat.ne_of_lt (Nat.lt_of_lt_of_le E.lt sz_b31)
  have q48 := ((q42.other W39 (Or.inl ne_o0_b36)).other W40 (Or.inl ne_o0_b31))
  have ne_b22_b36 : b22 ≠ b36 := Nat.ne_of_lt (Nat.lt_of_lt_of_le (Nat.lt_of_lt_of_le (Nat.lt_of_lt_of_le (Nat.lt_of_lt_of_le A22.lt (Keep.of_wr W25).1) E31.1) (Keep.of_wr W35).1) (Nat.le_of_eq g36.symm))
  have q49 := ((q43.other W39 ne_b22_b36).other W40 ne_b22_b31)
  have q50 := (V39.other W40 (Ne.symm ne_b31_b36))
  refine t3 X40 hx hby hZ e40 hw hown q47 q48 q49 q50 V40 ne_b31_b36 ⟨by decide, by decide⟩ (x := 0) rfl ⟨by decide, by decide⟩ rfl (f := 1) rfl ⟨by decide, by decide⟩ (f' := 2) rfl (i' := 2) rfl (iN := 0) rfl (Nat.le_of_ble_eq_true rfl) (jN := 1) rfl (Nat.le_of_ble_eq_true rfl) fun T46 h45 h46 X46 e46 W45 W46 V45 V46 => ?_
  have q53 := ((q47.other W45 ne_o2_b36).other W46 ne_o2_b31)
  have q54 := ((q48.other W45 (Or.inl ne_o0_b36)).other W46 (Or.inl ne_o0_b31))
  have q55 := ((q49.other W45 ne_b22_b36).other W46 ne_b22_b31)
  have q56 := (V45.other W46 (Ne.symm ne_b31_b36))
  refine t3 X46 hx hby hZ e46 hw hown q53 q54 q55 q56 V46 ne_b31_b36 ⟨by decide, by decide⟩ (x := 0) rfl ⟨by decide, by decide⟩ rfl (f := 2) rfl ⟨by decide, by decide⟩ (f' := 3) rfl (i' := 3) rfl (iN := 0) rfl (Nat.le_of_ble_eq_true rfl) (jN := 2) rfl (Nat.le_of_ble_eq_true rfl) fun T52 h51 h52 X52 e52 W51 W52 V51 V52 => ?_
  have q59 := ((q53.other W51 ne_o2_b36).other W52 ne_o2_b31)
  have q60 := ((q54.other W51 (Or.inl ne_o0_b36)).other W52 (Or.inl ne_o0_b31))
  have q61 := ((q55.other W51 ne_b22_b36).other W52 ne_b22_b31)
  have q62 := (V51.other W52 (Ne.symm ne_b31_b36))
  refine t3 X52 hx hby hZ e52 hw hown q59 q60 q61 q62 V52 ne_b31_b36 ⟨by decide, by decide⟩ (x := 0) rfl ⟨by decide, by decide⟩ rfl (f := 3) rfl ⟨by decide, by decide⟩ (f' := 4) rfl (i' := 4) rfl (iN := 0) rfl (Nat.le_of_ble_eq_true rfl) (jN := 3) rfl (Nat.le_of_ble_eq_true rfl) fun T58 h57 h58 X58 e58 W57 W58 V57 V58 => ?_
  refine o_iload X58 hx hby d4_109 rfl (q := 111) rfl ?_
  refine o_aloadN X58 hx hby d4_111 rfl rfl (q := 112) rfl ?_
  have q63 := ((q59.other W57 ne_o2_b36).other W58 ne_o2_b31)
  refine o_lenV X58 hx hby hZ e58 q63 d4_112 (q := 113) rfl ?_
  refine o_icY X58 hx hby d4_113 (flt (by decide : ¬ ((4 : Int32) < (4 : Int32)))).2.1 (by decide) (q := 146) (by decide) ?_
  have q64 := ((q60.other W57 (Or.inl ne_o0_b36)).other W58 (Or.inl ne_o0_b31))
  have q65 := ((q61.other W57 ne_b22_b36).other W58 ne_b22_b31)
  have q66 := ((((((((((((((((((((((Keep.refl h0 [o0]).wr W2 (Or.inl (List.mem_of_getElem? (i := 0) rfl))).wr W3 (Or.inl (List.mem_of_getElem? (i := 0) rfl))).wr W7 (Or.inl (List.mem_of_getElem? (i := 0) rfl))).ext E11).wr W15 (Or.inr sz_b11)).wr W17 (Or.inr sz_b11)).wr W19 (Or.inr sz_b11)).wr W21 (Or.inr sz_b11)).ext E22).wr W25 (Or.inl (List.mem_of_getElem? (i := 0) rfl))).ext E31).wr W35 (Or.inr sz_b22)).ext E36).wr W39 (Or.inr sz_b36)).wr W40 (Or.inr sz_b31)).wr W45 (Or.inr sz_b36)).wr W46 (Or.inr sz_b31)).wr W51 (Or.inr sz_b36)).wr W52 (Or.inr sz_b31)).wr W57 (Or.inr sz_b36)).wr W58 (Or.inr sz_b31))
  have q67 := ((((((((((((q27.wr W25).ext E31).wr W35).ext E36).wr W39).wr W40).wr W45).wr W46).wr W51).wr W52).wr W57).wr W58)
  have q68 := (((((((((((((((((((Fw3.other W7 (Or.inr (slot_ne (Or.inr (w_ hw 32 rfl)) (Or.inr (w_ hw 34 rfl)) (by decide) (t := (.array .int)) (t' := .int) (by decide) (by decide)))).ext E11).other W15 (Or.inl ne_o0_b11)).other W17 (Or.inl ne_o0_b11)).other W19 (Or.inl ne_o0_b11)).other W21 (Or.inl ne_o0_b11)).ext E22).other W25 (Or.inr (slot_ne (Or.inr (w_ hw 32 rfl)) (Or.inr (w_ hw 38 rfl)) (by decide) (t := (.array .int)) (t' := (.array (.array .int))) (by decide) (by decide)))).ext E31).other W35 (Or.inl ne_o0_b22)).ext E36).other W39 (Or.inl ne_o0_b36)).other W40 (Or.inl ne_o0_b31)).other W45 (Or.inl ne_o0_b36)).other W46 (Or.inl ne_o0_b31)).other W51 (Or.inl ne_o0_b36)).other W52 (Or.inl ne_o0_b31)).other W57 (Or.inl ne_o0_b36)).other W58 (Or.inl ne_o0_b31))
  have q69 := ((((((((((((((((((Fw7.ext E11).other W15 (Or.inl ne_o0_b11)).other W17 (Or.inl ne_o0_b11)).other W19 (Or.inl ne_o0_b11)).other W21 (Or.inl ne_o0_b11)).ext E22).other W25 (Or.inr (slot_ne (Or.inr (w_ hw 34 rfl)) (Or.inr (w_ hw 38 rfl)) (by decide) (t := .int) (t' := (.array (.array .int))) (by decide) (by decide)))).ext E31).other W35 (Or.inl ne_o0_b22)).ext E36).other W39 (Or.inl ne_o0_b36)).other W40 (Or.inl ne_o0_b31)).other W45 (Or.inl ne_o0_b36)).other W46 (Or.inl ne_o0_b31)).other W51 (Or.inl ne_o0_b36)).other W52 (Or.inl ne_o0_b31)).other W57 (Or.inl ne_o0_b36)).other W58 (Or.inl ne_o0_b31))
  exact own_outV X58 hx hlk hret (hb hby d4_146) (Q := Q4c0000n1 Z o0 o1 o2 k2 h0 n0) (by rw [e58]; exact ⟨rfl, (Fr.snoc X58 (own_snoc (Fr.snoc X52 (own_snoc (Fr.snoc X46 (own_snoc (Fr.snoc X40 (own_snoc (Fr.snoc X35 (Fr.snoc X25 (Fr.snoc X21 (Fr.snoc X19 (Fr.snoc X17 (Fr.snoc X15 (Fr.snoc X7 (Fr.snoc X3 (Fr.snoc X2 N0 g_o0) g_o0) g_o0) g_b11) g_b11) g_b11) g_b11) g_o0) g_b22) g_b36) g_b31) g_b36) g_b31) g_b36) g_b31) g_b36) g_b31), q66, q67, q68, q69, (fun l a0 hw ws h' K o1 oc kc c0 c1 c2 c3 n1 Z1 Fc Vc => rm7r0000 l Z a0 hw ws o0 o1 b22 k22 b31 k31 oc kc c0 c1 c2 c3 h' n1 Z1 (q64.keep K nin0) (q65.keep K nin0) (V58.keep K nin0) Fc Vc)⟩) (by decide) (by decide)
theorem ef_7r0001 (m : MethodId) (x0 : Addr) (x1 : Addr) : entryFrame m #[(.ref x0), (.ref x1)] 10 = mkF m 0 #[.val (.ref x0), .val (.ref x1), .unset, .unset, .unset, .unset, .unset, .unset, .unset, .unset] [] := by first | (simp [entryFrame, mkF, argsToLocals, Value.category]; done) | rfl
def fr0001 (c0 : Int32) (c1 : Int32) (c2 : Int32) (c3 : Int32) : Int32 := if c1 = c0 then (if c2 = c0 then (1 : Int32)
    else (0 : Int32))
  else (0 : Int32)
def Q7r0001 (Z : State) (o0 : Addr) (o1 : Addr) (cc : Addr) (kcc : ClassId) (d0 : Addr) (kd0 : ClassId) (d1 : Addr) (kd1 : ClassId) (oc : Addr) (kc : ClassId) (c0 : Int32) (c1 : Int32) (c2 : Int32) (c3 : Int32) (h0 : Heap) (n0 : Nat) (v : Option Value) (h : Heap) (L : List Loc) : Prop := v = some (.int (fr0001 c0 c1 c2 c3)) ∧ Fr n0 L ∧ h = h0
set_option maxRecDepth 65536 in
set_option maxHeartbeats 40000000 in
theorem rm7r0001 (l : Launch) (Z : State) (a0 : Array Value) (hw : ∀ d ∈ tables_1, d.before a0 Z = true) (ws : List Jvm.Cond) (o0 : Addr) (o1 : Addr) (cc : Addr) (kcc : ClassId) (d0 : Addr) (kd0 : ClassId) (d1 : Addr) (kd1 : ClassId) (oc : Addr) (kc : ClassId) (c0 : Int32) (c1 : Int32) (c2 : Int32) (c3 : Int32) (h0 : Heap) (n0 : Nat) (Z0 : n0 ≤ h0.size) (Fs : Fld Z h0 o0 "com/example/slimc/slimc/game/Observation" "classes" "[[I" (.ref cc)) (Vcc : Arv Z h0 cc kcc (.array .int) (2 : Int32) [(.ref d0), (.ref d1)] .null) (Vd0 : Arv Z h0 d0 kd0 .int (3 : Int32) [(.int (0 : Int32)), (.int (1 : Int32)), (.int (2 : Int32))] (.int (0 : Int32))) (Vd1 : Arv Z h0 d1 kd1 .int (1 : Int32) [(.int (3 : Int32))] (.int (0 : Int32))) (Fc : Fld Z h0 o1 "com/example/slimc/slimc/game/Observation" "classOf" "[I" (.ref oc)) (Vc : Arv Z h0 oc kc .int (4 : Int32) [(.int c0), (.int c1), (.int c2), (.int c3)] (.int (0 : Int32))) :
    MetFree l (⟨"com/example/slimc/slimc/game/Observation", "refines", "(Lcom/example/slimc/slimc/game/Observation;)Z"⟩ : MethodName) (head1 (Jvm.Cond.code (⟨"com/example/slimc/slimc/game/Observation", "refines", "(Lcom/example/slimc/slimc/game/Observation;)Z"⟩ : MethodName) prog_66_method_8_code 10 (some .boolean) :: ws) ({ frames := 0, cells := 0, slots := 0, locals := 0 } : Room)) (fun a U => a = #[(.ref o0), (.ref o1)] ∧ Z.Warmed39 U.vm ∧ U.heap = h0) (fun _ _ _ _ _ => True) (fun _ U o U' => ∃ v L, o = .returned v ∧ Q7r0001 Z o0 o1 cc kcc d0 kd0 d1 kd1 oc kc c0 c1 c2 c3 h0 n0 v U'.heap L ∧ FrameEnd U o U' L ({ frames := 0, cells := 0, slots := 0, locals := 0 } : Room).cells ({ frames := 0, cells := 0, slots := 0, locals := 0 } : Room).slots) := by
  refine MetFree.of_bodySF (plainFor_of_name pn_1) hisR ?_
  intro p e s m args below meth c s₁ Bd hml0 hP hK
  obtain ⟨rfl, hZ, hh⟩ := hP
  have hx := Bd.exec
  have hby := Bd.bytes
  have hml : c.maxLocals = 10 := hml0
  have hown : s.vm.findClass "com/example/slimc/slimc/game/Observation" = some m.cls := findClass_of_methodNamed Bd.named
  have hnm := (name_of_methodNamed Bd.named Bd.method).1
  have X0 : Stand p l e ({ frames := 0, cells := 0, slots := 0, locals := 0 } : Room) s m #[(.ref o0), (.ref o1)] below meth c s₁ [] 0 0 := Stand.of_body Bd
  have e0 : s₁.heap = h0 := by rw [← hh, Bd.state]; rfl
  have N0 := Fr.nil n0
  have hret := Bd.returns
  have hlk := BodyLoose.notSynchronized Bd
  show own_Out p e below (fun o U' => ∃ v L, o = .returned v ∧ Q7r0001 Z o0 o1 cc kcc d0 kd0 d1 kd1 oc kc c0 c1 c2 c3 h0 n0 v U'.heap L ∧ FrameEnd s o U' L ({ frames := 0, cells := 0, slots := 0, locals := 0 } : Room).cells ({ frames := 0, cells := 0, slots := 0, locals := 0 } : Room).slots) (s₁.setTop (entryFrame m #[(.ref o0), (.ref o1)] 10))
  refine own_of (fun t k => castTop (ef_7r0001 m o0 o1) k) ?_
  show own_Out p e below _ (s₁.setTop (mkF m 0 #[rv o0, rv o1, .unset, .unset, .unset, .unset, .unset, .unset, .unset, .unset] []))
  refine o_aloadN X0 hx hby d7_0 rfl rfl (q := 1) rfl ?_
  refine o_getF X0 hx hZ hown hby (w_ hw 37 rfl) Via.refl e0 Fs d7_1 (q := 4) rfl fun T1 X1 e1 => ?_
  refine o_astoreN X1 hx hby d7_4 rfl (l' := #[rv o0, rv o1, rv cc, .unset, .unset, .unset, .unset, .unset, .unset, .unset]) rfl (q := 5) rfl ?_
  refine o_aloadN X1 hx hby d7_5 rfl rfl (q := 6) rfl ?_
  refine o_lenV X1 hx hby hZ e1 Vcc d7_6 (q := 7) rfl ?_
  refine o_istoreN X1 hx hby d7_7 (l' := #[rv o0, rv o1, rv cc, iv 2, .unset, .unset, .unset, .unset, .unset, .unset]) rfl (q := 8) rfl ?_
  refine o_iconst X1 hx hby d7_8 (z := 0) rfl (q := 9) rfl ?_
  refine o_istore X1 hx hby d7_9 (l' := #[rv o0, rv o1, rv cc, iv 2, iv 0, .unset, .unset, .unset, .unset, .unset]) rfl (q := 11) rfl ?_
  refine o_iload X1 hx hby d7_11 rfl (q := 13) rfl ?_
  refine o_iloadN X1 hx hby d7_13 rfl (q := 14) rfl ?_
  refine o_icN X1 hx hby d7_14 (tlt (by decide : (0 : Int32) < (2 : Int32))).2.1 (q := 17) rfl ?_
  refine o_aloadN X1 hx hby d7_17 rfl rfl (q := 18) rfl ?_
  refine o_iload X1 hx hby d7_18 rfl (q := 20) rfl ?_
  refine o_aaV X1 hx hby hZ e1 Vcc rfl ⟨by decide, by decide⟩ (v := .ref d0) rfl d7_20 (q := 21) rfl ?_
  refine o_astore X1 hx hby d7_21 rfl (l' := #[rv o0, rv o1, rv cc, iv 2, iv 0, rv d0, .unset, .unset, .unset, .unset]) rfl (q := 23) rfl ?_
  refine o_aload X1 hx hby d7_23 rfl rfl (q := 25) rfl ?_
  refine o_astore X1 hx hby d7_25 rfl (l' := #[rv o0, rv o1, rv cc, iv 2, iv 0, rv d0, rv d0, .unset, .unset, .unset]) rfl (q := 27) rfl ?_
  refine o_aload X1 hx hby d7_27 rfl rfl (q := 29) rfl ?_
  refine o_lenV X1 hx hby hZ e1 Vd0 d7_29 (q := 30) rfl ?_
  refine o_istore X1 hx hby d7_30 (l' := #[rv o0, rv o1, rv cc, iv 2, iv 0, rv d0, rv d0, iv 3, .unset, .unset]) rfl (q := 32) rfl ?_
  refine o_iconst X1 hx hby d7_32 (z := 0) rfl (q := 33) rfl ?_
  refine o_istore X1 hx hby d7_33 (l' := #[rv o0, rv o1, rv cc, iv 2, iv 0, rv d0, rv d0, iv 3, iv 0, .unset]) rfl (q := 35) rfl ?_
  refine o_iload X1 hx hby d7_35 rfl (q := 37) rfl ?_
  refine o_iload X1 hx hby d7_37 rfl (q := 39) rfl ?_
  refine o_icN X1 hx hby d7_39 (tlt (by decide : (0 : Int32) < (3 : Int32))).2.1 (q := 42) rfl ?_
  refine o_aload X1 hx hby d7_42 rfl rfl (q := 44) rfl ?_
  refine o_iload X1 hx hby d7_44 rfl (q := 46) rfl ?_
  refine o_iaV X1 hx hby hZ e1 Vd0 ⟨by decide, by decide⟩ (v := .int 0) rfl d7_46 (q := 47) rfl ?_
  refine o_istore X1 hx hby d7_47 (l' := #[rv o0, rv o1, rv cc, iv 2, iv 0, rv d0, rv d0, iv 3, iv 0, iv 0]) rfl (q := 49) rfl ?_
  refine o_aloadN X1 hx hby d7_49 rfl rfl (q := 50) rfl ?_
  refine o_getF X1 hx hZ hown hby (w_ hw 31 rfl) Via.refl e1 Fc d7_50 (q := 53) rfl fun T2 X2 e2 => ?_
  refine o_iload X2 hx hby d7_53 rfl (q := 55) rfl ?_
  refine o_iaV X2 hx hby hZ e2 Vc ⟨by decide, by decide⟩ (v := .int c0) rfl d7_55 (q := 56) rfl ?_
  refine o_aloadN X2 hx hby d7_56 rfl rfl (q := 57) rfl ?_
  refine o_getF X2 hx hZ hown hby (w_ hw 31 rfl) Via.refl e2 Fc d7_57 (q := 60) rfl fun T3 X3 e3 => ?_
  refine o_aload X3 hx hby d7_60 rfl rfl (q := 62) rfl ?_
  refine o_iconst X3 hx hby d7_62 (z := 0) rfl (q := 63) rfl ?_
  refine o_iaV X3 hx hby hZ e3 Vd0 ⟨by decide, by decide⟩ (v := .int 0) rfl d7_63 (q := 64) rfl ?_
  refine o_iaV X3 hx hby hZ e3 Vc ⟨by decide, by decide⟩ (v := .int c0) rfl d7_64 (q := 65) rfl ?_
  refine o_icY X3 hx hby d7_65 (teq (rfl : c0 = c0)).1 (by decide) (q := 70) (by decide) ?_
  refine o_iinc X3 hx hby d7_70 rfl (l' := #[rv o0, rv o1, rv cc, iv 2, iv 0, rv d0, rv d0, iv 3, iv 1, iv 0]) rfl (q := 73) rfl ?_
  refine o_goto X3 hx hby d7_73 (by decide) (q := 35) (by decide) ?_
  refine o_iload X3 hx hby d7_35 rfl (q := 37) rfl ?_
  refine o_iload X3 hx hby d7_37 rfl (q := 39) rfl ?_
  refine o_icN X3 hx hby d7_39 (tlt (by decide : (1 : Int32) < (3 : Int32))).2.1 (q := 42) rfl ?_
  refine o_aload X3 hx hby d7_42 rfl rfl (q := 44) rfl ?_
  refine o_iload X3 hx hby d7_44 rfl (q := 46) rfl ?_
  refine o_iaV X3 hx hby hZ e3 Vd0 ⟨by decide, by decide⟩ (v := .int 1) rfl d7_46 (q := 47) rfl ?_
  refine o_istore X3 hx hby d7_47 (l' := #[rv o0, rv o1, rv cc, iv 2, iv 0, rv d0, rv d0, iv 3, iv 1, iv 1]) rfl (q := 49) rfl ?_
  refine o_aloadN X3 hx hby d7_49 rfl rfl (q := 50) rfl ?_
  refine o_getF X3 hx hZ hown hby (w_ hw 31 rfl) Via.refl e3 Fc d7_50 (q := 53) rfl fun T4 X4 e4 => ?_
  refine o_iload X4 hx hby d7_53 rfl (q := 55) rfl ?_
  refine o_iaV X4 hx hby hZ e4 Vc ⟨by decide, by decide⟩ (v := .int c1) rfl d7_55 (q := 56) rfl ?_
  refine o_aloadN X4 hx hby d7_56 rfl rfl (q := 57) rfl ?_
  refine o_getF X4 hx hZ hown hby (w_ hw 31 rfl) Via.refl e4 Fc d7_57 (q := 60) rfl fun T5 X5 e5 => ?_
  refine o_aload X5 hx hby d7_60 rfl rfl (q := 62) rfl ?_
  refine o_iconst X5 hx hby d7_62 (z := 0) rfl (q := 63) rfl ?_
  refine o_iaV X5 hx hby hZ e5 Vd0 ⟨by decide, by decide⟩ (v := .int 0) rfl d7_63 (q := 64) rfl ?_
  refine o_iaV X5 hx hby hZ e5 Vc ⟨by decide, by decide⟩ (v := .int c0) rfl d7_64 (q := 65) rfl ?_
  by_cases hc65_6 : c1 = c0
  · skip
    refine o_icY X5 hx hby d7_65 (teq hc65_6).1 (by decide) (q := 70) (by decide) ?_
    refine o_iinc X5 hx hby d7_70 rfl (l' := #[rv o0, rv o1, rv cc, iv 2, iv 0, rv d0, rv d0, iv 3, iv 2, iv 1]) rfl (q := 73) rfl ?_
    refine o_goto X5 hx hby d7_73 (by decide) (q := 35) (by decide) ?_
    refine o_iload X5 hx hby d7_35 rfl (q := 37) rfl ?_
    refine o_iload X5 hx hby d7_37 rfl (q := 39) rfl ?_
    refine o_icN X5 hx hby d7_39 (tlt (by decide : (2 : Int32) < (3 : Int32))).2.1 (q := 42) rfl ?_
    refine o_aload X5 hx hby d7_42 rfl rfl (q := 44) rfl ?_
    refine o_iload X5 hx hby d7_44 rfl (q := 46) rfl ?_
    refine o_iaV X5 hx hby hZ e5 Vd0 ⟨by decide, by decide⟩ (v := .int 2) rfl d7_46 (q := 47) rfl ?_
    refine o_istore X5 hx hby d7_47 (l' := #[rv o0, rv o1, rv cc, iv 2, iv 0, rv d0, rv d0, iv 3, iv 2, iv 2]) rfl (q := 49) rfl ?_
    refine o_aloadN X5 hx hby d7_49 rfl rfl (q := 50) rfl ?_
    refine o_getF X5 hx hZ hown hby (w_ hw 31 rfl) Via.refl e5 Fc d7_50 (q := 53) rfl fun T7 X7 e7 => ?_
    refine o_iload X7 hx hby d7_53 rfl (q := 55) rfl ?_
    refine o_iaV X7 hx hby hZ e7 Vc ⟨by decide, by decide⟩ (v := .int c2) rfl d7_55 (q := 56) rfl ?_
    refine o_aloadN X7 hx hby d7_56 rfl rfl (q := 57) rfl ?_
    refine o_getF X7 hx hZ hown hby (w_ hw 31 rfl) Via.refl e7 Fc d7_57 (q := 60) rfl fun T8 X8 e8 => ?_
    refine o_aload X8 hx hby d7_60 rfl rfl (q := 62) rfl ?_
    refine o_iconst X8 hx hby d7_62 (z := 0) rfl (q := 63) rfl ?_
    refine o_iaV X8 hx hby hZ e8 Vd0 ⟨by decide, by decide⟩ (v := .int 0) rfl d7_63 (q := 64) rfl ?_
    refine o_iaV X8 hx hby hZ e8 Vc ⟨by decide, by decide⟩ (v := .int c0) rfl d7_64 (q := 65) rfl ?_
    by_cases hc65_9 : c2 = c0
    · skip
      refine o_icY X8 hx hby d7_65 (teq hc65_9).1 (by decide) (q := 70) (by decide) ?_
      refine o_iinc X8 hx hby d7_70 rfl (l' := #[rv o0, rv o1, rv cc, iv 2, iv 0, rv d0, rv d0, iv 3, iv 3, iv 2]) rfl (q := 73) rfl ?_
      refine o_goto X8 hx hby d7_73 (by decide) (q := 35) (by decide) ?_
      refine o_iload X8 hx hby d7_35 rfl (q := 37) rfl ?_
      refine o_iload X8 hx hby d7_37 rfl (q := 39) rfl ?_
      refine o_icY X8 hx hby d7_39 (flt (by decide : ¬ ((3 : Int32) < (3 : Int32)))).2.1 (by decide) (q := 76) (by decide) ?_
      refine o_iinc X8 hx hby d7_76 rfl (l' := #[rv o0, rv o1, rv cc, iv 2, iv 1, rv d0, rv d0, iv 3, iv 3, iv 2]) rfl (q := 79) rfl ?_
      refine o_goto X8 hx hby d7_79 (by decide) (q := 11) (by decide) ?_
      refine o_iload X8 hx hby d7_11 rfl (q := 13) rfl ?_
      refine o_iloadN X8 hx hby d7_13 rfl (q := 14) rfl ?_
      refine o_icN X8 hx hby d7_14 (tlt (by decide : (1 : Int32) < (2 : Int32))).2.1 (q := 17) rfl ?_
      refine o_aloadN X8 hx hby d7_17 rfl rfl (q := 18) rfl ?_
      refine o_iload X8 hx hby d7_18 rfl (q := 20) rfl ?_
      refine o_aaV X8 hx hby hZ e8 Vcc rfl ⟨by decide, by decide⟩ (v := .ref d1) rfl d7_20 (q := 21) rfl ?_
      refine o_astore X8 hx hby d7_21 rfl (l' := #[rv o0, rv o1, rv cc, iv 2, iv 1, rv d1, rv d0, iv 3, iv 3, iv 2]) rfl (q := 23) rfl ?_
      refine o_aload X8 hx hby d7_23 rfl rfl (q := 25) rfl ?_
      refine o_astore X8 hx hby d7_25 rfl (l' := #[rv o0, rv o1, rv cc, iv 2, iv 1, rv d1, rv d1, iv 3, iv 3, iv 2]) rfl (q := 27) rfl ?_
      refine o_aload X8 hx hby d7_27 rfl rfl (q := 29) rfl ?_
      refine o_lenV X8 hx hby hZ e8 Vd1 d7_29 (q := 30) rfl ?_
      refine o_istore X8 hx hby d7_30 (l' := #[rv o0, rv o1, rv cc, iv 2, iv 1, rv d1, rv d1, iv 1, iv 3, iv 2]) rfl (q := 32) rfl ?_
      refine o_iconst X8 hx hby d7_32 (z := 0) rfl (q := 33) rfl ?_
      refine o_istore X8 hx hby d7_33 (l' := #[rv o0, rv o1, rv cc, iv 2, iv 1, rv d1, rv d1, iv 1, iv 0, iv 2]) rfl (q := 35) rfl ?_
      refine o_iload X8 hx hby d7_35 rfl (q := 37) rfl ?_
      refine o_iload X8 hx hby d7_37 rfl (q := 39) rfl ?_
      refine o_icN X8 hx hby d7_39 (tlt (by decide : (0 : Int32) < (1 : Int32))).2.1 (q := 42) rfl ?_
      refine o_aload X8 hx hby d7_42 rfl rfl (q := 44) rfl ?_
      refine o_iload X8 hx hby d7_44 rfl (q := 46) rfl ?_
      refine o_iaV X8 hx hby hZ e8 Vd1 ⟨by decide, by decide⟩ (v := .int 3) rfl d7_46 (q := 47) rfl ?_
      refine o_istore X8 hx hby d7_47 (l' := #[rv o0, rv o1, rv cc, iv 2, iv 1, rv d1, rv d1, iv 1, iv 0, iv 3]) rfl (q := 49) rfl ?_
      refine o_aloadN X8 hx hby d7_49 rfl rfl (q := 50) rfl ?_
      refine o_getF X8 hx hZ hown hby (w_ hw 31 rfl) Via.refl e8 Fc d7_50 (q := 53) rfl fun T10 X10 e10 => ?_
      refine o_iload X10 hx hby d7_53 rfl (q := 55) rfl ?_
      refine o_iaV X10 hx hby hZ e10 Vc ⟨by decide, by decide⟩ (v := .int c3) rfl d7_55 (q := 56) rfl ?_
      refine o_aloadN X10 hx hby d7_56 rfl rfl (q := 57) rfl ?_
      refine o_getF X10 hx hZ hown hby (w_ hw 31 rfl) Via.refl e10 Fc d7_57 (q := 60) rfl fun T11 X11 e11 => ?_
      refine o_aload X11 hx hby d7_60 rfl rfl (q := 62) rfl ?_
      refine o_iconst X11 hx hby d7_62 (z := 0) rfl (q := 63) rfl ?_
      refine o_iaV X11 hx hby hZ e11 Vd1 ⟨by decide, by decide⟩ (v := .int 3) rfl d7_63 (q := 64) rfl ?_
      refine o_iaV X11 hx hby hZ e11 Vc ⟨by decide, by decide⟩ (v := .int c3) rfl d7_64 (q := 65) rfl ?_
      refine o_icY X11 hx hby d7_65 (teq (rfl : c3 = c3)).1 (by decide) (q := 70) (by decide) ?_
      refine o_iinc X11 hx hby d7_70 rfl (l' := #[rv o0, rv o1, rv cc, iv 2, iv 1, rv d1, rv d1, iv 1, iv 1, iv 3]) rfl (q := 73) rfl ?_
      refine o_goto X11 hx hby d7_73 (by decide) (q := 35) (by decide) ?_
      refine o_iload X11 hx hby d7_35 rfl (q := 37) rfl ?_
      refine o_iload X11 hx hby d7_37 rfl (q := 39) rfl ?_
      refine o_icY X11 hx hby d7_39 (flt (by decide : ¬ ((1 : Int32) < (1 : Int32)))).2.1 (by decide) (q := 76) (by decide) ?_
      refine o_iinc X11 hx hby d7_76 rfl (l' := #[rv o0, rv o1, rv cc, iv 2, iv 2, rv d1, rv d1, iv 1, iv 1, iv 3]) rfl (q := 79) rfl ?_
      refine o_goto X11 hx hby d7_79 (by decide) (q := 11) (by decide) ?_
      refine o_iload X11 hx hby d7_11 rfl (q := 13) rfl ?_
      refine o_iloadN X11 hx hby d7_13 rfl (q := 14) rfl ?_
      refine o_icY X11 hx hby d7_14 (flt (by decide : ¬ ((2 : Int32) < (2 : Int32)))).2.1 (by decide) (q := 82) (by decide) ?_
      refine o_iconst X11 hx hby d7_82 (z := 1) rfl (q := 83) rfl ?_
      exact own_outN X11 hx hlk (t := .boolean) hret (by simp) (hb hby d7_83) (z' := (1 : Int32)) rfl (Q := Q7r0001 Z o0 o1 cc kcc d0 kd0 d1 kd1 oc kc c0 c1 c2 c3 h0 n0) ⟨by simp only [fr0001, if_pos hc65_6, if_pos hc65_9], N0, e11⟩ (by decide) (by decide)
    · skip
      refine o_icN X8 hx hby d7_65 (feq hc65_9).1 (q := 68) rfl ?_
      refine o_iconst X8 hx hby d7_68 (z := 0) rfl (q := 69) rfl ?_
      exact own_outN X8 hx hlk (t := .boolean) hret (by simp) (hb hby d7_69) (z' := (0 : Int32)) rfl (Q := Q7r0001 Z o0 o1 cc kcc d0 kd0 d1 kd1 oc kc c0 c1 c2 c3 h0 n0) ⟨by simp only [fr0001, if_pos hc65_6, if_neg hc65_9], N0, e8⟩ (by decide) (by decide)
  · skip
    refine o_icN X5 hx hby d7_65 (feq hc65_6).1 (q := 68) rfl ?_
    refine o_iconst X5 hx hby d7_68 (z := 0) rfl (q := 69) rfl ?_
    exact own_outN X5 hx hlk (t := .boolean) hret (by simp) (hb hby d7_69) (z' := (0 : Int32)) rfl (Q := Q7r0001 Z o0 o1 cc kcc d0 kd0 d1 kd1 oc kc c0 c1 c2 c3 h0 n0) ⟨by simp only [fr0001, if_neg hc65_6], N0, e5⟩ (by decide) (by decide)
theorem ef_4c0001n2 (m : MethodId) (x0 : Addr) (x1 : Addr) (x2 : Addr) : entryFrame m #[(.ref x0), (.ref x1), (.ref x2), (.int (2 : Int32))] 9 = mkF m 0 #[.val (.ref x0), .val (.ref x1), .val (.ref x2), .val (.int (2 : Int32)), .unset, .unset, .unset, .unset, .unset] [] := by first | (simp [entryFrame, mkF, argsToLocals, Value.category]; done) | rfl
def Q4c0001n2 (Z : State) (o0 : Addr) (o1 : Addr) (o2 : Addr) (k2 : ClassId) (h0 : Heap) (n0 : Nat) (v : Option Value) (h : Heap) (L : List Loc) : Prop := v = none ∧ Fr n0 L ∧ Keep h0 h [o0] ∧ Exa Z h o0 "com/example/slimc/slimc/game/Observation" ∧ Fld Z h o0 "com/example/slimc/slimc/game/Observation" "classOf" "[I" (.ref o2) ∧ Fld Z h o0 "com/example/slimc/slimc/game/Observation" "classCount" "I" (.int (2 : Int32)) ∧ RefOk Z h o0 fr0001
set_option maxRecDepth 65536 in
set_option maxHeartbeats 40000000 in
theorem rm4c0001n2 (l : Launch) (Z : State) (a0 : Array Value) (hw : ∀ d ∈ tables_1, d.before a0 Z = true) (ws : List Jvm.Cond) (o0 : Addr) (o1 : Addr) (o2 : Addr) (k2 : ClassId) (h0 : Heap) (n0 : Nat) (Z0 : n0 ≤ h0.size) (E : Exa Z h0 o0 "com/example/slimc/slimc/game/Observation") (F_name : Fld Z h0 o0 "com/example/slimc/slimc/game/Observation" "name" "Ljava/lang/String;" .null) (F_classOf : Fld Z h0 o0 "com/example/slimc/slimc/game/Observation" "classOf" "[I" .null) (F_classCount : Fld Z h0 o0 "com/example/slimc/slimc/game/Observation" "classCount" "I" (.int (0 : Int32))) (F_classes : Fld Z h0 o0 "com/example/slimc/slimc/game/Observation" "classes" "[[I" .null) (g_o0 : n0 ≤ o0) (V : Arv Z h0 o2 k2 .int (4 : Int32) [(.int (0 : Int32)), (.int (0 : Int32)), (.int (0 : Int32)), (.int (1 : Int32))] (.int (0 : Int32))) (n2 : o2 ≠ o0) :
    MetFree l (⟨"com/example/slimc/slimc/game/Observation", "<init>", "(Ljava/lang/String;[II)V"⟩ : MethodName) (head1 (Jvm.Cond.code (⟨"com/example/slimc/slimc/game/Observation", "<init>", "(Ljava/lang/String;[II)V"⟩ : MethodName) prog_66_method_1_code 9 none :: ws) ({ frames := 1, cells := 7, slots := 16, locals := 14 } : Room)) (fun a U => a = #[(.ref o0), (.ref o1), (.ref o2), (.int (2 : Int32))] ∧ Z.Warmed39 U.vm ∧ U.heap = h0) (fun _ _ _ _ _ => True) (fun _ U o U' => ∃ v L, o = .returned v ∧ Q4c0001n2 Z o0 o1 o2 k2 h0 n0 v U'.heap L ∧ FrameEnd U o U' L ({ frames := 1, cells := 7, slots := 16, locals := 14 } : Room).cells ({ frames := 1, cells := 7, slots := 16, locals := 14 } : Room).slots) := by
  refine MetFree.of_bodySF (plainFor_of_name pn_1) hisR ?_
  intro p e s m args below meth c s₁ Bd hml0 hP hK
  obtain ⟨rfl, hZ, hh⟩ := hP
  have hx := Bd.exec
  have hby := Bd.bytes
  have hml : c.maxLocals = 9 := hml0
  have hown : s.vm.findClass "com/example/slimc/slimc/game/Observation" = some m.cls := findClass_of_methodNamed Bd.named
  have hnm := (name_of_methodNamed Bd.named Bd.method).1
  have X0 : Stand p l e ({ frames := 1, cells := 7, slots := 16, locals := 14 } : Room) s m #[(.ref o0), (.ref o1), (.ref o2), (.int (2 : Int32))] below meth c s₁ [] 0 0 := Stand.of_body Bd
  have e0 : s₁.heap = h0 := by rw [← hh, Bd.state]; rfl
  have N0 := Fr.nil n0
  have hret := Bd.returns
  have hlk := BodyLoose.notSynchronized Bd
  show own_Out p e below (fun o U' => ∃ v L, o = .returned v ∧ Q4c0001n2 Z o0 o1 o2 k2 h0 n0 v U'.heap L ∧ FrameEnd s o U' L ({ frames := 1, cells := 7, slots := 16, locals := 14 } : Room).cells ({ frames := 1, cells := 7, slots := 16, locals := 14 } : Room).slots) (s₁.setTop (entryFrame m #[(.ref o0), (.ref o1), (.ref o2), (.int (2 : Int32))] 9))
  refine own_of (fun t k => castTop (ef_4c0001n2 m o0 o1 o2) k) ?_
  show own_Out p e below _ (s₁.setTop (mkF m 0 #[rv o0, rv o1, rv o2, iv 2, .unset, .unset, .unset, .unset, .unset] []))
  refine o_aloadN X0 hx hby d4_0 rfl rfl (q := 1) rfl ?_
  obtain ⟨T1, X1, e1, st1⟩ := initO X0 hx hZ hown (w_ hw 26 rfl) (w_ hw 27 rfl) (w_ hw 28 rfl) e0 (g := (mkF m 1 #[rv o0, rv o1, rv o2, iv 2, .unset, .unset, .unset, .unset, .unset] [.ref o0])) rfl (by rw [hml]; rfl) rfl (hb hby d4_1) (by decide) (W := 0) (by show 2 * 0 + _ ≤ _; exact Nat.le_of_eq rfl) (by decide)
  refine own_of st1 ?_
  show own_Out p e below _ (T1.setTop (mkF m 4 #[rv o0, rv o1, rv o2, iv 2, .unset, .unset, .unset, .unset, .unset] []))
  refine o_aloadN X1 hx hby d4_4 rfl rfl (q := 5) rfl ?_
  refine o_aloadN X1 hx hby d4_5 rfl rfl (q := 6) rfl ?_
  obtain ⟨T2, h2, X2, e2, W2, st2⟩ := putF X1 hx hZ hown (host := "") (Or.inl (w_ hw 29 rfl)) Via.refl e1 F_name E (Or.inr ⟨(w_ hw 30 rfl), rfl, hnm⟩) (w_ hw 10 rfl) (ty := (.object "java/lang/String")) (by decide) rfl rfl (g := (mkF m 6 #[rv o0, rv o1, rv o2, iv 2, .unset, .unset, .unset, .unset, .unset] [.ref o1, .ref o0])) rfl rfl (hb hby d4_6)
  have Fw2 := F_name.same W2
  refine own_of st2 ?_
  show own_Out p e below _ (T2.setTop (mkF m 9 #[rv o0, rv o1, rv o2, iv 2, .unset, .unset, .unset, .unset, .unset] []))
  refine o_aloadN X2 hx hby d4_9 rfl rfl (q := 10) rfl ?_
  refine o_aloadN X2 hx hby d4_10 rfl rfl (q := 11) rfl ?_
  have q4 := (F_classOf.other W2 (Or.inr (slot_ne (Or.inr (w_ hw 32 rfl)) (Or.inr (w_ hw 30 rfl)) (by decide) (t := (.array .int)) (t' := (.object "java/lang/String")) (by decide) (by decide))))
  have q5 := (E.wr W2)
  obtain ⟨T3, h3, X3, e3, W3, st3⟩ := putF X2 hx hZ hown (host := "") (Or.inl (w_ hw 31 rfl)) Via.refl e2 q4 q5 (Or.inr ⟨(w_ hw 32 rfl), rfl, hnm⟩) (w_ hw 10 rfl) (ty := (.array .int)) (by decide) rfl rfl (g := (mkF m 11 #[rv o0, rv o1, rv o2, iv 2, .unset, .unset, .unset, .unset, .unset] [.ref o2, .ref o0])) rfl rfl (hb hby d4_11)
  have q6 := (F_classOf.other W2 (Or.inr (slot_ne (Or.inr (w_ hw 32 rfl)) (Or.inr (w_ hw 30 rfl)) (by decide) (t := (.array .int)) (t' := (.object "java/lang/String")) (by decide) (by decide))))
  have Fw3 := q6.same W3
  refine own_of st3 ?_
  show own_Out p e below _ (T3.setTop (mkF m 14 #[rv o0, rv o1, rv o2, iv 2, .unset, .unset, .unset, .unset, .unset] []))
  refine o_aloadN X3 hx hby d4_14 rfl rfl (q := 15) rfl ?_
  refine o_iloadN X3 hx hby d4_15 rfl (q := 16) rfl ?_
  have q8 := ((F_classCount.other W2 (Or.inr (slot_ne (Or.inr (w_ hw 34 rfl)) (Or.inr (w_ hw 30 rfl)) (by decide) (t := .int) (t' := (.object "java/lang/String")) (by decide) (by decide)))).other W3 (Or.inr (slot_ne (Or.inr (w_ hw 34 rfl)) (Or.inr (w_ hw 32 rfl)) (by decide) (t := .int) (t' := (.array .int)) (by decide) (by decide))))
  have q9 := (q5.wr W3)
  obtain ⟨T7, h7, X7, e7, W7, st7⟩ := putF X3 hx hZ hown (host := "") (Or.inl (w_ hw 33 rfl)) Via.refl e3 q8 q9 (Or.inr ⟨(w_ hw 34 rfl), rfl, hnm⟩) (w_ hw 10 rfl) (ty := .int) (by decide) rfl rfl (g := (mkF m 16 #[rv o0, rv o1, rv o2, iv 2, .unset, .unset, .unset, .unset, .unset] [.int 2, .ref o0])) rfl rfl (hb hby d4_16)
  have q10 := ((F_classCount.other W2 (Or.inr (slot_ne (Or.inr (w_ hw 34 rfl)) (Or.inr (w_ hw 30 rfl)) (by decide) (t := .int) (t' := (.object "java/lang/String")) (by decide) (by decide)))).other W3 (Or.inr (slot_ne (Or.inr (w_ hw 34 rfl)) (Or.inr (w_ hw 32 rfl)) (by decide) (t := .int) (t' := (.array .int)) (by decide) (by decide))))
  have Fw7 := q10.same W7
  refine own_of st7 ?_
  show own_Out p e below _ (T7.setTop (mkF m 19 #[rv o0, rv o1, rv o2, iv 2, .unset, .unset, .unset, .unset, .unset] []))
  refine o_iloadN X7 hx hby d4_19 rfl (q := 20) rfl ?_
  obtain ⟨T11, h11, k11, X11, e11, E11, A11, Ex11, st11⟩ := newPE X7 hx hZ (w_ hw 4 rfl) e7 (g := (mkF m 20 #[rv o0, rv o1, rv o2, iv 2, .unset, .unset, .unset, .unset, .unset] [.int 2])) rfl (hb hby d4_20) rfl (by decide) (cap := 2) (by decide) (by decide) (by decide) (by decide) (ad := "[I") (by decide +kernel)
  obtain ⟨b11, g11⟩ : ∃ z, z = h7.size := ⟨_, rfl⟩
  rw [← g11] at A11 Ex11 st11
  have q12 := (Nat.le_trans (Nat.le_trans (Nat.le_trans Z0 (Keep.of_wr W2).1) (Keep.of_wr W3).1) (Keep.of_wr W7).1)
  have g_b11 : n0 ≤ b11 := Nat.le_trans q12 (Nat.le_of_eq g11.symm)
  have q13 := (Nat.le_trans (Nat.le_trans (Nat.le_trans (Nat.le_refl h0.size) (Keep.of_wr W2).1) (Keep.of_wr W3).1) (Keep.of_wr W7).1)
  have sz_b11 : h0.size ≤ b11 := Nat.le_trans q13 (Nat.le_of_eq g11.symm)
  have V_b11 : Arv Z h11 b11 k11 .int (2 : Int32) [(.int (0 : Int32)), (.int (0 : Int32))] (.int (0 : Int32)) := (Arv.new A11 (by decide)).pad (pad_rep [] (.int (0 : Int32)) 2)
  refine own_of st11 ?_
  show own_Out p e below _ (T11.setTop (mkF m 22 #[rv o0, rv o1, rv o2, iv 2, .unset, .unset, .unset, .unset, .unset] [.ref b11]))
  refine o_astore X11 hx hby d4_22 rfl (l' := #[rv o0, rv o1, rv o2, iv 2, rv b11, .unset, .unset, .unset, .unset]) rfl (q := 24) rfl ?_
  refine o_aloadN X11 hx hby d4_24 rfl rfl (q := 25) rfl ?_
  refine o_astore X11 hx hby d4_25 rfl (l' := #[rv o0, rv o1, rv o2, iv 2, rv b11, rv o2, .unset, .unset, .unset]) rfl (q := 27) rfl ?_
  refine o_aload X11 hx hby d4_27 rfl rfl (q := 29) rfl ?_
  have q14 := ((((V.other W2 n2).other W3 n2).other W7 n2).ext E11)
  refine o_lenV X11 hx hby hZ e11 q14 d4_29 (q := 30) rfl ?_
  refine o_istore X11 hx hby d4_30 (l' := #[rv o0, rv o1, rv o2, iv 2, rv b11, rv o2, iv 4, .unset, .unset]) rfl (q := 32) rfl ?_
  refine o_iconst X11 hx hby d4_32 (z := 0) rfl (q := 33) rfl ?_
  refine o_istore X11 hx hby d4_33 (l' := #[rv o0, rv o1, rv o2, iv 2, rv b11, rv o2, iv 4, iv 0, .unset]) rfl (q := 35) rfl ?_
  refine t1 X11 hx hby hZ e11 q14 V_b11 rfl ⟨by decide, by decide⟩ (cc := 0) rfl ⟨by decide, by decide⟩ (y := 0) rfl (y' := 1) rfl (i' := 1) rfl (iN := 0) rfl (Nat.le_of_ble_eq_true rfl) fun T15 h15 X15 e15 W15 V15 => ?_
  have ne_o2_b11 : o2 ≠ b11 := Nat.ne_of_lt (Nat.lt_of_lt_of_le V.lt sz_b11)
  have q16 := (q14.other W15 ne_o2_b11)
  refine t1 X15 hx hby hZ e15 q16 V15 rfl ⟨by decide, by decide⟩ (cc := 0) rfl ⟨by decide, by decide⟩ (y := 1) rfl (y' := 2) rfl (i' := 2) rfl (iN := 0) rfl (Nat.le_of_ble_eq_true rfl) fun T17 h17 X17 e17 W17 V17 => ?_
  have q18 := (q16.other W17 ne_o2_b11)
  refine t1 X17 hx hby hZ e17 q18 V17 rfl ⟨by decide, by decide⟩ (cc := 0) rfl ⟨by decide, by decide⟩ (y := 2) rfl (y' := 3) rfl (i' := 3) rfl (iN := 0) rfl (Nat.le_of_ble_eq_true rfl) fun T19 h19 X19 e19 W19 V19 => ?_
  have q20 := (q18.other W19 ne_o2_b11)
  refine t1 X19 hx hby hZ e19 q20 V19 rfl ⟨by decide, by decide⟩ (cc := 1) rfl ⟨by decide, by decide⟩ (y := 0) rfl (y' := 1) rfl (i' := 4) rfl (iN := 1) rfl (Nat.le_of_ble_eq_true rfl) fun T21 h21 X21 e21 W21 V21 => ?_
  refine o_iload X21 hx hby d4_35 rfl (q := 37) rfl ?_
  refine o_iload X21 hx hby d4_37 rfl (q := 39) rfl ?_
  refine o_icY X21 hx hby d4_39 (flt (by decide : ¬ ((4 : Int32) < (4 : Int32)))).2.1 (by decide) (q := 64) (by decide) ?_
  refine o_aloadN X21 hx hby d4_64 rfl rfl (q := 65) rfl ?_
  refine o_iloadN X21 hx hby d4_65 rfl (q := 66) rfl ?_
  obtain ⟨T22, h22, k22, X22, e22, E22, A22, Ex22, O22, st22⟩ := newRA X21 hx hZ hown (ty := .int) (by decide +kernel) (w_ hw 35 rfl) (w_ hw 36 rfl) e21 (g := (mkF m 66 #[rv o0, rv o1, rv o2, iv 2, rv b11, rv o2, iv 4, iv 4, iv 1] [.int 2, .ref o0])) rfl (hb hby d4_66) rfl (by decide) (cap := 2) (by decide) (by decide) (by decide) (by decide) (ad := "[[I") (by decide +kernel)
  obtain ⟨b22, g22⟩ : ∃ z, z = h21.size := ⟨_, rfl⟩
  rw [← g22] at A22 Ex22 st22
  have q23 := (Nat.le_trans (Nat.le_trans (Nat.le_trans (Nat.le_trans (Nat.le_trans q12 E11.1) (Keep.of_wr W15).1) (Keep.of_wr W17).1) (Keep.of_wr W19).1) (Keep.of_wr W21).1)
  have g_b22 : n0 ≤ b22 := Nat.le_trans q23 (Nat.le_of_eq g22.symm)
  have q24 := (Nat.le_trans (Nat.le_trans (Nat.le_trans (Nat.le_trans (Nat.le_trans q13 E11.1) (Keep.of_wr W15).1) (Keep.of_wr W17).1) (Keep.of_wr W19).1) (Keep.of_wr W21).1)
  have sz_b22 : h0.size ≤ b22 := Nat.le_trans q24 (Nat.le_of_eq g22.symm)
  have V_b22 : Arv Z h22 b22 k22 (.array .int) (2 : Int32) [.null, .null] .null := (Arv.new A22 (by decide)).pad (pad_rep [] .null 2)
  refine own_of st22 ?_
  show own_Out p e below _ (T22.setTop (mkF m 69 #[rv o0, rv o1, rv o2, iv 2, rv b11, rv o2, iv 4, iv 4, iv 1] [.ref b22, .ref o0]))
  have ne_o0_b11 : o0 ≠ b11 := Nat.ne_of_lt (Nat.lt_of_lt_of_le E.lt sz_b11)
  have q26 := (((((((((F_classes.other W2 (Or.inr (slot_ne (Or.inr (w_ hw 38 rfl)) (Or.inr (w_ hw 30 rfl)) (by decide) (t := (.array (.array .int))) (t' := (.object "java/lang/String")) (by decide) (by decide)))).other W3 (Or.inr (slot_ne (Or.inr (w_ hw 38 rfl)) (Or.inr (w_ hw 32 rfl)) (by decide) (t := (.array (.array .int))) (t' := (.array .int)) (by decide) (by decide)))).other W7 (Or.inr (slot_ne (Or.inr (w_ hw 38 rfl)) (Or.inr (w_ hw 34 rfl)) (by decide) (t := (.array (.array .int))) (t' := .int) (by decide) (by decide)))).ext E11).other W15 (Or.inl ne_o0_b11)).other W17 (Or.inl ne_o0_b11)).other W19 (Or.inl ne_o0_b11)).other W21 (Or.inl ne_o0_b11)).ext E22)
  have q27 := (((((((q9.wr W7).ext E11).wr W15).wr W17).wr W19).wr W21).ext E22)
  obtain ⟨T25, h25, X25, e25, W25, st25⟩ := putF X22 hx hZ hown (host := "") (Or.inl (w_ hw 37 rfl)) Via.refl e22 q26 q27 (Or.inr ⟨(w_ hw 38 rfl), rfl, hnm⟩) (w_ hw 10 rfl) (ty := (.array (.array .int))) (by decide) rfl rfl (g := (mkF m 69 #[rv o0, rv o1, rv o2, iv 2, rv b11, rv o2, iv 4, iv 4, iv 1] [.ref b22, .ref o0])) rfl rfl (hb hby d4_69)
  have q28 := (((((((((F_classes.other W2 (Or.inr (slot_ne (Or.inr (w_ hw 38 rfl)) (Or.inr (w_ hw 30 rfl)) (by decide) (t := (.array (.array .int))) (t' := (.object "java/lang/String")) (by decide) (by decide)))).other W3 (Or.inr (slot_ne (Or.inr (w_ hw 38 rfl)) (Or.inr (w_ hw 32 rfl)) (by decide) (t := (.array (.array .int))) (t' := (.array .int)) (by decide) (by decide)))).other W7 (Or.inr (slot_ne (Or.inr (w_ hw 38 rfl)) (Or.inr (w_ hw 34 rfl)) (by decide) (t := (.array (.array .int))) (t' := .int) (by decide) (by decide)))).ext E11).other W15 (Or.inl ne_o0_b11)).other W17 (Or.inl ne_o0_b11)).other W19 (Or.inl ne_o0_b11)).other W21 (Or.inl ne_o0_b11)).ext E22)
  have Fw25 := q28.same W25
  refine own_of st25 ?_
  show own_Out p e below _ (T25.setTop (mkF m 72 #[rv o0, rv o1, rv o2, iv 2, rv b11, rv o2, iv 4, iv 4, iv 1] []))
  refine o_iconst X25 hx hby d4_72 (z := 0) rfl (q := 73) rfl ?_
  refine o_istore X25 hx hby d4_73 (l' := #[rv o0, rv o1, rv o2, iv 2, rv b11, iv 0, iv 4, iv 4, iv 1]) rfl (q := 75) rfl ?_
  refine o_iload X25 hx hby d4_75 rfl (q := 77) rfl ?_
  refine o_iloadN X25 hx hby d4_77 rfl (q := 78) rfl ?_
  refine o_icN X25 hx hby d4_78 (tlt (by decide : (0 : Int32) < (2 : Int32))).2.1 (q := 81) rfl ?_
  refine o_aloadN X25 hx hby d4_81 rfl rfl (q := 82) rfl ?_
  refine o_getF X25 hx hZ hown hby (w_ hw 37 rfl) Via.refl e25 Fw25 d4_82 (q := 85) rfl fun T29 X29 e29 => ?_
  refine o_iload X29 hx hby d4_85 rfl (q := 87) rfl ?_
  refine o_aload X29 hx hby d4_87 rfl rfl (q := 89) rfl ?_
  refine o_iload X29 hx hby d4_89 rfl (q := 91) rfl ?_
  have q30 := ((V21.ext E22).other W25 (Ne.symm ne_o0_b11))
  refine o_iaV X29 hx hby hZ e29 q30 ⟨by decide, by decide⟩ (v := .int 3) rfl d4_91 (q := 92) rfl ?_
  obtain ⟨T31, h31, k31, X31, e31, E31, A31, Ex31, st31⟩ := newPE X29 hx hZ (w_ hw 4 rfl) e29 (g := (mkF m 92 #[rv o0, rv o1, rv o2, iv 2, rv b11, iv 0, iv 4, iv 4, iv 1] [.int 3, .int 0, .ref b22])) rfl (hb hby d4_92) rfl (by decide) (cap := 3) (by decide) (by decide) (by decide) (by decide) (ad := "[I") (by decide +kernel)
  obtain ⟨b31, g31⟩ : ∃ z, z = h25.size := ⟨_, rfl⟩
  rw [← g31] at A31 Ex31 st31
  have q32 := (Nat.le_trans (Nat.le_trans q23 E22.1) (Keep.of_wr W25).1)
  have g_b31 : n0 ≤ b31 := Nat.le_trans q32 (Nat.le_of_eq g31.symm)
  have q33 := (Nat.le_trans (Nat.le_trans q24 E22.1) (Keep.of_wr W25).1)
  have sz_b31 : h0.size ≤ b31 := Nat.le_trans q33 (Nat.le_of_eq g31.symm)
  have V_b31 : Arv Z h31 b31 k31 .int (3 : Int32) [(.int (0 : Int32)), (.int (0 : Int32)), (.int (0 : Int32))] (.int (0 : Int32)) := (Arv.new A31 (by decide)).pad (pad_rep [] (.int (0 : Int32)) 3)
  refine own_of st31 ?_
  show own_Out p e below _ (T31.setTop (mkF m 94 #[rv o0, rv o1, rv o2, iv 2, rv b11, iv 0, iv 4, iv 4, iv 1] [.ref b31, .int 0, .ref b22]))
  have ne_o0_b22 : o0 ≠ b22 := Nat.ne_of_lt (Nat.lt_of_lt_of_le E.lt sz_b22)
  have q34 := ((V_b22.other W25 (Ne.symm ne_o0_b22)).ext E31)
  refine o_stVR X31 hx hby hZ e31 q34 ⟨by decide, by decide⟩ 0 rfl (Nat.le_of_ble_eq_true rfl) O22 (Ins.self Ex31) d4_94 (q := 95) rfl fun T35 h35 X35 e35 W35 V35 => ?_
  refine o_iinc X35 hx hby d4_95 rfl (l' := #[rv o0, rv o1, rv o2, iv 2, rv b11, iv 1, iv 4, iv 4, iv 1]) rfl (q := 98) rfl ?_
  refine o_goto X35 hx hby d4_98 (by decide) (q := 75) (by decide) ?_
  refine o_iload X35 hx hby d4_75 rfl (q := 77) rfl ?_
  refine o_iloadN X35 hx hby d4_77 rfl (q := 78) rfl ?_
  refine o_icN X35 hx hby d4_78 (tlt (by decide : (1 : Int32) < (2 : Int32))).2.1 (q := 81) rfl ?_
  refine o_aloadN X35 hx hby d4_81 rfl rfl (q := 82) rfl ?_
  have q37 := ((Fw25.ext E31).other W35 (Or.inl ne_o0_b22))
  refine o_getF X35 hx hZ hown hby (w_ hw 37 rfl) Via.refl e35 q37 d4_82 (q := 85) rfl fun T36 X36 e36 => ?_
  refine o_iload X36 hx hby d4_85 rfl (q := 87) rfl ?_
  refine o_aload X36 hx hby d4_87 rfl rfl (q := 89) rfl ?_
  refine o_iload X36 hx hby d4_89 rfl (q := 91) rfl ?_
  have ne_b11_b22 : b11 ≠ b22 := Nat.ne_of_lt (Nat.lt_of_lt_of_le (Nat.lt_of_lt_of_le (Nat.lt_of_lt_of_le (Nat.lt_of_lt_of_le (Nat.lt_of_lt_of_le A11.lt (Keep.of_wr W15).1) (Keep.of_wr W17).1) (Keep.of_wr W19).1) (Keep.of_wr W21).1) (Nat.le_of_eq g22.symm))
  have q38 := ((q30.ext E31).other W35 ne_b11_b22)
  refine o_iaV X36 hx hby hZ e36 q38 ⟨by decide, by decide⟩ (v := .int 1) rfl d4_91 (q := 92) rfl ?_
  obtain ⟨T39, h39, k39, X39, e39, E39, A39, Ex39, st39⟩ := newPE X36 hx hZ (w_ hw 4 rfl) e36 (g := (mkF m 92 #[rv o0, rv o1, rv o2, iv 2, rv b11, iv 1, iv 4, iv 4, iv 1] [.int 1, .int 1, .ref b22])) rfl (hb hby d4_92) rfl (by decide) (cap := 1) (by decide) (by decide) (by decide) (by decide) (ad := "[I") (by decide +kernel)
  obtain ⟨b39, g39⟩ : ∃ z, z = h35.size := ⟨_, rfl⟩
  rw [← g39] at A39 Ex39 st39
  have q40 := (Nat.le_trans (Nat.le_trans q32 E31.1) (Keep.of_wr W35).1)
  have g_b39 : n0 ≤ b39 := Nat.le_trans q40 (Nat.le_of_eq g39.symm)
  have q41 := (Nat.le_trans (Nat.le_trans q33 E31.1) (Keep.of_wr W35).1)
  have sz_b39 : h0.size ≤ b39 := Nat.le_trans q41 (Nat.le_of_eq g39.symm)
  have V_b39 : Arv Z h39 b39 k39 .int (1 : Int32) [(.int (0 : Int32))] (.int (0 : Int32)) := (Arv.new A39 (by decide)).pad (pad_rep [] (.int (0 : Int32)) 1)
  refine own_of st39 ?_
  show own_Out p e below _ (T39.setTop (mkF m 94 #[rv o0, rv o1, rv o2, iv 2, rv b11, iv 1, iv 4, iv 4, iv 1] [.ref b39, .int 1, .ref b22]))
  have q42 := (V35.ext E39)
  refine o_stVR X39 hx hby hZ e39 q42 ⟨by decide, by decide⟩ 1 rfl (Nat.le_of_ble_eq_true rfl) O22 (Ins.self Ex39) d4_94 (q := 95) rfl fun T43 h43 X43 e43 W43 V43 => ?_
  refine o_iinc X43 hx hby d4_95 rfl (l' := #[rv o0, rv o1, rv o2, iv 2, rv b11, iv 2, iv 4, iv 4, iv 1]) rfl (q := 98) rfl ?_
  refine o_goto X43 hx hby d4_98 (by decide) (q := 75) (by decide) ?_
  refine o_iload X43 hx hby d4_75 rfl (q := 77) rfl ?_
  refine o_iloadN X43 hx hby d4_77 rfl (q := 78) rfl ?_
  refine o_icY X43 hx hby d4_78 (flt (by decide : ¬ ((2 : Int32) < (2 : Int32)))).2.1 (by decide) (q := 101) (by decide) ?_
  refine o_iloadN X43 hx hby d4_101 rfl (q := 102) rfl ?_
  obtain ⟨T44, h44, k44, X44, e44, E44, A44, Ex44, st44⟩ := newPE X43 hx hZ (w_ hw 4 rfl) e43 (g := (mkF m 102 #[rv o0, rv o1, rv o2, iv 2, rv b11, iv 2, iv 4, iv 4, iv 1] [.int 2])) rfl (hb hby d4_102) rfl (by decide) (cap := 2) (by decide) (by decide) (by decide) (by decide) (ad := "[I") (by decide +kernel)
  obtain ⟨b44, g44⟩ : ∃ z, z = h43.size := ⟨_, rfl⟩
  rw [← g44] at A44 Ex44 st44
  have q45 := (Nat.le_trans (Nat.le_trans q40 E39.1) (Keep.of_wr W43).1)
  have g_b44 : n0 ≤ b44 := Nat.le_trans q45 (Nat.le_of_eq g44.symm)
  have q46 := (Nat.le_trans (Nat.le_trans q41 E39.1) (Keep.of_wr W43).1)
  have sz_b44 : h0.size ≤ b44 := Nat.le_trans q46 (Nat.le_of_eq g44.symm)
  have V_b44 : Arv Z h44 b44 k44 .int (2 : Int32) [(.int (0 : Int32)), (.int (0 : Int32))] (.int (0 : Int32)) := (Arv.new A44 (by decide)).pad (pad_rep [] (.int (0 : Int32)) 2)
  refine own_of st44 ?_
  show own_Out p e below _ (T44.setTop (mkF m 104 #[rv o0, rv o1, rv o2, iv 2, rv b11, iv 2, iv 4, iv 4, iv 1] [.ref b44]))
  refine o_astore X44 hx hby d4_104 rfl (l' := #[rv o0, rv o1, rv o2, iv 2, rv b11, rv b44, iv 4, iv 4, iv 1]) rfl (q := 106) rfl ?_
  refine o_iconst X44 hx hby d4_106 (z := 0) rfl (q := 107) rfl ?_
  refine o_istore X44 hx hby d4_107 (l' := #[rv o0, rv o1, rv o2, iv 2, rv b11, rv b44, iv 0, iv 4, iv 1]) rfl (q := 109) rfl ?_
  have ne_o2_b22 : o2 ≠ b22 := Nat.ne_of_lt (Nat.lt_of_lt_of_le V.lt sz_b22)
  have q49 := ((((((((q20.other W21 ne_o2_b11).ext E22).other W25 n2).ext E31).other W35 ne_o2_b22).ext E39).other W43 ne_o2_b22).ext E44)
  have q50 := (((q37.ext E39).other W43 (Or.inl ne_o0_b22)).ext E44)
  have q51 := (V43.ext E44)
  have ne_b22_b31 : b22 ≠ b31 := Nat.ne_of_lt (Nat.lt_of_lt_of_le (Nat.lt_of_lt_of_le A22.lt (Keep.of_wr W25).1) (Nat.le_of_eq g31.symm))
  have q52 := ((((V_b31.other W35 (Ne.symm ne_b22_b31)).ext E39).other W43 (Ne.symm ne_b22_b31)).ext E44)
  have ne_b31_b44 : b31 ≠ b44 := Nat.ne_of_lt (Nat.lt_of_lt_of_le (Nat.lt_of_lt_of_le (Nat.lt_of_lt_of_le (Nat.lt_of_lt_of_le A31.lt (Keep.of_wr W35).1) E39.1) (Keep.of_wr W43).1) (Nat.le_of_eq g44.symm))
  refine t3 X44 hx hby hZ e44 hw hown q49 q50 q51 V_b44 q52 ne_b31_b44 ⟨by decide, by decide⟩ (x := 0) rfl ⟨by decide, by decide⟩ rfl (f := 0) rfl ⟨by decide, by decide⟩ (f' := 1) rfl (i' := 1) rfl (iN := 0) rfl (Nat.le_of_ble_eq_true rfl) (jN := 0) rfl (Nat.le_of_ble_eq_true rfl) fun T48 h47 h48 X48 e48 W47 W48 V47 V48 => ?_
  have ne_o2_b44 : o2 ≠ b44 := Nat.ne_of_lt (Nat.lt_of_lt_of_le V.lt sz_b44)
  have ne_o2_b31 : o2 ≠ b31 := Nat.ne_of_lt (Nat.lt_of_lt_of_le V.lt sz_b31)
  have q55 := ((q49.other W47 ne_o2_b44).other W48 ne_o2_b31)
  have ne_o0_b44 : o0 ≠ b44 := Nat.ne_of_lt (Nat.lt_of_lt_of_le E.lt sz_b44)
  have ne_o0_b31 : o0 ≠ b31 := Nat.ne_of_lt (Nat.lt_of_lt_of_le E.lt sz_b31)
  have q56 := ((q50.other W47 (Or.inl ne_o0_b44)).other W48 (Or.inl ne_o0_b31))
  have ne_b22_b44 : b22 ≠ b44 := Nat.ne_of_lt (Nat.lt_of_lt_of_le (Nat.lt_of_lt_of_le (Nat.lt_of_lt_of_le (Nat.lt_of_lt_of_le (Nat.lt_of_lt_of_le (Nat.lt_of_lt_of_le A22.lt (Keep.of_wr W25).1) E31.1) (Keep.of_wr W35).1) E39.1) (Keep.of_wr W43).1) (Nat.le_of_eq g44.symm))
  have q57 := ((q51.other W47 ne_b22_b44).other W48 ne_b22_b31)
  have q58 := (V47.other W48 (Ne.symm ne_b31_b44))
  refine t3 X48 hx hby hZ e48 hw hown q55 q56 q57 q58 V48 ne_b31_b44 ⟨by decide, by decide⟩ (x := 0) rfl ⟨by decide, by decide⟩ rfl (f := 1) rfl ⟨by decide, by decide⟩ (f' := 2) rfl (i' := 2) rfl (iN := 0) rfl (Nat.le_of_ble_eq_true rfl) (jN := 1) rfl (Nat.le_of_ble_eq_true rfl) fun T54 h53 h54 X54 e54 W53 W54 V53 V54 => ?_
  have q61 := ((q55.other W53 ne_o2_b44).other W54 ne_o2_b31)
  have q62 := ((q56.other W53 (Or.inl ne_o0_b44)).other W54 (Or.inl ne_o0_b31))
  have q63 := ((q57.other W53 ne_b22_b44).other W54 ne_b22_b31)
  have q64 := (V53.other W54 (Ne.symm ne_b31_b44))
  refine t3 X54 hx hby hZ e54 hw hown q61 q62 q63 q64 V54 ne_b31_b44 ⟨by decide, by decide⟩ (x := 0) rfl ⟨by decide, by decide⟩ rfl (f := 2) rfl ⟨by decide, by decide⟩ (f' := 3) rfl (i' := 3) rfl (iN := 0) rfl (Nat.le_of_ble_eq_true rfl) (jN := 2) rfl (Nat.le_of_ble_eq_true rfl) fun T60 h59 h60 X60 e60 W59 W60 V59 V60 => ?_
  have q67 := ((q61.other W59 ne_o2_b44).other W60 ne_o2_b31)
  have q68 := ((q62.other W59 (Or.inl ne_o0_b44)).other W60 (Or.inl ne_o0_b31))
  have q69 := ((q63.other W59 ne_b22_b44).other W60 ne_b22_b31)
  have q70 := (V59.other W60 (Ne.symm ne_b31_b44))
  have ne_b22_b39 : b22 ≠ b39 := Nat.ne_of_lt (Nat.lt_of_lt_of_le (Nat.lt_of_lt_of_le (Nat.lt_of_lt_of_le (Nat.lt_of_lt_of_le A22.lt (Keep.of_wr W25).1) E31.1) (Keep.of_wr W35).1) (Nat.le_of_eq g39.symm))
  have ne_b39_b44 : b39 ≠ b44 := Nat.ne_of_lt (Nat.lt_of_lt_of_le (Nat.lt_of_lt_of_le A39.lt (Keep.of_wr W43).1) (Nat.le_of_eq g44.symm))
  have ne_b31_b39 : b31 ≠ b39 := Nat.ne_of_lt (Nat.lt_of_lt_of_le (Nat.lt_of_lt_of_le A31.lt (Keep.of_wr W35).1) (Nat.le_of_eq g39.symm))
  have q71 := ((((((((V_b39.other W43 (Ne.symm ne_b22_b39)).ext E44).other W47 ne_b39_b44).other W48 (Ne.symm ne_b31_b39)).other W53 ne_b39_b44).other W54 (Ne.symm ne_b31_b39)).other W59 ne_b39_b44).other W60 (Ne.symm ne_b31_b39))
  refine t3 X60 hx hby hZ e60 hw hown q67 q68 q69 q70 q71 ne_b39_b44 ⟨by decide, by decide⟩ (x := 1) rfl ⟨by decide, by decide⟩ rfl (f := 0) rfl ⟨by decide, by decide⟩ (f' := 1) rfl (i' := 4) rfl (iN := 1) rfl (Nat.le_of_ble_eq_true rfl) (jN := 0) rfl (Nat.le_of_ble_eq_true rfl) fun T66 h65 h66 X66 e66 W65 W66 V65 V66 => ?_
  refine o_iload X66 hx hby d4_109 rfl (q := 111) rfl ?_
  refine o_aloadN X66 hx hby d4_111 rfl rfl (q := 112) rfl ?_
  have ne_o2_b39 : o2 ≠ b39 := Nat.ne_of_lt (Nat.lt_of_lt_of_le V.lt sz_b39)
  have q72 := ((q67.other W65 ne_o2_b44).other W66 ne_o2_b39)
  refine o_lenV X66 hx hby hZ e66 q72 d4_112 (q := 113) rfl ?_
  refine o_icY X66 hx hby d4_113 (flt (by decide : ¬ ((4 : Int32) < (4 : Int32)))).2.1 (by decide) (q := 146) (by decide) ?_
  have ne_o0_b39 : o0 ≠ b39 := Nat.ne_of_lt (Nat.lt_of_lt_of_le E.lt sz_b39)
  have q73 := ((q68.other W65 (Or.inl ne_o0_b44)).other W66 (Or.inl ne_o0_b39))
  have q74 := ((q69.other W65 ne_b22_b44).other W66 ne_b22_b39)
  have q75 := ((V60.other W65 ne_b31_b44).other W66 ne_b31_b39)
  have q76 := ((((((((((((((((((((((((Keep.refl h0 [o0]).wr W2 (Or.inl (List.mem_of_getElem? (i := 0) rfl))).wr W3 (Or.inl (List.mem_of_getElem? (i := 0) rfl))).wr W7 (Or.inl (List.mem_of_getElem? (i := 0) rfl))).ext E11).wr W15 (Or.inr sz_b11)).wr W17 (Or.inr sz_b11)).wr W19 (Or.inr sz_b11)).wr W21 (Or.inr sz_b11)).ext E22).wr W25 (Or.inl (List.mem_of_getElem? (i := 0) rfl))).ext E31).wr W35 (Or.inr sz_b22)).ext E39).wr W43 (Or.inr sz_b22)).ext E44).wr W47 (Or.inr sz_b44)).wr W48 (Or.inr sz_b31)).wr W53 (Or.inr sz_b44)).wr W54 (Or.inr sz_b31)).wr W59 (Or.inr sz_b44)).wr W60 (Or.inr sz_b31)).wr W65 (Or.inr sz_b44)).wr W66 (Or.inr sz_b39))
  have q77 := ((((((((((((((q27.wr W25).ext E31).wr W35).ext E39).wr W43).ext E44).wr W47).wr W48).wr W53).wr W54).wr W59).wr W60).wr W65).wr W66)
  have q78 := (((((((((((((((((((((Fw3.other W7 (Or.inr (slot_ne (Or.inr (w_ hw 32 rfl)) (Or.inr (w_ hw 34 rfl)) (by decide) (t := (.array .int)) (t' := .int) (by decide) (by decide)))).ext E11).other W15 (Or.inl ne_o0_b11)).other W17 (Or.inl ne_o0_b11)).other W19 (Or.inl ne_o0_b11)).other W21 (Or.inl ne_o0_b11)).ext E22).other W25 (Or.inr (slot_ne (Or.inr (w_ hw 32 rfl)) (Or.inr (w_ hw 38 rfl)) (by decide) (t := (.array .int)) (t' := (.array (.array .int))) (by decide) (by decide)))).ext E31).other W35 (Or.inl ne_o0_b22)).ext E39).other W43 (Or.inl ne_o0_b22)).ext E44).other W47 (Or.inl ne_o0_b44)).other W48 (Or.inl ne_o0_b31)).other W53 (Or.inl ne_o0_b44)).other W54 (Or.inl ne_o0_b31)).other W59 (Or.inl ne_o0_b44)).other W60 (Or.inl ne_o0_b31)).other W65 (Or.inl ne_o0_b44)).other W66 (Or.inl ne_o0_b39))
  have q79 := ((((((((((((((((((((Fw7.ext E11).other W15 (Or.inl ne_o0_b11)).other W17 (Or.inl ne_o0_b11)).other W19 (Or.inl ne_o0_b11)).other W21 (Or.inl ne_o0_b11)).ext E22).other W25 (Or.inr (slot_ne (Or.inr (w_ hw 34 rfl)) (Or.inr (w_ hw 38 rfl)) (by decide) (t := .int) (t' := (.array (.array .int))) (by decide) (by decide)))).ext E31).other W35 (Or.inl ne_o0_b22)).ext E39).other W43 (Or.inl ne_o0_b22)).ext E44).other W47 (Or.inl ne_o0_b44)).other W48 (Or.inl ne_o0_b31)).other W53 (Or.inl ne_o0_b44)).other W54 (Or.inl ne_o0_b31)).other W59 (Or.inl ne_o0_b44)).other W60 (Or.inl ne_o0_b31)).other W65 (Or.inl ne_o0_b44)).other W66 (Or.inl ne_o0_b39))
  exact own_outV X66 hx hlk hret (hb hby d4_146) (Q := Q4c0001n2 Z o0 o1 o2 k2 h0 n0) (by rw [e66]; exact ⟨rfl, (Fr.snoc X66 (own_snoc (Fr.snoc X60 (own_snoc (Fr.snoc X54 (own_snoc (Fr.snoc X48 (own_snoc (Fr.snoc X43 (Fr.snoc X35 (Fr.snoc X25 (Fr.snoc X21 (Fr.snoc X19 (Fr.snoc X17 (Fr.snoc X15 (Fr.snoc X7 (Fr.snoc X3 (Fr.snoc X2 N0 g_o0) g_o0) g_o0) g_b11) g_b11) g_b11) g_b11) g_o0) g_b22) g_b22) g_b44) g_b31) g_b44) g_b31) g_b44) g_b31) g_b44) g_b39), q76, q77, q78, q79, (fun l a0 hw ws h' K o1 oc kc c0 c1 c2 c3 n1 Z1 Fc Vc => rm7r0001 l Z a0 hw ws o0 o1 b22 k22 b31 k31 b39 k39 oc kc c0 c1 c2 c3 h' n1 Z1 (q73.keep K nin0) (q74.keep K nin0) (q75.keep K nin0) (V66.keep K nin0) Fc Vc)⟩) (by decide) (by decide)
theorem ef_7r0010 (m : MethodId) (x0 : Addr) (x1 : Addr) : entryFrame m #[(.ref x0), (.ref x1)] 10 = mkF m 0 #[.val (.ref x0), .val (.ref x1), .unset, .unset, .unset, .unset, .unset, .unset, .unset, .unset] [] := by first | (simp [entryFrame, mkF, argsToLocals, Value.category]; done) | rfl
def fr0010 (c0 : Int32) (c1 : Int32) (c2 : Int32) (c3 : Int32) : Int32 := if c1 = c0 then (if c3 = c0 then (1 : Int32)
    else (0 : Int32))
  else (0 : Int32)
def Q7r0010 (Z : State) (o0 : Addr) (o1 : Addr) (cc : Addr) (kcc : ClassId) (d0 : Addr) (kd0 : ClassId) (d1 : Addr) (kd1 : ClassId) (oc : Addr) (kc : ClassId) (c0 : Int32) (c1 : Int32) (c2 : Int32) (c3 : Int32) (h0 : Heap) (n0 : Nat) (v : Option Value) (h : Heap) (L : List Loc) : Prop := v = some (.int (fr0010 c0 c1 c2 c3)) ∧ Fr n0 L ∧ h = h0
set_option maxRecDepth 65536 in
set_option maxHeartbeats 40000000 in
theorem rm7r0010 (l : Launch) (Z : State) (a0 : Array Value) (hw : ∀ d ∈ tables_1, d.before a0 Z = true) (ws : List Jvm.Cond) (o0 : Addr) (o1 : Addr) (cc : Addr) (kcc : ClassId) (d0 : Addr) (kd0 : ClassId) (d1 : Addr) (kd1 : ClassId) (oc : Addr) (kc : ClassId) (c0 : Int32) (c1 : Int32) (c2 : Int32) (c3 : Int32) (h0 : Heap) (n0 : Nat) (Z0 : n0 ≤ h0.size) (Fs : Fld Z h0 o0 "com/example/slimc/slimc/game/Observation" "classes" "[[I" (.ref cc)) (Vcc : Arv Z h0 cc kcc (.array .int) (2 : Int32) [(.ref d0), (.ref d1)] .null) (Vd0 : Arv Z h0 d0 kd0 .int (3 : Int32) [(.int (0 : Int32)), (.int (1 : Int32)), (.int (3 : Int32))] (.int (0 : Int32))) (Vd1 : Arv Z h0 d1 kd1 .int (1 : Int32) [(.int (2 : Int32))] (.int (0 : Int32))) (Fc : Fld Z h0 o1 "com/example/slimc/slimc/game/Observation" "classOf" "[I" (.ref oc)) (Vc : Arv Z h0 oc kc .int (4 : Int32) [(.int c0), (.int c1), (.int c2), (.int c3)] (.int (0 : Int32))) :
    MetFree l (⟨"com/example/slimc/slimc/game/Observation", "refines", "(Lcom/example/slimc/slimc/game/Observation;)Z"⟩ : MethodName) (head1 (Jvm.Cond.code (⟨"com/example/slimc/slimc/game/Observation", "refines", "(Lcom/example/slimc/slimc/game/Observation;)Z"⟩ : MethodName) prog_66_method_8_code 10 (some .boolean) :: ws) ({ frames := 0, cells := 0, slots := 0, locals := 0 } : Room)) (fun a U => a = #[(.ref o0), (.ref o1)] ∧ Z.Warmed39 U.vm ∧ U.heap = h0) (fun _ _ _ _ _ => True) (fun _ U o U' => ∃ v L, o = .returned v ∧ Q7r0010 Z o0 o1 cc kcc d0 kd0 d1 kd1 oc kc c0 c1 c2 c3 h0 n0 v U'.heap L ∧ FrameEnd U o U' L ({ frames := 0, cells := 0, slots := 0, locals := 0 } : Room).cells ({ frames := 0, cells := 0, slots := 0, locals := 0 } : Room).slots) := by
  refine MetFree.of_bodySF (plainFor_of_name pn_1) hisR ?_
  intro p e s m args below meth c s₁ Bd hml0 hP hK
  obtain ⟨rfl, hZ, hh⟩ := hP
  have hx := Bd.exec
  have hby := Bd.bytes
  have hml : c.maxLocals = 10 := hml0
  have hown : s.vm.findClass "com/example/slimc/slimc/game/Observation" = some m.cls := findClass_of_methodNamed Bd.named
  have hnm := (name_of_methodNamed Bd.named Bd.method).1
  have X0 : Stand p l e ({ frames := 0, cells := 0, slots := 0, locals := 0 } : Room) s m #[(.ref o0), (.ref o1)] below meth c s₁ [] 0 0 := Stand.of_body Bd
  have e0 : s₁.heap = h0 := by rw [← hh, Bd.state]; rfl
  have N0 := Fr.nil n0
  have hret := Bd.returns
  have hlk := BodyLoose.notSynchronized Bd
  show own_Out p e below (fun o U' => ∃ v L, o = .returned v ∧ Q7r0010 Z o0 o1 cc kcc d0 kd0 d1 kd1 oc kc c0 c1 c2 c3 h0 n0 v U'.heap L ∧ FrameEnd s o U' L ({ frames := 0, cells := 0, slots := 0, locals := 0 } : Room).cells ({ frames := 0, cells := 0, slots := 0, locals := 0 } : Room).slots) (s₁.setTop (entryFrame m #[(.ref o0), (.ref o1)] 10))
  refine own_of (fun t k => castTop (ef_7r0010 m o0 o1) k) ?_
  show own_Out p e below _ (s₁.setTop (mkF m 0 #[rv o0, rv o1, .unset, .unset, .unset, .unset, .unset, .unset, .unset, .unset] []))
  refine o_aloadN X0 hx hby d7_0 rfl rfl (q := 1) rfl ?_
  refine o_getF X0 hx hZ hown hby (w_ hw 37 rfl) Via.refl e0 Fs d7_1 (q := 4) rfl fun T1 X1 e1 => ?_
  refine o_astoreN X1 hx hby d7_4 rfl (l' := #[rv o0, rv o1, rv cc, .unset, .unset, .unset, .unset, .unset, .unset, .unset]) rfl (q := 5) rfl ?_
  refine o_aloadN X1 hx hby d7_5 rfl rfl (q := 6) rfl ?_
  refine o_lenV X1 hx hby hZ e1 Vcc d7_6 (q := 7) rfl ?_
  refine o_istoreN X1 hx hby d7_7 (l' := #[rv o0, rv o1, rv cc, iv 2, .unset, .unset, .unset, .unset, .unset, .unset]) rfl (q := 8) rfl ?_
  refine o_iconst X1 hx hby d7_8 (z := 0) rfl (q := 9) rfl ?_
  refine o_istore X1 hx hby d7_9 (l' := #[rv o0, rv o1, rv cc, iv 2, iv 0, .unset, .unset, .unset, .unset, .unset]) rfl (q := 11) rfl ?_
  refine o_iload X1 hx hby d7_11 rfl (q := 13) rfl ?_
  refine o_iloadN X1 hx hby d7_13 rfl (q := 14) rfl ?_
  refine o_icN X1 hx hby d7_14 (tlt (by decide : (0 : Int32) < (2 : Int32))).2.1 (q := 17) rfl ?_
  refine o_aloadN X1 hx hby d7_17 rfl rfl (q := 18) rfl ?_
  refine o_iload X1 hx hby d7_18 rfl (q := 20) rfl ?_
  refine o_aaV X1 hx hby hZ e1 Vcc rfl ⟨by decide, by decide⟩ (v := .ref d0) rfl d7_20 (q := 21) rfl ?_
  refine o_astore X1 hx hby d7_21 rfl (l' := #[rv o0, rv o1, rv cc, iv 2, iv 0, rv d0, .unset, .unset, .unset, .unset]) rfl (q := 23) rfl ?_
  refine o_aload X1 hx hby d7_23 rfl rfl (q := 25) rfl ?_
  refine o_astore X1 hx hby d7_25 rfl (l' := #[rv o0, rv o1, rv cc, iv 2, iv 0, rv d0, rv d0, .unset, .unset, .unset]) rfl (q := 27) rfl ?_
  refine o_aload X1 hx hby d7_27 rfl rfl (q := 29) rfl ?_
  refine o_lenV X1 hx hby hZ e1 Vd0 d7_29 (q := 30) rfl ?_
  refine o_istore X1 hx hby d7_30 (l' := #[rv o0, rv o1, rv cc, iv 2, iv 0, rv d0, rv d0, iv 3, .unset, .unset]) rfl (q := 32) rfl ?_
  refine o_iconst X1 hx hby d7_32 (z := 0) rfl (q := 33) rfl ?_
  refine o_istore X1 hx hby d7_33 (l' := #[rv o0, rv o1, rv cc, iv 2, iv 0, rv d0, rv d0, iv 3, iv 0, .unset]) rfl (q := 35) rfl ?_
  refine o_iload X1 hx hby d7_35 rfl (q := 37) rfl ?_
  refine o_iload X1 hx hby d7_37 rfl (q := 39) rfl ?_
  refine o_icN X1 hx hby d7_39 (tlt (by decide : (0 : Int32) < (3 : Int32))).2.1 (q := 42) rfl ?_
  refine o_aload X1 hx hby d7_42 rfl rfl (q := 44) rfl ?_
  refine o_iload X1 hx hby d7_44 rfl (q := 46) rfl ?_
  refine o_iaV X1 hx hby hZ e1 Vd0 ⟨by decide, by decide⟩ (v := .int 0) rfl d7_46 (q := 47) rfl ?_
  refine o_istore X1 hx hby d7_47 (l' := #[rv o0, rv o1, rv cc, iv 2, iv 0, rv d0, rv d0, iv 3, iv 0, iv 0]) rfl (q := 49) rfl ?_
  refine o_aloadN X1 hx hby d7_49 rfl rfl (q := 50) rfl ?_
  refine o_getF X1 hx hZ hown hby (w_ hw 31 rfl) Via.refl e1 Fc d7_50 (q := 53) rfl fun T2 X2 e2 => ?_
  refine o_iload X2 hx hby d7_53 rfl (q := 55) rfl ?_
  refine o_iaV X2 hx hby hZ e2 Vc ⟨by decide, by decide⟩ (v := .int c0) rfl d7_55 (q := 56) rfl ?_
  refine o_aloadN X2 hx hby d7_56 rfl rfl (q := 57) rfl ?_
  refine o_getF X2 hx hZ hown hby (w_ hw 31 rfl) Via.refl e2 Fc d7_57 (q := 60) rfl fun T3 X3 e3 => ?_
  refine o_aload X3 hx hby d7_60 rfl rfl (q := 62) rfl ?_
  refine o_iconst X3 hx hby d7_62 (z := 0) rfl (q := 63) rfl ?_
  refine o_iaV X3 hx hby hZ e3 Vd0 ⟨by decide, by decide⟩ (v := .int 0) rfl d7_63 (q := 64) rfl ?_
  refine o_iaV X3 hx hby hZ e3 Vc ⟨by decide, by decide⟩ (v := .int c0) rfl d7_64 (q := 65) rfl ?_
  refine o_icY X3 hx hby d7_65 (teq (rfl : c0 = c0)).1 (by decide) (q := 70) (by decide) ?_
  refine o_iinc X3 hx hby d7_70 rfl (l' := #[rv o0, rv o1, rv cc, iv 2, iv 0, rv d0, rv d0, iv 3, iv 1, iv 0]) rfl (q := 73) rfl ?_
  refine o_goto X3 hx hby d7_73 (by decide) (q := 35) (by decide) ?_
  refine o_iload X3 hx hby d7_35 rfl (q := 37) rfl ?_
  refine o_iload X3 hx hby d7_37 rfl (q := 39) rfl ?_
  refine o_icN X3 hx hby d7_39 (tlt (by decide : (1 : Int32) < (3 : Int32))).2.1 (q := 42) rfl ?_
  refine o_aload X3 hx hby d7_42 rfl rfl (q := 44) rfl ?_
  refine o_iload X3 hx hby d7_44 rfl (q := 46) rfl ?_
  refine o_iaV X3 hx hby hZ e3 Vd0 ⟨by decide, by decide⟩ (v := .int 1) rfl d7_46 (q := 47) rfl ?_
  refine o_istore X3 hx hby d7_47 (l' := #[rv o0, rv o1, rv cc, iv 2, iv 0, rv d0, rv d0, iv 3, iv 1, iv 1]) rfl (q := 49) rfl ?_
  refine o_aloadN X3 hx hby d7_49 rfl rfl (q := 50) rfl ?_
  refine o_getF X3 hx hZ hown hby (w_ hw 31 rfl) Via.refl e3 Fc d7_50 (q := 53) rfl fun T4 X4 e4 => ?_
  refine o_iload X4 hx hby d7_53 rfl (q := 55) rfl ?_
  refine o_iaV X4 hx hby hZ e4 Vc ⟨by decide, by decide⟩ (v := .int c1) rfl d7_55 (q := 56) rfl ?_
  refine o_aloadN X4 hx hby d7_56 rfl rfl (q := 57) rfl ?_
  refine o_getF X4 hx hZ hown hby (w_ hw 31 rfl) Via.refl e4 Fc d7_57 (q := 60) rfl fun T5 X5 e5 => ?_
  refine o_aload X5 hx hby d7_60 rfl rfl (q := 62) rfl ?_
  refine o_iconst X5 hx hby d7_62 (z := 0) rfl (q := 63) rfl ?_
  refine o_iaV X5 hx hby hZ e5 Vd0 ⟨by decide, by decide⟩ (v := .int 0) rfl d7_63 (q := 64) rfl ?_
  refine o_iaV X5 hx hby hZ e5 Vc ⟨by decide, by decide⟩ (v := .int c0) rfl d7_64 (q := 65) rfl ?_
  by_cases hc65_6 : c1 = c0
  · skip
    refine o_icY X5 hx hby d7_65 (teq hc65_6).1 (by decide) (q := 70) (by decide) ?_
    refine o_iinc X5 hx hby d7_70 rfl (l' := #[rv o0, rv o1, rv cc, iv 2, iv 0, rv d0, rv d0, iv 3, iv 2, iv 1]) rfl (q := 73) rfl ?_
    refine o_goto X5 hx hby d7_73 (by decide) (q := 35) (by decide) ?_
    refine o_iload X5 hx hby d7_35 rfl (q := 37) rfl ?_
    refine o_iload X5 hx hby d7_37 rfl (q := 39) rfl ?_
    refine o_icN X5 hx hby d7_39 (tlt (by decide : (2 : Int32) < (3 : Int32))).2.1 (q := 42) rfl ?_
    refine o_aload X5 hx hby d7_42 rfl rfl (q := 44) rfl ?_
    refine o_iload X5 hx hby d7_44 rfl (q := 46) rfl ?_
    refine o_iaV X5 hx hby hZ e5 Vd0 ⟨by decide, by decide⟩ (v := .int 3) rfl d7_46 (q := 47) rfl ?_
    refine o_istore X5 hx hby d7_47 (l' := #[rv o0, rv o1, rv cc, iv 2, iv 0, rv d0, rv d0, iv 3, iv 2, iv 3]) rfl (q := 49) rfl ?_
    refine o_aloadN X5 hx hby d7_49 rfl rfl (q := 50) rfl ?_
    refine o_getF X5 hx hZ hown hby (w_ hw 31 rfl) Via.refl e5 Fc d7_50 (q := 53) rfl fun T7 X7 e7 => ?_
    refine o_iload X7 hx hby d7_53 rfl (q := 55) rfl ?_
    refine o_iaV X7 hx hby hZ e7 Vc ⟨by decide, by decide⟩ (v := .int c3) rfl d7_55 (q := 56) rfl ?_
    refine o_aloadN X7 hx hby d7_56 rfl rfl (q := 57) rfl ?_
    refine o_getF X7 hx hZ hown hby (w_ hw 31 rfl) Via.refl e7 Fc d7_57 (q := 60) rfl fun T8 X8 e8 => ?_
    refine o_aload X8 hx hby d7_60 rfl rfl (q := 62) rfl ?_
    refine o_iconst X8 hx hby d7_62 (z := 0) rfl (q := 63) rfl ?_
    refine o_iaV X8 hx hby hZ e8 Vd0 ⟨by decide, by decide⟩ (v := .int 0) rfl d7_63 (q := 64) rfl ?_
    refine o_iaV X8 hx hby hZ e8 Vc ⟨by decide, by decide⟩ (v := .int c0) rfl d7_64 (q := 65) rfl ?_
    by_cases hc65_9 : c3 = c0
    · skip
      refine o_icY X8 hx hby d7_65 (teq hc65_9).1 (by decide) (q := 70) (by decide) ?_
      refine o_iinc X8 hx hby d7_70 rfl (l' := #[rv o0, rv o1, rv cc, iv 2, iv 0, rv d0, rv d0, iv 3, iv 3, iv 3]) rfl (q := 73) rfl ?_
      refine o_goto X8 hx hby d7_73 (by decide) (q := 35) (by decide) ?_
      refine o_iload X8 hx hby d7_35 rfl (q := 37) rfl ?_
      refine o_iload X8 hx hby d7_37 rfl (q := 39) rfl ?_
      refine o_icY X8 hx hby d7_39 (flt (by decide : ¬ ((3 : Int32) < (3 : Int32)))).2.1 (by decide) (q := 76) (by decide) ?_
      refine o_iinc X8 hx hby d7_76 rfl (l' := #[rv o0, rv o1, rv cc, iv 2, iv 1, rv d0, rv d0, iv 3, iv 3, iv 3]) rfl (q := 79) rfl ?_
      refine o_goto X8 hx hby d7_79 (by decide) (q := 11) (by decide) ?_
      refine o_iload X8 hx hby d7_11 rfl (q := 13) rfl ?_
      refine o_iloadN X8 hx hby d7_13 rfl (q := 14) rfl ?_
      refine o_icN X8 hx hby d7_14 (tlt (by decide : (1 : Int32) < (2 : Int32))).2.1 (q := 17) rfl ?_
      refine o_aloadN X8 hx hby d7_17 rfl rfl (q := 18) rfl ?_
      refine o_iload X8 hx hby d7_18 rfl (q := 20) rfl ?_
      refine o_aaV X8 hx hby hZ e8 Vcc rfl ⟨by decide, by decide⟩ (v := .ref d1) rfl d7_20 (q := 21) rfl ?_
      refine o_astore X8 hx hby d7_21 rfl (l' := #[rv o0, rv o1, rv cc, iv 2, iv 1, rv d1, rv d0, iv 3, iv 3, iv 3]) rfl (q := 23) rfl ?_
      refine o_aload X8 hx hby d7_23 rfl rfl (q := 25) rfl ?_
      refine o_astore X8 hx hby d7_25 rfl (l' := #[rv o0, rv o1, rv cc, iv 2, iv 1, rv d1, rv d1, iv 3, iv 3, iv 3]) rfl (q := 27) rfl ?_
      refine o_aload X8 hx hby d7_27 rfl rfl (q := 29) rfl ?_
      refine o_lenV X8 hx hby hZ e8 Vd1 d7_29 (q := 30) rfl ?_
      refine o_istore X8 hx hby d7_30 (l' := #[rv o0, rv o1, rv cc, iv 2, iv 1, rv d1, rv d1, iv 1, iv 3, iv 3]) rfl (q := 32) rfl ?_
      refine o_iconst X8 hx hby d7_32 (z := 0) rfl (q := 33) rfl ?_
      refine o_istore X8 hx hby d7_33 (l' := #[rv o0, rv o1, rv cc, iv 2, iv 1, rv d1, rv d1, iv 1, iv 0, iv 3]) rfl (q := 35) rfl ?_
      refine o_iload X8 hx hby d7_35 rfl (q := 37) rfl ?_
      refine o_iload X8 hx hby d7_37 rfl (q := 39) rfl ?_
      refine o_icN X8 hx hby d7_39 (tlt (by decide : (0 : Int32) < (1 : Int32))).2.1 (q := 42) rfl ?_
      refine o_aload X8 hx hby d7_42 rfl rfl (q := 44) rfl ?_
      refine o_iload X8 hx hby d7_44 rfl (q := 46) rfl ?_
      refine o_iaV X8 hx hby hZ e8 Vd1 ⟨by decide, by decide⟩ (v := .int 2) rfl d7_46 (q := 47) rfl ?_
      refine o_istore X8 hx hby d7_47 (l' := #[rv o0, rv o1, rv cc, iv 2, iv 1, rv d1, rv d1, iv 1, iv 0, iv 2]) rfl (q := 49) rfl ?_
      refine o_aloadN X8 hx hby d7_49 rfl rfl (q := 50) rfl ?_
      refine o_getF X8 hx hZ hown hby (w_ hw 31 rfl) Via.refl e8 Fc d7_50 (q := 53) rfl fun T10 X10 e10 => ?_
      refine o_iload X10 hx hby d7_53 rfl (q := 55) rfl ?_
      refine o_iaV X10 hx hby hZ e10 Vc ⟨by decide, by decide⟩ (v := .int c2) rfl d7_55 (q := 56) rfl ?_
      refine o_aloadN X10 hx hby d7_56 rfl rfl (q := 57) rfl ?_
      refine o_getF X10 hx hZ hown hby (w_ hw 31 rfl) Via.refl e10 Fc d7_57 (q := 60) rfl fun T11 X11 e11 => ?_
      refine o_aload X11 hx hby d7_60 rfl rfl (q := 62) rfl ?_
      refine o_iconst X11 hx hby d7_62 (z := 0) rfl (q := 63) rfl ?_
      refine o_iaV X11 hx hby hZ e11 Vd1 ⟨by decide, by decide⟩ (v := .int 2) rfl d7_63 (q := 64) rfl ?_
      refine o_iaV X11 hx hby hZ e11 Vc ⟨by decide, by decide⟩ (v := .int c2) rfl d7_64 (q := 65) rfl ?_
      refine o_icY X11 hx hby d7_65 (teq (rfl : c2 = c2)).1 (by decide) (q := 70) (by decide) ?_
      refine o_iinc X11 hx hby d7_70 rfl (l' := #[rv o0, rv o1, rv cc, iv 2, iv 1, rv d1, rv d1, iv 1, iv 1, iv 2]) rfl (q := 73) rfl ?_
      refine o_goto X11 hx hby d7_73 (by decide) (q := 35) (by decide) ?_
      refine o_iload X11 hx hby d7_35 rfl (q := 37) rfl ?_
      refine o_iload X11 hx hby d7_37 rfl (q := 39) rfl ?_
      refine o_icY X11 hx hby d7_39 (flt (by decide : ¬ ((1 : Int32) < (1 : Int32)))).2.1 (by decide) (q := 76) (by decide) ?_
      refine o_iinc X11 hx hby d7_76 rfl (l' := #[rv o0, rv o1, rv cc, iv 2, iv 2, rv d1, rv d1, iv 1, iv 1, iv 2]) rfl (q := 79) rfl ?_
      refine o_goto X11 hx hby d7_79 (by decide) (q := 11) (by decide) ?_
      refine o_iload X11 hx hby d7_11 rfl (q := 13) rfl ?_
      refine o_iloadN X11 hx hby d7_13 rfl (q := 14) rfl ?_
      refine o_icY X11 hx hby d7_14 (flt (by decide : ¬ ((2 : Int32) < (2 : Int32)))).2.1 (by decide) (q := 82) (by decide) ?_
      refine o_iconst X11 hx hby d7_82 (z := 1) rfl (q := 83) rfl ?_
      exact own_outN X11 hx hlk (t := .boolean) hret (by simp) (hb hby d7_83) (z' := (1 : Int32)) rfl (Q := Q7r0010 Z o0 o1 cc kcc d0 kd0 d1 kd1 oc kc c0 c1 c2 c3 h0 n0) ⟨by simp only [fr0010, if_pos hc65_6, if_pos hc65_9], N0, e11⟩ (by decide) (by decide)
    · skip
      refine o_icN X8 hx hby d7_65 (feq hc65_9).1 (q := 68) rfl ?_
      refine o_iconst X8 hx hby d7_68 (z := 0) rfl (q := 69) rfl ?_
      exact own_outN X8 hx hlk (t := .boolean) hret (by simp) (hb hby d7_69) (z' := (0 : Int32)) rfl (Q := Q7r0010 Z o0 o1 cc kcc d0 kd0 d1 kd1 oc kc c0 c1 c2 c3 h0 n0) ⟨by simp only [fr0010, if_pos hc65_6, if_neg hc65_9], N0, e8⟩ (by decide) (by decide)
  · skip
    refine o_icN X5 hx hby d7_65 (feq hc65_6).1 (q := 68) rfl ?_
    refine o_iconst X5 hx hby d7_68 (z := 0) rfl (q := 69) rfl ?_
    exact own_outN X5 hx hlk (t := .boolean) hret (by simp) (hb hby d7_69) (z' := (0 : Int32)) rfl (Q := Q7r0010 Z o0 o1 cc kcc d0 kd0 d1 kd1 oc kc c0 c1 c2 c3 h0 n0) ⟨by simp only [fr0010, if_neg hc65_6], N0, e5⟩ (by decide) (by decide)
theorem ef_4c0010n2 (m : MethodId) (x0 : Addr) (x1 : Addr) (x2 : Addr) : entryFrame m #[(.ref x0), (.ref x1), (.ref x2), (.int (2 : Int32))] 9 = mkF m 0 #[.val (.ref x0), .val (.ref x1), .val (.ref x2), .val (.int (2 : Int32)), .unset, .unset, .unset, .unset, .unset] [] := by first | (simp [entryFrame, mkF, argsToLocals, Value.category]; done) | rfl
def Q4c0010n2 (Z : State) (o0 : Addr) (o1 : Addr) (o2 : Addr) (k2 : ClassId) (h0 : Heap) (n0 : Nat) (v : Option Value) (h : Heap) (L : List Loc) : Prop := v = none ∧ Fr n0 L ∧ Keep h0 h [o0] ∧ Exa Z h o0 "com/example/slimc/slimc/game/Observation" ∧ Fld Z h o0 "com/example/slimc/slimc/game/Observation" "classOf" "[I" (.ref o2) ∧ Fld Z h o0 "com/example/slimc/slimc/game/Observation" "classCount" "I" (.int (2 : Int32)) ∧ RefOk Z h o0 fr0010
set_option maxRecDepth 65536 in
set_option maxHeartbeats 40000000 in
theorem rm4c0010n2 (l : Launch) (Z : State) (a0 : Array Value) (hw : ∀ d ∈ tables_1, d.before a0 Z = true) (ws : List Jvm.Cond) (o0 : Addr) (o1 : Addr) (o2 : Addr) (k2 : ClassId) (h0 : Heap) (n0 : Nat) (Z0 : n0 ≤ h0.size) (E : Exa Z h0 o0 "com/example/slimc/slimc/game/Observation") (F_name : Fld Z h0 o0 "com/example/slimc/slimc/game/Observation" "name" "Ljava/lang/String;" .null) (F_classOf : Fld Z h0 o0 "com/example/slimc/slimc/game/Observation" "classOf" "[I" .null) (F_classCount : Fld Z h0 o0 "com/example/slimc/slimc/game/Observation" "classCount" "I" (.int (0 : Int32))) (F_classes : Fld Z h0 o0 "com/example/slimc/slimc/game/Observation" "classes" "[[I" .null) (g_o0 : n0 ≤ o0) (V : Arv Z h0 o2 k2 .int (4 : Int32) [(.int (0 : Int32)), (.int (0 : Int32)), (.int (1 : Int32)), (.int (0 : Int32))] (.int (0 : Int32))) (n2 : o2 ≠ o0) :
    MetFree l (⟨"com/example/slimc/slimc/game/Observation", "<init>", "(Ljava/lang/String;[II)V"⟩ : MethodName) (head1 (Jvm.Cond.code (⟨"com/example/slimc/slimc/game/Observation", "<init>", "(Ljava/lang/String;[II)V"⟩ : MethodName) prog_66_method_1_code 9 none :: ws) ({ frames := 1, cells := 7, slots := 16, locals := 14 } : Room)) (fun a U => a = #[(.ref o0), (.ref o1), (.ref o2), (.int (2 : Int32))] ∧ Z.Warmed39 U.vm ∧ U.heap = h0) (fun _ _ _ _ _ => True) (fun _ U o U' => ∃ v L, o = .returned v ∧ Q4c0010n2 Z o0 o1 o2 k2 h0 n0 v U'.heap L ∧ FrameEnd U o U' L ({ frames := 1, cells := 7, slots := 16, locals := 14 } : Room).cells ({ frames := 1, cells := 7, slots := 16, locals := 14 } : Room).slots) := by
  refine MetFree.of_bodySF (plainFor_of_name pn_1) hisR ?_
  intro p e s m args below meth c s₁ Bd hml0 hP hK
  obtain ⟨rfl, hZ, hh⟩ := hP
  have hx := Bd.exec
  have hby := Bd.bytes
  have hml : c.maxLocals = 9 := hml0
  have hown : s.vm.findClass "com/example/slimc/slimc/game/Observation" = some m.cls := findClass_of_methodNamed Bd.named
  have hnm := (name_of_methodNamed Bd.named Bd.method).1
  have X0 : Stand p l e ({ frames := 1, cells := 7, slots := 16, locals := 14 } : Room) s m #[(.ref o0), (.ref o1), (.ref o2), (.int (2 : Int32))] below meth c s₁ [] 0 0 := Stand.of_body Bd
  have e0 : s₁.heap = h0 := by rw [← hh, Bd.state]; rfl
  have N0 := Fr.nil n0
  have hret := Bd.returns
  have hlk := BodyLoose.notSynchronized Bd
  show own_Out p e below (fun o U' => ∃ v L, o = .returned v ∧ Q4c0010n2 Z o0 o1 o2 k2 h0 n0 v U'.heap L ∧ FrameEnd s o U' L ({ frames := 1, cells := 7, slots := 16, locals := 14 } : Room).cells ({ frames := 1, cells := 7, slots := 16, locals := 14 } : Room).slots) (s₁.setTop (entryFrame m #[(.ref o0), (.ref o1), (.ref o2), (.int (2 : Int32))] 9))
  refine own_of (fun t k => castTop (ef_4c0010n2 m o0 o1 o2) k) ?_
  show own_Out p e below _ (s₁.setTop (mkF m 0 #[rv o0, rv o1, rv o2, iv 2, .unset, .unset, .unset, .unset, .unset] []))
  refine o_aloadN X0 hx hby d4_0 rfl rfl (q := 1) rfl ?_
  obtain ⟨T1, X1, e1, st1⟩ := initO X0 hx hZ hown (w_ hw 26 rfl) (w_ hw 27 rfl) (w_ hw 28 rfl) e0 (g := (mkF m 1 #[rv o0, rv o1, rv o2, iv 2, .unset, .unset, .unset, .unset, .unset] [.ref o0])) rfl (by rw [hml]; rfl) rfl (hb hby d4_1) (by decide) (W := 0) (by show 2 * 0 + _ ≤ _; exact Nat.le_of_eq rfl) (by decide)
  refine own_of st1 ?_
  show own_Out p e below _ (T1.setTop (mkF m 4 #[rv o0, rv o1, rv o2, iv 2, .unset, .unset, .unset, .unset, .unset] []))
  refine o_aloadN X1 hx hby d4_4 rfl rfl (q := 5) rfl ?_
  refine o_aloadN X1 hx hby d4_5 rfl rfl (q := 6) rfl ?_
  obtain ⟨T2, h2, X2, e2, W2, st2⟩ := putF X1 hx hZ hown (host := "") (Or.inl (w_ hw 29 rfl)) Via.refl e1 F_name E (Or.inr ⟨(w_ hw 30 rfl), rfl, hnm⟩) (w_ hw 10 rfl) (ty := (.object "java/lang/String")) (by decide) rfl rfl (g := (mkF m 6 #[rv o0, rv o1, rv o2, iv 2, .unset, .unset, .unset, .unset, .unset] [.ref o1, .ref o0])) rfl rfl (hb hby d4_6)
  have Fw2 := F_name.same W2
  refine own_of st2 ?_
  show own_Out p e below _ (T2.setTop (mkF m 9 #[rv o0, rv o1, rv o2, iv 2, .unset, .unset, .unset, .unset, .unset] []))
  refine o_aloadN X2 hx hby d4_9 rfl rfl (q := 10) rfl ?_
  refine o_aloadN X2 hx hby d4_10 rfl rfl (q := 11) rfl ?_
  have q4 := (F_classOf.other W2 (Or.inr (slot_ne (Or.inr (w_ hw 32 rfl)) (Or.inr (w_ hw 30 rfl)) (by decide) (t := (.array .int)) (t' := (.object "java/lang/String")) (by decide) (by decide))))
  have q5 := (E.wr W2)
  obtain ⟨T3, h3, X3, e3, W3, st3⟩ := putF X2 hx hZ hown (host := "") (Or.inl (w_ hw 31 rfl)) Via.refl e2 q4 q5 (Or.inr ⟨(w_ hw 32 rfl), rfl, hnm⟩) (w_ hw 10 rfl) (ty := (.array .int)) (by decide) rfl rfl (g := (mkF m 11 #[rv o0, rv o1, rv o2, iv 2, .unset, .unset, .unset, .unset, .unset] [.ref o2, .ref o0])) rfl rfl (hb hby d4_11)
  have q6 := (F_classOf.other W2 (Or.inr (slot_ne (Or.inr (w_ hw 32 rfl)) (Or.inr (w_ hw 30 rfl)) (by decide) (t := (.array .int)) (t' := (.object "java/lang/String")) (by decide) (by decide))))
  have Fw3 := q6.same W3
  refine own_of st3 ?_
  show own_Out p e below _ (T3.setTop (mkF m 14 #[rv o0, rv o1, rv o2, iv 2, .unset, .unset, .unset, .unset, .unset] []))
  refine o_aloadN X3 hx hby d4_14 rfl rfl (q := 15) rfl ?_
  refine o_iloadN X3 hx hby d4_15 rfl (q := 16) rfl ?_
  have q8 := ((F_classCount.other W2 (Or.inr (slot_ne (Or.inr (w_ hw 34 rfl)) (Or.inr (w_ hw 30 rfl)) (by decide) (t := .int) (t' := (.object "java/lang/String")) (by decide) (by decide)))).other W3 (Or.inr (slot_ne (Or.inr (w_ hw 34 rfl)) (Or.inr (w_ hw 32 rfl)) (by decide) (t := .int) (t' := (.array .int)) (by decide) (by decide))))
  have q9 := (q5.wr W3)
  obtain ⟨T7, h7, X7, e7, W7, st7⟩ := putF X3 hx hZ hown (host := "") (Or.inl (w_ hw 33 rfl)) Via.refl e3 q8 q9 (Or.inr ⟨(w_ hw 34 rfl), rfl, hnm⟩) (w_ hw 10 rfl) (ty := .int) (by decide) rfl rfl (g := (mkF m 16 #[rv o0, rv o1, rv o2, iv 2, .unset, .unset, .unset, .unset, .unset] [.int 2, .ref o0])) rfl rfl (hb hby d4_16)
  have q10 := ((F_classCount.other W2 (Or.inr (slot_ne (Or.inr (w_ hw 34 rfl)) (Or.inr (w_ hw 30 rfl)) (by decide) (t := .int) (t' := (.object "java/lang/String")) (by decide) (by decide)))).other W3 (Or.inr (slot_ne (Or.inr (w_ hw 34 rfl)) (Or.inr (w_ hw 32 rfl)) (by decide) (t := .int) (t' := (.array .int)) (by decide) (by decide))))
  have Fw7 := q10.same W7
  refine own_of st7 ?_
  show own_Out p e below _ (T7.setTop (mkF m 19 #[rv o0, rv o1, rv o2, iv 2, .unset, .unset, .unset, .unset, .unset] []))
  refine o_iloadN X7 hx hby d4_19 rfl (q := 20) rfl ?_
  obtain ⟨T11, h11, k11, X11, e11, E11, A11, Ex11, st11⟩ := newPE X7 hx hZ (w_ hw 4 rfl) e7 (g := (mkF m 20 #[rv o0, rv o1, rv o2, iv 2, .unset, .unset, .unset, .unset, .unset] [.int 2])) rfl (hb hby d4_20) rfl (by decide) (cap := 2) (by decide) (by decide) (by decide) (by decide) (ad := "[I") (by decide +kernel)
  obtain ⟨b11, g11⟩ : ∃ z, z = h7.size := ⟨_, rfl⟩
  rw [← g11] at A11 Ex11 st11
  have q12 := (Nat.le_trans (Nat.le_trans (Nat.le_trans Z0 (Keep.of_wr W2).1) (Keep.of_wr W3).1) (Keep.of_wr W7).1)
  have g_b11 : n0 ≤ b11 := Nat.le_trans q12 (Nat.le_of_eq g11.symm)
  have q13 := (Nat.le_trans (Nat.le_trans (Nat.le_trans (Nat.le_refl h0.size) (Keep.of_wr W2).1) (Keep.of_wr W3).1) (Keep.of_wr W7).1)
  have sz_b11 : h0.size ≤ b11 := Nat.le_trans q13 (Nat.le_of_eq g11.symm)
  have V_b11 : Arv Z h11 b11 k11 .int (2 : Int32) [(.int (0 : Int32)), (.int (0 : Int32))] (.int (0 : Int32)) := (Arv.new A11 (by decide)).pad (pad_rep [] (.int (0 : Int32)) 2)
  refine own_of st11 ?_
  show own_Out p e below _ (T11.setTop (mkF m 22 #[rv o0, rv o1, rv o2, iv 2, .unset, .unset, .unset, .unset, .unset] [.ref b11]))
  refine o_astore X11 hx hby d4_22 rfl (l' := #[rv o0, rv o1, rv o2, iv 2, rv b11, .unset, .unset, .unset, .unset]) rfl (q := 24) rfl ?_
  refine o_aloadN X11 hx hby d4_24 rfl rfl (q := 25) rfl ?_
  refine o_astore X11 hx hby d4_25 rfl (l' := #[rv o0, rv o1, rv o2, iv 2, rv b11, rv o2, .unset, .unset, .unset]) rfl (q := 27) rfl ?_
  refine o_aload X11 hx hby d4_27 rfl rfl (q := 29) rfl ?_
  have q14 := ((((V.other W2 n2).other W3 n2).other W7 n2).ext E11)
  refine o_lenV X11 hx hby hZ e11 q14 d4_29 (q := 30) rfl ?_
  refine o_istore X11 hx hby d4_30 (l' := #[rv o0, rv o1, rv o2, iv 2, rv b11, rv o2, iv 4, .unset, .unset]) rfl (q := 32) rfl ?_
  refine o_iconst X11 hx hby d4_32 (z := 0) rfl (q := 33) rfl ?_
  refine o_istore X11 hx hby d4_33 (l' := #[rv o0, rv o1, rv o2, iv 2, rv b11, rv o2, iv 4, iv 0, .unset]) rfl (q := 35) rfl ?_
  refine t1 X11 hx hby hZ e11 q14 V_b11 rfl ⟨by decide, by decide⟩ (cc := 0) rfl ⟨by decide, by decide⟩ (y := 0) rfl (y' := 1) rfl (i' := 1) rfl (iN := 0) rfl (Nat.le_of_ble_eq_true rfl) fun T15 h15 X15 e15 W15 V15 => ?_
  have ne_o2_b11 : o2 ≠ b11 := Nat.ne_of_lt (Nat.lt_of_lt_of_le V.lt sz_b11)
  have q16 := (q14.other W15 ne_o2_b11)
  refine t1 X15 hx hby hZ e15 q16 V15 rfl ⟨by decide, by decide⟩ (cc := 0) rfl ⟨by decide, by decide⟩ (y := 1) rfl (y' := 2) rfl (i' := 2) rfl (iN := 0) rfl (Nat.le_of_ble_eq_true rfl) fun T17 h17 X17 e17 W17 V17 => ?_
  have q18 := (q16.other W17 ne_o2_b11)
  refine t1 X17 hx hby hZ e17 q18 V17 rfl ⟨by decide, by decide⟩ (cc := 1) rfl ⟨by decide, by decide⟩ (y := 0) rfl (y' := 1) rfl (i' := 3) rfl (iN := 1) rfl (Nat.le_of_ble_eq_true rfl) fun T19 h19 X19 e19 W19 V19 => ?_
  have q20 := (q18.other W19 ne_o2_b11)
  refine t1 X19 hx hby hZ e19 q20 V19 rfl ⟨by decide, by decide⟩ (cc := 0) rfl ⟨by decide, by decide⟩ (y := 2) rfl (y' := 3) rfl (i' := 4) rfl (iN := 0) rfl (Nat.le_of_ble_eq_true rfl) fun T21 h21 X21 e21 W21 V21 => ?_
  refine o_iload X21 hx hby d4_35 rfl (q := 37) rfl ?_
  refine o_iload X21 hx hby d4_37 rfl (q := 39) rfl ?_
  refine o_icY X21 hx hby d4_39 (flt (by decide : ¬ ((4 : Int32) < (4 : Int32)))).2.1 (by decide) (q := 64) (by decide) ?_
  refine o_aloadN X21 hx hby d4_64 rfl rfl (q := 65) rfl ?_
  refine o_iloadN X21 hx hby d4_65 rfl (q := 66) rfl ?_
  obtain ⟨T22, h22, k22, X22, e22, E22, A22, Ex22, O22, st22⟩ := newRA X21 hx hZ hown (ty := .int) (by decide +kernel) (w_ hw 35 rfl) (w_ hw 36 rfl) e21 (g := (mkF m 66 #[rv o0, rv o1, rv o2, iv 2, rv b11, rv o2, iv 4, iv 4, iv 0] [.int 2, .ref o0])) rfl (hb hby d4_66) rfl (by decide) (cap := 2) (by decide) (by decide) (by decide) (by decide) (ad := "[[I") (by decide +kernel)
  obtain ⟨b22, g22⟩ : ∃ z, z = h21.size := ⟨_, rfl⟩
  rw [← g22] at A22 Ex22 st22
  have q23 := (Nat.le_trans (Nat.le_trans (Nat.le_trans (Nat.le_trans (Nat.le_trans q12 E11.1) (Keep.of_wr W15).1) (Keep.of_wr W17).1) (Keep.of_wr W19).1) (Keep.of_wr W21).1)
  have g_b22 : n0 ≤ b22 := Nat.le_trans q23 (Nat.le_of_eq g22.symm)
  have q24 := (Nat.le_trans (Nat.le_trans (Nat.le_trans (Nat.le_trans (Nat.le_trans q13 E11.1) (Keep.of_wr W15).1) (Keep.of_wr W17).1) (Keep.of_wr W19).1) (Keep.of_wr W21).1)
  have sz_b22 : h0.size ≤ b22 := Nat.le_trans q24 (Nat.le_of_eq g22.symm)
  have V_b22 : Arv Z h22 b22 k22 (.array .int) (2 : Int32) [.null, .null] .null := (Arv.new A22 (by decide)).pad (pad_rep [] .null 2)
  refine own_of st22 ?_
  show own_Out p e below _ (T22.setTop (mkF m 69 #[rv o0, rv o1, rv o2, iv 2, rv b11, rv o2, iv 4, iv 4, iv 0] [.ref b22, .ref o0]))
  have ne_o0_b11 : o0 ≠ b11 := Nat.ne_of_lt (Nat.lt_of_lt_of_le E.lt sz_b11)
  have q26 := (((((((((F_classes.other W2 (Or.inr (slot_ne (Or.inr (w_ hw 38 rfl)) (Or.inr (w_ hw 30 rfl)) (by decide) (t := (.array (.array .int))) (t' := (.object "java/lang/String")) (by decide) (by decide)))).other W3 (Or.inr (slot_ne (Or.inr (w_ hw 38 rfl)) (Or.inr (w_ hw 32 rfl)) (by decide) (t := (.array (.array .int))) (t' := (.array .int)) (by decide) (by decide)))).other W7 (Or.inr (slot_ne (Or.inr (w_ hw 38 rfl)) (Or.inr (w_ hw 34 rfl)) (by decide) (t := (.array (.array .int))) (t' := .int) (by decide) (by decide)))).ext E11).other W15 (Or.inl ne_o0_b11)).other W17 (Or.inl ne_o0_b11)).other W19 (Or.inl ne_o0_b11)).other W21 (Or.inl ne_o0_b11)).ext E22)
  have q27 := (((((((q9.wr W7).ext E11).wr W15).wr W17).wr W19).wr W21).ext E22)
  obtain ⟨T25, h25, X25, e25, W25, st25⟩ := putF X22 hx hZ hown (host := "") (Or.inl (w_ hw 37 rfl)) Via.refl e22 q26 q27 (Or.inr ⟨(w_ hw 38 rfl), rfl, hnm⟩) (w_ hw 10 rfl) (ty := (.array (.array .int))) (by decide) rfl rfl (g := (mkF m 69 #[rv o0, rv o1, rv o2, iv 2, rv b11, rv o2, iv 4, iv 4, iv 0] [.ref b22, .ref o0])) rfl rfl (hb hby d4_69)
  have q28 := (((((((((F_classes.other W2 (Or.inr (slot_ne (Or.inr (w_ hw 38 rfl)) (Or.inr (w_ hw 30 rfl)) (by decide) (t := (.array (.array .int))) (t' := (.object "java/lang/String")) (by decide) (by decide)))).other W3 (Or.inr (slot_ne (Or.inr (w_ hw 38 rfl)) (Or.inr (w_ hw 32 rfl)) (by decide) (t := (.array (.array .int))) (t' := (.array .int)) (by decide) (by decide)))).other W7 (Or.inr (slot_ne (Or.inr (w_ hw 38 rfl)) (Or.inr (w_ hw 34 rfl)) (by decide) (t := (.array (.array .int))) (t' := .int) (by decide) (by decide)))).ext E11).other W15 (Or.inl ne_o0_b11)).other W17 (Or.inl ne_o0_b11)).other W19 (Or.inl ne_o0_b11)).other W21 (Or.inl ne_o0_b11)).ext E22)
  have Fw25 := q28.same W25
  refine own_of st25 ?_
  show own_Out p e below _ (T25.setTop (mkF m 72 #[rv o0, rv o1, rv o2, iv 2, rv b11, rv o2, iv 4, iv 4, iv 0] []))
  refine o_iconst X25 hx hby d4_72 (z := 0) rfl (q := 73) rfl ?_
  refine o_istore X25 hx hby d4_73 (l' := #[rv o0, rv o1, rv o2, iv 2, rv b11, iv 0, iv 4, iv 4, iv 0]) rfl (q := 75) rfl ?_
  refine o_iload X25 hx hby d4_75 rfl (q := 77) rfl ?_
  refine o_iloadN X25 hx hby d4_77 rfl (q := 78) rfl ?_
  refine o_icN X25 hx hby d4_78 (tlt (by decide : (0 : Int32) < (2 : Int32))).2.1 (q := 81) rfl ?_
  refine o_aloadN X25 hx hby d4_81 rfl rfl (q := 82) rfl ?_
  refine o_getF X25 hx hZ hown hby (w_ hw 37 rfl) Via.refl e25 Fw25 d4_82 (q := 85) rfl fun T29 X29 e29 => ?_
  refine o_iload X29 hx hby d4_85 rfl (q := 87) rfl ?_
  refine o_aload X29 hx hby d4_87 rfl rfl (q := 89) rfl ?_
  refine o_iload X29 hx hby d4_89 rfl (q := 91) rfl ?_
  have q30 := ((V21.ext E22).other W25 (Ne.symm ne_o0_b11))
  refine o_iaV X29 hx hby hZ e29 q30 ⟨by decide, by decide⟩ (v := .int 3) rfl d4_91 (q := 92) rfl ?_
  obtain ⟨T31, h31, k31, X31, e31, E31, A31, Ex31, st31⟩ := newPE X29 hx hZ (w_ hw 4 rfl) e29 (g := (mkF m 92 #[rv o0, rv o1, rv o2, iv 2, rv b11, iv 0, iv 4, iv 4, iv 0] [.int 3, .int 0, .ref b22])) rfl (hb hby d4_92) rfl (by decide) (cap := 3) (by decide) (by decide) (by decide) (by decide) (ad := "[I") (by decide +kernel)
  obtain ⟨b31, g31⟩ : ∃ z, z = h25.size := ⟨_, rfl⟩
  rw [← g31] at A31 Ex31 st31
  have q32 := (Nat.le_trans (Nat.le_trans q23 E22.1) (Keep.of_wr W25).1)
  have g_b31 : n0 ≤ b31 := Nat.le_trans q32 (Nat.le_of_eq g31.symm)
  have q33 := (Nat.le_trans (Nat.le_trans q24 E22.1) (Keep.of_wr W25).1)
  have sz_b31 : h0.size ≤ b31 := Nat.le_trans q33 (Nat.le_of_eq g31.symm)
  have V_b31 : Arv Z h31 b31 k31 .int (3 : Int32) [(.int (0 : Int32)), (.int (0 : Int32)), (.int (0 : Int32))] (.int (0 : Int32)) := (Arv.new A31 (by decide)).pad (pad_rep [] (.int (0 : Int32)) 3)
  refine own_of st31 ?_
  show own_Out p e below _ (T31.setTop (mkF m 94 #[rv o0, rv o1, rv o2, iv 2, rv b11, iv 0, iv 4, iv 4, iv 0] [.ref b31, .int 0, .ref b22]))
  have ne_o0_b22 : o0 ≠ b22 := Nat.ne_of_lt (Nat.lt_of_lt_of_le E.lt sz_b22)
  have q34 := ((V_b22.other W25 (Ne.symm ne_o0_b22)).ext E31)
  refine o_stVR X31 hx hby hZ e31 q34 ⟨by decide, by decide⟩ 0 rfl (Nat.le_of_ble_eq_true rfl) O22 (Ins.self Ex31) d4_94 (q := 95) rfl fun T35 h35 X35 e35 W35 V35 => ?_
  refine o_iinc X35 hx hby d4_95 rfl (l' := #[rv o0, rv o1, rv o2, iv 2, rv b11, iv 1, iv 4, iv 4, iv 0]) rfl (q := 98) rfl ?_
  refine o_goto X35 hx hby d4_98 (by decide) (q := 75) (by decide) ?_
  refine o_iload X35 hx hby d4_75 rfl (q := 77) rfl ?_
  refine o_iloadN X35 hx hby d4_77 rfl (q := 78) rfl ?_
  refine o_icN X35 hx hby d4_78 (tlt (by decide : (1 : Int32) < (2 : Int32))).2.1 (q := 81) rfl ?_
  refine o_aloadN X35 hx hby d4_81 rfl rfl (q := 82) rfl ?_
  have q37 := ((Fw25.ext E31).other W35 (Or.inl ne_o0_b22))
  refine o_getF X35 hx hZ hown hby (w_ hw 37 rfl) Via.refl e35 q37 d4_82 (q := 85) rfl fun T36 X36 e36 => ?_
  refine o_iload X36 hx hby d4_85 rfl (q := 87) rfl ?_
  refine o_aload X36 hx hby d4_87 rfl rfl (q := 89) rfl ?_
  refine o_iload X36 hx hby d4_89 rfl (q := 91) rfl ?_
  have ne_b11_b22 : b11 ≠ b22 := Nat.ne_of_lt (Nat.lt_of_lt_of_le (Nat.lt_of_lt_of_le (Nat.lt_of_lt_of_le (Nat.lt_of_lt_of_le (Nat.lt_of_lt_of_le A11.lt (Keep.of_wr W15).1) (Keep.of_wr W17).1) (Keep.of_wr W19).1) (Keep.of_wr W21).1) (Nat.le_of_eq g22.symm))
  have q38 := ((q30.ext E31).other W35 ne_b11_b22)
  refine o_iaV X36 hx hby hZ e36 q38 ⟨by decide, by decide⟩ (v := .int 1) rfl d4_91 (q := 92) rfl ?_
  obtain ⟨T39, h39, k39, X39, e39, E39, A39, Ex39, st39⟩ := newPE X36 hx hZ (w_ hw 4 rfl) e36 (g := (mkF m 92 #[rv o0, rv o1, rv o2, iv 2, rv b11, iv 1, iv 4, iv 4, iv 0] [.int 1, .int 1, .ref b22])) rfl (hb hby d4_92) rfl (by decide) (cap := 1) (by decide) (by decide) (by decide) (by decide) (ad := "[I") (by decide +kernel)
  obtain ⟨b39, g39⟩ : ∃ z, z = h35.size := ⟨_, rfl⟩
  rw [← g39] at A39 Ex39 st39
  have q40 := (Nat.le_trans (Nat.le_trans q32 E31.1) (Keep.of_wr W35).1)
  have g_b39 : n0 ≤ b39 := Nat.le_trans q40 (Nat.le_of_eq g39.symm)
  have q41 := (Nat.le_trans (Nat.le_trans q33 E31.1) (Keep.of_wr W35).1)
  have sz_b39 : h0.size ≤ b39 := Nat.le_trans q41 (Nat.le_of_eq g39.symm)
  have V_b39 : Arv Z h39 b39 k39 .int (1 : Int32) [(.int (0 : Int32))] (.int (0 : Int32)) := (Arv.new A39 (by decide)).pad (pad_rep [] (.int (0 : Int32)) 1)
  refine own_of st39 ?_
  show own_Out p e below _ (T39.setTop (mkF m 94 #[rv o0, rv o1, rv o2, iv 2, rv b11, iv 1, iv 4, iv 4, iv 0] [.ref b39, .int 1, .ref b22]))
  have q42 := (V35.ext E39)
  refine o_stVR X39 hx hby hZ e39 q42 ⟨by decide, by decide⟩ 1 rfl (Nat.le_of_ble_eq_true rfl) O22 (Ins.self Ex39) d4_94 (q := 95) rfl fun T43 h43 X43 e43 W43 V43 => ?_
  refine o_iinc X43 hx hby d4_95 rfl (l' := #[rv o0, rv o1, rv o2, iv 2, rv b11, iv 2, iv 4, iv 4, iv 0]) rfl (q := 98) rfl ?_
  refine o_goto X43 hx hby d4_98 (by decide) (q := 75) (by decide) ?_
  refine o_iload X43 hx hby d4_75 rfl (q := 77) rfl ?_
  refine o_iloadN X43 hx hby d4_77 rfl (q := 78) rfl ?_
  refine o_icY X43 hx hby d4_78 (flt (by decide : ¬ ((2 : Int32) < (2 : Int32)))).2.1 (by decide) (q := 101) (by decide) ?_
  refine o_iloadN X43 hx hby d4_101 rfl (q := 102) rfl ?_
  obtain ⟨T44, h44, k44, X44, e44, E44, A44, Ex44, st44⟩ := newPE X43 hx hZ (w_ hw 4 rfl) e43 (g := (mkF m 102 #[rv o0, rv o1, rv o2, iv 2, rv b11, iv 2, iv 4, iv 4, iv 0] [.int 2])) rfl (hb hby d4_102) rfl (by decide) (cap := 2) (by decide) (by decide) (by decide) (by decide) (ad := "[I") (by decide +kernel)
  obtain ⟨b44, g44⟩ : ∃ z, z = h43.size := ⟨_, rfl⟩
  rw [← g44] at A44 Ex44 st44
  have q45 := (Nat.le_trans (Nat.le_trans q40 E39.1) (Keep.of_wr W43).1)
  have g_b44 : n0 ≤ b44 := Nat.le_trans q45 (Nat.le_of_eq g44.symm)
  have q46 := (Nat.le_trans (Nat.le_trans q41 E39.1) (Keep.of_wr W43).1)
  have sz_b44 : h0.size ≤ b44 := Nat.le_trans q46 (Nat.le_of_eq g44.symm)
  have V_b44 : Arv Z h44 b44 k44 .int (2 : Int32) [(.int (0 : Int32)), (.int (0 : Int32))] (.int (0 : Int32)) := (Arv.new A44 (by decide)).pad (pad_rep [] (.int (0 : Int32)) 2)
  refine own_of st44 ?_
  show own_Out p e below _ (T44.setTop (mkF m 104 #[rv o0, rv o1, rv o2, iv 2, rv b11, iv 2, iv 4, iv 4, iv 0] [.ref b44]))
  refine o_astore X44 hx hby d4_104 rfl (l' := #[rv o0, rv o1, rv o2, iv 2, rv b11, rv b44, iv 4, iv 4, iv 0]) rfl (q := 106) rfl ?_
  refine o_iconst X44 hx hby d4_106 (z := 0) rfl (q := 107) rfl ?_
  refine o_istore X44 hx hby d4_107 (l' := #[rv o0, rv o1, rv o2, iv 2, rv b11, rv b44, iv 0, iv 4, iv 0]) rfl (q := 109) rfl ?_
  have ne_o2_b22 : o2 ≠ b22 := Nat.ne_of_lt (Nat.lt_of_lt_of_le V.lt sz_b22)
  have q49 := ((((((((q20.other W21 ne_o2_b11).ext E22).other W25 n2).ext E31).other W35 ne_o2_b22).ext E39).other W43 ne_o2_b22).ext E44)
  have q50 := (((q37.ext E39).other W43 (Or.inl ne_o0_b22)).ext E44)
  have q51 := (V43.ext E44)
  have ne_b22_b31 : b22 ≠ b31 := Nat.ne_of_lt (Nat.lt_of_lt_of_le (Nat.lt_of_lt_of_le A22.lt (Keep.of_wr W25).1) (Nat.le_of_eq g31.symm))
  have q52 := ((((V_b31.other W35 (Ne.symm ne_b22_b31)).ext E39).other W43 (Ne.symm ne_b22_b31)).ext E44)
  have ne_b31_b44 : b31 ≠ b44 := Nat.ne_of_lt (Nat.lt_of_lt_of_le (Nat.lt_of_lt_of_le (Nat.lt_of_lt_of_le (Nat.lt_of_lt_of_le A31.lt (Keep.of_wr W35).1) E39.1) (Keep.of_wr W43).1) (Nat.le_of_eq g44.symm))
  refine t3 X44 hx hby hZ e44 hw hown q49 q50 q51 V_b44 q52 ne_b31_b44 ⟨by decide, by decide⟩ (x := 0) rfl ⟨by decide, by decide⟩ rfl (f := 0) rfl ⟨by decide, by decide⟩ (f' := 1) rfl (i' := 1) rfl (iN := 0) rfl (Nat.le_of_ble_eq_true rfl) (jN := 0) rfl (Nat.le_of_ble_eq_true rfl) fun T48 h47 h48 X48 e48 W47 W48 V47 V48 => ?_
  have ne_o2_b44 : o2 ≠ b44 := Nat.ne_of_lt (Nat.lt_of_lt_of_le V.lt sz_b44)
  have ne_o2_b31 : o2 ≠ b31 := Nat.ne_of_lt (Nat.lt_of_lt_of_le V.lt sz_b31)
  have q55 := ((q49.other W47 ne_o2_b44).other W48 ne_o2_b31)
  have ne_o0_b44 : o0 ≠ b44 := Nat.ne_of_lt (Nat.lt_of_lt_of_le E.lt sz_b44)
  have ne_o0_b31 : o0 ≠ b31 := Nat.ne_of_lt (Nat.lt_of_lt_of_le E.lt sz_b31)
  have q56 := ((q50.other W47 (Or.inl ne_o0_b44)).other W48 (Or.inl ne_o0_b31))
  have ne_b22_b44 : b22 ≠ b44 := Nat.ne_of_lt (Nat.lt_of_lt_of_le (Nat.lt_of_lt_of_le (Nat.lt_of_lt_of_le (Nat.lt_of_lt_of_le (Nat.lt_of_lt_of_le (Nat.lt_of_lt_of_le A22.lt (Keep.of_wr W25).1) E31.1) (Keep.of_wr W35).1) E39.1) (Keep.of_wr W43).1) (Nat.le_of_eq g44.symm))
  have q57 := ((q51.other W47 ne_b22_b44).other W48 ne_b22_b31)
  have q58 := (V47.other W48 (Ne.symm ne_b31_b44))
  refine t3 X48 hx hby hZ e48 hw hown q55 q56 q57 q58 V48 ne_b31_b44 ⟨by decide, by decide⟩ (x := 0) rfl ⟨by decide, by decide⟩ rfl (f := 1) rfl ⟨by decide, by decide⟩ (f' := 2) rfl (i' := 2) rfl (iN := 0) rfl (Nat.le_of_ble_eq_true rfl) (jN := 1) rfl (Nat.le_of_ble_eq_true rfl) fun T54 h53 h54 X54 e54 W53 W54 V53 V54 => ?_
  have q61 := ((q55.other W53 ne_o2_b44).other W54 ne_o2_b31)
  have q62 := ((q56.other W53 (Or.inl ne_o0_b44)).other W54 (Or.inl ne_o0_b31))
  have q63 := ((q57.other W53 ne_b22_b44).other W54 ne_b22_b31)
  have q64 := (V53.other W54 (Ne.symm ne_b31_b44))
  have ne_b22_b39 : b22 ≠ b39 := Nat.ne_of_lt (Nat.lt_of_lt_of_le (Nat.lt_of_lt_of_le (Nat.lt_of_lt_of_le (Nat.lt_of_lt_of_le A22.lt (Keep.of_wr W25).1) E31.1) (Keep.of_wr W35).1) (Nat.le_of_eq g39.symm))
  have ne_b39_b44 : b39 ≠ b44 := Nat.ne_of_lt (Nat.lt_of_lt_of_le (Nat.lt_of_lt_of_le A39.lt (Keep.of_wr W43).1) (Nat.le_of_eq g44.symm))
  have ne_b31_b39 : b31 ≠ b39 := Nat.ne_of_lt (Nat.lt_of_lt_of_le (Nat.lt_of_lt_of_le A31.lt (Keep.of_wr W35).1) (Nat.le_of_eq g39.symm))
  have q65 := ((((((V_b39.other W43 (Ne.symm ne_b22_b39)).ext E44).other W47 ne_b39_b44).other W48 (Ne.symm ne_b31_b39)).other W53 ne_b39_b44).other W54 (Ne.symm ne_b31_b39))
  refine t3 X54 hx hby hZ e54 hw hown q61 q62 q63 q64 q65 ne_b39_b44 ⟨by decide, by decide⟩ (x := 1) rfl ⟨by decide, by decide⟩ rfl (f := 0) rfl ⟨by decide, by decide⟩ (f' := 1) rfl (i' := 3) rfl (iN := 1) rfl (Nat.le_of_ble_eq_true rfl) (jN := 0) rfl (Nat.le_of_ble_eq_true rfl) fun T60 h59 h60 X60 e60 W59 W60 V59 V60 => ?_
  have ne_o2_b39 : o2 ≠ b39 := Nat.ne_of_lt (Nat.lt_of_lt_of_le V.lt sz_b39)
  have q68 := ((q61.other W59 ne_o2_b44).other W60 ne_o2_b39)
  have ne_o0_b39 : o0 ≠ b39 := Nat.ne_of_lt (Nat.lt_of_lt_of_le E.lt sz_b39)
  have q69 := ((q62.other W59 (Or.inl ne_o0_b44)).other W60 (Or.inl ne_o0_b39))
  have q70 := ((q63.other W59 ne_b22_b44).other W60 ne_b22_b39)
  have q71 := (V59.other W60 (Ne.symm ne_b39_b44))
  have q72 := ((V54.other W59 ne_b31_b44).other W60 ne_b31_b39)
  refine t3 X60 hx hby hZ e60 hw hown q68 q69 q70 q71 q72 ne_b31_b44 ⟨by decide, by decide⟩ (x := 0) rfl ⟨by decide, by decide⟩ rfl (f := 2) rfl ⟨by decide, by decide⟩ (f' := 3) rfl (i' := 4) rfl (iN := 0) rfl (Nat.le_of_ble_eq_true rfl) (jN := 2) rfl (Nat.le_of_ble_eq_true rfl) fun T67 h66 h67 X67 e67 W66 W67 V66 V67 => ?_
  refine o_iload X67 hx hby d4_109 rfl (q := 111) rfl ?_
  refine o_aloadN X67 hx hby d4_111 rfl rfl (q := 112) rfl ?_
  have q73 := ((q68.other W66 ne_o2_b44).other W67 ne_o2_b31)
  refine o_lenV X67 hx hby hZ e67 q73 d4_112 (q := 113) rfl ?_
  refine o_icY X67 hx hby d4_113 (flt (by decide : ¬ ((4 : Int32) < (4 : Int32)))).2.1 (by decide) (q := 146) (by decide) ?_
  have q74 := ((q69.other W66 (Or.inl ne_o0_b44)).other W67 (Or.inl ne_o0_b31))
  have q75 := ((q70.other W66 ne_b22_b44).other W67 ne_b22_b31)
  have q76 := ((V60.other W66 ne_b39_b44).other W67 (Ne.symm ne_b31_b39))
  have q77 := ((((((((((((((((((((((((Keep.refl h0 [o0]).wr W2 (Or.inl (List.mem_of_getElem? (i := 0) rfl))).wr W3 (Or.inl (List.mem_of_getElem? (i := 0) rfl))).wr W7 (Or.inl (List.mem_of_getElem? (i := 0) rfl))).ext E11).wr W15 (Or.inr sz_b11)).wr W17 (Or.inr sz_b11)).wr W19 (Or.inr sz_b11)).wr W21 (Or.inr sz_b11)).ext E22).wr W25 (Or.inl (List.mem_of_getElem? (i := 0) rfl))).ext E31).wr W35 (Or.inr sz_b22)).ext E39).wr W43 (Or.inr sz_b22)).ext E44).wr W47 (Or.inr sz_b44)).wr W48 (Or.inr sz_b31)).wr W53 (Or.inr sz_b44)).wr W54 (Or.inr sz_b31)).wr W59 (Or.inr sz_b44)).wr W60 (Or.inr sz_b39)).wr W66 (Or.inr sz_b44)).wr W67 (Or.inr sz_b31))
  have q78 := ((((((((((((((q27.wr W25).ext E31).wr W35).ext E39).wr W43).ext E44).wr W47).wr W48).wr W53).wr W54).wr W59).wr W60).wr W66).wr W67)
  have q79 := (((((((((((((((((((((Fw3.other W7 (Or.inr (slot_ne (Or.inr (w_ hw 32 rfl)) (Or.inr (w_ hw 34 rfl)) (by decide) (t := (.array .int)) (t' := .int) (by decide) (by decide)))).ext E11).other W15 (Or.inl ne_o0_b11)).other W17 (Or.inl ne_o0_b11)).other W19 (Or.inl ne_o0_b11)).other W21 (Or.inl ne_o0_b11)).ext E22).other W25 (Or.inr (slot_ne (Or.inr (w_ hw 32 rfl)) (Or.inr (w_ hw 38 rfl)) (by decide) (t := (.array .int)) (t' := (.array (.array .int))) (by decide) (by decide)))).ext E31).other W35 (Or.inl ne_o0_b22)).ext E39).other W43 (Or.inl ne_o0_b22)).ext E44).other W47 (Or.inl ne_o0_b44)).other W48 (Or.inl ne_o0_b31)).other W53 (Or.inl ne_o0_b44)).other W54 (Or.inl ne_o0_b31)).other W59 (Or.inl ne_o0_b44)).other W60 (Or.inl ne_o0_b39)).other W66 (Or.inl ne_o0_b44)).other W67 (Or.inl ne_o0_b31))
  have q80 := ((((((((((((((((((((Fw7.ext E11).other W15 (Or.inl ne_o0_b11)).other W17 (Or.inl ne_o0_b11)).other W19 (Or.inl ne_o0_b11)).other W21 (Or.inl ne_o0_b11)).ext E22).other W25 (Or.inr (slot_ne (Or.inr (w_ hw 34 rfl)) (Or.inr (w_ hw 38 rfl)) (by decide) (t := .int) (t' := (.array (.array .int))) (by decide) (by decide)))).ext E31).other W35 (Or.inl ne_o0_b22)).ext E39).other W43 (Or.inl ne_o0_b22)).ext E44).other W47 (Or.inl ne_o0_b44)).other W48 (Or.inl ne_o0_b31)).other W53 (Or.inl ne_o0_b44)).other W54 (Or.inl ne_o0_b31)).other W59 (Or.inl ne_o0_b44)).other W60 (Or.inl ne_o0_b39)).other W66 (Or.inl ne_o0_b44)).other W67 (Or.inl ne_o0_b31))
  exact own_outV X67 hx hlk hret (hb hby d4_146) (Q := Q4c0010n2 Z o0 o1 o2 k2 h0 n0) (by rw [e67]; exact ⟨rfl, (Fr.snoc X67 (own_snoc (Fr.snoc X60 (own_snoc (Fr.snoc X54 (own_snoc (Fr.snoc X48 (own_snoc (Fr.snoc X43 (Fr.snoc X35 (Fr.snoc X25 (Fr.snoc X21 (Fr.snoc X19 (Fr.snoc X17 (Fr.snoc X15 (Fr.snoc X7 (Fr.snoc X3 (Fr.snoc X2 N0 g_o0) g_o0) g_o0) g_b11) g_b11) g_b11) g_b11) g_o0) g_b22) g_b22) g_b44) g_b31) g_b44) g_b31) g_b44) g_b39) g_b44) g_b31), q77, q78, q79, q80, (fun l a0 hw ws h' K o1 oc kc c0 c1 c2 c3 n1 Z1 Fc Vc => rm7r0010 l Z a0 hw ws o0 o1 b22 k22 b31 k31 b39 k39 oc kc c0 c1 c2 c3 h' n1 Z1 (q74.keep K nin0) (q75.keep K nin0) (V67.keep K nin0) (q76.keep K nin0) Fc Vc)⟩) (by decide) (by decide)
theorem ef_7r0011 (m : MethodId) (x0 : Addr) (x1 : Addr) : entryFrame m #[(.ref x0), (.ref x1)] 10 = mkF m 0 #[.val (.ref x0), .val (.ref x1), .unset, .unset, .unset, .unset, .unset, .unset, .unset, .unset] [] := by first | (simp [entryFrame, mkF, argsToLocals, Value.category]; done) | rfl
def fr0011 (c0 : Int32) (c1 : Int32) (c2 : Int32) (c3 : Int32) : Int32 := if c1 = c0 then (if c3 = c2 then (1 : Int32)
    else (0 : Int32))
  else (0 : Int32)
def Q7r0011 (Z : State) (o0 : Addr) (o1 : Addr) (cc : Addr) (kcc : ClassId) (d0 : Addr) (kd0 : ClassId) (d1 : Addr) (kd1 : ClassId) (oc : Addr) (kc : ClassId) (c0 : Int32) (c1 : Int32) (c2 : Int32) (c3 : Int32) (h0 : Heap) (n0 : Nat) (v : Option Value) (h : Heap) (L : List Loc) : Prop := v = some (.int (fr0011 c0 c1 c2 c3)) ∧ Fr n0 L ∧ h = h0
set_option maxRecDepth 65536 in
set_option maxHeartbeats 40000000 in
theorem rm7r0011 (l : Launch) (Z : State) (a0 : Array Value) (hw : ∀ d ∈ tables_1, d.before a0 Z = true) (ws : List Jvm.Cond) (o0 : Addr) (o1 : Addr) (cc : Addr) (kcc : ClassId) (d0 : Addr) (kd0 : ClassId) (d1 : Addr) (kd1 : ClassId) (oc : Addr) (kc : ClassId) (c0 : Int32) (c1 : Int32) (c2 : Int32) (c3 : Int32) (h0 : Heap) (n0 : Nat) (Z0 : n0 ≤ h0.size) (Fs : Fld Z h0 o0 "com/example/slimc/slimc/game/Observation" "classes" "[[I" (.ref cc)) (Vcc : Arv Z h0 cc kcc (.array .int) (2 : Int32) [(.ref d0), (.ref d1)] .null) (Vd0 : Arv Z h0 d0 kd0 .int (2 : Int32) [(.int (0 : Int32)), (.int (1 : Int32))] (.int (0 : Int32))) (Vd1 : Arv Z h0 d1 kd1 .int (2 : Int32) [(.int (2 : Int32)), (.int (3 : Int32))] (.int (0 : Int32))) (Fc : Fld Z h0 o1 "com/example/slimc/slimc/game/Observation" "classOf" "[I" (.ref oc)) (Vc : Arv Z h0 oc kc .int (4 : Int32) [(.int c0), (.int c1), (.int c2), (.int c3)] (.int (0 : Int32))) :
    MetFree l (⟨"com/example/slimc/slimc/game/Observation", "refines", "(Lcom/example/slimc/slimc/game/Observation;)Z"⟩ : MethodName) (head1 (Jvm.Cond.code (⟨"com/example/slimc/slimc/game/Observation", "refines", "(Lcom/example/slimc/slimc/game/Observation;)Z"⟩ : MethodName) prog_66_method_8_code 10 (some .boolean) :: ws) ({ frames := 0, cells := 0, slots := 0, locals := 0 } : Room)) (fun a U => a = #[(.ref o0), (.ref o1)] ∧ Z.Warmed39 U.vm ∧ U.heap = h0) (fun _ _ _ _ _ => True) (fun _ U o U' => ∃ v L, o = .returned v ∧ Q7r0011 Z o0 o1 cc kcc d0 kd0 d1 kd1 oc kc c0 c1 c2 c3 h0 n0 v U'.heap L ∧ FrameEnd U o U' L ({ frames := 0, cells := 0, slots := 0, locals := 0 } : Room).cells ({ frames := 0, cells := 0, slots := 0, locals := 0 } : Room).slots) := by
  refine MetFree.of_bodySF (plainFor_of_name pn_1) hisR ?_
  intro p e s m args below meth c s₁ Bd hml0 hP hK
  obtain ⟨rfl, hZ, hh⟩ := hP
  have hx := Bd.exec
  have hby := Bd.bytes
  have hml : c.maxLocals = 10 := hml0
  have hown : s.vm.findClass "com/example/slimc/slimc/game/Observation" = some m.cls := findClass_of_methodNamed Bd.named
  have hnm := (name_of_methodNamed Bd.named Bd.method).1
  have X0 : Stand p l e ({ frames := 0, cells := 0, slots := 0, locals := 0 } : Room) s m #[(.ref o0), (.ref o1)] below meth c s₁ [] 0 0 := Stand.of_body Bd
  have e0 : s₁.heap = h0 := by rw [← hh, Bd.state]; rfl
  have N0 := Fr.nil n0
  have hret := Bd.returns
  have hlk := BodyLoose.notSynchronized Bd
  show own_Out p e below (fun o U' => ∃ v L, o = .returned v ∧ Q7r0011 Z o0 o1 cc kcc d0 kd0 d1 kd1 oc kc c0 c1 c2 c3 h0 n0 v U'.heap L ∧ FrameEnd s o U' L ({ frames := 0, cells := 0, slots := 0, locals := 0 } : Room).cells ({ frames := 0, cells := 0, slots := 0, locals := 0 } : Room).slots) (s₁.setTop (entryFrame m #[(.ref o0), (.ref o1)] 10))
  refine own_of (fun t k => castTop (ef_7r0011 m o0 o1) k) ?_
  show own_Out p e below _ (s₁.setTop (mkF m 0 #[rv o0, rv o1, .unset, .unset, .unset, .unset, .unset, .unset, .unset, .unset] []))
  refine o_aloadN X0 hx hby d7_0 rfl rfl (q := 1) rfl ?_
  refine o_getF X0 hx hZ hown hby (w_ hw 37 rfl) Via.refl e0 Fs d7_1 (q := 4) rfl fun T1 X1 e1 => ?_
  refine o_astoreN X1 hx hby d7_4 rfl (l' := #[rv o0, rv o1, rv cc, .unset, .unset, .unset, .unset, .unset, .unset, .unset]) rfl (q := 5) rfl ?_
  refine o_aloadN X1 hx hby d7_5 rfl rfl (q := 6) rfl ?_
  refine o_lenV X1 hx hby hZ e1 Vcc d7_6 (q := 7) rfl ?_
  refine o_istoreN X1 hx hby d7_7 (l' := #[rv o0, rv o1, rv cc, iv 2, .unset, .unset, .unset, .unset, .unset, .unset]) rfl (q := 8) rfl ?_
  refine o_iconst X1 hx hby d7_8 (z := 0) rfl (q := 9) rfl ?_
  refine o_istore X1 hx hby d7_9 (l' := #[rv o0, rv o1, rv cc, iv 2, iv 0, .unset, .unset, .unset, .unset, .unset]) rfl (q := 11) rfl ?_
  refine o_iload X1 hx hby d7_11 rfl (q := 13) rfl ?_
  refine o_iloadN X1 hx hby d7_13 rfl (q := 14) rfl ?_
  refine o_icN X1 hx hby d7_14 (tlt (by decide : (0 : Int32) < (2 : Int32))).2.1 (q := 17) rfl ?_
  refine o_aloadN X1 hx hby d7_17 rfl rfl (q := 18) rfl ?_
  refine o_iload X1 hx hby d7_18 rfl (q := 20) rfl ?_
  refine o_aaV X1 hx hby hZ e1 Vcc rfl ⟨by decide, by decide⟩ (v := .ref d0) rfl d7_20 (q := 21) rfl ?_
  refine o_astore X1 hx hby d7_21 rfl (l' := #[rv o0, rv o1, rv cc, iv 2, iv 0, rv d0, .unset, .unset, .unset, .unset]) rfl (q := 23) rfl ?_
  refine o_aload X1 hx hby d7_23 rfl rfl (q := 25) rfl ?_
  refine o_astore X1 hx hby d7_25 rfl (l' := #[rv o0, rv o1, rv cc, iv 2, iv 0, rv d0, rv d0, .unset, .unset, .unset]) rfl (q := 27) rfl ?_
  refine o_aload X1 hx hby d7_27 rfl rfl (q := 29) rfl ?_
  refine o_lenV X1 hx hby hZ e1 Vd0 d7_29 (q := 30) rfl ?_
  refine o_istore X1 hx hby d7_30 (l' := #[rv o0, rv o1, rv cc, iv 2, iv 0, rv d0, rv d0, iv 2, .unset, .unset]) rfl (q := 32) rfl ?_
  refine o_iconst X1 hx hby d7_32 (z := 0) rfl (q := 33) rfl ?_
  refine o_istore X1 hx hby d7_33 (l' := #[rv o0, rv o1, rv cc, iv 2, iv 0, rv d0, rv d0, iv 2, iv 0, .unset]) rfl (q := 35) rfl ?_
  refine o_iload X1 hx hby d7_35 rfl (q := 37) rfl ?_
  refine o_iload X1 hx hby d7_37 rfl (q := 39) rfl ?_
  refine o_icN X1 hx hby d7_39 (tlt (by decide : (0 : Int32) < (2 : Int32))).2.1 (q := 42) rfl ?_
  refine o_aload X1 hx hby d7_42 rfl rfl (q := 44) rfl ?_
  refine o_iload X1 hx hby d7_44 rfl (q := 46) rfl ?_
  refine o_iaV X1 hx hby hZ e1 Vd0 ⟨by decide, by decide⟩ (v := .int 0) rfl d7_46 (q := 47) rfl ?_
  refine o_istore X1 hx hby d7_47 (l' := #[rv o0, rv o1, rv cc, iv 2, iv 0, rv d0, rv d0, iv 2, iv 0, iv 0]) rfl (q := 49) rfl ?_
  refine o_aloadN X1 hx hby d7_49 rfl rfl (q := 50) rfl ?_
  refine o_getF X1 hx hZ hown hby (w_ hw 31 rfl) Via.refl e1 Fc d7_50 (q := 53) rfl fun T2 X2 e2 => ?_
  refine o_iload X2 hx hby d7_53 rfl (q := 55) rfl ?_
  refine o_iaV X2 hx hby hZ e2 Vc ⟨by decide, by decide⟩ (v := .int c0) rfl d7_55 (q := 56) rfl ?_
  refine o_aloadN X2 hx hby d7_56 rfl rfl (q := 57) rfl ?_
  refine o_getF X2 hx hZ hown hby (w_ hw 31 rfl) Via.refl e2 Fc d7_57 (q := 60) rfl fun T3 X3 e3 => ?_
  refine o_aload X3 hx hby d7_60 rfl rfl (q := 62) rfl ?_
  refine o_iconst X3 hx hby d7_62 (z := 0) rfl (q := 63) rfl ?_
  refine o_iaV X3 hx hby hZ e3 Vd0 ⟨by decide, by decide⟩ (v := .int 0) rfl d7_63 (q := 64) rfl ?_
  refine o_iaV X3 hx hby hZ e3 Vc ⟨by decide, by decide⟩ (v := .int c0) rfl d7_64 (q := 65) rfl ?_
  refine o_icY X3 hx hby d7_65 (teq (rfl : c0 = c0)).1 (by decide) (q := 70) (by decide) ?_
  refine o_iinc X3 hx hby d7_70 rfl (l' := #[rv o0, rv o1, rv cc, iv 2, iv 0, rv d0, rv d0, iv 2, iv 1, iv 0]) rfl (q := 73) rfl ?_
  refine o_goto X3 hx hby d7_73 (by decide) (q := 35) (by decide) ?_
  refine o_iload X3 hx hby d7_35 rfl (q := 37) rfl ?_
  refine o_iload X3 hx hby d7_37 rfl (q := 39) rfl ?_
  refine o_icN X3 hx hby d7_39 (tlt (by decide : (1 : Int32) < (2 : Int32))).2.1 (q := 42) rfl ?_
  refine o_aload X3 hx hby d7_42 rfl rfl (q := 44) rfl ?_
  refine o_iload X3 hx hby d7_44 rfl (q := 46) rfl ?_
  refine o_iaV X3 hx hby hZ e3 Vd0 ⟨by decide, by decide⟩ (v := .int 1) rfl d7_46 (q := 47) rfl ?_
  refine o_istore X3 hx hby d7_47 (l' := #[rv o0, rv o1, rv cc, iv 2, iv 0, rv d0, rv d0, iv 2, iv 1, iv 1]) rfl (q := 49) rfl ?_
  refine o_aloadN X3 hx hby d7_49 rfl rfl (q := 50) rfl ?_
  refine o_getF X3 hx hZ hown hby (w_ hw 31 rfl) Via.refl e3 Fc d7_50 (q := 53) rfl fun T4 X4 e4 => ?_
  refine o_iload X4 hx hby d7_53 rfl (q := 55) rfl ?_
  refine o_iaV X4 hx hby hZ e4 Vc ⟨by decide, by decide⟩ (v := .int c1) rfl d7_55 (q := 56) rfl ?_
  refine o_aloadN X4 hx hby d7_56 rfl rfl (q := 57) rfl ?_
  refine o_getF X4 hx hZ hown hby (w_ hw 31 rfl) Via.refl e4 Fc d7_57 (q := 60) rfl fun T5 X5 e5 => ?_
  refine o_aload X5 hx hby d7_60 rfl rfl (q := 62) rfl ?_
  refine o_iconst X5 hx hby d7_62 (z := 0) rfl (q := 63) rfl ?_
  refine o_iaV X5 hx hby hZ e5 Vd0 ⟨by decide, by decide⟩ (v := .int 0) rfl d7_63 (q := 64) rfl ?_
  refine o_iaV X5 hx hby hZ e5 Vc ⟨by decide, by decide⟩ (v := .int c0) rfl d7_64 (q := 65) rfl ?_
  by_cases hc65_6 : c1 = c0
  · skip
    refine o_icY X5 hx hby d7_65 (teq hc65_6).1 (by decide) (q := 70) (by decide) ?_
    refine o_iinc X5 hx hby d7_70 rfl (l' := #[rv o0, rv o1, rv cc, iv 2, iv 0, rv d0, rv d0, iv 2, iv 2, iv 1]) rfl (q := 73) rfl ?_
    refine o_goto X5 hx hby d7_73 (by decide) (q := 35) (by decide) ?_
    refine o_iload X5 hx hby d7_35 rfl (q := 37) rfl ?_
    refine o_iload X5 hx hby d7_37 rfl (q := 39) rfl ?_
    refine o_icY X5 hx hby d7_39 (flt (by decide : ¬ ((2 : Int32) < (2 : Int32)))).2.1 (by decide) (q := 76) (by decide) ?_
    refine o_iinc X5 hx hby d7_76 rfl (l' := #[rv o0, rv o1, rv cc, iv 2, iv 1, rv d0, rv d0, iv 2, iv 2, iv 1]) rfl (q := 79) rfl ?_
    refine o_goto X5 hx hby d7_79 (by decide) (q := 11) (by decide) ?_
    refine o_iload X5 hx hby d7_11 rfl (q := 13) rfl ?_
    refine o_iloadN X5 hx hby d7_13 rfl (q := 14) rfl ?_
    refine o_icN X5 hx hby d7_14 (tlt (by decide : (1 : Int32) < (2 : Int32))).2.1 (q := 17) rfl ?_
    refine o_aloadN X5 hx hby d7_17 rfl rfl (q := 18) rfl ?_
    refine o_iload X5 hx hby d7_18 rfl (q := 20) rfl ?_
    refine o_aaV X5 hx hby hZ e5 Vcc rfl ⟨by decide, by decide⟩ (v := .ref d1) rfl d7_20 (q := 21) rfl ?_
    refine o_astore X5 hx hby d7_21 rfl (l' := #[rv o0, rv o1, rv cc, iv 2, iv 1, rv d1, rv d0, iv 2, iv 2, iv 1]) rfl (q := 23) rfl ?_
    refine o_aload X5 hx hby d7_23 rfl rfl (q := 25) rfl ?_
    refine o_astore X5 hx hby d7_25 rfl (l' := #[rv o0, rv o1, rv cc, iv 2, iv 1, rv d1, rv d1, iv 2, iv 2, iv 1]) rfl (q := 27) rfl ?_
    refine o_aload X5 hx hby d7_27 rfl rfl (q := 29) rfl ?_
    refine o_lenV X5 hx hby hZ e5 Vd1 d7_29 (q := 30) rfl ?_
    refine o_istore X5 hx hby d7_30 (l' := #[rv o0, rv o1, rv cc, iv 2, iv 1, rv d1, rv d1, iv 2, iv 2, iv 1]) rfl (q := 32) rfl ?_
    refine o_iconst X5 hx hby d7_32 (z := 0) rfl (q := 33) rfl ?_
    refine o_istore X5 hx hby d7_33 (l' := #[rv o0, rv o1, rv cc, iv 2, iv 1, rv d1, rv d1, iv 2, iv 0, iv 1]) rfl (q := 35) rfl ?_
    refine o_iload X5 hx hby d7_35 rfl (q := 37) rfl ?_
    refine o_iload X5 hx hby d7_37 rfl (q := 39) rfl ?_
    refine o_icN X5 hx hby d7_39 (tlt (by decide : (0 : Int32) < (2 : Int32))).2.1 (q := 42) rfl ?_
    refine o_aload X5 hx hby d7_42 rfl rfl (q := 44) rfl ?_
    refine o_iload X5 hx hby d7_44 rfl (q := 46) rfl ?_
    refine o_iaV X5 hx hby hZ e5 Vd1 ⟨by decide, by decide⟩ (v := .int 2) rfl d7_46 (q := 47) rfl ?_
    refine o_istore X5 hx hby d7_47 (l' := #[rv o0, rv o1, rv cc, iv 2, iv 1, rv d1, rv d1, iv 2, iv 0, iv 2]) rfl (q := 49) rfl ?_
    refine o_aloadN X5 hx hby d7_49 rfl rfl (q := 50) rfl ?_
    refine o_getF X5 hx hZ hown hby (w_ hw 31 rfl) Via.refl e5 Fc d7_50 (q := 53) rfl fun T7 X7 e7 => ?_
    refine o_iload X7 hx hby d7_53 rfl (q := 55) rfl ?_
    refine o_iaV X7 hx hby hZ e7 Vc ⟨by decide, by decide⟩ (v := .int c2) rfl d7_55 (q := 56) rfl ?_
    refine o_aloadN X7 hx hby d7_56 rfl rfl (q := 57) rfl ?_
    refine o_getF X7 hx hZ hown hby (w_ hw 31 rfl) Via.refl e7 Fc d7_57 (q := 60) rfl fun T8 X8 e8 => ?_
    refine o_aload X8 hx hby d7_60 rfl rfl (q := 62) rfl ?_
    refine o_iconst X8 hx hby d7_62 (z := 0) rfl (q := 63) rfl ?_
    refine o_iaV X8 hx hby hZ e8 Vd1 ⟨by decide, by decide⟩ (v := .int 2) rfl d7_63 (q := 64) rfl ?_
    refine o_iaV X8 hx hby hZ e8 Vc ⟨by decide, by decide⟩ (v := .int c2) rfl d7_64 (q := 65) rfl ?_
    refine o_icY X8 hx hby d7_65 (teq (rfl : c2 = c2)).1 (by decide) (q := 70) (by decide) ?_
    refine o_iinc X8 hx hby d7_70 rfl (l' := #[rv o0, rv o1, rv cc, iv 2, iv 1, rv d1, rv d1, iv 2, iv 1, iv 2]) rfl (q := 73) rfl ?_
    refine o_goto X8 hx hby d7_73 (by decide) (q := 35) (by decide) ?_
    refine o_iload X8 hx hby d7_35 rfl (q := 37) rfl ?_
    refine o_iload X8 hx hby d7_37 rfl (q := 39) rfl ?_
    refine o_icN X8 hx hby d7_39 (tlt (by decide : (1 : Int32) < (2 : Int32))).2.1 (q := 42) rfl ?_
    refine o_aload X8 hx hby d7_42 rfl rfl (q := 44) rfl ?_
    refine o_iload X8 hx hby d7_44 rfl (q := 46) rfl ?_
    refine o_iaV X8 hx hby hZ e8 Vd1 ⟨by decide, by decide⟩ (v := .int 3) rfl d7_46 (q := 47) rfl ?_
    refine o_istore X8 hx hby d7_47 (l' := #[rv o0, rv o1, rv cc, iv 2, iv 1, rv d1, rv d1, iv 2, iv 1, iv 3]) rfl (q := 49) rfl ?_
    refine o_aloadN X8 hx hby d7_49 rfl rfl (q := 50) rfl ?_
    refine o_getF X8 hx hZ hown hby (w_ hw 31 rfl) Via.refl e8 Fc d7_50 (q := 53) rfl fun T9 X9 e9 => ?_
    refine o_iload X9 hx hby d7_53 rfl (q := 55) rfl ?_
    refine o_iaV X9 hx hby hZ e9 Vc ⟨by decide, by decide⟩ (v := .int c3) rfl d7_55 (q := 56) rfl ?_
    refine o_aloadN X9 hx hby d7_56 rfl rfl (q := 57) rfl ?_
    refine o_getF X9 hx hZ hown hby (w_ hw 31 rfl) Via.refl e9 Fc d7_57 (q := 60) rfl fun T10 X10 e10 => ?_
    refine o_aload X10 hx hby d7_60 rfl rfl (q := 62) rfl ?_
    refine o_iconst X10 hx hby d7_62 (z := 0) rfl (q := 63) rfl ?_
    refine o_iaV X10 hx hby hZ e10 Vd1 ⟨by decide, by decide⟩ (v := .int 2) rfl d7_63 (q := 64) rfl ?_
    refine o_iaV X10 hx hby hZ e10 Vc ⟨by decide, by decide⟩ (v := .int c2) rfl d7_64 (q := 65) rfl ?_
    by_cases hc65_11 : c3 = c2
    · skip
      refine o_icY X10 hx hby d7_65 (teq hc65_11).1 (by decide) (q := 70) (by decide) ?_
      refine o_iinc X10 hx hby d7_70 rfl (l' := #[rv o0, rv o1, rv cc, iv 2, iv 1, rv d1, rv d1, iv 2, iv 2, iv 3]) rfl (q := 73) rfl ?_
      refine o_goto X10 hx hby d7_73 (by decide) (q := 35) (by decide) ?_
      refine o_iload X10 hx hby d7_35 rfl (q := 37) rfl ?_
      refine o_iload X10 hx hby d7_37 rfl (q := 39) rfl ?_
      refine o_icY X10 hx hby d7_39 (flt (by decide : ¬ ((2 : Int32) < (2 : Int32)))).2.1 (by decide) (q := 76) (by decide) ?_
      refine o_iinc X10 hx hby d7_76 rfl (l' := #[rv o0, rv o1, rv cc, iv 2, iv 2, rv d1, rv d1, iv 2, iv 2, iv 3]) rfl (q := 79) rfl ?_
      refine o_goto X10 hx hby d7_79 (by decide) (q := 11) (by decide) ?_
      refine o_iload X10 hx hby d7_11 rfl (q := 13) rfl ?_
      refine o_iloadN X10 hx hby d7_13 rfl (q := 14) rfl ?_
      refine o_icY X10 hx hby d7_14 (flt (by decide : ¬ ((2 : Int32) < (2 : Int32)))).2.1 (by decide) (q := 82) (by decide) ?_
      refine o_iconst X10 hx hby d7_82 (z := 1) rfl (q := 83) rfl ?_
      exact own_outN X10 hx hlk (t := .boolean) hret (by simp) (hb hby d7_83) (z' := (1 : Int32)) rfl (Q := Q7r0011 Z o0 o1 cc kcc d0 kd0 d1 kd1 oc kc c0 c1 c2 c3 h0 n0) ⟨by simp only [fr0011, if_pos hc65_6, if_pos hc65_11], N0, e10⟩ (by decide) (by decide)
    · skip
      refine o_icN X10 hx hby d7_65 (feq hc65_11).1 (q := 68) rfl ?_
      refine o_iconst X10 hx hby d7_68 (z := 0) rfl (q := 69) rfl ?_
      exact own_outN X10 hx hlk (t := .boolean) hret (by simp) (hb hby d7_69) (z' := (0 : Int32)) rfl (Q := Q7r0011 Z o0 o1 cc kcc d0 kd0 d1 kd1 oc kc c0 c1 c2 c3 h0 n0) ⟨by simp only [fr0011, if_pos hc65_6, if_neg hc65_11], N0, e10⟩ (by decide) (by decide)
  · skip
    refine o_icN X5 hx hby d7_65 (feq hc65_6).1 (q := 68) rfl ?_
    refine o_iconst X5 hx hby d7_68 (z := 0) rfl (q := 69) rfl ?_
    exact own_outN X5 hx hlk (t := .boolean) hret (by simp) (hb hby d7_69) (z' := (0 : Int32)) rfl (Q := Q7r0011 Z o0 o1 cc kcc d0 kd0 d1 kd1 oc kc c0 c1 c2 c3 h0 n0) ⟨by simp only [fr0011, if_neg hc65_6], N0, e5⟩ (by decide) (by decide)
theorem ef_4c0011n2 (m : MethodId) (x0 : Addr) (x1 : Addr) (x2 : Addr) : entryFrame m #[(.ref x0), (.ref x1), (.ref x2), (.int (2 : Int32))] 9 = mkF m 0 #[.val (.ref x0), .val (.ref x1), .val (.ref x2), .val (.int (2 : Int32)), .unset, .unset, .unset, .unset, .unset] [] := by first | (simp [entryFrame, mkF, argsToLocals, Value.category]; done) | rfl
def Q4c0011n2 (Z : State) (o0 : Addr) (o1 : Addr) (o2 : Addr) (k2 : ClassId) (h0 : Heap) (n0 : Nat) (v : Option Value) (h : Heap) (L : List Loc) : Prop := v = none ∧ Fr n0 L ∧ Keep h0 h [o0] ∧ Exa Z h o0 "com/example/slimc/slimc/game/Observation" ∧ Fld Z h o0 "com/example/slimc/slimc/game/Observation" "classOf" "[I" (.ref o2) ∧ Fld Z h o0 "com/example/slimc/slimc/game/Observation" "classCount" "I" (.int (2 : Int32)) ∧ RefOk Z h o0 fr0011
set_option maxRecDepth 65536 in
set_option maxHeartbeats 40000000 in
theorem rm4c0011n2 (l : Launch) (Z : State) (a0 : Array Value) (hw : ∀ d ∈ tables_1, d.before a0 Z = true) (ws : List Jvm.Cond) (o0 : Addr) (o1 : Addr) (o2 : Addr) (k2 : ClassId) (h0 : Heap) (n0 : Nat) (Z0 : n0 ≤ h0.size) (E : Exa Z h0 o0 "com/example/slimc/slimc/game/Observation") (F_name : Fld Z h0 o0 "com/example/slimc/slimc/game/Observation" "name" "Ljava/lang/String;" .null) (F_classOf : Fld Z h0 o0 "com/example/slimc/slimc/game/Observation" "classOf" "[I" .null) (F_classCount : Fld Z h0 o0 "com/example/slimc/slimc/game/Observation" "classCount" "I" (.int (0 : Int32))) (F_classes : Fld Z h0 o0 "com/example/slimc/slimc/game/Observation" "classes" "[[I" .null) (g_o0 : n0 ≤ o0) (V : Arv Z h0 o2 k2 .int (4 : Int32) [(.int (0 : Int32)), (.int (0 : Int32)), (.int (1 : Int32)), (.int (1 : Int32))] (.int (0 : Int32))) (n2 : o2 ≠ o0) :
    MetFree l (⟨"com/example/slimc/slimc/game/Observation", "<init>", "(Ljava/lang/String;[II)V"⟩ : MethodName) (head1 (Jvm.Cond.code (⟨"com/example/slimc/slimc/game/Observation", "<init>", "(Ljava/lang/String;[II)V"⟩ : MethodName) prog_66_method_1_code 9 none :: ws) ({ frames := 1, cells := 7, slots := 16, locals := 14 } : Room)) (fun a U => a = #[(.ref o0), (.ref o1), (.ref o2), (.int (2 : Int32))] ∧ Z.Warmed39 U.vm ∧ U.heap = h0) (fun _ _ _ _ _ => True) (fun _ U o U' => ∃ v L, o = .returned v ∧ Q4c0011n2 Z o0 o1 o2 k2 h0 n0 v U'.heap L ∧ FrameEnd U o U' L ({ frames := 1, cells := 7, slots := 16, locals := 14 } : Room).cells ({ frames := 1, cells := 7, slots := 16, locals := 14 } : Room).slots) := by
  refine MetFree.of_bodySF (plainFor_of_name pn_1) hisR ?_
  intro p e s m args below meth c s₁ Bd hml0 hP hK
  obtain ⟨rfl, hZ, hh⟩ := hP
  have hx := Bd.exec
  have hby := Bd.bytes
  have hml : c.maxLocals = 9 := hml0
  have hown : s.vm.findClass "com/example/slimc/slimc/game/Observation" = some m.cls := findClass_of_methodNamed Bd.named
  have hnm := (name_of_methodNamed Bd.named Bd.method).1
  have X0 : Stand p l e ({ frames := 1, cells := 7, slots := 16, locals := 14 } : Room) s m #[(.ref o0), (.ref o1), (.ref o2), (.int (2 : Int32))] below meth c s₁ [] 0 0 := Stand.of_body Bd
  have e0 : s₁.heap = h0 := by rw [← hh, Bd.state]; rfl
  have N0 := Fr.nil n0
  have hret := Bd.returns
  have hlk := BodyLoose.notSynchronized Bd
  show own_Out p e below (fun o U' => ∃ v L, o = .returned v ∧ Q4c0011n2 Z o0 o1 o2 k2 h0 n0 v U'.heap L ∧ FrameEnd s o U' L ({ frames := 1, cells := 7, slots := 16, locals := 14 } : Room).cells ({ frames := 1, cells := 7, slots := 16, locals := 14 } : Room).slots) (s₁.setTop (entryFrame m #[(.ref o0), (.ref o1), (.ref o2), (.int (2 : Int32))] 9))
  refine own_of (fun t k => castTop (ef_4c0011n2 m o0 o1 o2) k) ?_
  show own_Out p e below _ (s₁.setTop (mkF m 0 #[rv o0, rv o1, rv o2, iv 2, .unset, .unset, .unset, .unset, .unset] []))
  refine o_aloadN X0 hx hby d4_0 rfl rfl (q := 1) rfl ?_
  obtain ⟨T1, X1, e1, st1⟩ := initO X0 hx hZ hown (w_ hw 26 rfl) (w_ hw 27 rfl) (w_ hw 28 rfl) e0 (g := (mkF m 1 #[rv o0, rv o1, rv o2, iv 2, .unset, .unset, .unset, .unset, .unset] [.ref o0])) rfl (by rw [hml]; rfl) rfl (hb hby d4_1) (by decide) (W := 0) (by show 2 * 0 + _ ≤ _; exact Nat.le_of_eq rfl) (by decide)
  refine own_of st1 ?_
  show own_Out p e below _ (T1.setTop (mkF m 4 #[rv o0, rv o1, rv o2, iv 2, .unset, .unset, .unset, .unset, .unset] []))
  refine o_aloadN X1 hx hby d4_4 rfl rfl (q := 5) rfl ?_
  refine o_aloadN X1 hx hby d4_5 rfl rfl (q := 6) rfl ?_
  obtain ⟨T2, h2, X2, e2, W2, st2⟩ := putF X1 hx hZ hown (host := "") (Or.inl (w_ hw 29 rfl)) Via.refl e1 F_name E (Or.inr ⟨(w_ hw 30 rfl), rfl, hnm⟩) (w_ hw 10 rfl) (ty := (.object "java/lang/String")) (by decide) rfl rfl (g := (mkF m 6 #[rv o0, rv o1, rv o2, iv 2, .unset, .unset, .unset, .unset, .unset] [.ref o1, .ref o0])) rfl rfl (hb hby d4_6)
  have Fw2 := F_name.same W2
  refine own_of st2 ?_
  show own_Out p e below _ (T2.setTop (mkF m 9 #[rv o0, rv o1, rv o2, iv 2, .unset, .unset, .unset, .unset, .unset] []))
  refine o_aloadN X2 hx hby d4_9 rfl rfl (q := 10) rfl ?_
  refine o_aloadN X2 hx hby d4_10 rfl rfl (q := 11) rfl ?_
  have q4 := (F_classOf.other W2 (Or.inr (slot_ne (Or.inr (w_ hw 32 rfl)) (Or.inr (w_ hw 30 rfl)) (by decide) (t := (.array .int)) (t' := (.object "java/lang/String")) (by decide) (by decide))))
  have q5 := (E.wr W2)
  obtain ⟨T3, h3, X3, e3, W3, st3⟩ := putF X2 hx hZ hown (host := "") (Or.inl (w_ hw 31 rfl)) Via.refl e2 q4 q5 (Or.inr ⟨(w_ hw 32 rfl), rfl, hnm⟩) (w_ hw 10 rfl) (ty := (.array .int)) (by decide) rfl rfl (g := (mkF m 11 #[rv o0, rv o1, rv o2, iv 2, .unset, .unset, .unset, .unset, .unset] [.ref o2, .ref o0])) rfl rfl (hb hby d4_11)
  have q6 := (F_classOf.other W2 (Or.inr (slot_ne (Or.inr (w_ hw 32 rfl)) (Or.inr (w_ hw 30 rfl)) (by decide) (t := (.array .int)) (t' := (.object "java/lang/String")) (by decide) (by decide))))
  have Fw3 := q6.same W3
  refine own_of st3 ?_
  show own_Out p e below _ (T3.setTop (mkF m 14 #[rv o0, rv o1, rv o2, iv 2, .unset, .unset, .unset, .unset, .unset] []))
  refine o_aloadN X3 hx hby d4_14 rfl rfl (q := 15) rfl ?_
  refine o_iloadN X3 hx hby d4_15 rfl (q := 16) rfl ?_
  have q8 := ((F_classCount.other W2 (Or.inr (slot_ne (Or.inr (w_ hw 34 rfl)) (Or.inr (w_ hw 30 rfl)) (by decide) (t := .int) (t' := (.object "java/lang/String")) (by decide) (by decide)))).other W3 (Or.inr (slot_ne (Or.inr (w_ hw 34 rfl)) (Or.inr (w_ hw 32 rfl)) (by decide) (t := .int) (t' := (.array .int)) (by decide) (by decide))))
  have q9 := (q5.wr W3)
  obtain ⟨T7, h7, X7, e7, W7, st7⟩ := putF X3 hx hZ hown (host := "") (Or.inl (w_ hw 33 rfl)) Via.refl e3 q8 q9 (Or.inr ⟨(w_ hw 34 rfl), rfl, hnm⟩) (w_ hw 10 rfl) (ty := .int) (by decide) rfl rfl (g := (mkF m 16 #[rv o0, rv o1, rv o2, iv 2, .unset, .unset, .unset, .unset, .unset] [.int 2, .ref o0])) rfl rfl (hb hby d4_16)
  have q10 := ((F_classCount.other W2 (Or.inr (slot_ne (Or.inr (w_ hw 34 rfl)) (Or.inr (w_ hw 30 rfl)) (by decide) (t := .int) (t' := (.object "java/lang/String")) (by decide) (by decide)))).other W3 (Or.inr (slot_ne (Or.inr (w_ hw 34 rfl)) (Or.inr (w_ hw 32 rfl)) (by decide) (t := .int) (t' := (.array .int)) (by decide) (by decide))))
  have Fw7 := q10.same W7
  refine own_of st7 ?_
  show own_Out p e below _ (T7.setTop (mkF m 19 #[rv o0, rv o1, rv o2, iv 2, .unset, .unset, .unset, .unset, .unset] []))
  refine o_iloadN X7 hx hby d4_19 rfl (q := 20) rfl ?_
  obtain ⟨T11, h11, k11, X11, e11, E11, A11, Ex11, st11⟩ := newPE X7 hx hZ (w_ hw 4 rfl) e7 (g := (mkF m 20 #[rv o0, rv o1, rv o2, iv 2, .unset, .unset, .unset, .unset, .unset] [.int 2])) rfl (hb hby d4_20) rfl (by decide) (cap := 2) (by decide) (by decide) (by decide) (by decide) (ad := "[I") (by decide +kernel)
  obtain ⟨b11, g11⟩ : ∃ z, z = h7.size := ⟨_, rfl⟩
  rw [← g11] at A11 Ex11 st11
  have q12 := (Nat.le_trans (Nat.le_trans (Nat.le_trans Z0 (Keep.of_wr W2).1) (Keep.of_wr W3).1) (Keep.of_wr W7).1)
  have g_b11 : n0 ≤ b11 := Nat.le_trans q12 (Nat.le_of_eq g11.symm)
  have q13 := (Nat.le_trans (Nat.le_trans (Nat.le_trans (Nat.le_refl h0.size) (Keep.of_wr W2).1) (Keep.of_wr W3).1) (Keep.of_wr W7).1)
  have sz_b11 : h0.size ≤ b11 := Nat.le_trans q13 (Nat.le_of_eq g11.symm)
  have V_b11 : Arv Z h11 b11 k11 .int (2 : Int32) [(.int (0 : Int32)), (.int (0 : Int32))] (.int (0 : Int32)) := (Arv.new A11 (by decide)).pad (pad_rep [] (.int (0 : Int32)) 2)
  refine own_of st11 ?_
  show own_Out p e below _ (T11.setTop (mkF m 22 #[rv o0, rv o1, rv o2, iv 2, .unset, .unset, .unset, .unset, .unset] [.ref b11]))
  refine o_astore X11 hx hby d4_22 rfl (l' := #[rv o0, rv o1, rv o2, iv 2, rv b11, .unset, .unset, .unset, .unset]) rfl (q := 24) rfl ?_
  refine o_aloadN X11 hx hby d4_24 rfl rfl (q := 25) rfl ?_
  refine o_astore X11 hx hby d4_25 rfl (l' := #[rv o0, rv o1, rv o2, iv 2, rv b11, rv o2, .unset, .unset, .unset]) rfl (q := 27) rfl ?_
  refine o_aload X11 hx hby d4_27 rfl rfl (q := 29) rfl ?_
  have q14 := ((((V.other W2 n2).other W3 n2).other W7 n2).ext E11)
  refine o_lenV X11 hx hby hZ e11 q14 d4_29 (q := 30) rfl ?_
  refine o_istore X11 hx hby d4_30 (l' := #[rv o0, rv o1, rv o2, iv 2, rv b11, rv o2, iv 4, .unset, .unset]) rfl (q := 32) rfl ?_
  refine o_iconst X11 hx hby d4_32 (z := 0) rfl (q := 33) rfl ?_
  refine o_istore X11 hx hby d4_33 (l' := #[rv o0, rv o1, rv o2, iv 2, rv b11, rv o2, iv 4, iv 0, .unset]) rfl (q := 35) rfl ?_
  refine t1 X11 hx hby hZ e11 q14 V_b11 rfl ⟨by decide, by decide⟩ (cc := 0) rfl ⟨by decide, by decide⟩ (y := 0) rfl (y' := 1) rfl (i' := 1) rfl (iN := 0) rfl (Nat.le_of_ble_eq_true rfl) fun T15 h15 X15 e15 W15 V15 => ?_
  have ne_o2_b11 : o2 ≠ b11 := Nat.ne_of_lt (Nat.lt_of_lt_of_le V.lt sz_b11)
  have q16 := (q14.other W15 ne_o2_b11)
  refine t1 X15 hx hby hZ e15 q16 V15 rfl ⟨by decide, by decide⟩ (cc := 0) rfl ⟨by decide, by decide⟩ (y := 1) rfl (y' := 2) rfl (i' := 2) rfl (iN := 0) rfl (Nat.le_of_ble_eq_true rfl) fun T17 h17 X17 e17 W17 V17 => ?_
  have q18 := (q16.other W17 ne_o2_b11)
  refine t1 X17 hx hby hZ e17 q18 V17 rfl ⟨by decide, by decide⟩ (cc := 1) rfl ⟨by decide, by decide⟩ (y := 0) rfl (y' := 1) rfl (i' := 3) rfl (iN := 1) rfl (Nat.le_of_ble_eq_true rfl) fun T19 h19 X19 e19 W19 V19 => ?_
  have q20 := (q18.other W19 ne_o2_b11)
  refine t1 X19 hx hby hZ e19 q20 V19 rfl ⟨by decide, by decide⟩ (cc := 1) rfl ⟨by decide, by decide⟩ (y := 1) rfl (y' := 2) rfl (i' := 4) rfl (iN := 1) rfl (Nat.le_of_ble_eq_true rfl) fun T21 h21 X21 e21 W21 V21 => ?_
  refine o_iload X21 hx hby d4_35 rfl (q := 37) rfl ?_
  refine o_iload X21 hx hby d4_37 rfl (q := 39) rfl ?_
  refine o_icY X21 hx hby d4_39 (flt (by decide : ¬ ((4 : Int32) < (4 : Int32)))).2.1 (by decide) (q := 64) (by decide) ?_
  refine o_aloadN X21 hx hby d4_64 rfl rfl (q := 65) rfl ?_
  refine o_iloadN X21 hx hby d4_65 rfl (q := 66) rfl ?_
  obtain ⟨T22, h22, k22, X22, e22, E22, A22, Ex22, O22, st22⟩ := newRA X21 hx hZ hown (ty := .int) (by decide +kernel) (w_ hw 35 rfl) (w_ hw 36 rfl) e21 (g := (mkF m 66 #[rv o0, rv o1, rv o2, iv 2, rv b11, rv o2, iv 4, iv 4, iv 1] [.int 2, .ref o0])) rfl (hb hby d4_66) rfl (by decide) (cap := 2) (by decide) (by decide) (by decide) (by decide) (ad := "[[I") (by decide +kernel)
  obtain ⟨b22, g22⟩ : ∃ z, z = h21.size := ⟨_, rfl⟩
  rw [← g22] at A22 Ex22 st22
  have q23 := (Nat.le_trans (Nat.le_trans (Nat.le_trans (Nat.le_trans (Nat.le_trans q12 E11.1) (Keep.of_wr W15).1) (Keep.of_wr W17).1) (Keep.of_wr W19).1) (Keep.of_wr W21).1)
  have g_b22 : n0 ≤ b22 := Nat.le_trans q23 (Nat.le_of_eq g22.symm)
  have q24 := (Nat.le_trans (Nat.le_trans (Nat.le_trans (Nat.le_trans (Nat.le_trans q13 E11.1) (Keep.of_wr W15).1) (Keep.of_wr W17).1) (Keep.of_wr W19).1) (Keep.of_wr W21).1)
  have sz_b22 : h0.size ≤ b22 := Nat.le_trans q24 (Nat.le_of_eq g22.symm)
  have V_b22 : Arv Z h22 b22 k22 (.array .int) (2 : Int32) [.null, .null] .null := (Arv.new A22 (by decide)).pad (pad_rep [] .null 2)
  refine own_of st22 ?_
  show own_Out p e below _ (T22.setTop (mkF m 69 #[rv o0, rv o1, rv o2, iv 2, rv b11, rv o2, iv 4, iv 4, iv 1] [.ref b22, .ref o0]))
  have ne_o0_b11 : o0 ≠ b11 := Nat.ne_of_lt (Nat.lt_of_lt_of_le E.lt sz_b11)
  have q26 := (((((((((F_classes.other W2 (Or.inr (slot_ne (Or.inr (w_ hw 38 rfl)) (Or.inr (w_ hw 30 rfl)) (by decide) (t := (.array (.array .int))) (t' := (.object "java/lang/String")) (by decide) (by decide)))).other W3 (Or.inr (slot_ne (Or.inr (w_ hw 38 rfl)) (Or.inr (w_ hw 32 rfl)) (by decide) (t := (.array (.array .int))) (t' := (.array .int)) (by decide) (by decide)))).other W7 (Or.inr (slot_ne (Or.inr (w_ hw 38 rfl)) (Or.inr (w_ hw 34 rfl)) (by decide) (t := (.array (.array .int))) (t' := .int) (by decide) (by decide)))).ext E11).other W15 (Or.inl ne_o0_b11)).other W17 (Or.inl ne_o0_b11)).other W19 (Or.inl ne_o0_b11)).other W21 (Or.inl ne_o0_b11)).ext E22)
  have q27 := (((((((q9.wr W7).ext E11).wr W15).wr W17).wr W19).wr W21).ext E22)
  obtain ⟨T25, h25, X25, e25, W25, st25⟩ := putF X22 hx hZ hown (host := "") (Or.inl (w_ hw 37 rfl)) Via.refl e22 q26 q27 (Or.inr ⟨(w_ hw 38 rfl), rfl, hnm⟩) (w_ hw 10 rfl) (ty := (.array (.array .int))) (by decide) rfl rfl (g := (mkF m 69 #[rv o0, rv o1, rv o2, iv 2, rv b11, rv o2, iv 4, iv 4, iv 1] [.ref b22, .ref o0])) rfl rfl (hb hby d4_69)
  have q28 := (((((((((F_classes.other W2 (Or.inr (slot_ne (Or.inr (w_ hw 38 rfl)) (Or.inr (w_ hw 30 rfl)) (by decide) (t := (.array (.array .int))) (t' := (.object "java/lang/String")) (by decide) (by decide)))).other W3 (Or.inr (slot_ne (Or.inr (w_ hw 38 rfl)) (Or.inr (w_ hw 32 rfl)) (by decide) (t := (.array (.array .int))) (t' := (.array .int)) (by decide) (by decide)))).other W7 (Or.inr (slot_ne (Or.inr (w_ hw 38 rfl)) (Or.inr (w_ hw 34 rfl)) (by decide) (t := (.array (.array .int))) (t' := .int) (by decide) (by decide)))).ext E11).other W15 (Or.inl ne_o0_b11)).other W17 (Or.inl ne_o0_b11)).other W19 (Or.inl ne_o0_b11)).other W21 (Or.inl ne_o0_b11)).ext E22)
  have Fw25 := q28.same W25
  refine own_of st25 ?_
  show own_Out p e below _ (T25.setTop (mkF m 72 #[rv o0, rv o1, rv o2, iv 2, rv b11, rv o2, iv 4, iv 4, iv 1] []))
  refine o_iconst X25 hx hby d4_72 (z := 0) rfl (q := 73) rfl ?_
  refine o_istore X25 hx hby d4_73 (l' := #[rv o0, rv o1, rv o2, iv 2, rv b11, iv 0, iv 4, iv 4, iv 1]) rfl (q := 75) rfl ?_
  refine o_iload X25 hx hby d4_75 rfl (q := 77) rfl ?_
  refine o_iloadN X25 hx hby d4_77 rfl (q := 78) rfl ?_
  refine o_icN X25 hx hby d4_78 (tlt (by decide : (0 : Int32) < (2 : Int32))).2.1 (q := 81) rfl ?_
  refine o_aloadN X25 hx hby d4_81 rfl rfl (q := 82) rfl ?_
  refine o_getF X25 hx hZ hown hby (w_ hw 37 rfl) Via.refl e25 Fw25 d4_82 (q := 85) rfl fun T29 X29 e29 => ?_
  refine o_iload X29 hx hby d4_85 rfl (q := 87) rfl ?_
  refine o_aload X29 hx hby d4_87 rfl rfl (q := 89) rfl ?_
  refine o_iload X29 hx hby d4_89 rfl (q := 91) rfl ?_
  have q30 := ((V21.ext E22).other W25 (Ne.symm ne_o0_b11))
  refine o_iaV X29 hx hby hZ e29 q30 ⟨by decide, by decide⟩ (v := .int 2) rfl d4_91 (q := 92) rfl ?_
  obtain ⟨T31, h31, k31, X31, e31, E31, A31, Ex31, st31⟩ := newPE X29 hx hZ (w_ hw 4 rfl) e29 (g := (mkF m 92 #[rv o0, rv o1, rv o2, iv 2, rv b11, iv 0, iv 4, iv 4, iv 1] [.int 2, .int 0, .ref b22])) rfl (hb hby d4_92) rfl (by decide) (cap := 2) (by decide) (by decide) (by decide) (by decide) (ad := "[I") (by decide +kernel)
  obtain ⟨b31, g31⟩ : ∃ z, z = h25.size := ⟨_, rfl⟩
  rw [← g31] at A31 Ex31 st31
  have q32 := (Nat.le_trans (Nat.le_trans q23 E22.1) (Keep.of_wr W25).1)
  have g_b31 : n0 ≤ b31 := Nat.le_trans q32 (Nat.le_of_eq g31.symm)
  have q33 := (Nat.le_trans (Nat.le_trans q24 E22.1) (Keep.of_wr W25).1)
  have sz_b31 : h0.size ≤ b31 := Nat.le_trans q33 (Nat.le_of_eq g31.symm)
  have V_b31 : Arv Z h31 b31 k31 .int (2 : Int32) [(.int (0 : Int32)), (.int (0 : Int32))] (.int (0 : Int32)) := (Arv.new A31 (by decide)).pad (pad_rep [] (.int (0 : Int32)) 2)
  refine own_of st31 ?_
  show own_Out p e below _ (T31.setTop (mkF m 94 #[rv o0, rv o1, rv o2, iv 2, rv b11, iv 0, iv 4, iv 4, iv 1] [.ref b31, .int 0, .ref b22]))
  have ne_o0_b22 : o0 ≠ b22 := Nat.ne_of_lt (Nat.lt_of_lt_of_le E.lt sz_b22)
  have q34 := ((V_b22.other W25 (Ne.symm ne_o0_b22)).ext E31)
  refine o_stVR X31 hx hby hZ e31 q34 ⟨by decide, by decide⟩ 0 rfl (Nat.le_of_ble_eq_true rfl) O22 (Ins.self Ex31) d4_94 (q := 95) rfl fun T35 h35 X35 e35 W35 V35 => ?_
  refine o_iinc X35 hx hby d4_95 rfl (l' := #[rv o0, rv o1, rv o2, iv 2, rv b11, iv 1, iv 4, iv 4, iv 1]) rfl (q := 98) rfl ?_
  refine o_goto X35 hx hby d4_98 (by decide) (q := 75) (by decide) ?_
  refine o_iload X35 hx hby d4_75 rfl (q := 77) rfl ?_
  refine o_iloadN X35 hx hby d4_77 rfl (q := 78) rfl ?_
  refine o_icN X35 hx hby d4_78 (tlt (by decide : (1 : Int32) < (2 : Int32))).2.1 (q := 81) rfl ?_
  refine o_aloadN X35 hx hby d4_81 rfl rfl (q := 82) rfl ?_
  have q37 := ((Fw25.ext E31).other W35 (Or.inl ne_o0_b22))
  refine o_getF X35 hx hZ hown hby (w_ hw 37 rfl) Via.refl e35 q37 d4_82 (q := 85) rfl fun T36 X36 e36 => ?_
  refine o_iload X36 hx hby d4_85 rfl (q := 87) rfl ?_
  refine o_aload X36 hx hby d4_87 rfl rfl (q := 89) rfl ?_
  refine o_iload X36 hx hby d4_89 rfl (q := 91) rfl ?_
  have ne_b11_b22 : b11 ≠ b22 := Nat.ne_of_lt (Nat.lt_of_lt_of_le (Nat.lt_of_lt_of_le (Nat.lt_of_lt_of_le (Nat.lt_of_lt_of_le (Nat.lt_of_lt_of_le A11.lt (Keep.of_wr W15).1) (Keep.of_wr W17).1) (Keep.of_wr W19).1) (Keep.of_wr W21).1) (Nat.le_of_eq g22.symm))
  have q38 := ((q30.ext E31).other W35 ne_b11_b22)
  refine o_iaV X36 hx hby hZ e36 q38 ⟨by decide, by decide⟩ (v := .int 2) rfl d4_91 (q := 92) rfl ?_
  obtain ⟨T39, h39, k39, X39, e39, E39, A39, Ex39, st39⟩ := newPE X36 hx hZ (w_ hw 4 rfl) e36 (g := (mkF m 92 #[rv o0, rv o1, rv o2, iv 2, rv b11, iv 1, iv 4, iv 4, iv 1] [.int 2, .int 1, .ref b22])) rfl (hb hby d4_92) rfl (by decide) (cap := 2) (by decide) (by decide) (by decide) (by decide) (ad := "[I") (by decide +kernel)
  obtain ⟨b39, g39⟩ : ∃ z, z = h35.size := ⟨_, rfl⟩
  rw [← g39] at A39 Ex39 st39
  have q40 := (Nat.le_trans (Nat.le_trans q32 E31.1) (Keep.of_wr W35).1)
  have g_b39 : n0 ≤ b39 := Nat.le_trans q40 (Nat.le_of_eq g39.symm)
  have q41 := (Nat.le_trans (Nat.le_trans q33 E31.1) (Keep.of_wr W35).1)
  have sz_b39 : h0.size ≤ b39 := Nat.le_trans q41 (Nat.le_of_eq g39.symm)
  have V_b39 : Arv Z h39 b39 k39 .int (2 : Int32) [(.int (0 : Int32)), (.int (0 : Int32))] (.int (0 : Int32)) := (Arv.new A39 (by decide)).pad (pad_rep [] (.int (0 : Int32)) 2)
  refine own_of st39 ?_
  show own_Out p e below _ (T39.setTop (mkF m 94 #[rv o0, rv o1, rv o2, iv 2, rv b11, iv 1, iv 4, iv 4, iv 1] [.ref b39, .int 1, .ref b22]))
  have q42 := (V35.ext E39)
  refine o_stVR X39 hx hby hZ e39 q42 ⟨by decide, by decide⟩ 1 rfl (Nat.le_of_ble_eq_true rfl) O22 (Ins.self Ex39) d4_94 (q := 95) rfl fun T43 h43 X43 e43 W43 V43 => ?_
  refine o_iinc X43 hx hby d4_95 rfl (l' := #[rv o0, rv o1, rv o2, iv 2, rv b11, iv 2, iv 4, iv 4, iv 1]) rfl (q := 98) rfl ?_
  refine o_goto X43 hx hby d4_98 (by decide) (q := 75) (by decide) ?_
  refine o_iload X43 hx hby d4_75 rfl (q := 77) rfl ?_
  refine o_iloadN X43 hx hby d4_77 rfl (q := 78) rfl ?_
  refine o_icY X43 hx hby d4_78 (flt (by decide : ¬ ((2 : Int32) < (2 : Int32)))).2.1 (by decide) (q := 101) (by decide) ?_
  refine o_iloadN X43 hx hby d4_101 rfl (q := 102) rfl ?_
  obtain ⟨T44, h44, k44, X44, e44, E44, A44, Ex44, st44⟩ := newPE X43 hx hZ (w_ hw 4 rfl) e43 (g := (mkF m 102 #[rv o0, rv o1, rv o2, iv 2, rv b11, iv 2, iv 4, iv 4, iv 1] [.int 2])) rfl (hb hby d4_102) rfl (by decide) (cap := 2) (by decide) (by decide) (by decide) (by decide) (ad := "[I") (by decide +kernel)
  obtain ⟨b44, g44⟩ : ∃ z, z = h43.size := ⟨_, rfl⟩
  rw [← g44] at A44 Ex44 st44
  have q45 := (Nat.le_trans (Nat.le_trans q40 E39.1) (Keep.of_wr W43).1)
  have g_b44 : n0 ≤ b44 := Nat.le_trans q45 (Nat.le_of_eq g44.symm)
  have q46 := (Nat.le_trans (Nat.le_trans q41 E39.1) (Keep.of_wr W43).1)
  have sz_b44 : h0.size ≤ b44 := Nat.le_trans q46 (Nat.le_of_eq g44.symm)
  have V_b44 : Arv Z h44 b44 k44 .int (2 : Int32) [(.int (0 : Int32)), (.int (0 : Int32))] (.int (0 : Int32)) := (Arv.new A44 (by decide)).pad (pad_rep [] (.int (0 : Int32)) 2)
  refine own_of st44 ?_
  show own_Out p e below _ (T44.setTop (mkF m 104 #[rv o0, rv o1, rv o2, iv 2, rv b11, iv 2, iv 4, iv 4, iv 1] [.ref b44]))
  refine o_astore X44 hx hby d4_104 rfl (l' := #[rv o0, rv o1, rv o2, iv 2, rv b11, rv b44, iv 4, iv 4, iv 1]) rfl (q := 106) rfl ?_
  refine o_iconst X44 hx hby d4_106 (z := 0) rfl (q := 107) rfl ?_
  refine o_istore X44 hx hby d4_107 (l' := #[rv o0, rv o1, rv o2, iv 2, rv b11, rv b44, iv 0, iv 4, iv 1]) rfl (q := 109) rfl ?_
  have ne_o2_b22 : o2 ≠ b22 := Nat.ne_of_lt (Nat.lt_of_lt_of_le V.lt sz_b22)
  have q49 := ((((((((q20.other W21 ne_o2_b11).ext E22).other W25 n2).ext E31).other W35 ne_o2_b22).ext E39).other W43 ne_o2_b22).ext E44)
  have q50 := (((q37.ext E39).other W43 (Or.inl ne_o0_b22)).ext E44)
  have q51 := (V43.ext E44)
  have ne_b22_b31 : b22 ≠ b31 := Nat.ne_of_lt (Nat.lt_of_lt_of_le (Nat.lt_of_lt_of_le A22.lt (Keep.of_wr W25).1) (Nat.le_of_eq g31.symm))
  have q52 := ((((V_b31.other W35 (Ne.symm ne_b22_b31)).ext E39).other W43 (Ne.symm ne_b22_b31)).ext E44)
  have ne_b31_b44 : b31 ≠ b44 := Nat.ne_of_lt (Nat.lt_of_lt_of_le (Nat.lt_of_lt_of_le (Nat.lt_of_lt_of_le (Nat.lt_of_lt_of_le A31.lt (Keep.of_wr W35).1) E39.1) (Keep.of_wr W43).1) (Nat.le_of_eq g44.symm))
  refine t3 X44 hx hby hZ e44 hw hown q49 q50 q51 V_b44 q52 ne_b31_b44 ⟨by decide, by decide⟩ (x := 0) rfl ⟨by decide, by decide⟩ rfl (f := 0) rfl ⟨by decide, by decide⟩ (f' := 1) rfl (i' := 1) rfl (iN := 0) rfl (Nat.le_of_ble_eq_true rfl) (jN := 0) rfl (Nat.le_of_ble_eq_true rfl) fun T48 h47 h48 X48 e48 W47 W48 V47 V48 => ?_
  have ne_o2_b44 : o2 ≠ b44 := Nat.ne_of_lt (Nat.lt_of_lt_of_le V.lt sz_b44)
  have ne_o2_b31 : o2 ≠ b31 := Nat.ne_of_lt (Nat.lt_of_lt_of_le V.lt sz_b31)
  have q55 := ((q49.other W47 ne_o2_b44).other W48 ne_o2_b31)
  have ne_o0_b44 : o0 ≠ b44 := Nat.ne_of_lt (Nat.lt_of_lt_of_le E.lt sz_b44)
  have ne_o0_b31 : o0 ≠ b31 := Nat.ne_of_lt (Nat.lt_of_lt_of_le E.lt sz_b31)
  have q56 := ((q50.other W47 (Or.inl ne_o0_b44)).other W48 (Or.inl ne_o0_b31))
  have ne_b22_b44 : b22 ≠ b44 := Nat.ne_of_lt (Nat.lt_of_lt_of_le (Nat.lt_of_lt_of_le (Nat.lt_of_lt_of_le (Nat.lt_of_lt_of_le (Nat.lt_of_lt_of_le (Nat.lt_of_lt_of_le A22.lt (Keep.of_wr W25).1) E31.1) (Keep.of_wr W35).1) E39.1) (Keep.of_wr W43).1) (Nat.le_of_eq g44.symm))
  have q57 := ((q51.other W47 ne_b22_b44).other W48 ne_b22_b31)
  have q58 := (V47.other W48 (Ne.symm ne_b31_b44))
  refine t3 X48 hx hby hZ e48 hw hown q55 q56 q57 q58 V48 ne_b31_b44 ⟨by decide, by decide⟩ (x := 0) rfl ⟨by decide, by decide⟩ rfl (f := 1) rfl ⟨by decide, by decide⟩ (f' := 2) rfl (i' := 2) rfl (iN := 0) rfl (Nat.le_of_ble_eq_true rfl) (jN := 1) rfl (Nat.le_of_ble_eq_true rfl) fun T54 h53 h54 X54 e54 W53 W54 V53 V54 => ?_
  have q61 := ((q55.other W53 ne_o2_b44).other W54 ne_o2_b31)
  have q62 := ((q56.other W53 (Or.inl ne_o0_b44)).other W54 (Or.inl ne_o0_b31))
  have q63 := ((q57.other W53 ne_b22_b44).other W54 ne_b22_b31)
  have q64 := (V53.other W54 (Ne.symm ne_b31_b44))
  have ne_b22_b39 : b22 ≠ b39 := Nat.ne_of_lt (Nat.lt_of_lt_of_le (Nat.lt_of_lt_of_le (Nat.lt_of_lt_of_le (Nat.lt_of_lt_of_le A22.lt (Keep.of_wr W25).1) E31.1) (Keep.of_wr W35).1) (Nat.le_of_eq g39.symm))
  have ne_b39_b44 : b39 ≠ b44 := Nat.ne_of_lt (Nat.lt_of_lt_of_le (Nat.lt_of_lt_of_le A39.lt (Keep.of_wr W43).1) (Nat.le_of_eq g44.symm))
  have ne_b31_b39 : b31 ≠ b39 := Nat.ne_of_lt (Nat.lt_of_lt_of_le (Nat.lt_of_lt_of_le A31.lt (Keep.of_wr W35).1) (Nat.le_of_eq g39.symm))
  have q65 := ((((((V_b39.other W43 (Ne.symm ne_b22_b39)).ext E44).other W47 ne_b39_b44).other W48 (Ne.symm ne_b31_b39)).other W53 ne_b39_b44).other W54 (Ne.symm ne_b31_b39))
  refine t3 X54 hx hby hZ e54 hw hown q61 q62 q63 q64 q65 ne_b39_b44 ⟨by decide, by decide⟩ (x := 1) rfl ⟨by decide, by decide⟩ rfl (f := 0) rfl ⟨by decide, by decide⟩ (f' := 1) rfl (i' := 3) rfl (iN := 1) rfl (Nat.le_of_ble_eq_true rfl) (jN := 0) rfl (Nat.le_of_ble_eq_true rfl) fun T60 h59 h60 X60 e60 W59 W60 V59 V60 => ?_
  have ne_o2_b39 : o2 ≠ b39 := Nat.ne_of_lt (Nat.lt_of_lt_of_le V.lt sz_b39)
  have q68 := ((q61.other W59 ne_o2_b44).other W60 ne_o2_b39)
  have ne_o0_b39 : o0 ≠ b39 := Nat.ne_of_lt (Nat.lt_of_lt_of_le E.lt sz_b39)
  have q69 := ((q62.other W59 (Or.inl ne_o0_b44)).other W60 (Or.inl ne_o0_b39))
  have q70 := ((q63.other W59 ne_b22_b44).other W60 ne_b22_b39)
  have q71 := (V59.other W60 (Ne.symm ne_b39_b44))
  refine t3 X60 hx hby hZ e60 hw hown q68 q69 q70 q71 V60 ne_b39_b44 ⟨by decide, by decide⟩ (x := 1) rfl ⟨by decide, by decide⟩ rfl (f := 1) rfl ⟨by decide, by decide⟩ (f' := 2) rfl (i' := 4) rfl (iN := 1) rfl (Nat.le_of_ble_eq_true rfl) (jN := 1) rfl (Nat.le_of_ble_eq_true rfl) fun T67 h66 h67 X67 e67 W66 W67 V66 V67 => ?_
  refine o_iload X67 hx hby d4_109 rfl (q := 111) rfl ?_
  refine o_aloadN X67 hx hby d4_111 rfl rfl (q := 112) rfl ?_
  have q72 := ((q68.other W66 ne_o2_b44).other W67 ne_o2_b39)
  refine o_lenV X67 hx hby hZ e67 q72 d4_112 (q := 113) rfl ?_
  refine o_icY X67 hx hby d4_113 (flt (by decide : ¬ ((4 : Int32) < (4 : Int32)))).2.1 (by decide) (q := 146) (by decide) ?_
  have q73 := ((q69.other W66 (Or.inl ne_o0_b44)).other W67 (Or.inl ne_o0_b39))
  have q74 := ((q70.other W66 ne_b22_b44).other W67 ne_b22_b39)
  have q75 := ((((V54.other W59 ne_b31_b44).other W60 ne_b31_b39).other W66 ne_b31_b44).other W67 ne_b31_b39)
  have q76 := ((((((((((((((((((((((((Keep.refl h0 [o0]).wr W2 (Or.inl (List.mem_of_getElem? (i := 0) rfl))).wr W3 (Or.inl (List.mem_of_getElem? (i := 0) rfl))).wr W7 (Or.inl (List.mem_of_getElem? (i := 0) rfl))).ext E11).wr W15 (Or.inr sz_b11)).wr W17 (Or.inr sz_b11)).wr W19 (Or.inr sz_b11)).wr W21 (Or.inr sz_b11)).ext E22).wr W25 (Or.inl (List.mem_of_getElem? (i := 0) rfl))).ext E31).wr W35 (Or.inr sz_b22)).ext E39).wr W43 (Or.inr sz_b22)).ext E44).wr W47 (Or.inr sz_b44)).wr W48 (Or.inr sz_b31)).wr W53 (Or.inr sz_b44)).wr W54 (Or.inr sz_b31)).wr W59 (Or.inr sz_b44)).wr W60 (Or.inr sz_b39)).wr W66 (Or.inr sz_b44)).wr W67 (Or.inr sz_b39))
  have q77 := ((((((((((((((q27.wr W25).ext E31).wr W35).ext E39).wr W43).ext E44).wr W47).wr W48).wr W53).wr W54).wr W59).wr W60).wr W66).wr W67)
  have q78 := (((((((((((((((((((((Fw3.other W7 (Or.inr (slot_ne (Or.inr (w_ hw 32 rfl)) (Or.inr (w_ hw 34 rfl)) (by decide) (t := (.array .int)) (t' := .int) (by decide) (by decide)))).ext E11).other W15 (Or.inl ne_o0_b11)).other W17 (Or.inl ne_o0_b11)).other W19 (Or.inl ne_o0_b11)).other W21 (Or.inl ne_o0_b11)).ext E22).other W25 (Or.inr (slot_ne (Or.inr (w_ hw 32 rfl)) (Or.inr (w_ hw 38 rfl)) (by decide) (t := (.array .int)) (t' := (.array (.array .int))) (by decide) (by decide)))).ext E31).other W35 (Or.inl ne_o0_b22)).ext E39).other W43 (Or.inl ne_o0_b22)).ext E44).other W47 (Or.inl ne_o0_b44)).other W48 (Or.inl ne_o0_b31)).other W53 (Or.inl ne_o0_b44)).other W54 (Or.inl ne_o0_b31)).other W59 (Or.inl ne_o0_b44)).other W60 (Or.inl ne_o0_b39)).other W66 (Or.inl ne_o0_b44)).other W67 (Or.inl ne_o0_b39))
  have q79 := ((((((((((((((((((((Fw7.ext E11).other W15 (Or.inl ne_o0_b11)).other W17 (Or.inl ne_o0_b11)).other W19 (Or.inl ne_o0_b11)).other W21 (Or.inl ne_o0_b11)).ext E22).other W25 (Or.inr (slot_ne (Or.inr (w_ hw 34 rfl)) (Or.inr (w_ hw 38 rfl)) (by decide) (t := .int) (t' := (.array (.array .int))) (by decide) (by decide)))).ext E31).other W35 (Or.inl ne_o0_b22)).ext E39).other W43 (Or.inl ne_o0_b22)).ext E44).other W47 (Or.inl ne_o0_b44)).other W48 (Or.inl ne_o0_b31)).other W53 (Or.inl ne_o0_b44)).other W54 (Or.inl ne_o0_b31)).other W59 (Or.inl ne_o0_b44)).other W60 (Or.inl ne_o0_b39)).other W66 (Or.inl ne_o0_b44)).other W67 (Or.inl ne_o0_b39))
  exact own_outV X67 hx hlk hret (hb hby d4_146) (Q := Q4c0011n2 Z o0 o1 o2 k2 h0 n0) (by rw [e67]; exact ⟨rfl, (Fr.snoc X67 (own_snoc (Fr.snoc X60 (own_snoc (Fr.snoc X54 (own_snoc (Fr.snoc X48 (own_snoc (Fr.snoc X43 (Fr.snoc X35 (Fr.snoc X25 (Fr.snoc X21 (Fr.snoc X19 (Fr.snoc X17 (Fr.snoc X15 (Fr.snoc X7 (Fr.snoc X3 (Fr.snoc X2 N0 g_o0) g_o0) g_o0) g_b11) g_b11) g_b11) g_b11) g_o0) g_b22) g_b22) g_b44) g_b31) g_b44) g_b31) g_b44) g_b39) g_b44) g_b39), q76, q77, q78, q79, (fun l a0 hw ws h' K o1 oc kc c0 c1 c2 c3 n1 Z1 Fc Vc => rm7r0011 l Z a0 hw ws o0 o1 b22 k22 b31 k31 b39 k39 oc kc c0 c1 c2 c3 h' n1 Z1 (q73.keep K nin0) (q74.keep K nin0) (q75.keep K nin0) (V67.keep K nin0) Fc Vc)⟩) (by decide) (by decide)
theorem ef_7r0012 (m : MethodId) (x0 : Addr) (x1 : Addr) : entryFrame m #[(.ref x0), (.ref x1)] 10 = mkF m 0 #[.val (.ref x0), .val (.ref x1), .unset, .unset, .unset, .unset, .unset, .unset, .unset, .unset] [] := by first | (simp [entryFrame, mkF, argsToLocals, Value.category]; done) | rfl
def fr0012 (c0 : Int32) (c1 : Int32) (c2 : Int32) (c3 : Int32) : Int32 := if c1 = c0 then (1 : Int32)
  else (0 : Int32)
def Q7r0012 (Z : State) (o0 : Addr) (o1 : Addr) (cc : Addr) (kcc : ClassId) (d0 : Addr) (kd0 : ClassId) (d1 : Addr) (kd1 : ClassId) (d2 : Addr) (kd2 : ClassId) (oc : Addr) (kc : ClassId) (c0 : Int32) (c1 : Int32) (c2 : Int32) (c3 : Int32) (h0 : Heap) (n0 : Nat) (v : Option Value) (h : Heap) (L : List Loc) : Prop := v = some (.int (fr0012 c0 c1 c2 c3)) ∧ Fr n0 L ∧ h = h0
set_option maxRecDepth 65536 in
set_option maxHeartbeats 40000000 in
theorem rm7r0012 (l : Launch) (Z : State) (a0 : Array Value) (hw : ∀ d ∈ tables_1, d.before a0 Z = true) (ws : List Jvm.Cond) (o0 : Addr) (o1 : Addr) (cc : Addr) (kcc : ClassId) (d0 : Addr) (kd0 : ClassId) (d1 : Addr) (kd1 : ClassId) (d2 : Addr) (kd2 : ClassId) (oc : Addr) (kc : ClassId) (c0 : Int32) (c1 : Int32) (c2 : Int32) (c3 : Int32) (h0 : Heap) (n0 : Nat) (Z0 : n0 ≤ h0.size) (Fs : Fld Z h0 o0 "com/example/slimc/slimc/game/Observation" "classes" "[[I" (.ref cc)) (Vcc : Arv Z h0 cc kcc (.array .int) (3 : Int32) [(.ref d0), (.ref d1), (.ref d2)] .null) (Vd0 : Arv Z h0 d0 kd0 .int (2 : Int32) [(.int (0 : Int32)), (.int (1 : Int32))] (.int (0 : Int32))) (Vd1 : Arv Z h0 d1 kd1 .int (1 : Int32) [(.int (2 : Int32))] (.int (0 : Int32))) (Vd2 : Arv Z h0 d2 kd2 .int (1 : Int32) [(.int (3 : Int32))] (.int (0 : Int32))) (Fc : Fld Z h0 o1 "com/example/slimc/slimc/game/Observation" "classOf" "[I" (.ref oc)) (Vc : Arv Z h0 oc kc .int (4 : Int32) [(.int c0), (.int c1), (.int c2), (.int c3)] (.int (0 : Int32))) :
    MetFree l (⟨"com/example/slimc/slimc/game/Observation", "refines", "(Lcom/example/slimc/slimc/game/Observation;)Z"⟩ : MethodName) (head1 (Jvm.Cond.code (⟨"com/example/slimc/slimc/game/Observation", "refines", "(Lcom/example/slimc/slimc/game/Observation;)Z"⟩ : MethodName) prog_66_method_8_code 10 (some .boolean) :: ws) ({ frames := 0, cells := 0, slots := 0, locals := 0 } : Room)) (fun a U => a = #[(.ref o0), (.ref o1)] ∧ Z.Warmed39 U.vm ∧ U.heap = h0) (fun _ _ _ _ _ => True) (fun _ U o U' => ∃ v L, o = .returned v ∧ Q7r0012 Z o0 o1 cc kcc d0 kd0 d1 kd1 d2 kd2 oc kc c0 c1 c2 c3 h0 n0 v U'.heap L ∧ FrameEnd U o U' L ({ frames := 0, cells := 0, slots := 0, locals := 0 } : Room).cells ({ frames := 0, cells := 0, slots := 0, locals := 0 } : Room).slots) := by
  refine MetFree.of_bodySF (plainFor_of_name pn_1) hisR ?_
  intro p e s m args below meth c s₁ Bd hml0 hP hK
  obtain ⟨rfl, hZ, hh⟩ := hP
  have hx := Bd.exec
  have hby := Bd.bytes
  have hml : c.maxLocals = 10 := hml0
  have hown : s.vm.findClass "com/example/slimc/slimc/game/Observation" = some m.cls := findClass_of_methodNamed Bd.named
  have hnm := (name_of_methodNamed Bd.named Bd.method).1
  have X0 : Stand p l e ({ frames := 0, cells := 0, slots := 0, locals := 0 } : Room) s m #[(.ref o0), (.ref o1)] below meth c s₁ [] 0 0 := Stand.of_body Bd
  have e0 : s₁.heap = h0 := by rw [← hh, Bd.state]; rfl
  have N0 := Fr.nil n0
  have hret := Bd.returns
  have hlk := BodyLoose.notSynchronized Bd
  show own_Out p e below (fun o U' => ∃ v L, o = .returned v ∧ Q7r0012 Z o0 o1 cc kcc d0 kd0 d1 kd1 d2 kd2 oc kc c0 c1 c2 c3 h0 n0 v U'.heap L ∧ FrameEnd s o U' L ({ frames := 0, cells := 0, slots := 0, locals := 0 } : Room).cells ({ frames := 0, cells := 0, slots := 0, locals := 0 } : Room).slots) (s₁.setTop (entryFrame m #[(.ref o0), (.ref o1)] 10))
  refine own_of (fun t k => castTop (ef_7r0012 m o0 o1) k) ?_
  show own_Out p e below _ (s₁.setTop (mkF m 0 #[rv o0, rv o1, .unset, .unset, .unset, .unset, .unset, .unset, .unset, .unset] []))
  refine o_aloadN X0 hx hby d7_0 rfl rfl (q := 1) rfl ?_
  refine o_getF X0 hx hZ hown hby (w_ hw 37 rfl) Via.refl e0 Fs d7_1 (q := 4) rfl fun T1 X1 e1 => ?_
  refine o_astoreN X1 hx hby d7_4 rfl (l' := #[rv o0, rv o1, rv cc, .unset, .unset, .unset, .unset, .unset, .unset, .unset]) rfl (q := 5) rfl ?_
  refine o_aloadN X1 hx hby d7_5 rfl rfl (q := 6) rfl ?_
  refine o_lenV X1 hx hby hZ e1 Vcc d7_6 (q := 7) rfl ?_
  refine o_istoreN X1 hx hby d7_7 (l' := #[rv o0, rv o1, rv cc, iv 3, .unset, .unset, .unset, .unset, .unset, .unset]) rfl (q := 8) rfl ?_
  refine o_iconst X1 hx hby d7_8 (z := 0) rfl (q := 9) rfl ?_
  refine o_istore X1 hx hby d7_9 (l' := #[rv o0, rv o1, rv cc, iv 3, iv 0, .unset, .unset, .unset, .unset, .unset]) rfl (q := 11) rfl ?_
  refine o_iload X1 hx hby d7_11 rfl (q := 13) rfl ?_
  refine o_iloadN X1 hx hby d7_13 rfl (q := 14) rfl ?_
  refine o_icN X1 hx hby d7_14 (tlt (by decide : (0 : Int32) < (3 : Int32))).2.1 (q := 17) rfl ?_
  refine o_aloadN X1 hx hby d7_17 rfl rfl (q := 18) rfl ?_
  refine o_iload X1 hx hby d7_18 rfl (q := 20) rfl ?_
  refine o_aaV X1 hx hby hZ e1 Vcc rfl ⟨by decide, by decide⟩ (v := .ref d0) rfl d7_20 (q := 21) rfl ?_
  refine o_astore X1 hx hby d7_21 rfl (l' := #[rv o0, rv o1, rv cc, iv 3, iv 0, rv d0, .unset, .unset, .unset, .unset]) rfl (q := 23) rfl ?_
  refine o_aload X1 hx hby d7_23 rfl rfl (q := 25) rfl ?_
  refine o_astore X1 hx hby d7_25 rfl (l' := #[rv o0, rv o1, rv cc, iv 3, iv 0, rv d0, rv d0, .unset, .unset, .unset]) rfl (q := 27) rfl ?_
  refine o_aload X1 hx hby d7_27 rfl rfl (q := 29) rfl ?_
  refine o_lenV X1 hx hby hZ e1 Vd0 d7_29 (q := 30) rfl ?_
  refine o_istore X1 hx hby d7_30 (l' := #[rv o0, rv o1, rv cc, iv 3, iv 0, rv d0, rv d0, iv 2, .unset, .unset]) rfl (q := 32) rfl ?_
  refine o_iconst X1 hx hby d7_32 (z := 0) rfl (q := 33) rfl ?_
  refine o_istore X1 hx hby d7_33 (l' := #[rv o0, rv o1, rv cc, iv 3, iv 0, rv d0, rv d0, iv 2, iv 0, .unset]) rfl (q := 35) rfl ?_
  refine o_iload X1 hx hby d7_35 rfl (q := 37) rfl ?_
  refine o_iload X1 hx hby d7_37 rfl (q := 39) rfl ?_
  refine o_icN X1 hx hby d7_39 (tlt (by decide : (0 : Int32) < (2 : Int32))).2.1 (q := 42) rfl ?_
  refine o_aload X1 hx hby d7_42 rfl rfl (q := 44) rfl ?_
  refine o_iload X1 hx hby d7_44 rfl (q := 46) rfl ?_
  refine o_iaV X1 hx hby hZ e1 Vd0 ⟨by decide, by decide⟩ (v := .int 0) rfl d7_46 (q := 47) rfl ?_
  refine o_istore X1 hx hby d7_47 (l' := #[rv o0, rv o1, rv cc, iv 3, iv 0, rv d0, rv d0, iv 2, iv 0, iv 0]) rfl (q := 49) rfl ?_
  refine o_aloadN X1 hx hby d7_49 rfl rfl (q := 50) rfl ?_
  refine o_getF X1 hx hZ hown hby (w_ hw 31 rfl) Via.refl e1 Fc d7_50 (q := 53) rfl fun T2 X2 e2 => ?_
  refine o_iload X2 hx hby d7_53 rfl (q := 55) rfl ?_
  refine o_iaV X2 hx hby hZ e2 Vc ⟨by decide, by decide⟩ (v := .int c0) rfl d7_55 (q := 56) rfl ?_
  refine o_aloadN X2 hx hby d7_56 rfl rfl (q := 57) rfl ?_
  refine o_getF X2 hx hZ hown hby (w_ hw 31 rfl) Via.refl e2 Fc d7_57 (q := 60) rfl fun T3 X3 e3 => ?_
  refine o_aload X3 hx hby d7_60 rfl rfl (q := 62) rfl ?_
  refine o_iconst X3 hx hby d7_62 (z := 0) rfl (q := 63) rfl ?_
  refine o_iaV X3 hx hby hZ e3 Vd0 ⟨by decide, by decide⟩ (v := .int 0) rfl d7_63 (q := 64) rfl ?_
  refine o_iaV X3 hx hby hZ e3 Vc ⟨by decide, by decide⟩ (v := .int c0) rfl d7_64 (q := 65) rfl ?_
  refine o_icY X3 hx hby d7_65 (teq (rfl : c0 = c0)).1 (by decide) (q := 70) (by decide) ?_
  refine o_iinc X3 hx hby d7_70 rfl (l' := #[rv o0, rv o1, rv cc, iv 3, iv 0, rv d0, rv d0, iv 2, iv 1, iv 0]) rfl (q := 73) rfl ?_
  refine o_goto X3 hx hby d7_73 (by decide) (q := 35) (by decide) ?_
  refine o_iload X3 hx hby d7_35 rfl (q := 37) rfl ?_
  refine o_iload X3 hx hby d7_37 rfl (q := 39) rfl ?_
  refine o_icN X3 hx hby d7_39 (tlt (by decide : (1 : Int32) < (2 : Int32))).2.1 (q := 42) rfl ?_
  refine o_aload X3 hx hby d7_42 rfl rfl (q := 44) rfl ?_
  refine o_iload X3 hx hby d7_44 rfl (q := 46) rfl ?_
  refine o_iaV X3 hx hby hZ e3 Vd0 ⟨by decide, by decide⟩ (v := .int 1) rfl d7_46 (q := 47) rfl ?_
  refine o_istore X3 hx hby d7_47 (l' := #[rv o0, rv o1, rv cc, iv 3, iv 0, rv d0, rv d0, iv 2, iv 1, iv 1]) rfl (q := 49) rfl ?_
  refine o_aloadN X3 hx hby d7_49 rfl rfl (q := 50) rfl ?_
  refine o_getF X3 hx hZ hown hby (w_ hw 31 rfl) Via.refl e3 Fc d7_50 (q := 53) rfl fun T4 X4 e4 => ?_
  refine o_iload X4 hx hby d7_53 rfl (q := 55) rfl ?_
  refine o_iaV X4 hx hby hZ e4 Vc ⟨by decide, by decide⟩ (v := .int c1) rfl d7_55 (q := 56) rfl ?_
  refine o_aloadN X4 hx hby d7_56 rfl rfl (q := 57) rfl ?_
  refine o_getF X4 hx hZ hown hby (w_ hw 31 rfl) Via.refl e4 Fc d7_57 (q := 60) rfl fun T5 X5 e5 => ?_
  refine o_aload X5 hx hby d7_60 rfl rfl (q := 62) rfl ?_
  refine o_iconst X5 hx hby d7_62 (z := 0) rfl (q := 63) rfl ?_
  refine o_iaV X5 hx hby hZ e5 Vd0 ⟨by decide, by decide⟩ (v := .int 0) rfl d7_63 (q := 64) rfl ?_
  refine o_iaV X5 hx hby hZ e5 Vc ⟨by decide, by decide⟩ (v := .int c0) rfl d7_64 (q := 65) rfl ?_
  by_cases hc65_6 : c1 = c0
  · skip
    refine o_icY X5 hx hby d7_65 (teq hc65_6).1 (by decide) (q := 70) (by decide) ?_
    refine o_iinc X5 hx hby d7_70 rfl (l' := #[rv o0, rv o1, rv cc, iv 3, iv 0, rv d0, rv d0, iv 2, iv 2, iv 1]) rfl (q := 73) rfl ?_
    refine o_goto X5 hx hby d7_73 (by decide) (q := 35) (by decide) ?_
    refine o_iload X5 hx hby d7_35 rfl (q := 37) rfl ?_
    refine o_iload X5 hx hby d7_37 rfl (q := 39) rfl ?_
    refine o_icY X5 hx hby d7_39 (flt (by decide : ¬ ((2 : Int32) < (2 : Int32)))).2.1 (by decide) (q := 76) (by decide) ?_
    refine o_iinc X5 hx hby d7_76 rfl (l' := #[rv o0, rv o1, rv cc, iv 3, iv 1, rv d0, rv d0, iv 2, iv 2, iv 1]) rfl (q := 79) rfl ?_
    refine o_goto X5 hx hby d7_79 (by decide) (q := 11) (by decide) ?_
    refine o_iload X5 hx hby d7_11 rfl (q := 13) rfl ?_
    refine o_iloadN X5 hx hby d7_13 rfl (q := 14) rfl ?_
    refine o_icN X5 hx hby d7_14 (tlt (by decide : (1 : Int32) < (3 : Int32))).2.1 (q := 17) rfl ?_
    refine o_aloadN X5 hx hby d7_17 rfl rfl (q := 18) rfl ?_
    refine o_iload X5 hx hby d7_18 rfl (q := 20) rfl ?_
    refine o_aaV X5 hx hby hZ e5 Vcc rfl ⟨by decide, by decide⟩ (v := .ref d1) rfl d7_20 (q := 21) rfl ?_
    refine o_astore X5 hx hby d7_21 rfl (l' := #[rv o0, rv o1, rv cc, iv 3, iv 1, rv d1, rv d0, iv 2, iv 2, iv 1]) rfl (q := 23) rfl ?_
    refine o_aload X5 hx hby d7_23 rfl rfl (q := 25) rfl ?_
    refine o_astore X5 hx hby d7_25 rfl (l' := #[rv o0, rv o1, rv cc, iv 3, iv 1, rv d1, rv d1, iv 2, iv 2, iv 1]) rfl (q := 27) rfl ?_
    refine o_aload X5 hx hby d7_27 rfl rfl (q := 29) rfl ?_
    refine o_lenV X5 hx hby hZ e5 Vd1 d7_29 (q := 30) rfl ?_
    refine o_istore X5 hx hby d7_30 (l' := #[rv o0, rv o1, rv cc, iv 3, iv 1, rv d1, rv d1, iv 1, iv 2, iv 1]) rfl (q := 32) rfl ?_
    refine o_iconst X5 hx hby d7_32 (z := 0) rfl (q := 33) rfl ?_
    refine o_istore X5 hx hby d7_33 (l' := #[rv o0, rv o1, rv cc, iv 3, iv 1, rv d1, rv d1, iv 1, iv 0, iv 1]) rfl (q := 35) rfl ?_
    refine o_iload X5 hx hby d7_35 rfl (q := 37) rfl ?_
    refine o_iload X5 hx hby d7_37 rfl (q := 39) rfl ?_
    refine o_icN X5 hx hby d7_39 (tlt (by decide : (0 : Int32) < (1 : Int32))).2.1 (q := 42) rfl ?_
    refine o_aload X5 hx hby d7_42 rfl rfl (q := 44) rfl ?_
    refine o_iload X5 hx hby d7_44 rfl (q := 46) rfl ?_
    refine o_iaV X5 hx hby hZ e5 Vd1 ⟨by decide, by decide⟩ (v := .int 2) rfl d7_46 (q := 47) rfl ?_
    refine o_istore X5 hx hby d7_47 (l' := #[rv o0, rv o1, rv cc, iv 3, iv 1, rv d1, rv d1, iv 1, iv 0, iv 2]) rfl (q := 49) rfl ?_
    refine o_aloadN X5 hx hby d7_49 rfl rfl (q := 50) rfl ?_
    refine o_getF X5 hx hZ hown hby (w_ hw 31 rfl) Via.refl e5 Fc d7_50 (q := 53) rfl fun T7 X7 e7 => ?_
    refine o_iload X7 hx hby d7_53 rfl (q := 55) rfl ?_
    refine o_iaV X7 hx hby hZ e7 Vc ⟨by decide, by decide⟩ (v := .int c2) rfl d7_55 (q := 56) rfl ?_
    refine o_aloadN X7 hx hby d7_56 rfl rfl (q := 57) rfl ?_
    refine o_getF X7 hx hZ hown hby (w_ hw 31 rfl) Via.refl e7 Fc d7_57 (q := 60) rfl fun T8 X8 e8 => ?_
    refine o_aload X8 hx hby d7_60 rfl rfl (q := 62) rfl ?_
    refine o_iconst X8 hx hby d7_62 (z := 0) rfl (q := 63) rfl ?_
    refine o_iaV X8 hx hby hZ e8 Vd1 ⟨by decide, by decide⟩ (v := .int 2) rfl d7_63 (q := 64) rfl ?_
    refine o_iaV X8 hx hby hZ e8 Vc ⟨by decide, by decide⟩ (v := .int c2) rfl d7_64 (q := 65) rfl ?_
    refine o_icY X8 hx hby d7_65 (teq (rfl : c2 = c2)).1 (by decide) (q := 70) (by decide) ?_
    refine o_iinc X8 hx hby d7_70 rfl (l' := #[rv o0, rv o1, rv cc, iv 3, iv 1, rv d1, rv d1, iv 1, iv 1, iv 2]) rfl (q := 73) rfl ?_
    refine o_goto X8 hx hby d7_73 (by decide) (q := 35) (by decide) ?_
    refine o_iload X8 hx hby d7_35 rfl (q := 37) rfl ?_
    refine o_iload X8 hx hby d7_37 rfl (q := 39) rfl ?_
    refine o_icY X8 hx hby d7_39 (flt (by decide : ¬ ((1 : Int32) < (1 : Int32)))).2.1 (by decide) (q := 76) (by decide) ?_
    refine o_iinc X8 hx hby d7_76 rfl (l' := #[rv o0, rv o1, rv cc, iv 3, iv 2, rv d1, rv d1, iv 1, iv 1, iv 2]) rfl (q := 79) rfl ?_
    refine o_goto X8 hx hby d7_79 (by decide) (q := 11) (by decide) ?_
    refine o_iload X8 hx hby d7_11 rfl (q := 13) rfl ?_
    refine o_iloadN X8 hx hby d7_13 rfl (q := 14) rfl ?_
    refine o_icN X8 hx hby d7_14 (tlt (by decide : (2 : Int32) < (3 : Int32))).2.1 (q := 17) rfl ?_
    refine o_aloadN X8 hx hby d7_17 rfl rfl (q := 18) rfl ?_
    refine o_iload X8 hx hby d7_18 rfl (q := 20) rfl ?_
    refine o_aaV X8 hx hby hZ e8 Vcc rfl ⟨by decide, by decide⟩ (v := .ref d2) rfl d7_20 (q := 21) rfl ?_
    refine o_astore X8 hx hby d7_21 rfl (l' := #[rv o0, rv o1, rv cc, iv 3, iv 2, rv d2, rv d1, iv 1, iv 1, iv 2]) rfl (q := 23) rfl ?_
    refine o_aload X8 hx hby d7_23 rfl rfl (q := 25) rfl ?_
    refine o_astore X8 hx hby d7_25 rfl (l' := #[rv o0, rv o1, rv cc, iv 3, iv 2, rv d2, rv d2, iv 1, iv 1, iv 2]) rfl (q := 27) rfl ?_
    refine o_aload X8 hx hby d7_27 rfl rfl (q := 29) rfl ?_
    refine o_lenV X8 hx hby hZ e8 Vd2 d7_29 (q := 30) rfl ?_
    refine o_istore X8 hx hby d7_30 (l' := #[rv o0, rv o1, rv cc, iv 3, iv 2, rv d2, rv d2, iv 1, iv 1, iv 2]) rfl (q := 32) rfl ?_
    refine o_iconst X8 hx hby d7_32 (z := 0) rfl (q := 33) rfl ?_
    refine o_istore X8 hx hby d7_33 (l' := #[rv o0, rv o1, rv cc, iv 3, iv 2, rv d2, rv d2, iv 1, iv 0, iv 2]) rfl (q := 35) rfl ?_
    refine o_iload X8 hx hby d7_35 rfl (q := 37) rfl ?_
    refine o_iload X8 hx hby d7_37 rfl (q := 39) rfl ?_
    refine o_icN X8 hx hby d7_39 (tlt (by decide : (0 : Int32) < (1 : Int32))).2.1 (q := 42) rfl ?_
    refine o_aload X8 hx hby d7_42 rfl rfl (q := 44) rfl ?_
    refine o_iload X8 hx hby d7_44 rfl (q := 46) rfl ?_
    refine o_iaV X8 hx hby hZ e8 Vd2 ⟨by decide, by decide⟩ (v := .int 3) rfl d7_46 (q := 47) rfl ?_
    refine o_istore X8 hx hby d7_47 (l' := #[rv o0, rv o1, rv cc, iv 3, iv 2, rv d2, rv d2, iv 1, iv 0, iv 3]) rfl (q := 49) rfl ?_
    refine o_aloadN X8 hx hby d7_49 rfl rfl (q := 50) rfl ?_
    refine o_getF X8 hx hZ hown hby (w_ hw 31 rfl) Via.refl e8 Fc d7_50 (q := 53) rfl fun T9 X9 e9 => ?_
    refine o_iload X9 hx hby d7_53 rfl (q := 55) rfl ?_
    refine o_iaV X9 hx hby hZ e9 Vc ⟨by decide, by decide⟩ (v := .int c3) rfl d7_55 (q := 56) rfl ?_
    refine o_aloadN X9 hx hby d7_56 rfl rfl (q := 57) rfl ?_
    refine o_getF X9 hx hZ hown hby (w_ hw 31 rfl) Via.refl e9 Fc d7_57 (q := 60) rfl fun T10 X10 e10 => ?_
    refine o_aload X10 hx hby d7_60 rfl rfl (q := 62) rfl ?_
    refine o_iconst X10 hx hby d7_62 (z := 0) rfl (q := 63) rfl ?_
    refine o_iaV X10 hx hby hZ e10 Vd2 ⟨by decide, by decide⟩ (v := .int 3) rfl d7_63 (q := 64) rfl ?_
    refine o_iaV X10 hx hby hZ e10 Vc ⟨by decide, by decide⟩ (v := .int c3) rfl d7_64 (q := 65) rfl ?_
    refine o_icY X10 hx hby d7_65 (teq (rfl : c3 = c3)).1 (by decide) (q := 70) (by decide) ?_
    refine o_iinc X10 hx hby d7_70 rfl (l' := #[rv o0, rv o1, rv cc, iv 3, iv 2, rv d2, rv d2, iv 1, iv 1, iv 3]) rfl (q := 73) rfl ?_
    refine o_goto X10 hx hby d7_73 (by decide) (q := 35) (by decide) ?_
    refine o_iload X10 hx hby d7_35 rfl (q := 37) rfl ?_
    refine o_iload X10 hx hby d7_37 rfl (q := 39) rfl ?_
    refine o_icY X10 hx hby d7_39 (flt (by decide : ¬ ((1 : Int32) < (1 : Int32)))).2.1 (by decide) (q := 76) (by decide) ?_
    refine o_iinc X10 hx hby d7_76 rfl (l' := #[rv o0, rv o1, rv cc, iv 3, iv 3, rv d2, rv d2, iv 1, iv 1, iv 3]) rfl (q := 79) rfl ?_
    refine o_goto X10 hx hby d7_79 (by decide) (q := 11) (by decide) ?_
    refine o_iload X10 hx hby d7_11 rfl (q := 13) rfl ?_
    refine o_iloadN X10 hx hby d7_13 rfl (q := 14) rfl ?_
    refine o_icY X10 hx hby d7_14 (flt (by decide : ¬ ((3 : Int32) < (3 : Int32)))).2.1 (by decide) (q := 82) (by decide) ?_
    refine o_iconst X10 hx hby d7_82 (z := 1) rfl (q := 83) rfl ?_
    exact own_outN X10 hx hlk (t := .boolean) hret (by simp) (hb hby d7_83) (z' := (1 : Int32)) rfl (Q := Q7r0012 Z o0 o1 cc kcc d0 kd0 d1 kd1 d2 kd2 oc kc c0 c1 c2 c3 h0 n0) ⟨by simp only [fr0012, if_pos hc65_6], N0, e10⟩ (by decide) (by decide)
  · skip
    refine o_icN X5 hx hby d7_65 (feq hc65_6).1 (q := 68) rfl ?_
    refine o_iconst X5 hx hby d7_68 (z := 0) rfl (q := 69) rfl ?_
    exact own_outN X5 hx hlk (t := .boolean) hret (by simp) (hb hby d7_69) (z' := (0 : Int32)) rfl (Q := Q7r0012 Z o0 o1 cc kcc d0 kd0 d1 kd1 d2 kd2 oc kc c0 c1 c2 c3 h0 n0) ⟨by simp only [fr0012, if_neg hc65_6], N0, e5⟩ (by decide) (by decide)
theorem ef_4c0012n3 (m : MethodId) (x0 : Addr) (x1 : Addr) (x2 : Addr) : entryFrame m #[(.ref x0), (.ref x1), (.ref x2), (.int (3 : Int32))] 9 = mkF m 0 #[.val (.ref x0), .val (.ref x1), .val (.ref x2), .val (.int (3 : Int32)), .unset, .unset, .unset, .unset, .unset] [] := by first | (simp [entryFrame, mkF, argsToLocals, Value.category]; done) | rfl
def Q4c0012n3 (Z : State) (o0 : Addr) (o1 : Addr) (o2 : Addr) (k2 : ClassId) (h0 : Heap) (n0 : Nat) (v : Option Value) (h : Heap) (L : List Loc) : Prop := v = none ∧ Fr n0 L ∧ Keep h0 h [o0] ∧ Exa Z h o0 "com/example/slimc/slimc/game/Observation" ∧ Fld Z h o0 "com/example/slimc/slimc/game/Observation" "classOf" "[I" (.ref o2) ∧ Fld Z h o0 "com/example/slimc/slimc/game/Observation" "classCount" "I" (.int (3 : Int32)) ∧ RefOk Z h o0 fr0012
set_option maxRecDepth 65536 in
set_option maxHeartbeats 40000000 in
theorem rm4c0012n3 (l : Launch) (Z : State) (a0 : Array Value) (hw : ∀ d ∈ tables_1, d.before a0 Z = true) (ws : List Jvm.Cond) (o0 : Addr) (o1 : Addr) (o2 : Addr) (k2 : ClassId) (h0 : Heap) (n0 : Nat) (Z0 : n0 ≤ h0.size) (E : Exa Z h0 o0 "com/example/slimc/slimc/game/Observation") (F_name : Fld Z h0 o0 "com/example/slimc/slimc/game/Observation" "name" "Ljava/lang/String;" .null) (F_classOf : Fld Z h0 o0 "com/example/slimc/slimc/game/Observation" "classOf" "[I" .null) (F_classCount : Fld Z h0 o0 "com/example/slimc/slimc/game/Observation" "classCount" "I" (.int (0 : Int32))) (F_classes : Fld Z h0 o0 "com/example/slimc/slimc/game/Observation" "classes" "[[I" .null) (g_o0 : n0 ≤ o0) (V : Arv Z h0 o2 k2 .int (4 : Int32) [(.int (0 : Int32)), (.int (0 : Int32)), (.int (1 : Int32)), (.int (2 : Int32))] (.int (0 : Int32))) (n2 : o2 ≠ o0) :
    MetFree l (⟨"com/example/slimc/slimc/game/Observation", "<init>", "(Ljava/lang/String;[II)V"⟩ : MethodName) (head1 (Jvm.Cond.code (⟨"com/example/slimc/slimc/game/Observation", "<init>", "(Ljava/lang/String;[II)V"⟩ : MethodName) prog_66_method_1_code 9 none :: ws) ({ frames := 1, cells := 7, slots := 16, locals := 14 } : Room)) (fun a U => a = #[(.ref o0), (.ref o1), (.ref o2), (.int (3 : Int32))] ∧ Z.Warmed39 U.vm ∧ U.heap = h0) (fun _ _ _ _ _ => True) (fun _ U o U' => ∃ v L, o = .returned v ∧ Q4c0012n3 Z o0 o1 o2 k2 h0 n0 v U'.heap L ∧ FrameEnd U o U' L ({ frames := 1, cells := 7, slots := 16, locals := 14 } : Room).cells ({ frames := 1, cells := 7, slots := 16, locals := 14 } : Room).slots) := by
  refine MetFree.of_bodySF (plainFor_of_name pn_1) hisR ?_
  intro p e s m args below meth c s₁ Bd hml0 hP hK
  obtain ⟨rfl, hZ, hh⟩ := hP
  have hx := Bd.exec
  have hby := Bd.bytes
  have hml : c.maxLocals = 9 := hml0
  have hown : s.vm.findClass "com/example/slimc/slimc/game/Observation" = some m.cls := findClass_of_methodNamed Bd.named
  have hnm := (name_of_methodNamed Bd.named Bd.method).1
  have X0 : Stand p l e ({ frames := 1, cells := 7, slots := 16, locals := 14 } : Room) s m #[(.ref o0), (.ref o1), (.ref o2), (.int (3 : Int32))] below meth c s₁ [] 0 0 := Stand.of_body Bd
  have e0 : s₁.heap = h0 := by rw [← hh, Bd.state]; rfl
  have N0 := Fr.nil n0
  have hret := Bd.returns
  have hlk := BodyLoose.notSynchronized Bd
  show own_Out p e below (fun o U' => ∃ v L, o = .returned v ∧ Q4c0012n3 Z o0 o1 o2 k2 h0 n0 v U'.heap L ∧ FrameEnd s o U' L ({ frames := 1, cells := 7, slots := 16, locals := 14 } : Room).cells ({ frames := 1, cells := 7, slots := 16, locals := 14 } : Room).slots) (s₁.setTop (entryFrame m #[(.ref o0), (.ref o1), (.ref o2), (.int (3 : Int32))] 9))
  refine own_of (fun t k => castTop (ef_4c0012n3 m o0 o1 o2) k) ?_
  show own_Out p e below _ (s₁.setTop (mkF m 0 #[rv o0, rv o1, rv o2, iv 3, .unset, .unset, .unset, .unset, .unset] []))
  refine o_aloadN X0 hx hby d4_0 rfl rfl (q := 1) rfl ?_
  obtain ⟨T1, X1, e1, st1⟩ := initO X0 hx hZ hown (w_ hw 26 rfl) (w_ hw 27 rfl) (w_ hw 28 rfl) e0 (g := (mkF m 1 #[rv o0, rv o1, rv o2, iv 3, .unset, .unset, .unset, .unset, .unset] [.ref o0])) rfl (by rw [hml]; rfl) rfl (hb hby d4_1) (by decide) (W := 0) (by show 2 * 0 + _ ≤ _; exact Nat.le_of_eq rfl) (by decide)
  refine own_of st1 ?_
  show own_Out p e below _ (T1.setTop (mkF m 4 #[rv o0, rv o1, rv o2, iv 3, .unset, .unset, .unset, .unset, .unset] []))
  refine o_aloadN X1 hx hby d4_4 rfl rfl (q := 5) rfl ?_
  refine o_aloadN X1 hx hby d4_5 rfl rfl (q := 6) rfl ?_
  obtain ⟨T2, h2, X2, e2, W2, st2⟩ := putF X1 hx hZ hown (host := "") (Or.inl (w_ hw 29 rfl)) Via.refl e1 F_name E (Or.inr ⟨(w_ hw 30 rfl), rfl, hnm⟩) (w_ hw 10 rfl) (ty := (.object "java/lang/String")) (by decide) rfl rfl (g := (mkF m 6 #[rv o0, rv o1, rv o2, iv 3, .unset, .unset, .unset, .unset, .unset] [.ref o1, .ref o0])) rfl rfl (hb hby d4_6)
  have Fw2 := F_name.same W2
  refine own_of st2 ?_
  show own_Out p e below _ (T2.setTop (mkF m 9 #[rv o0, rv o1, rv o2, iv 3, .unset, .unset, .unset, .unset, .unset] []))
  refine o_aloadN X2 hx hby d4_9 rfl rfl (q := 10) rfl ?_
  refine o_aloadN X2 hx hby d4_10 rfl rfl (q := 11) rfl ?_
  have q4 := (F_classOf.other W2 (Or.inr (slot_ne (Or.inr (w_ hw 32 rfl)) (Or.inr (w_ hw 30 rfl)) (by decide) (t := (.array .int)) (t' := (.object "java/lang/String")) (by decide) (by decide))))
  have q5 := (E.wr W2)
  obtain ⟨T3, h3, X3, e3, W3, st3⟩ := putF X2 hx hZ hown (host := "") (Or.inl (w_ hw 31 rfl)) Via.refl e2 q4 q5 (Or.inr ⟨(w_ hw 32 rfl), rfl, hnm⟩) (w_ hw 10 rfl) (ty := (.array .int)) (by decide) rfl rfl (g := (mkF m 11 #[rv o0, rv o1, rv o2, iv 3, .unset, .unset, .unset, .unset, .unset] [.ref o2, .ref o0])) rfl rfl (hb hby d4_11)
  have q6 := (F_classOf.other W2 (Or.inr (slot_ne (Or.inr (w_ hw 32 rfl)) (Or.inr (w_ hw 30 rfl)) (by decide) (t := (.array .int)) (t' := (.object "java/lang/String")) (by decide) (by decide))))
  have Fw3 := q6.same W3
  refine own_of st3 ?_
  show own_Out p e below _ (T3.setTop (mkF m 14 #[rv o0, rv o1, rv o2, iv 3, .unset, .unset, .unset, .unset, .unset] []))
  refine o_aloadN X3 hx hby d4_14 rfl rfl (q := 15) rfl ?_
  refine o_iloadN X3 hx hby d4_15 rfl (q := 16) rfl ?_
  have q8 := ((F_classCount.other W2 (Or.inr (slot_ne (Or.inr (w_ hw 34 rfl)) (Or.inr (w_ hw 30 rfl)) (by decide) (t := .int) (t' := (.object "java/lang/String")) (by decide) (by decide)))).other W3 (Or.inr (slot_ne (Or.inr (w_ hw 34 rfl)) (Or.inr (w_ hw 32 rfl)) (by decide) (t := .int) (t' := (.array .int)) (by decide) (by decide))))
  have q9 := (q5.wr W3)
  obtain ⟨T7, h7, X7, e7, W7, st7⟩ := putF X3 hx hZ hown (host := "") (Or.inl (w_ hw 33 rfl)) Via.refl e3 q8 q9 (Or.inr ⟨(w_ hw 34 rfl), rfl, hnm⟩) (w_ hw 10 rfl) (ty := .int) (by decide) rfl rfl (g := (mkF m 16 #[rv o0, rv o1, rv o2, iv 3, .unset, .unset, .unset, .unset, .unset] [.int 3, .ref o0])) rfl rfl (hb hby d4_16)
  have q10 := ((F_classCount.other W2 (Or.inr (slot_ne (Or.inr (w_ hw 34 rfl)) (Or.inr (w_ hw 30 rfl)) (by decide) (t := .int) (t' := (.object "java/lang/String")) (by decide) (by decide)))).other W3 (Or.inr (slot_ne (Or.inr (w_ hw 34 rfl)) (Or.inr (w_ hw 32 rfl)) (by decide) (t := .int) (t' := (.array .int)) (by decide) (by decide))))
  have Fw7 := q10.same W7
  refine own_of st7 ?_
  show own_Out p e below _ (T7.setTop (mkF m 19 #[rv o0, rv o1, rv o2, iv 3, .unset, .unset, .unset, .unset, .unset] []))
  refine o_iloadN X7 hx hby d4_19 rfl (q := 20) rfl ?_
  obtain ⟨T11, h11, k11, X11, e11, E11, A11, Ex11, st11⟩ := newPE X7 hx hZ (w_ hw 4 rfl) e7 (g := (mkF m 20 #[rv o0, rv o1, rv o2, iv 3, .unset, .unset, .unset, .unset, .unset] [.int 3])) rfl (hb hby d4_20) rfl (by decide) (cap := 3) (by decide) (by decide) (by decide) (by decide) (ad := "[I") (by decide +kernel)
  obtain ⟨b11, g11⟩ : ∃ z, z = h7.size := ⟨_, rfl⟩
  rw [← g11] at A11 Ex11 st11
  have q12 := (Nat.le_trans (Nat.le_trans (Nat.le_trans Z0 (Keep.of_wr W2).1) (Keep.of_wr W3).1) (Keep.of_wr W7).1)
  have g_b11 : n0 ≤ b11 := Nat.le_trans q12 (Nat.le_of_eq g11.symm)
  have q13 := (Nat.le_trans (Nat.le_trans (Nat.le_trans (Nat.le_refl h0.size) (Keep.of_wr W2).1) (Keep.of_wr W3).1) (Keep.of_wr W7).1)
  have sz_b11 : h0.size ≤ b11 := Nat.le_trans q13 (Nat.le_of_eq g11.symm)
  have V_b11 : Arv Z h11 b11 k11 .int (3 : Int32) [(.int (0 : Int32)), (.int (0 : Int32)), (.int (0 : Int32))] (.int (0 : Int32)) := (Arv.new A11 (by decide)).pad (pad_rep [] (.int (0 : Int32)) 3)
  refine own_of st11 ?_
  show own_Out p e below _ (T11.setTop (mkF m 22 #[rv o0, rv o1, rv o2, iv 3, .unset, .unset, .unset, .unset, .unset] [.ref b11]))
  refine o_astore X11 hx hby d4_22 rfl (l' := #[rv o0, rv o1, rv o2, iv 3, rv b11, .unset, .unset, .unset, .unset]) rfl (q := 24) rfl ?_
  refine o_aloadN X11 hx hby d4_24 rfl rfl (q := 25) rfl ?_
  refine o_astore X11 hx hby d4_25 rfl (l' := #[rv o0, rv o1, rv o2, iv 3, rv b11, rv o2, .unset, .unset, .unset]) rfl (q := 27) rfl ?_
  refine o_aload X11 hx hby d4_27 rfl rfl (q := 29) rfl ?_
  have q14 := ((((V.other W2 n2).other W3 n2).other W7 n2).ext E11)
  refine o_lenV X11 hx hby hZ e11 q14 d4_29 (q := 30) rfl ?_
  refine o_istore X11 hx hby d4_30 (l' := #[rv o0, rv o1, rv o2, iv 3, rv b11, rv o2, iv 4, .unset, .unset]) rfl (q := 32) rfl ?_
  refine o_iconst X11 hx hby d4_32 (z := 0) rfl (q := 33) rfl ?_
  refine o_istore X11 hx hby d4_33 (l' := #[rv o0, rv o1, rv o2, iv 3, rv b11, rv o2, iv 4, iv 0, .unset]) rfl (q := 35) rfl ?_
  refine t1 X11 hx hby hZ e11 q14 V_b11 rfl ⟨by decide, by decide⟩ (cc := 0) rfl ⟨by decide, by decide⟩ (y := 0) rfl (y' := 1) rfl (i' := 1) rfl (iN := 0) rfl (Nat.le_of_ble_eq_true rfl) fun T15 h15 X15 e15 W15 V15 => ?_
  have ne_o2_b11 : o2 ≠ b11 := Nat.ne_of_lt (Nat.lt_of_lt_of_le V.lt sz_b11)
  have q16 := (q14.other W15 ne_o2_b11)
  refine t1 X15 hx hby hZ e15 q16 V15 rfl ⟨by decide, by decide⟩ (cc := 0) rfl ⟨by decide, by decide⟩ (y := 1) rfl (y' := 2) rfl (i' := 2) rfl (iN := 0) rfl (Nat.le_of_ble_eq_true rfl) fun T17 h17 X17 e17 W17 V17 => ?_
  have q18 := (q16.other W17 ne_o2_b11)
  refine t1 X17 hx hby hZ e17 q18 V17 rfl ⟨by decide, by decide⟩ (cc := 1) rfl ⟨by decide, by decide⟩ (y := 0) rfl (y' := 1) rfl (i' := 3) rfl (iN := 1) rfl (Nat.le_of_ble_eq_true rfl) fun T19 h19 X19 e19 W19 V19 => ?_
  have q20 := (q18.other W19 ne_o2_b11)
  refine t1 X19 hx hby hZ e19 q20 V19 rfl ⟨by decide, by decide⟩ (cc := 2) rfl ⟨by decide, by decide⟩ (y := 0) rfl (y' := 1) rfl (i' := 4) rfl (iN := 2) rfl (Nat.le_of_ble_eq_true rfl) fun T21 h21 X21 e21 W21 V21 => ?_
  refine o_iload X21 hx hby d4_35 rfl (q := 37) rfl ?_
  refine o_iload X21 hx hby d4_37 rfl (q := 39) rfl ?_
  refine o_icY X21 hx hby d4_39 (flt (by decide : ¬ ((4 : Int32) < (4 : Int32)))).2.1 (by decide) (q := 64) (by decide) ?_
  refine o_aloadN X21 hx hby d4_64 rfl rfl (q := 65) rfl ?_
  refine o_iloadN X21 hx hby d4_65 rfl (q := 66) rfl ?_
  obtain ⟨T22, h22, k22, X22, e22, E22, A22, Ex22, O22, st22⟩ := newRA X21 hx hZ hown (ty := .int) (by decide +kernel) (w_ hw 35 rfl) (w_ hw 36 rfl) e21 (g := (mkF m 66 #[rv o0, rv o1, rv o2, iv 3, rv b11, rv o2, iv 4, iv 4, iv 2] [.int 3, .ref o0])) rfl (hb hby d4_66) rfl (by decide) (cap := 3) (by decide) (by decide) (by decide) (by decide) (ad := "[[I") (by decide +kernel)
  obtain ⟨b22, g22⟩ : ∃ z, z = h21.size := ⟨_, rfl⟩
  rw [← g22] at A22 Ex22 st22
  have q23 := (Nat.le_trans (Nat.le_trans (Nat.le_trans (Nat.le_trans (Nat.le_trans q12 E11.1) (Keep.of_wr W15).1) (Keep.of_wr W17).1) (Keep.of_wr W19).1) (Keep.of_wr W21).1)
  have g_b22 : n0 ≤ b22 := Nat.le_trans q23 (Nat.le_of_eq g22.symm)
  have q24 := (Nat.le_trans (Nat.le_trans (Nat.le_trans (Nat.le_trans (Nat.le_trans q13 E11.1) (Keep.of_wr W15).1) (Keep.of_wr W17).1) (Keep.of_wr W19).1) (Keep.of_wr W21).1)
  have sz_b22 : h0.size ≤ b22 := Nat.le_trans q24 (Nat.le_of_eq g22.symm)
  have V_b22 : Arv Z h22 b22 k22 (.array .int) (3 : Int32) [.null, .null, .null] .null := (Arv.new A22 (by decide)).pad (pad_rep [] .null 3)
  refine own_of st22 ?_
  show own_Out p e below _ (T22.setTop (mkF m 69 #[rv o0, rv o1, rv o2, iv 3, rv b11, rv o2, iv 4, iv 4, iv 2] [.ref b22, .ref o0]))
  have ne_o0_b11 : o0 ≠ b11 := Nat.ne_of_lt (Nat.lt_of_lt_of_le E.lt sz_b11)
  have q26 := (((((((((F_classes.other W2 (Or.inr (slot_ne (Or.inr (w_ hw 38 rfl)) (Or.inr (w_ hw 30 rfl)) (by decide) (t := (.array (.array .int))) (t' := (.object "java/lang/String")) (by decide) (by decide)))).other W3 (Or.inr (slot_ne (Or.inr (w_ hw 38 rfl)) (Or.inr (w_ hw 32 rfl)) (by decide) (t := (.array (.array .int))) (t' := (.array .int)) (by decide) (by decide)))).other W7 (Or.inr (slot_ne (Or.inr (w_ hw 38 rfl)) (Or.inr (w_ hw 34 rfl)) (by decide) (t := (.array (.array .int))) (t' := .int) (by decide) (by decide)))).ext E11).other W15 (Or.inl ne_o0_b11)).other W17 (Or.inl ne_o0_b11)).other W19 (Or.inl ne_o0_b11)).other W21 (Or.inl ne_o0_b11)).ext E22)
  have q27 := (((((((q9.wr W7).ext E11).wr W15).wr W17).wr W19).wr W21).ext E22)
  obtain ⟨T25, h25, X25, e25, W25, st25⟩ := putF X22 hx hZ hown (host := "") (Or.inl (w_ hw 37 rfl)) Via.refl e22 q26 q27 (Or.inr ⟨(w_ hw 38 rfl), rfl, hnm⟩) (w_ hw 10 rfl) (ty := (.array (.array .int))) (by decide) rfl rfl (g := (mkF m 69 #[rv o0, rv o1, rv o2, iv 3, rv b11, rv o2, iv 4, iv 4, iv 2] [.ref b22, .ref o0])) rfl rfl (hb hby d4_69)
  have q28 := (((((((((F_classes.other W2 (Or.inr (slot_ne (Or.inr (w_ hw 38 rfl)) (Or.inr (w_ hw 30 rfl)) (by decide) (t := (.array (.array .int))) (t' := (.object "java/lang/String")) (by decide) (by decide)))).other W3 (Or.inr (slot_ne (Or.inr (w_ hw 38 rfl)) (Or.inr (w_ hw 32 rfl)) (by decide) (t := (.array (.array .int))) (t' := (.array .int)) (by decide) (by decide)))).other W7 (Or.inr (slot_ne (Or.inr (w_ hw 38 rfl)) (Or.inr (w_ hw 34 rfl)) (by decide) (t := (.array (.array .int))) (t' := .int) (by decide) (by decide)))).ext E11).other W15 (Or.inl ne_o0_b11)).other W17 (Or.inl ne_o0_b11)).other W19 (Or.inl ne_o0_b11)).other W21 (Or.inl ne_o0_b11)).ext E22)
  have Fw25 := q28.same W25
  refine own_of st25 ?_
  show own_Out p e below _ (T25.setTop (mkF m 72 #[rv o0, rv o1, rv o2, iv 3, rv b11, rv o2, iv 4, iv 4, iv 2] []))
  refine o_iconst X25 hx hby d4_72 (z := 0) rfl (q := 73) rfl ?_
  refine o_istore X25 hx hby d4_73 (l' := #[rv o0, rv o1, rv o2, iv 3, rv b11, iv 0, iv 4, iv 4, iv 2]) rfl (q := 75) rfl ?_
  refine o_iload X25 hx hby d4_75 rfl (q := 77) rfl ?_
  refine o_iloadN X25 hx hby d4_77 rfl (q := 78) rfl ?_
  refine o_icN X25 hx hby d4_78 (tlt (by decide : (0 : Int32) < (3 : Int32))).2.1 (q := 81) rfl ?_
  refine o_aloadN X25 hx hby d4_81 rfl rfl (q := 82) rfl ?_
  refine o_getF X25 hx hZ hown hby (w_ hw 37 rfl) Via.refl e25 Fw25 d4_82 (q := 85) rfl fun T29 X29 e29 => ?_
  refine o_iload X29 hx hby d4_85 rfl (q := 87) rfl ?_
  refine o_aload X29 hx hby d4_87 rfl rfl (q := 89) rfl ?_
  refine o_iload X29 hx hby d4_89 rfl (q := 91) rfl ?_
  have q30 := ((V21.ext E22).other W25 (Ne.symm ne_o0_b11))
  refine o_iaV X29 hx hby hZ e29 q30 ⟨by decide, by decide⟩ (v := .int 2) rfl d4_91 (q := 92) rfl ?_
  obtain ⟨T31, h31, k31, X31, e31, E31, A31, Ex31, st31⟩ := newPE X29 hx hZ (w_ hw 4 rfl) e29 (g := (mkF m 92 #[rv o0, rv o1, rv o2, iv 3, rv b11, iv 0, iv 4, iv 4, iv 2] [.int 2, .int 0, .ref b22])) rfl (hb hby d4_92) rfl (by decide) (cap := 2) (by decide) (by decide) (by decide) (by decide) (ad := "[I") (by decide +kernel)
  obtain ⟨b31, g31⟩ : ∃ z, z = h25.size := ⟨_, rfl⟩
  rw [← g31] at A31 Ex31 st31
  have q32 := (Nat.le_trans (Nat.le_trans q23 E22.1) (Keep.of_wr W25).1)
  have g_b31 : n0 ≤ b31 := Nat.le_trans q32 (Nat.le_of_eq g31.symm)
  have q33 := (Nat.le_trans (Nat.le_trans q24 E22.1) (Keep.of_wr W25).1)
  have sz_b31 : h0.size ≤ b31 := Nat.le_trans q33 (Nat.le_of_eq g31.symm)
  have V_b31 : Arv Z h31 b31 k31 .int (2 : Int32) [(.int (0 : Int32)), (.int (0 : Int32))] (.int (0 : Int32)) := (Arv.new A31 (by decide)).pad (pad_rep [] (.int (0 : Int32)) 2)
  refine own_of st31 ?_
  show own_Out p e below _ (T31.setTop (mkF m 94 #[rv o0, rv o1, rv o2, iv 3, rv b11, iv 0, iv 4, iv 4, iv 2] [.ref b31, .int 0, .ref b22]))
  have ne_o0_b22 : o0 ≠ b22 := Nat.ne_of_lt (Nat.lt_of_lt_of_le E.lt sz_b22)
  have q34 := ((V_b22.other W25 (Ne.symm ne_o0_b22)).ext E31)
  refine o_stVR X31 hx hby hZ e31 q34 ⟨by decide, by decide⟩ 0 rfl (Nat.le_of_ble_eq_true rfl) O22 (Ins.self Ex31) d4_94 (q := 95) rfl fun T35 h35 X35 e35 W35 V35 => ?_
  refine o_iinc X35 hx hby d4_95 rfl (l' := #[rv o0, rv o1, rv o2, iv 3, rv b11, iv 1, iv 4, iv 4, iv 2]) rfl (q := 98) rfl ?_
  refine o_goto X35 hx hby d4_98 (by decide) (q := 75) (by decide) ?_
  refine o_iload X35 hx hby d4_75 rfl (q := 77) rfl ?_
  refine o_iloadN X35 hx hby d4_77 rfl (q := 78) rfl ?_
  refine o_icN X35 hx hby d4_78 (tlt (by decide : (1 : Int32) < (3 : Int32))).2.1 (q := 81) rfl ?_
  refine o_aloadN X35 hx hby d4_81 rfl rfl (q := 82) rfl ?_
  have q37 := ((Fw25.ext E31).other W35 (Or.inl ne_o0_b22))
  refine o_getF X35 hx hZ hown hby (w_ hw 37 rfl) Via.refl e35 q37 d4_82 (q := 85) rfl fun T36 X36 e36 => ?_
  refine o_iload X36 hx hby d4_85 rfl (q := 87) rfl ?_
  refine o_aload X36 hx hby d4_87 rfl rfl (q := 89) rfl ?_
  refine o_iload X36 hx hby d4_89 rfl (q := 91) rfl ?_
  have ne_b11_b22 : b11 ≠ b22 := Nat.ne_of_lt (Nat.lt_of_lt_of_le (Nat.lt_of_lt_of_le (Nat.lt_of_lt_of_le (Nat.lt_of_lt_of_le (Nat.lt_of_lt_of_le A11.lt (Keep.of_wr W15).1) (Keep.of_wr W17).1) (Keep.of_wr W19).1) (Keep.of_wr W21).1) (Nat.le_of_eq g22.symm))
  have q38 := ((q30.ext E31).other W35 ne_b11_b22)
  refine o_iaV X36 hx hby hZ e36 q38 ⟨by decide, by decide⟩ (v := .int 1) rfl d4_91 (q := 92) rfl ?_
  obtain ⟨T39, h39, k39, X39, e39, E39, A39, Ex39, st39⟩ := newPE X36 hx hZ (w_ hw 4 rfl) e36 (g := (mkF m 92 #[rv o0, rv o1, rv o2, iv 3, rv b11, iv 1, iv 4, iv 4, iv 2] [.int 1, .int 1, .ref b22])) rfl (hb hby d4_92) rfl (by decide) (cap := 1) (by decide) (by decide) (by decide) (by decide) (ad := "[I") (by decide +kernel)
  obtain ⟨b39, g39⟩ : ∃ z, z = h35.size := ⟨_, rfl⟩
  rw [← g39] at A39 Ex39 st39
  have q40 := (Nat.le_trans (Nat.le_trans q32 E31.1) (Keep.of_wr W35).1)
  have g_b39 : n0 ≤ b39 := Nat.le_trans q40 (Nat.le_of_eq g39.symm)
  have q41 := (Nat.le_trans (Nat.le_trans q33 E31.1) (Keep.of_wr W35).1)
  have sz_b39 : h0.size ≤ b39 := Nat.le_trans q41 (Nat.le_of_eq g39.symm)
  have V_b39 : Arv Z h39 b39 k39 .int (1 : Int32) [(.int (0 : Int32))] (.int (0 : Int32)) := (Arv.new A39 (by decide)).pad (pad_rep [] (.int (0 : Int32)) 1)
  refine own_of st39 ?_
  show own_Out p e below _ (T39.setTop (mkF m 94 #[rv o0, rv o1, rv o2, iv 3, rv b11, iv 1, iv 4, iv 4, iv 2] [.ref b39, .int 1, .ref b22]))
  have q42 := (V35.ext E39)
  refine o_stVR X39 hx hby hZ e39 q42 ⟨by decide, by decide⟩ 1 rfl (Nat.le_of_ble_eq_true rfl) O22 (Ins.self Ex39) d4_94 (q := 95) rfl fun T43 h43 X43 e43 W43 V43 => ?_
  refine o_iinc X43 hx hby d4_95 rfl (l' := #[rv o0, rv o1, rv o2, iv 3, rv b11, iv 2, iv 4, iv 4, iv 2]) rfl (q := 98) rfl ?_
  refine o_goto X43 hx hby d4_98 (by decide) (q := 75) (by decide) ?_
  refine o_iload X43 hx hby d4_75 rfl (q := 77) rfl ?_
  refine o_iloadN X43 hx hby d4_77 rfl (q := 78) rfl ?_
  refine o_icN X43 hx hby d4_78 (tlt (by decide : (2 : Int32) < (3 : Int32))).2.1 (q := 81) rfl ?_
  refine o_aloadN X43 hx hby d4_81 rfl rfl (q := 82) rfl ?_
  have q45 := ((q37.ext E39).other W43 (Or.inl ne_o0_b22))
  refine o_getF X43 hx hZ hown hby (w_ hw 37 rfl) Via.refl e43 q45 d4_82 (q := 85) rfl fun T44 X44 e44 => ?_
  refine o_iload X44 hx hby d4_85 rfl (q := 87) rfl ?_
  refine o_aload X44 hx hby d4_87 rfl rfl (q := 89) rfl ?_
  refine o_iload X44 hx hby d4_89 rfl (q := 91) rfl ?_
  have q46 := ((q38.ext E39).other W43 ne_b11_b22)
  refine o_iaV X44 hx hby hZ e44 q46 ⟨by decide, by decide⟩ (v := .int 1) rfl d4_91 (q := 92) rfl ?_
  obtain ⟨T47, h47, k47, X47, e47, E47, A47, Ex47, st47⟩ := newPE X44 hx hZ (w_ hw 4 rfl) e44 (g := (mkF m 92 #[rv o0, rv o1, rv o2, iv 3, rv b11, iv 2, iv 4, iv 4, iv 2] [.int 1, .int 2, .ref b22])) rfl (hb hby d4_92) rfl (by decide) (cap := 1) (by decide) (by decide) (by decide) (by decide) (ad := "[I") (by decide +kernel)
  obtain ⟨b47, g47⟩ : ∃ z, z = h43.size := ⟨_, rfl⟩
  rw [← g47] at A47 Ex47 st47
  have q48 := (Nat.le_trans (Nat.le_trans q40 E39.1) (Keep.of_wr W43).1)
  have g_b47 : n0 ≤ b47 := Nat.le_trans q48 (Nat.le_of_eq g47.symm)
  have q49 := (Nat.le_trans (Nat.le_trans q41 E39.1) (Keep.of_wr W43).1)
  have sz_b47 : h0.size ≤ b47 := Nat.le_trans q49 (Nat.le_of_eq g47.symm)
  have V_b47 : Arv Z h47 b47 k47 .int (1 : Int32) [(.int (0 : Int32))] (.int (0 : Int32)) := (Arv.new A47 (by decide)).pad (pad_rep [] (.int (0 : Int32)) 1)
  refine own_of st47 ?_
  show own_Out p e below _ (T47.setTop (mkF m 94 #[rv o0, rv o1, rv o2, iv 3, rv b11, iv 2, iv 4, iv 4, iv 2] [.ref b47, .int 2, .ref b22]))
  have q50 := (V43.ext E47)
  refine o_stVR X47 hx hby hZ e47 q50 ⟨by decide, by decide⟩ 2 rfl (Nat.le_of_ble_eq_true rfl) O22 (Ins.self Ex47) d4_94 (q := 95) rfl fun T51 h51 X51 e51 W51 V51 => ?_
  refine o_iinc X51 hx hby d4_95 rfl (l' := #[rv o0, rv o1, rv o2, iv 3, rv b11, iv 3, iv 4, iv 4, iv 2]) rfl (q := 98) rfl ?_
  refine o_goto X51 hx hby d4_98 (by decide) (q := 75) (by decide) ?_
  refine o_iload X51 hx hby d4_75 rfl (q := 77) rfl ?_
  refine o_iloadN X51 hx hby d4_77 rfl (q := 78) rfl ?_
  refine o_icY X51 hx hby d4_78 (flt (by decide : ¬ ((3 : Int32) < (3 : Int32)))).2.1 (by decide) (q := 101) (by decide) ?_
  refine o_iloadN X51 hx hby d4_101 rfl (q := 102) rfl ?_
  obtain ⟨T52, h52, k52, X52, e52, E52, A52, Ex52, st52⟩ := newPE X51 hx hZ (w_ hw 4 rfl) e51 (g := (mkF m 102 #[rv o0, rv o1, rv o2, iv 3, rv b11, iv 3, iv 4, iv 4, iv 2] [.int 3])) rfl (hb hby d4_102) rfl (by decide) (cap := 3) (by decide) (by decide) (by decide) (by decide) (ad := "[I") (by decide +kernel)
  obtain ⟨b52, g52⟩ : ∃ z, z = h51.size := ⟨_, rfl⟩
  rw [← g52] at A52 Ex52 st52
  have q53 := (Nat.le_trans (Nat.le_trans q48 E47.1) (Keep.of_wr W51).1)
  have g_b52 : n0 ≤ b52 := Nat.le_trans q53 (Nat.le_of_eq g52.symm)
  have q54 := (Nat.le_trans (Nat.le_trans q49 E47.1) (Keep.of_wr W51).1)
  have sz_b52 : h0.size ≤ b52 := Nat.le_trans q54 (Nat.le_of_eq g52.symm)
  have V_b52 : Arv Z h52 b52 k52 .int (3 : Int32) [(.int (0 : Int32)), (.int (0 : Int32)), (.int (0 : Int32))] (.int (0 : Int32)) := (Arv.new A52 (by decide)).pad (pad_rep [] (.int (0 : Int32)) 3)
  refine own_of st52 ?_
  show own_Out p e below _ (T52.setTop (mkF m 104 #[rv o0, rv o1, rv o2, iv 3, rv b11, iv 3, iv 4, iv 4, iv 2] [.ref b52]))
  refine o_astore X52 hx hby d4_104 rfl (l' := #[rv o0, rv o1, rv o2, iv 3, rv b11, rv b52, iv 4, iv 4, iv 2]) rfl (q := 106) rfl ?_
  refine o_iconst X52 hx hby d4_106 (z := 0) rfl (q := 107) rfl ?_
  refine o_istore X52 hx hby d4_107 (l' := #[rv o0, rv o1, rv o2, iv 3, rv b11, rv b52, iv 0, iv 4, iv 2]) rfl (q := 109) rfl ?_
  have ne_o2_b22 : o2 ≠ b22 := Nat.ne_of_lt (Nat.lt_of_lt_of_le V.lt sz_b22)
  have q57 := ((((((((((q20.other W21 ne_o2_b11).ext E22).other W25 n2).ext E31).other W35 ne_o2_b22).ext E39).other W43 ne_o2_b22).ext E47).other W51 ne_o2_b22).ext E52)
  have q58 := (((q45.ext E47).other W51 (Or.inl ne_o0_b22)).ext E52)
  have q59 := (V51.ext E52)
  have ne_b22_b31 : b22 ≠ b31 := Nat.ne_of_lt (Nat.lt_of_lt_of_le (Nat.lt_of_lt_of_le A22.lt (Keep.of_wr W25).1) (Nat.le_of_eq g31.symm))
  have q60 := ((((((V_b31.other W35 (Ne.symm ne_b22_b31)).ext E39).other W43 (Ne.symm ne_b22_b31)).ext E47).other W51 (Ne.symm ne_b22_b31)).ext E52)
  have ne_b31_b52 : b31 ≠ b52 := Nat.ne_of_lt (Nat.lt_of_lt_of_le (Nat.lt_of_lt_of_le (Nat.lt_of_lt_of_le (Nat.lt_of_lt_of_le (Nat.lt_of_lt_of_le (Nat.lt_of_lt_of_le A31.lt (Keep.of_wr W35).1) E39.1) (Keep.of_wr W43).1) E47.1) (Keep.of_wr W51).1) (Nat.le_of_eq g52.symm))
  refine t3 X52 hx hby hZ e52 hw hown q57 q58 q59 V_b52 q60 ne_b31_b52 ⟨by decide, by decide⟩ (x := 0) rfl ⟨by decide, by decide⟩ rfl (f := 0) rfl ⟨by decide, by decide⟩ (f' := 1) rfl (i' := 1) rfl (iN := 0) rfl (Nat.le_of_ble_eq_true rfl) (jN := 0) rfl (Nat.le_of_ble_eq_true rfl) fun T56 h55 h56 X56 e56 W55 W56 V55 V56 => ?_
  have ne_o2_b52 : o2 ≠ b52 := Nat.ne_of_lt (Nat.lt_of_lt_of_le V.lt sz_b52)
  have ne_o2_b31 : o2 ≠ b31 := Nat.ne_of_lt (Nat.lt_of_lt_of_le V.lt sz_b31)
  have q63 := ((q57.other W55 ne_o2_b52).other W56 ne_o2_b31)
  have ne_o0_b52 : o0 ≠ b52 := Nat.ne_of_lt (Nat.lt_of_lt_of_le E.lt sz_b52)
  have ne_o0_b31 : o0 ≠ b31 := Nat.ne_of_lt (Nat.lt_of_lt_of_le E.lt sz_b31)
  have q64 := ((q58.other W55 (Or.inl ne_o0_b52)).other W56 (Or.inl ne_o0_b31))
  have ne_b22_b52 : b22 ≠ b52 := Nat.ne_of_lt (Nat.lt_of_lt_of_le (Nat.lt_of_lt_of_le (Nat.lt_of_lt_of_le (Nat.lt_of_lt_of_le (Nat.lt_of_lt_of_le (Nat.lt_of_lt_of_le (Nat.lt_of_lt_of_le (Nat.lt_of_lt_of_le A22.lt (Keep.of_wr W25).1) E31.1) (Keep.of_wr W35).1) E39.1) (Keep.of_wr W43).1) E47.1) (Keep.of_wr W51).1) (Nat.le_of_eq g52.symm))
  have q65 := ((q59.other W55 ne_b22_b52).other W56 ne_b22_b31)
  have q66 := (V55.other W56 (Ne.symm ne_b31_b52))
  refine t3 X56 hx hby hZ e56 hw hown q63 q64 q65 q66 V56 ne_b31_b52 ⟨by decide, by decide⟩ (x := 0) rfl ⟨by decide, by decide⟩ rfl (f := 1) rfl ⟨by decide, by decide⟩ (f' := 2) rfl (i' := 2) rfl (iN := 0) rfl (Nat.le_of_ble_eq_true rfl) (jN := 1) rfl (Nat.le_of_ble_eq_true rfl) fun T62 h61 h62 X62 e62 W61 W62 V61 V62 => ?_
  have q69 := ((q63.other W61 ne_o2_b52).other W62 ne_o2_b31)
  have q70 := ((q64.other W61 (Or.inl ne_o0_b52)).other W62 (Or.inl ne_o0_b31))
  have q71 := ((q65.other W61 ne_b22_b52).other W62 ne_b22_b31)
  have q72 := (V61.other W62 (Ne.symm ne_b31_b52))
  have ne_b22_b39 : b22 ≠ b39 := Nat.ne_of_lt (Nat.lt_of_lt_of_le (Nat.lt_of_lt_of_le (Nat.lt_of_lt_of_le (Nat.lt_of_lt_of_le A22.lt (Keep.of_wr W25).1) E31.1) (Keep.of_wr W35).1) (Nat.le_of_eq g39.symm))
  have ne_b39_b52 : b39 ≠ b52 := Nat.ne_of_lt (Nat.lt_of_lt_of_le (Nat.lt_of_lt_of_le (Nat.lt_of_lt_of_le (Nat.lt_of_lt_of_le A39.lt (Keep.of_wr W43).1) E47.1) (Keep.of_wr W51).1) (Nat.le_of_eq g52.symm))
  have ne_b31_b39 : b31 ≠ b39 := Nat.ne_of_lt (Nat.lt_of_lt_of_le (Nat.lt_of_lt_of_le A31.lt (Keep.of_wr W35).1) (Nat.le_of_eq g39.symm))
  have q73 := ((((((((V_b39.other W43 (Ne.symm ne_b22_b39)).ext E47).other W51 (Ne.symm ne_b22_b39)).ext E52).other W55 ne_b39_b52).other W56 (Ne.symm ne_b31_b39)).other W61 ne_b39_b52).other W62 (Ne.symm ne_b31_b39))
  refine t3 X62 hx hby hZ e62 hw hown q69 q70 q71 q72 q73 ne_b39_b52 ⟨by decide, by decide⟩ (x := 1) rfl ⟨by decide, by decide⟩ rfl (f := 0) rfl ⟨by decide, by decide⟩ (f' := 1) rfl (i' := 3) rfl (iN := 1) rfl (Nat.le_of_ble_eq_true rfl) (jN := 0) rfl (Nat.le_of_ble_eq_true rfl) fun T68 h67 h68 X68 e68 W67 W68 V67 V68 => ?_
  have ne_o2_b39 : o2 ≠ b39 := Nat.ne_of_lt (Nat.lt_of_lt_of_le V.lt sz_b39)
  have q76 := ((q69.other W67 ne_o2_b52).other W68 ne_o2_b39)
  have ne_o0_b39 : o0 ≠ b39 := Nat.ne_of_lt (Nat.lt_of_lt_of_le E.lt sz_b39)
  have q77 := ((q70.other W67 (Or.inl ne_o0_b52)).other W68 (Or.inl ne_o0_b39))
  have q78 := ((q71.other W67 ne_b22_b52).other W68 ne_b22_b39)
  have q79 := (V67.other W68 (Ne.symm ne_b39_b52))
  have ne_b22_b47 : b22 ≠ b47 := Nat.ne_of_lt (Nat.lt_of_lt_of_le (Nat.lt_of_lt_of_le (Nat.lt_of_lt_of_le (Nat.lt_of_lt_of_le (Nat.lt_of_lt_of_le (Nat.lt_of_lt_of_le A22.lt (Keep.of_wr W25).1) E31.1) (Keep.of_wr W35).1) E39.1) (Keep.of_wr W43).1) (Nat.le_of_eq g47.symm))
  have ne_b47_b52 : b47 ≠ b52 := Nat.ne_of_lt (Nat.lt_of_lt_of_le (Nat.lt_of_lt_of_le A47.lt (Keep.of_wr W51).1) (Nat.le_of_eq g52.symm))
  have ne_b31_b47 : b31 ≠ b47 := Nat.ne_of_lt (Nat.lt_of_lt_of_le (Nat.lt_of_lt_of_le (Nat.lt_of_lt_of_le (Nat.lt_of_lt_of_le A31.lt (Keep.of_wr W35).1) E39.1) (Keep.of_wr W43).1) (Nat.le_of_eq g47.symm))
  have ne_b39_b47 : b39 ≠ b47 := Nat.ne_of_lt (Nat.lt_of_lt_of_le (Nat.lt_of_lt_of_le A39.lt (Keep.of_wr W43).1) (Nat.le_of_eq g47.symm))
  have q80 := ((((((((V_b47.other W51 (Ne.symm ne_b22_b47)).ext E52).other W55 ne_b47_b52).other W56 (Ne.symm ne_b31_b47)).other W61 ne_b47_b52).other W62 (Ne.symm ne_b31_b47)).other W67 ne_b47_b52).other W68 (Ne.symm ne_b39_b47))
  refine t3 X68 hx hby hZ e68 hw hown q76 q77 q78 q79 q80 ne_b47_b52 ⟨by decide, by decide⟩ (x := 2) rfl ⟨by decide, by decide⟩ rfl (f := 0) rfl ⟨by decide, by decide⟩ (f' := 1) rfl (i' := 4) rfl (iN := 2) rfl (Nat.le_of_ble_eq_true rfl) (jN := 0) rfl (Nat.le_of_ble_eq_true rfl) fun T75 h74 h75 X75 e75 W74 W75 V74 V75 => ?_
  refine o_iload X75 hx hby d4_109 rfl (q := 111) rfl ?_
  refine o_aloadN X75 hx hby d4_111 rfl rfl (q := 112) rfl ?_
  have ne_o2_b47 : o2 ≠ b47 := Nat.ne_of_lt (Nat.lt_of_lt_of_le V.lt sz_b47)
  have q81 := ((q76.other W74 ne_o2_b52).other W75 ne_o2_b47)
  refine o_lenV X75 hx hby hZ e75 q81 d4_112 (q := 113) rfl ?_
  refine o_icY X75 hx hby d4_113 (flt (by decide : ¬ ((4 : Int32) < (4 : Int32)))).2.1 (by decide) (q := 146) (by decide) ?_
  have ne_o0_b47 : o0 ≠ b47 := Nat.ne_of_lt (Nat.lt_of_lt_of_le E.lt sz_b47)
  have q82 := ((q77.other W74 (Or.inl ne_o0_b52)).other W75 (Or.inl ne_o0_b47))
  have q83 := ((q78.other W74 ne_b22_b52).other W75 ne_b22_b47)
  have q84 := ((((V62.other W67 ne_b31_b52).other W68 ne_b31_b39).other W74 ne_b31_b52).other W75 ne_b31_b47)
  have q85 := ((V68.other W74 ne_b39_b52).other W75 ne_b39_b47)
  have q86 := ((((((((((((((((((((((((((Keep.refl h0 [o0]).wr W2 (Or.inl (List.mem_of_getElem? (i := 0) rfl))).wr W3 (Or.inl (List.mem_of_getElem? (i := 0) rfl))).wr W7 (Or.inl (List.mem_of_getElem? (i := 0) rfl))).ext E11).wr W15 (Or.inr sz_b11)).wr W17 (Or.inr sz_b11)).wr W19 (Or.inr sz_b11)).wr W21 (Or.inr sz_b11)).ext E22).wr W25 (Or.inl (List.mem_of_getElem? (i := 0) rfl))).ext E31).wr W35 (Or.inr sz_b22)).ext E39).wr W43 (Or.inr sz_b22)).ext E47).wr W51 (Or.inr sz_b22)).ext E52).wr W55 (Or.inr sz_b52)).wr W56 (Or.inr sz_b31)).wr W61 (Or.inr sz_b52)).wr W62 (Or.inr sz_b31)).wr W67 (Or.inr sz_b52)).wr W68 (Or.inr sz_b39)).wr W74 (Or.inr sz_b52)).wr W75 (Or.inr sz_b47))
  have q87 := ((((((((((((((((q27.wr W25).ext E31).wr W35).ext E39).wr W43).ext E47).wr W51).ext E52).wr W55).wr W56).wr W61).wr W62).wr W67).wr W68).wr W74).wr W75)
  have q88 := (((((((((((((((((((((((Fw3.other W7 (Or.inr (slot_ne (Or.inr (w_ hw 32 rfl)) (Or.inr (w_ hw 34 rfl)) (by decide) (t := (.array .int)) (t' := .int) (by decide) (by decide)))).ext E11).other W15 (Or.inl ne_o0_b11)).other W17 (Or.inl ne_o0_b11)).other W19 (Or.inl ne_o0_b11)).other W21 (Or.inl ne_o0_b11)).ext E22).other W25 (Or.inr (slot_ne (Or.inr (w_ hw 32 rfl)) (Or.inr (w_ hw 38 rfl)) (by decide) (t := (.array .int)) (t' := (.array (.array .int))) (by decide) (by decide)))).ext E31).other W35 (Or.inl ne_o0_b22)).ext E39).other W43 (Or.inl ne_o0_b22)).ext E47).other W51 (Or.inl ne_o0_b22)).ext E52).other W55 (Or.inl ne_o0_b52)).other W56 (Or.inl ne_o0_b31)).other W61 (Or.inl ne_o0_b52)).other W62 (Or.inl ne_o0_b31)).other W67 (Or.inl ne_o0_b52)).other W68 (Or.inl ne_o0_b39)).other W74 (Or.inl ne_o0_b52)).other W75 (Or.inl ne_o0_b47))
  have q89 := ((((((((((((((((((((((Fw7.ext E11).other W15 (Or.inl ne_o0_b11)).other W17 (Or.inl ne_o0_b11)).other W19 (Or.inl ne_o0_b11)).other W21 (Or.inl ne_o0_b11)).ext E22).other W25 (Or.inr (slot_ne (Or.inr (w_ hw 34 rfl)) (Or.inr (w_ hw 38 rfl)) (by decide) (t := .int) (t' := (.array (.array .int))) (by decide) (by decide)))).ext E31).other W35 (Or.inl ne_o0_b22)).ext E39).other W43 (Or.inl ne_o0_b22)).ext E47).other W51 (Or.inl ne_o0_b22)).ext E52).other W55 (Or.inl ne_o0_b52)).other W56 (Or.inl ne_o0_b31)).other W61 (Or.inl ne_o0_b52)).other W62 (Or.inl ne_o0_b31)).other W67 (Or.inl ne_o0_b52)).other W68 (Or.inl ne_o0_b39)).other W74 (Or.inl ne_o0_b52)).other W75 (Or.inl ne_o0_b47))
  exact own_outV X75 hx hlk hret (hb hby d4_146) (Q := Q4c0012n3 Z o0 o1 o2 k2 h0 n0) (by rw [e75]; exact ⟨rfl, (Fr.snoc X75 (own_snoc (Fr.snoc X68 (own_snoc (Fr.snoc X62 (own_snoc (Fr.snoc X56 (own_snoc (Fr.snoc X51 (Fr.snoc X43 (Fr.snoc X35 (Fr.snoc X25 (Fr.snoc X21 (Fr.snoc X19 (Fr.snoc X17 (Fr.snoc X15 (Fr.snoc X7 (Fr.snoc X3 (Fr.snoc X2 N0 g_o0) g_o0) g_o0) g_b11) g_b11) g_b11) g_b11) g_o0) g_b22) g_b22) g_b22) g_b52) g_b31) g_b52) g_b31) g_b52) g_b39) g_b52) g_b47), q86, q87, q88, q89, (fun l a0 hw ws h' K o1 oc kc c0 c1 c2 c3 n1 Z1 Fc Vc => rm7r0012 l Z a0 hw ws o0 o1 b22 k22 b31 k31 b39 k39 b47 k47 oc kc c0 c1 c2 c3 h' n1 Z1 (q82.keep K nin0) (q83.keep K nin0) (q84.keep K nin0) (q85.keep K nin0) (V75.keep K nin0) Fc Vc)⟩) (by decide) (by decide)
theorem ef_7r0100 (m : MethodId) (x0 : Addr) (x1 : Addr) : entryFrame m #[(.ref x0), (.ref x1)] 10 = mkF m 0 #[.val (.ref x0), .val (.ref x1), .unset, .unset, .unset, .unset, .unset, .unset, .unset, .unset] [] := by first | (simp [entryFrame, mkF, argsToLocals, Value.category]; done) | rfl
def fr0100 (c0 : Int32) (c1 : Int32) (c2 : Int32) (c3 : Int32) : Int32 := if c2 = c0 then (if c3 = c0 then (1 : Int32)
    else (0 : Int32))
  else (0 : Int32)
def Q7r0100 (Z : State) (o0 : Addr) (o1 : Addr) (cc : Addr) (kcc : ClassId) (d0 : Addr) (kd0 : ClassId) (d1 : Addr) (kd1 : ClassId) (oc : Addr) (kc : ClassId) (c0 : Int32) (c1 : Int32) (c2 : Int32) (c3 : Int32) (h0 : Heap) (n0 : Nat) (v : Option Value) (h : Heap) (L : List Loc) : Prop := v = some (.int (fr0100 c0 c1 c2 c3)) ∧ Fr n0 L ∧ h = h0
set_option maxRecDepth 65536 in
set_option maxHeartbeats 40000000 in
theorem rm7r0100 (l : Launch) (Z : State) (a0 : Array Value) (hw : ∀ d ∈ tables_1, d.before a0 Z = true) (ws : List Jvm.Cond) (o0 : Addr) (o1 : Addr) (cc : Addr) (kcc : ClassId) (d0 : Addr) (kd0 : ClassId) (d1 : Addr) (kd1 : ClassId) (oc : Addr) (kc : ClassId) (c0 : Int32) (c1 : Int32) (c2 : Int32) (c3 : Int32) (h0 : Heap) (n0 : Nat) (Z0 : n0 ≤ h0.size) (Fs : Fld Z h0 o0 "com/example/slimc/slimc/game/Observation" "classes" "[[I" (.ref cc)) (Vcc : Arv Z h0 cc kcc (.array .int) (2 : Int32) [(.ref d0), (.ref d1)] .null) (Vd0 : Arv Z h0 d0 kd0 .int (3 : Int32) [(.int (0 : Int32)), (.int (2 : Int32)), (.int (3 : Int32))] (.int (0 : Int32))) (Vd1 : Arv Z h0 d1 kd1 .int (1 : Int32) [(.int (1 : Int32))] (.int (0 : Int32))) (Fc : Fld Z h0 o1 "com/example/slimc/slimc/game/Observation" "classOf" "[I" (.ref oc)) (Vc : Arv Z h0 oc kc .int (4 : Int32) [(.int c0), (.int c1), (.int c2), (.int c3)] (.int (0 : Int32))) :
    MetFree l (⟨"com/example/slimc/slimc/game/Observation", "refines", "(Lcom/example/slimc/slimc/game/Observation;)Z"⟩ : MethodName) (head1 (Jvm.Cond.code (⟨"com/example/slimc/slimc/game/Observation", "refines", "(Lcom/example/slimc/slimc/game/Observation;)Z"⟩ : MethodName) prog_66_method_8_code 10 (some .boolean) :: ws) ({ frames := 0, cells := 0, slots := 0, locals := 0 } : Room)) (fun a U => a = #[(.ref o0), (.ref o1)] ∧ Z.Warmed39 U.vm ∧ U.heap = h0) (fun _ _ _ _ _ => True) (fun _ U o U' => ∃ v L, o = .returned v ∧ Q7r0100 Z o0 o1 cc kcc d0 kd0 d1 kd1 oc kc c0 c1 c2 c3 h0 n0 v U'.heap L ∧ FrameEnd U o U' L ({ frames := 0, cells := 0, slots := 0, locals := 0 } : Room).cells ({ frames := 0, cells := 0, slots := 0, locals := 0 } : Room).slots) := by
  refine MetFree.of_bodySF (plainFor_of_name pn_1) hisR ?_
  intro p e s m args below meth c s₁ Bd hml0 hP hK
  obtain ⟨rfl, hZ, hh⟩ := hP
  have hx := Bd.exec
  have hby := Bd.bytes
  have hml : c.maxLocals = 10 := hml0
  have hown : s.vm.findClass "com/example/slimc/slimc/game/Observation" = some m.cls := findClass_of_methodNamed Bd.named
  have hnm := (name_of_methodNamed Bd.named Bd.method).1
  have X0 : Stand p l e ({ frames := 0, cells := 0, slots := 0, locals := 0 } : Room) s m #[(.ref o0), (.ref o1)] below meth c s₁ [] 0 0 := Stand.of_body Bd
  have e0 : s₁.heap = h0 := by rw [← hh, Bd.state]; rfl
  have N0 := Fr.nil n0
  have hret := Bd.returns
  have hlk := BodyLoose.notSynchronized Bd
  show own_Out p e below (fun o U' => ∃ v L, o = .returned v ∧ Q7r0100 Z o0 o1 cc kcc d0 kd0 d1 kd1 oc kc c0 c1 c2 c3 h0 n0 v U'.heap L ∧ FrameEnd s o U' L ({ frames := 0, cells := 0, slots := 0, locals := 0 } : Room).cells ({ frames := 0, cells := 0, slots := 0, locals := 0 } : Room).slots) (s₁.setTop (entryFrame m #[(.ref o0), (.ref o1)] 10))
  refine own_of (fun t k => castTop (ef_7r0100 m o0 o1) k) ?_
  show own_Out p e below _ (s₁.setTop (mkF m 0 #[rv o0, rv o1, .unset, .unset, .unset, .unset, .unset, .unset, .unset, .unset] []))
  refine o_aloadN X0 hx hby d7_0 rfl rfl (q := 1) rfl ?_
  refine o_getF X0 hx hZ hown hby (w_ hw 37 rfl) Via.refl e0 Fs d7_1 (q := 4) rfl fun T1 X1 e1 => ?_
  refine o_astoreN X1 hx hby d7_4 rfl (l' := #[rv o0, rv o1, rv cc, .unset, .unset, .unset, .unset, .unset, .unset, .unset]) rfl (q := 5) rfl ?_
  refine o_aloadN X1 hx hby d7_5 rfl rfl (q := 6) rfl ?_
  refine o_lenV X1 hx hby hZ e1 Vcc d7_6 (q := 7) rfl ?_
  refine o_istoreN X1 hx hby d7_7 (l' := #[rv o0, rv o1, rv cc, iv 2, .unset, .unset, .unset, .unset, .unset, .unset]) rfl (q := 8) rfl ?_
  refine o_iconst X1 hx hby d7_8 (z := 0) rfl (q := 9) rfl ?_
  refine o_istore X1 hx hby d7_9 (l' := #[rv o0, rv o1, rv cc, iv 2, iv 0, .unset, .unset, .unset, .unset, .unset]) rfl (q := 11) rfl ?_
  refine o_iload X1 hx hby d7_11 rfl (q := 13) rfl ?_
  refine o_iloadN X1 hx hby d7_13 rfl (q := 14) rfl ?_
  refine o_icN X1 hx hby d7_14 (tlt (by decide : (0 : Int32) < (2 : Int32))).2.1 (q := 17) rfl ?_
  refine o_aloadN X1 hx hby d7_17 rfl rfl (q := 18) rfl ?_
  refine o_iload X1 hx hby d7_18 rfl (q := 20) rfl ?_
  refine o_aaV X1 hx hby hZ e1 Vcc rfl ⟨by decide, by decide⟩ (v := .ref d0) rfl d7_20 (q := 21) rfl ?_
  refine o_astore X1 hx hby d7_21 rfl (l' := #[rv o0, rv o1, rv cc, iv 2, iv 0, rv d0, .unset, .unset, .unset, .unset]) rfl (q := 23) rfl ?_
  refine o_aload X1 hx hby d7_23 rfl rfl (q := 25) rfl ?_
  refine o_astore X1 hx hby d7_25 rfl (l' := #[rv o0, rv o1, rv cc, iv 2, iv 0, rv d0, rv d0, .unset, .unset, .unset]) rfl (q := 27) rfl ?_
  refine o_aload X1 hx hby d7_27 rfl rfl (q := 29) rfl ?_
  refine o_lenV X1 hx hby hZ e1 Vd0 d7_29 (q := 30) rfl ?_
  refine o_istore X1 hx hby d7_30 (l' := #[rv o0, rv o1, rv cc, iv 2, iv 0, rv d0, rv d0, iv 3, .unset, .unset]) rfl (q := 32) rfl ?_
  refine o_iconst X1 hx hby d7_32 (z := 0) rfl (q := 33) rfl ?_
  refine o_istore X1 hx hby d7_33 (l' := #[rv o0, rv o1, rv cc, iv 2, iv 0, rv d0, rv d0, iv 3, iv 0, .unset]) rfl (q := 35) rfl ?_
  refine o_iload X1 hx hby d7_35 rfl (q := 37) rfl ?_
  refine o_iload X1 hx hby d7_37 rfl (q := 39) rfl ?_
  refine o_icN X1 hx hby d7_39 (tlt (by decide : (0 : Int32) < (3 : Int32))).2.1 (q := 42) rfl ?_
  refine o_aload X1 hx hby d7_42 rfl rfl (q := 44) rfl ?_
  refine o_iload X1 hx hby d7_44 rfl (q := 46) rfl ?_
  refine o_iaV X1 hx hby hZ e1 Vd0 ⟨by decide, by decide⟩ (v := .int 0) rfl d7_46 (q := 47) rfl ?_
  refine o_istore X1 hx hby d7_47 (l' := #[rv o0, rv o1, rv cc, iv 2, iv 0, rv d0, rv d0, iv 3, iv 0, iv 0]) rfl (q := 49) rfl ?_
  refine o_aloadN X1 hx hby d7_49 rfl rfl (q := 50) rfl ?_
  refine o_getF X1 hx hZ hown hby (w_ hw 31 rfl) Via.refl e1 Fc d7_50 (q := 53) rfl fun T2 X2 e2 => ?_
  refine o_iload X2 hx hby d7_53 rfl (q := 55) rfl ?_
  refine o_iaV X2 hx hby hZ e2 Vc ⟨by decide, by decide⟩ (v := .int c0) rfl d7_55 (q := 56) rfl ?_
  refine o_aloadN X2 hx hby d7_56 rfl rfl (q := 57) rfl ?_
  refine o_getF X2 hx hZ hown hby (w_ hw 31 rfl) Via.refl e2 Fc d7_57 (q := 60) rfl fun T3 X3 e3 => ?_
  refine o_aload X3 hx hby d7_60 rfl rfl (q := 62) rfl ?_
  refine o_iconst X3 hx hby d7_62 (z := 0) rfl (q := 63) rfl ?_
  refine o_iaV X3 hx hby hZ e3 Vd0 ⟨by decide, by decide⟩ (v := .int 0) rfl d7_63 (q := 64) rfl ?_
  refine o_iaV X3 hx hby hZ e3 Vc ⟨by decide, by decide⟩ (v := .int c0) rfl d7_64 (q := 65) rfl ?_
  refine o_icY X3 hx hby d7_65 (teq (rfl : c0 = c0)).1 (by decide) (q := 70) (by decide) ?_
  refine o_iinc X3 hx hby d7_70 rfl (l' := #[rv o0, rv o1, rv cc, iv 2, iv 0, rv d0, rv d0, iv 3, iv 1, iv 0]) rfl (q := 73) rfl ?_
  refine o_goto X3 hx hby d7_73 (by decide) (q := 35) (by decide) ?_
  refine o_iload X3 hx hby d7_35 rfl (q := 37) rfl ?_
  refine o_iload X3 hx hby d7_37 rfl (q := 39) rfl ?_
  refine o_icN X3 hx hby d7_39 (tlt (by decide : (1 : Int32) < (3 : Int32))).2.1 (q := 42) rfl ?_
  refine o_aload X3 hx hby d7_42 rfl rfl (q := 44) rfl ?_
  refine o_iload X3 hx hby d7_44 rfl (q := 46) rfl ?_
  refine o_iaV X3 hx hby hZ e3 Vd0 ⟨by decide, by decide⟩ (v := .int 2) rfl d7_46 (q := 47) rfl ?_
  refine o_istore X3 hx hby d7_47 (l' := #[rv o0, rv o1, rv cc, iv 2, iv 0, rv d0, rv d0, iv 3, iv 1, iv 2]) rfl (q := 49) rfl ?_
  refine o_aloadN X3 hx hby d7_49 rfl rfl (q := 50) rfl ?_
  refine o_getF X3 hx hZ hown hby (w_ hw 31 rfl) Via.refl e3 Fc d7_50 (q := 53) rfl fun T4 X4 e4 => ?_
  refine o_iload X4 hx hby d7_53 rfl (q := 55) rfl ?_
  refine o_iaV X4 hx hby hZ e4 Vc ⟨by decide, by decide⟩ (v := .int c2) rfl d7_55 (q := 56) rfl ?_
  refine o_aloadN X4 hx hby d7_56 rfl rfl (q := 57) rfl ?_
  refine o_getF X4 hx hZ hown hby (w_ hw 31 rfl) Via.refl e4 Fc d7_57 (q := 60) rfl fun T5 X5 e5 => ?_
  refine o_aload X5 hx hby d7_60 rfl rfl (q := 62) rfl ?_
  refine o_iconst X5 hx hby d7_62 (z := 0) rfl (q := 63) rfl ?_
  refine o_iaV X5 hx hby hZ e5 Vd0 ⟨by decide, by decide⟩ (v := .int 0) rfl d7_63 (q := 64) rfl ?_
  refine o_iaV X5 hx hby hZ e5 Vc ⟨by decide, by decide⟩ (v := .int c0) rfl d7_64 (q := 65) rfl ?_
  by_cases hc65_6 : c2 = c0
  · skip
    refine o_icY X5 hx hby d7_65 (teq hc65_6).1 (by decide) (q := 70) (by decide) ?_
    refine o_iinc X5 hx hby d7_70 rfl (l' := #[rv o0, rv o1, rv cc, iv 2, iv 0, rv d0, rv d0, iv 3, iv 2, iv 2]) rfl (q := 73) rfl ?_
    refine o_goto X5 hx hby d7_73 (by decide) (q := 35) (by decide) ?_
    refine o_iload X5 hx hby d7_35 rfl (q := 37) rfl ?_
    refine o_iload X5 hx hby d7_37 rfl (q := 39) rfl ?_
    refine o_icN X5 hx hby d7_39 (tlt (by decide : (2 : Int32) < (3 : Int32))).2.1 (q := 42) rfl ?_
    refine o_aload X5 hx hby d7_42 rfl rfl (q := 44) rfl ?_
    refine o_iload X5 hx hby d7_44 rfl (q := 46) rfl ?_
    refine o_iaV X5 hx hby hZ e5 Vd0 ⟨by decide, by decide⟩ (v := .int 3) rfl d7_46 (q := 47) rfl ?_
    refine o_istore X5 hx hby d7_47 (l' := #[rv o0, rv o1, rv cc, iv 2, iv 0, rv d0, rv d0, iv 3, iv 2, iv 3]) rfl (q := 49) rfl ?_
    refine o_aloadN X5 hx hby d7_49 rfl rfl (q := 50) rfl ?_
    refine o_getF X5 hx hZ hown hby (w_ hw 31 rfl) Via.refl e5 Fc d7_50 (q := 53) rfl fun T7 X7 e7 => ?_
    refine o_iload X7 hx hby d7_53 rfl (q := 55) rfl ?_
    refine o_iaV X7 hx hby hZ e7 Vc ⟨by decide, by decide⟩ (v := .int c3) rfl d7_55 (q := 56) rfl ?_
    refine o_aloadN X7 hx hby d7_56 rfl rfl (q := 57) rfl ?_
    refine o_getF X7 hx hZ hown hby (w_ hw 31 rfl) Via.refl e7 Fc d7_57 (q := 60) rfl fun T8 X8 e8 => ?_
    refine o_aload X8 hx hby d7_60 rfl rfl (q := 62) rfl ?_
    refine o_iconst X8 hx hby d7_62 (z := 0) rfl (q := 63) rfl ?_
    refine o_iaV X8 hx hby hZ e8 Vd0 ⟨by decide, by decide⟩ (v := .int 0) rfl d7_63 (q := 64) rfl ?_
    refine o_iaV X8 hx hby hZ e8 Vc ⟨by decide, by decide⟩ (v := .int c0) rfl d7_64 (q := 65) rfl ?_
    by_cases hc65_9 : c3 = c0
    · skip
      refine o_icY X8 hx hby d7_65 (teq hc65_9).1 (by decide) (q := 70) (by decide) ?_
      refine o_iinc X8 hx hby d7_70 rfl (l' := #[rv o0, rv o1, rv cc, iv 2, iv 0, rv d0, rv d0, iv 3, iv 3, iv 3]) rfl (q := 73) rfl ?_
      refine o_goto X8 hx hby d7_73 (by decide) (q := 35) (by decide) ?_
      refine o_iload X8 hx hby d7_35 rfl (q := 37) rfl ?_
      refine o_iload X8 hx hby d7_37 rfl (q := 39) rfl ?_
      refine o_icY X8 hx hby d7_39 (flt (by decide : ¬ ((3 : Int32) < (3 : Int32)))).2.1 (by decide) (q := 76) (by decide) ?_
      refine o_iinc X8 hx hby d7_76 rfl (l' := #[rv o0, rv o1, rv cc, iv 2, iv 1, rv d0, rv d0, iv 3, iv 3, iv 3]) rfl (q := 79) rfl ?_
      refine o_goto X8 hx hby d7_79 (by decide) (q := 11) (by decide) ?_
      refine o_iload X8 hx hby d7_11 rfl (q := 13) rfl ?_
      refine o_iloadN X8 hx hby d7_13 rfl (q := 14) rfl ?_
      refine o_icN X8 hx hby d7_14 (tlt (by decide : (1 : Int32) < (2 : Int32))).2.1 (q := 17) rfl ?_
      refine o_aloadN X8 hx hby d7_17 rfl rfl (q := 18) rfl ?_
      refine o_iload X8 hx hby d7_18 rfl (q := 20) rfl ?_
      refine o_aaV X8 hx hby hZ e8 Vcc rfl ⟨by decide, by decide⟩ (v := .ref d1) rfl d7_20 (q := 21) rfl ?_
      refine o_astore X8 hx hby d7_21 rfl (l' := #[rv o0, rv o1, rv cc, iv 2, iv 1, rv d1, rv d0, iv 3, iv 3, iv 3]) rfl (q := 23) rfl ?_
      refine o_aload X8 hx hby d7_23 rfl rfl (q := 25) rfl ?_
      refine o_astore X8 hx hby d7_25 rfl (l' := #[rv o0, rv o1, rv cc, iv 2, iv 1, rv d1, rv d1, iv 3, iv 3, iv 3]) rfl (q := 27) rfl ?_
      refine o_aload X8 hx hby d7_27 rfl rfl (q := 29) rfl ?_
      refine o_lenV X8 hx hby hZ e8 Vd1 d7_29 (q := 30) rfl ?_
      refine o_istore X8 hx hby d7_30 (l' := #[rv o0, rv o1, rv cc, iv 2, iv 1, rv d1, rv d1, iv 1, iv 3, iv 3]) rfl (q := 32) rfl ?_
      refine o_iconst X8 hx hby d7_32 (z := 0) rfl (q := 33) rfl ?_
      refine o_istore X8 hx hby d7_33 (l' := #[rv o0, rv o1, rv cc, iv 2, iv 1, rv d1, rv d1, iv 1, iv 0, iv 3]) rfl (q := 35) rfl ?_
      refine o_iload X8 hx hby d7_35 rfl (q := 37) rfl ?_
      refine o_iload X8 hx hby d7_37 rfl (q := 39) rfl ?_
      refine o_icN X8 hx hby d7_39 (tlt (by decide : (0 : Int32) < (1 : Int32))).2.1 (q := 42) rfl ?_
      refine o_aload X8 hx hby d7_42 rfl rfl (q := 44) rfl ?_
      refine o_iload X8 hx hby d7_44 rfl (q := 46) rfl ?_
      refine o_iaV X8 hx hby hZ e8 Vd1 ⟨by decide, by decide⟩ (v := .int 1) rfl d7_46 (q := 47) rfl ?_
      refine o_istore X8 hx hby d7_47 (l' := #[rv o0, rv o1, rv cc, iv 2, iv 1, rv d1, rv d1, iv 1, iv 0, iv 1]) rfl (q := 49) rfl ?_
      refine o_aloadN X8 hx hby d7_49 rfl rfl (q := 50) rfl ?_
      refine o_getF X8 hx hZ hown hby (w_ hw 31 rfl) Via.refl e8 Fc d7_50 (q := 53) rfl fun T10 X10 e10 => ?_
      refine o_iload X10 hx hby d7_53 rfl (q := 55) rfl ?_
      refine o_iaV X10 hx hby hZ e10 Vc ⟨by decide, by decide⟩ (v := .int c1) rfl d7_55 (q := 56) rfl ?_
      refine o_aloadN X10 hx hby d7_56 rfl rfl (q := 57) rfl ?_
      refine o_getF X10 hx hZ hown hby (w_ hw 31 rfl) Via.refl e10 Fc d7_57 (q := 60) rfl fun T11 X11 e11 => ?_
      refine o_aload X11 hx hby d7_60 rfl rfl (q := 62) rfl ?_
      refine o_iconst X11 hx hby d7_62 (z := 0) rfl (q := 63) rfl ?_
      refine o_iaV X11 hx hby hZ e11 Vd1 ⟨by decide, by decide⟩ (v := .int 1) rfl d7_63 (q := 64) rfl ?_
      refine o_iaV X11 hx hby hZ e11 Vc ⟨by decide, by decide⟩ (v := .int c1) rfl d7_64 (q := 65) rfl ?_
      refine o_icY X11 hx hby d7_65 (teq (rfl : c1 = c1)).1 (by decide) (q := 70) (by decide) ?_
      refine o_iinc X11 hx hby d7_70 rfl (l' := #[rv o0, rv o1, rv cc, iv 2, iv 1, rv d1, rv d1, iv 1, iv 1, iv 1]) rfl (q := 73) rfl ?_
      refine o_goto X11 hx hby d7_73 (by decide) (q := 35) (by decide) ?_
      refine o_iload X11 hx hby d7_35 rfl (q := 37) rfl ?_
      refine o_iload X11 hx hby d7_37 rfl (q := 39) rfl ?_
      refine o_icY X11 hx hby d7_39 (flt (by decide : ¬ ((1 : Int32) < (1 : Int32)))).2.1 (by decide) (q := 76) (by decide) ?_
      refine o_iinc X11 hx hby d7_76 rfl (l' := #[rv o0, rv o1, rv cc, iv 2, iv 2, rv d1, rv d1, iv 1, iv 1, iv 1]) rfl (q := 79) rfl ?_
      refine o_goto X11 hx hby d7_79 (by decide) (q := 11) (by decide) ?_
      refine o_iload X11 hx hby d7_11 rfl (q := 13) rfl ?_
      refine o_iloadN X11 hx hby d7_13 rfl (q := 14) rfl ?_
      refine o_icY X11 hx hby d7_14 (flt (by decide : ¬ ((2 : Int32) < (2 : Int32)))).2.1 (by decide) (q := 82) (by decide) ?_
      refine o_iconst X11 hx hby d7_82 (z := 1) rfl (q := 83) rfl ?_
      exact own_outN X11 hx hlk (t := .boolean) hret (by simp) (hb hby d7_83) (z' := (1 : Int32)) rfl (Q := Q7r0100 Z o0 o1 cc kcc d0 kd0 d1 kd1 oc kc c0 c1 c2 c3 h0 n0) ⟨by simp only [fr0100, if_pos hc65_6, if_pos hc65_9], N0, e11⟩ (by decide) (by decide)
    · skip
      refine o_icN X8 hx hby d7_65 (feq hc65_9).1 (q := 68) rfl ?_
      refine o_iconst X8 hx hby d7_68 (z := 0) rfl (q := 69) rfl ?_
      exact own_outN X8 hx hlk (t := .boolean) hret (by simp) (hb hby d7_69) (z' := (0 : Int32)) rfl (Q := Q7r0100 Z o0 o1 cc kcc d0 kd0 d1 kd1 oc kc c0 c1 c2 c3 h0 n0) ⟨by simp only [fr0100, if_pos hc65_6, if_neg hc65_9], N0, e8⟩ (by decide) (by decide)
  · skip
    refine o_icN X5 hx hby d7_65 (feq hc65_6).1 (q := 68) rfl ?_
    refine o_iconst X5 hx hby d7_68 (z := 0) rfl (q := 69) rfl ?_
    exact own_outN X5 hx hlk (t := .boolean) hret (by simp) (hb hby d7_69) (z' := (0 : Int32)) rfl (Q := Q7r0100 Z o0 o1 cc kcc d0 kd0 d1 kd1 oc kc c0 c1 c2 c3 h0 n0) ⟨by simp only [fr0100, if_neg hc65_6], N0, e5⟩ (by decide) (by decide)
theorem ef_4c0100n2 (m : MethodId) (x0 : Addr) (x1 : Addr) (x2 : Addr) : entryFrame m #[(.ref x0), (.ref x1), (.ref x2), (.int (2 : Int32))] 9 = mkF m 0 #[.val (.ref x0), .val (.ref x1), .val (.ref x2), .val (.int (2 : Int32)), .unset, .unset, .unset, .unset, .unset] [] := by first | (simp [entryFrame, mkF, argsToLocals, Value.category]; done) | rfl
def Q4c0100n2 (Z : State) (o0 : Addr) (o1 : Addr) (o2 : Addr) (k2 : ClassId) (h0 : Heap) (n0 : Nat) (v : Option Value) (h : Heap) (L : List Loc) : Prop := v = none ∧ Fr n0 L ∧ Keep h0 h [o0] ∧ Exa Z h o0 "com/example/slimc/slimc/game/Observation" ∧ Fld Z h o0 "com/example/slimc/slimc/game/Observation" "classOf" "[I" (.ref o2) ∧ Fld Z h o0 "com/example/slimc/slimc/game/Observation" "classCount" "I" (.int (2 : Int32)) ∧ RefOk Z h o0 fr0100
set_option maxRecDepth 65536 in
set_option maxHeartbeats 40000000 in
theorem rm4c0100n2 (l : Launch) (Z : State) (a0 : Array Value) (hw : ∀ d ∈ tables_1, d.before a0 Z = true) (ws : List Jvm.Cond) (o0 : Addr) (o1 : Addr) (o2 : Addr) (k2 : ClassId) (h0 : Heap) (n0 : Nat) (Z0 : n0 ≤ h0.size) (E : Exa Z h0 o0 "com/example/slimc/slimc/game/Observation") (F_name : Fld Z h0 o0 "com/example/slimc/slimc/game/Observation" "name" "Ljava/lang/String;" .null) (F_classOf : Fld Z h0 o0 "com/example/slimc/slimc/game/Observation" "classOf" "[I" .null) (F_classCount : Fld Z h0 o0 "com/example/slimc/slimc/game/Observation" "classCount" "I" (.int (0 : Int32))) (F_classes : Fld Z h0 o0 "com/example/slimc/slimc/game/Observation" "classes" "[[I" .null) (g_o0 : n0 ≤ o0) (V : Arv Z h0 o2 k2 .int (4 : Int32) [(.int (0 : Int32)), (.int (1 : Int32)), (.int (0 : Int32)), (.int (0 : Int32))] (.int (0 : Int32))) (n2 : o2 ≠ o0) :
    MetFree l (⟨"com/example/slimc/slimc/game/Observation", "<init>", "(Ljava/lang/String;[II)V"⟩ : MethodName) (head1 (Jvm.Cond.code (⟨"com/example/slimc/slimc/game/Observation", "<init>", "(Ljava/lang/String;[II)V"⟩ : MethodName) prog_66_method_1_code 9 none :: ws) ({ frames := 1, cells := 7, slots := 16, locals := 14 } : Room)) (fun a U => a = #[(.ref o0), (.ref o1), (.ref o2), (.int (2 : Int32))] ∧ Z.Warmed39 U.vm ∧ U.heap = h0) (fun _ _ _ _ _ => True) (fun _ U o U' => ∃ v L, o = .returned v ∧ Q4c0100n2 Z o0 o1 o2 k2 h0 n0 v U'.heap L ∧ FrameEnd U o U' L ({ frames := 1, cells := 7, slots := 16, locals := 14 } : Room).cells ({ frames := 1, cells := 7, slots := 16, locals := 14 } : Room).slots) := by
  refine MetFree.of_bodySF (plainFor_of_name pn_1) hisR ?_
  intro p e s m args below meth c s₁ Bd hml0 hP hK
  obtain ⟨rfl, hZ, hh⟩ := hP
  have hx := Bd.exec
  have hby := Bd.bytes
  have hml : c.maxLocals = 9 := hml0
  have hown : s.vm.findClass "com/example/slimc/slimc/game/Observation" = some m.cls := findClass_of_methodNamed Bd.named
  have hnm := (name_of_methodNamed Bd.named Bd.method).1
  have X0 : Stand p l e ({ frames := 1, cells := 7, slots := 16, locals := 14 } : Room) s m #[(.ref o0), (.ref o1), (.ref o2), (.int (2 : Int32))] below meth c s₁ [] 0 0 := Stand.of_body Bd
  have e0 : s₁.heap = h0 := by rw [← hh, Bd.state]; rfl
  have N0 := Fr.nil n0
  have hret := Bd.returns
  have hlk := BodyLoose.notSynchronized Bd
  show own_Out p e below (fun o U' => ∃ v L, o = .returned v ∧ Q4c0100n2 Z o0 o1 o2 k2 h0 n0 v U'.heap L ∧ FrameEnd s o U' L ({ frames := 1, cells := 7, slots := 16, locals := 14 } : Room).cells ({ frames := 1, cells := 7, slots := 16, locals := 14 } : Room).slots) (s₁.setTop (entryFrame m #[(.ref o0), (.ref o1), (.ref o2), (.int (2 : Int32))] 9))
  refine own_of (fun t k => castTop (ef_4c0100n2 m o0 o1 o2) k) ?_
  show own_Out p e below _ (s₁.setTop (mkF m 0 #[rv o0, rv o1, rv o2, iv 2, .unset, .unset, .unset, .unset, .unset] []))
  refine o_aloadN X0 hx hby d4_0 rfl rfl (q := 1) rfl ?_
  obtain ⟨T1, X1, e1, st1⟩ := initO X0 hx hZ hown (w_ hw 26 rfl) (w_ hw 27 rfl) (w_ hw 28 rfl) e0 (g := (mkF m 1 #[rv o0, rv o1, rv o2, iv 2, .unset, .unset, .unset, .unset, .unset] [.ref o0])) rfl (by rw [hml]; rfl) rfl (hb hby d4_1) (by decide) (W := 0) (by show 2 * 0 + _ ≤ _; exact Nat.le_of_eq rfl) (by decide)
  refine own_of st1 ?_
  show own_Out p e below _ (T1.setTop (mkF m 4 #[rv o0, rv o1, rv o2, iv 2, .unset, .unset, .unset, .unset, .unset] []))
  refine o_aloadN X1 hx hby d4_4 rfl rfl (q := 5) rfl ?_
  refine o_aloadN X1 hx hby d4_5 rfl rfl (q := 6) rfl ?_
  obtain ⟨T2, h2, X2, e2, W2, st2⟩ := putF X1 hx hZ hown (host := "") (Or.inl (w_ hw 29 rfl)) Via.refl e1 F_name E (Or.inr ⟨(w_ hw 30 rfl), rfl, hnm⟩) (w_ hw 10 rfl) (ty := (.object "java/lang/String")) (by decide) rfl rfl (g := (mkF m 6 #[rv o0, rv o1, rv o2, iv 2, .unset, .unset, .unset, .unset, .unset] [.ref o1, .ref o0])) rfl rfl (hb hby d4_6)
  have Fw2 := F_name.same W2
  refine own_of st2 ?_
  show own_Out p e below _ (T2.setTop (mkF m 9 #[rv o0, rv o1, rv o2, iv 2, .unset, .unset, .unset, .unset, .unset] []))
  refine o_aloadN X2 hx hby d4_9 rfl rfl (q := 10) rfl ?_
  refine o_aloadN X2 hx hby d4_10 rfl rfl (q := 11) rfl ?_
  have q4 := (F_classOf.other W2 (Or.inr (slot_ne (Or.inr (w_ hw 32 rfl)) (Or.inr (w_ hw 30 rfl)) (by decide) (t := (.array .int)) (t' := (.object "java/lang/String")) (by decide) (by decide))))
  have q5 := (E.wr W2)
  obtain ⟨T3, h3, X3, e3, W3, st3⟩ := putF X2 hx hZ hown (host := "") (Or.inl (w_ hw 31 rfl)) Via.refl e2 q4 q5 (Or.inr ⟨(w_ hw 32 rfl), rfl, hnm⟩) (w_ hw 10 rfl) (ty := (.array .int)) (by decide) rfl rfl (g := (mkF m 11 #[rv o0, rv o1, rv o2, iv 2, .unset, .unset, .unset, .unset, .unset] [.ref o2, .ref o0])) rfl rfl (hb hby d4_11)
  have q6 := (F_classOf.other W2 (Or.inr (slot_ne (Or.inr (w_ hw 32 rfl)) (Or.inr (w_ hw 30 rfl)) (by decide) (t := (.array .int)) (t' := (.object "java/lang/String")) (by decide) (by decide))))
  have Fw3 := q6.same W3
  refine own_of st3 ?_
  show own_Out p e below _ (T3.setTop (mkF m 14 #[rv o0, rv o1, rv o2, iv 2, .unset, .unset, .unset, .unset, .unset] []))
  refine o_aloadN X3 hx hby d4_14 rfl rfl (q := 15) rfl ?_
  refine o_iloadN X3 hx hby d4_15 rfl (q := 16) rfl ?_
  have q8 := ((F_classCount.other W2 (Or.inr (slot_ne (Or.inr (w_ hw 34 rfl)) (Or.inr (w_ hw 30 rfl)) (by decide) (t := .int) (t' := (.object "java/lang/String")) (by decide) (by decide)))).other W3 (Or.inr (slot_ne (Or.inr (w_ hw 34 rfl)) (Or.inr (w_ hw 32 rfl)) (by decide) (t := .int) (t' := (.array .int)) (by decide) (by decide))))
  have q9 := (q5.wr W3)
  obtain ⟨T7, h7, X7, e7, W7, st7⟩ := putF X3 hx hZ hown (host := "") (Or.inl (w_ hw 33 rfl)) Via.refl e3 q8 q9 (Or.inr ⟨(w_ hw 34 rfl), rfl, hnm⟩) (w_ hw 10 rfl) (ty := .int) (by decide) rfl rfl (g := (mkF m 16 #[rv o0, rv o1, rv o2, iv 2, .unset, .unset, .unset, .unset, .unset] [.int 2, .ref o0])) rfl rfl (hb hby d4_16)
  have q10 := ((F_classCount.other W2 (Or.inr (slot_ne (Or.inr (w_ hw 34 rfl)) (Or.inr (w_ hw 30 rfl)) (by decide) (t := .int) (t' := (.object "java/lang/String")) (by decide) (by decide)))).other W3 (Or.inr (slot_ne (Or.inr (w_ hw 34 rfl)) (Or.inr (w_ hw 32 rfl)) (by decide) (t := .int) (t' := (.array .int)) (by decide) (by decide))))
  have Fw7 := q10.same W7
  refine own_of st7 ?_
  show own_Out p e below _ (T7.setTop (mkF m 19 #[rv o0, rv o1, rv o2, iv 2, .unset, .unset, .unset, .unset, .unset] []))
  refine o_iloadN X7 hx hby d4_19 rfl (q := 20) rfl ?_
  obtain ⟨T11, h11, k11, X11, e11, E11, A11, Ex11, st11⟩ := newPE X7 hx hZ (w_ hw 4 rfl) e7 (g := (mkF m 20 #[rv o0, rv o1, rv o2, iv 2, .unset, .unset, .unset, .unset, .unset] [.int 2])) rfl (hb hby d4_20) rfl (by decide) (cap := 2) (by decide) (by decide) (by decide) (by decide) (ad := "[I") (by decide +kernel)
  obtain ⟨b11, g11⟩ : ∃ z, z = h7.size := ⟨_, rfl⟩
  rw [← g11] at A11 Ex11 st11
  have q12 := (Nat.le_trans (Nat.le_trans (Nat.le_trans Z0 (Keep.of_wr W2).1) (Keep.of_wr W3).1) (Keep.of_wr W7).1)
  have g_b11 : n0 ≤ b11 := Nat.le_trans q12 (Nat.le_of_eq g11.symm)
  have q13 := (Nat.le_trans (Nat.le_trans (Nat.le_trans (Nat.le_refl h0.size) (Keep.of_wr W2).1) (Keep.of_wr W3).1) (Keep.of_wr W7).1)
  have sz_b11 : h0.size ≤ b11 := Nat.le_trans q13 (Nat.le_of_eq g11.symm)
  have V_b11 : Arv Z h11 b11 k11 .int (2 : Int32) [(.int (0 : Int32)), (.int (0 : Int32))] (.int (0 : Int32)) := (Arv.new A11 (by decide)).pad (pad_rep [] (.int (0 : Int32)) 2)
  refine own_of st11 ?_
  show own_Out p e below _ (T11.setTop (mkF m 22 #[rv o0, rv o1, rv o2, iv 2, .unset, .unset, .unset, .unset, .unset] [.ref b11]))
  refine o_astore X11 hx hby d4_22 rfl (l' := #[rv o0, rv o1, rv o2, iv 2, rv b11, .unset, .unset, .unset, .unset]) rfl (q := 24) rfl ?_
  refine o_aloadN X11 hx hby d4_24 rfl rfl (q := 25) rfl ?_
  refine o_astore X11 hx hby d4_25 rfl (l' := #[rv o0, rv o1, rv o2, iv 2, rv b11, rv o2, .unset, .unset, .unset]) rfl (q := 27) rfl ?_
  refine o_aload X11 hx hby d4_27 rfl rfl (q := 29) rfl ?_
  have q14 := ((((V.other W2 n2).other W3 n2).other W7 n2).ext E11)
  refine o_lenV X11 hx hby hZ e11 q14 d4_29 (q := 30) rfl ?_
  refine o_istore X11 hx hby d4_30 (l' := #[rv o0, rv o1, rv o2, iv 2, rv b11, rv o2, iv 4, .unset, .unset]) rfl (q := 32) rfl ?_
  refine o_iconst X11 hx hby d4_32 (z := 0) rfl (q := 33) rfl ?_
  refine o_istore X11 hx hby d4_33 (l' := #[rv o0, rv o1, rv o2, iv 2, rv b11, rv o2, iv 4, iv 0, .unset]) rfl (q := 35) rfl ?_
  refine t1 X11 hx hby hZ e11 q14 V_b11 rfl ⟨by decide, by decide⟩ (cc := 0) rfl ⟨by decide, by decide⟩ (y := 0) rfl (y' := 1) rfl (i' := 1) rfl (iN := 0) rfl (Nat.le_of_ble_eq_true rfl) fun T15 h15 X15 e15 W15 V15 => ?_
  have ne_o2_b11 : o2 ≠ b11 := Nat.ne_of_lt (Nat.lt_of_lt_of_le V.lt sz_b11)
  have q16 := (q14.other W15 ne_o2_b11)
  refine t1 X15 hx hby hZ e15 q16 V15 rfl ⟨by decide, by decide⟩ (cc := 1) rfl ⟨by decide, by decide⟩ (y := 0) rfl (y' := 1) rfl (i' := 2) rfl (iN := 1) rfl (Nat.le_of_ble_eq_true rfl) fun T17 h17 X17 e17 W17 V17 => ?_
  have q18 := (q16.other W17 ne_o2_b11)
  refine t1 X17 hx hby hZ e17 q18 V17 rfl ⟨by decide, by decide⟩ (cc := 0) rfl ⟨by decide, by decide⟩ (y := 1) rfl (y' := 2) rfl (i' := 3) rfl (iN := 0) rfl (Nat.le_of_ble_eq_true rfl) fun T19 h19 X19 e19 W19 V19 => ?_
  have q20 := (q18.other W19 ne_o2_b11)
  refine t1 X19 hx hby hZ e19 q20 V19 rfl ⟨by decide, by decide⟩ (cc := 0) rfl ⟨by decide, by decide⟩ (y := 2) rfl (y' := 3) rfl (i' := 4) rfl (iN := 0) rfl (Nat.le_of_ble_eq_true rfl) fun T21 h21 X21 e21 W21 V21 => ?_
  refine o_iload X21 hx hby d4_35 rfl (q := 37) rfl ?_
  refine o_iload X21 hx hby d4_37 rfl (q := 39) rfl ?_
  refine o_icY X21 hx hby d4_39 (flt (by decide : ¬ ((4 : Int32) < (4 : Int32)))).2.1 (by decide) (q := 64) (by decide) ?_
  refine o_aloadN X21 hx hby d4_64 rfl rfl (q := 65) rfl ?_
  refine o_iloadN X21 hx hby d4_65 rfl (q := 66) rfl ?_
  obtain ⟨T22, h22, k22, X22, e22, E22, A22, Ex22, O22, st22⟩ := newRA X21 hx hZ hown (ty := .int) (by decide +kernel) (w_ hw 35 rfl) (w_ hw 36 rfl) e21 (g := (mkF m 66 #[rv o0, rv o1, rv o2, iv 2, rv b11, rv o2, iv 4, iv 4, iv 0] [.int 2, .ref o0])) rfl (hb hby d4_66) rfl (by decide) (cap := 2) (by decide) (by decide) (by decide) (by decide) (ad := "[[I") (by decide +kernel)
  obtain ⟨b22, g22⟩ : ∃ z, z = h21.size := ⟨_, rfl⟩
  rw [← g22] at A22 Ex22 st22
  have q23 := (Nat.le_trans (Nat.le_trans (Nat.le_trans (Nat.le_trans (Nat.le_trans q12 E11.1) (Keep.of_wr W15).1) (Keep.of_wr W17).1) (Keep.of_wr W19).1) (Keep.of_wr W21).1)
  have g_b22 : n0 ≤ b22 := Nat.le_trans q23 (Nat.le_of_eq g22.symm)
  have q24 := (Nat.le_trans (Nat.le_trans (Nat.le_trans (Nat.le_trans (Nat.le_trans q13 E11.1) (Keep.of_wr W15).1) (Keep.of_wr W17).1) (Keep.of_wr W19).1) (Keep.of_wr W21).1)
  have sz_b22 : h0.size ≤ b22 := Nat.le_trans q24 (Nat.le_of_eq g22.symm)
  have V_b22 : Arv Z h22 b22 k22 (.array .int) (2 : Int32) [.null, .null] .null := (Arv.new A22 (by decide)).pad (pad_rep [] .null 2)
  refine own_of st22 ?_
  show own_Out p e below _ (T22.setTop (mkF m 69 #[rv o0, rv o1, rv o2, iv 2, rv b11, rv o2, iv 4, iv 4, iv 0] [.ref b22, .ref o0]))
  have ne_o0_b11 : o0 ≠ b11 := Nat.ne_of_lt (Nat.lt_of_lt_of_le E.lt sz_b11)
  have q26 := (((((((((F_classes.other W2 (Or.inr (slot_ne (Or.inr (w_ hw 38 rfl)) (Or.inr (w_ hw 30 rfl)) (by decide) (t := (.array (.array .int))) (t' := (.object "java/lang/String")) (by decide) (by decide)))).other W3 (Or.inr (slot_ne (Or.inr (w_ hw 38 rfl)) (Or.inr (w_ hw 32 rfl)) (by decide) (t := (.array (.array .int))) (t' := (.array .int)) (by decide) (by decide)))).other W7 (Or.inr (slot_ne (Or.inr (w_ hw 38 rfl)) (Or.inr (w_ hw 34 rfl)) (by decide) (t := (.array (.array .int))) (t' := .int) (by decide) (by decide)))).ext E11).other W15 (Or.inl ne_o0_b11)).other W17 (Or.inl ne_o0_b11)).other W19 (Or.inl ne_o0_b11)).other W21 (Or.inl ne_o0_b11)).ext E22)
  have q27 := (((((((q9.wr W7).ext E11).wr W15).wr W17).wr W19).wr W21).ext E22)
  obtain ⟨T25, h25, X25, e25, W25, st25⟩ := putF X22 hx hZ hown (host := "") (Or.inl (w_ hw 37 rfl)) Via.refl e22 q26 q27 (Or.inr ⟨(w_ hw 38 rfl), rfl, hnm⟩) (w_ hw 10 rfl) (ty := (.array (.array .int))) (by decide) rfl rfl (g := (mkF m 69 #[rv o0, rv o1, rv o2, iv 2, rv b11, rv o2, iv 4, iv 4, iv 0] [.ref b22, .ref o0])) rfl rfl (hb hby d4_69)
  have q28 := (((((((((F_classes.other W2 (Or.inr (slot_ne (Or.inr (w_ hw 38 rfl)) (Or.inr (w_ hw 30 rfl)) (by decide) (t := (.array (.array .int))) (t' := (.object "java/lang/String")) (by decide) (by decide)))).other W3 (Or.inr (slot_ne (Or.inr (w_ hw 38 rfl)) (Or.inr (w_ hw 32 rfl)) (by decide) (t := (.array (.array .int))) (t' := (.array .int)) (by decide) (by decide)))).other W7 (Or.inr (slot_ne (Or.inr (w_ hw 38 rfl)) (Or.inr (w_ hw 34 rfl)) (by decide) (t := (.array (.array .int))) (t' := .int) (by decide) (by decide)))).ext E11).other W15 (Or.inl ne_o0_b11)).other W17 (Or.inl ne_o0_b11)).other W19 (Or.inl ne_o0_b11)).other W21 (Or.inl ne_o0_b11)).ext E22)
  have Fw25 := q28.same W25
  refine own_of st25 ?_
  show own_Out p e below _ (T25.setTop (mkF m 72 #[rv o0, rv o1, rv o2, iv 2, rv b11, rv o2, iv 4, iv 4, iv 0] []))
  refine o_iconst X25 hx hby d4_72 (z := 0) rfl (q := 73) rfl ?_
  refine o_istore X25 hx hby d4_73 (l' := #[rv o0, rv o1, rv o2, iv 2, rv b11, iv 0, iv 4, iv 4, iv 0]) rfl (q := 75) rfl ?_
  refine o_iload X25 hx hby d4_75 rfl (q := 77) rfl ?_
  refine o_iloadN X25 hx hby d4_77 rfl (q := 78) rfl ?_
  refine o_icN X25 hx hby d4_78 (tlt (by decide : (0 : Int32) < (2 : Int32))).2.1 (q := 81) rfl ?_
  refine o_aloadN X25 hx hby d4_81 rfl rfl (q := 82) rfl ?_
  refine o_getF X25 hx hZ hown hby (w_ hw 37 rfl) Via.refl e25 Fw25 d4_82 (q := 85) rfl fun T29 X29 e29 => ?_
  refine o_iload X29 hx hby d4_85 rfl (q := 87) rfl ?_
  refine o_aload X29 hx hby d4_87 rfl rfl (q := 89) rfl ?_
  refine o_iload X29 hx hby d4_89 rfl (q := 91) rfl ?_
  have q30 := ((V21.ext E22).other W25 (Ne.symm ne_o0_b11))
  refine o_iaV X29 hx hby hZ e29 q30 ⟨by decide, by decide⟩ (v := .int 3) rfl d4_91 (q := 92) rfl ?_
  obtain ⟨T31, h31, k31, X31, e31, E31, A31, Ex31, st31⟩ := newPE X29 hx hZ (w_ hw 4 rfl) e29 (g := (mkF m 92 #[rv o0, rv o1, rv o2, iv 2, rv b11, iv 0, iv 4, iv 4, iv 0] [.int 3, .int 0, .ref b22])) rfl (hb hby d4_92) rfl (by decide) (cap := 3) (by decide) (by decide) (by decide) (by decide) (ad := "[I") (by decide +kernel)
  obtain ⟨b31, g31⟩ : ∃ z, z = h25.size := ⟨_, rfl⟩
  rw [← g31] at A31 Ex31 st31
  have q32 := (Nat.le_trans (Nat.le_trans q23 E22.1) (Keep.of_wr W25).1)
  have g_b31 : n0 ≤ b31 := Nat.le_trans q32 (Nat.le_of_eq g31.symm)
  have q33 := (Nat.le_trans (Nat.le_trans q24 E22.1) (Keep.of_wr W25).1)
  have sz_b31 : h0.size ≤ b31 := Nat.le_trans q33 (Nat.le_of_eq g31.symm)
  have V_b31 : Arv Z h31 b31 k31 .int (3 : Int32) [(.int (0 : Int32)), (.int (0 : Int32)), (.int (0 : Int32))] (.int (0 : Int32)) := (Arv.new A31 (by decide)).pad (pad_rep [] (.int (0 : Int32)) 3)
  refine own_of st31 ?_
  show own_Out p e below _ (T31.setTop (mkF m 94 #[rv o0, rv o1, rv o2, iv 2, rv b11, iv 0, iv 4, iv 4, iv 0] [.ref b31, .int 0, .ref b22]))
  have ne_o0_b22 : o0 ≠ b22 := Nat.ne_of_lt (Nat.lt_of_lt_of_le E.lt sz_b22)
  have q34 := ((V_b22.other W25 (Ne.symm ne_o0_b22)).ext E31)
  refine o_stVR X31 hx hby hZ e31 q34 ⟨by decide, by decide⟩ 0 rfl (Nat.le_of_ble_eq_true rfl) O22 (Ins.self Ex31) d4_94 (q := 95) rfl fun T35 h35 X35 e35 W35 V35 => ?_
  refine o_iinc X35 hx hby d4_95 rfl (l' := #[rv o0, rv o1, rv o2, iv 2, rv b11, iv 1, iv 4, iv 4, iv 0]) rfl (q := 98) rfl ?_
  refine o_goto X35 hx hby d4_98 (by decide) (q := 75) (by decide) ?_
  refine o_iload X35 hx hby d4_75 rfl (q := 77) rfl ?_
  refine o_iloadN X35 hx hby d4_77 rfl (q := 78) rfl ?_
  refine o_icN X35 hx hby d4_78 (tlt (by decide : (1 : Int32) < (2 : Int32))).2.1 (q := 81) rfl ?_
  refine o_aloadN X35 hx hby d4_81 rfl rfl (q := 82) rfl ?_
  have q37 := ((Fw25.ext E31).other W35 (Or.inl ne_o0_b22))
  refine o_getF X35 hx hZ hown hby (w_ hw 37 rfl) Via.refl e35 q37 d4_82 (q := 85) rfl fun T36 X36 e36 => ?_
  refine o_iload X36 hx hby d4_85 rfl (q := 87) rfl ?_
  refine o_aload X36 hx hby d4_87 rfl rfl (q := 89) rfl ?_
  refine o_iload X36 hx hby d4_89 rfl (q := 91) rfl ?_
  have ne_b11_b22 : b11 ≠ b22 := Nat.ne_of_lt (Nat.lt_of_lt_of_le (Nat.lt_of_lt_of_le (Nat.lt_of_lt_of_le (Nat.lt_of_lt_of_le (Nat.lt_of_lt_of_le A11.lt (Keep.of_wr W15).1) (Keep.of_wr W17).1) (Keep.of_wr W19).1) (Keep.of_wr W21).1) (Nat.le_of_eq g22.symm))
  have q38 := ((q30.ext E31).other W35 ne_b11_b22)
  refine o_iaV X36 hx hby hZ e36 q38 ⟨by decide, by decide⟩ (v := .int 1) rfl d4_91 (q := 92) rfl ?_
  obtain ⟨T39, h39, k39, X39, e39, E39, A39, Ex39, st39⟩ := newPE X36 hx hZ (w_ hw 4 rfl) e36 (g := (mkF m 92 #[rv o0, rv o1, rv o2, iv 2, rv b11, iv 1, iv 4, iv 4, iv 0] [.int 1, .int 1, .ref b22])) rfl (hb hby d4_92) rfl (by decide) (cap := 1) (by decide) (by decide) (by decide) (by decide) (ad := "[I") (by decide +kernel)
  obtain ⟨b39, g39⟩ : ∃ z, z = h35.size := ⟨_, rfl⟩
  rw [← g39] at A39 Ex39 st39
  have q40 := (Nat.le_trans (Nat.le_trans q32 E31.1) (Keep.of_wr W35).1)
  have g_b39 : n0 ≤ b39 := Nat.le_trans q40 (Nat.le_of_eq g39.symm)
  have q41 := (Nat.le_trans (Nat.le_trans q33 E31.1) (Keep.of_wr W35).1)
  have sz_b39 : h0.size ≤ b39 := Nat.le_trans q41 (Nat.le_of_eq g39.symm)
  have V_b39 : Arv Z h39 b39 k39 .int (1 : Int32) [(.int (0 : Int32))] (.int (0 : Int32)) := (Arv.new A39 (by decide)).pad (pad_rep [] (.int (0 : Int32)) 1)
  refine own_of st39 ?_
  show own_Out p e below _ (T39.setTop (mkF m 94 #[rv o0, rv o1, rv o2, iv 2, rv b11, iv 1, iv 4, iv 4, iv 0] [.ref b39, .int 1, .ref b22]))
  have q42 := (V35.ext E39)
  refine o_stVR X39 hx hby hZ e39 q42 ⟨by decide, by decide⟩ 1 rfl (Nat.le_of_ble_eq_true rfl) O22 (Ins.self Ex39) d4_94 (q := 95) rfl fun T43 h43 X43 e43 W43 V43 => ?_
  refine o_iinc X43 hx hby d4_95 rfl (l' := #[rv o0, rv o1, rv o2, iv 2, rv b11, iv 2, iv 4, iv 4, iv 0]) rfl (q := 98) rfl ?_
  refine o_goto X43 hx hby d4_98 (by decide) (q := 75) (by decide) ?_
  refine o_iload X43 hx hby d4_75 rfl (q := 77) rfl ?_
  refine o_iloadN X43 hx hby d4_77 rfl (q := 78) rfl ?_
  refine o_icY X43 hx hby d4_78 (flt (by decide : ¬ ((2 : Int32) < (2 : Int32)))).2.1 (by decide) (q := 101) (by decide) ?_
  refine o_iloadN X43 hx hby d4_101 rfl (q := 102) rfl ?_
  obtain ⟨T44, h44, k44, X44, e44, E44, A44, Ex44, st44⟩ := newPE X43 hx hZ (w_ hw 4 rfl) e43 (g := (mkF m 102 #[rv o0, rv o1, rv o2, iv 2, rv b11, iv 2, iv 4, iv 4, iv 0] [.int 2])) rfl (hb hby d4_102) rfl (by decide) (cap := 2) (by decide) (by decide) (by decide) (by decide) (ad := "[I") (by decide +kernel)
  obtain ⟨b44, g44⟩ : ∃ z, z = h43.size := ⟨_, rfl⟩
  rw [← g44] at A44 Ex44 st44
  have q45 := (Nat.le_trans (Nat.le_trans q40 E39.1) (Keep.of_wr W43).1)
  have g_b44 : n0 ≤ b44 := Nat.le_trans q45 (Nat.le_of_eq g44.symm)
  have q46 := (Nat.le_trans (Nat.le_trans q41 E39.1) (Keep.of_wr W43).1)
  have sz_b44 : h0.size ≤ b44 := Nat.le_trans q46 (Nat.le_of_eq g44.symm)
  have V_b44 : Arv Z h44 b44 k44 .int (2 : Int32) [(.int (0 : Int32)), (.int (0 : Int32))] (.int (0 : Int32)) := (Arv.new A44 (by decide)).pad (pad_rep [] (.int (0 : Int32)) 2)
  refine own_of st44 ?_
  show own_Out p e below _ (T44.setTop (mkF m 104 #[rv o0, rv o1, rv o2, iv 2, rv b11, iv 2, iv 4, iv 4, iv 0] [.ref b44]))
  refine o_astore X44 hx hby d4_104 rfl (l' := #[rv o0, rv o1, rv o2, iv 2, rv b11, rv b44, iv 4, iv 4, iv 0]) rfl (q := 106) rfl ?_
  refine o_iconst X44 hx hby d4_106 (z := 0) rfl (q := 107) rfl ?_
  refine o_istore X44 hx hby d4_107 (l' := #[rv o0, rv o1, rv o2, iv 2, rv b11, rv b44, iv 0, iv 4, iv 0]) rfl (q := 109) rfl ?_
  have ne_o2_b22 : o2 ≠ b22 := Nat.ne_of_lt (Nat.lt_of_lt_of_le V.lt sz_b22)
  have q49 := ((((((((q20.other W21 ne_o2_b11).ext E22).other W25 n2).ext E31).other W35 ne_o2_b22).ext E39).other W43 ne_o2_b22).ext E44)
  have q50 := (((q37.ext E39).other W43 (Or.inl ne_o0_b22)).ext E44)
  have q51 := (V43.ext E44)
  have ne_b22_b31 : b22 ≠ b31 := Nat.ne_of_lt (Nat.lt_of_lt_of_le (Nat.lt_of_lt_of_le A22.lt (Keep.of_wr W25).1) (Nat.le_of_eq g31.symm))
  have q52 := ((((V_b31.other W35 (Ne.symm ne_b22_b31)).ext E39).other W43 (Ne.symm ne_b22_b31)).ext E44)
  have ne_b31_b44 : b31 ≠ b44 := Nat.ne_of_lt (Nat.lt_of_lt_of_le (Nat.lt_of_lt_of_le (Nat.lt_of_lt_of_le (Nat.lt_of_lt_of_le A31.lt (Keep.of_wr W35).1) E39.1) (Keep.of_wr W43).1) (Nat.le_of_eq g44.symm))
  refine t3 X44 hx hby hZ e44 hw hown q49 q50 q51 V_b44 q52 ne_b31_b44 ⟨by decide, by decide⟩ (x := 0) rfl ⟨by decide, by decide⟩ rfl (f := 0) rfl ⟨by decide, by decide⟩ (f' := 1) rfl (i' := 1) rfl (iN := 0) rfl (Nat.le_of_ble_eq_true rfl) (jN := 0) rfl (Nat.le_of_ble_eq_true rfl) fun T48 h47 h48 X48 e48 W47 W48 V47 V48 => ?_
  have ne_o2_b44 : o2 ≠ b44 := Nat.ne_of_lt (Nat.lt_of_lt_of_le V.lt sz_b44)
  have ne_o2_b31 : o2 ≠ b31 := Nat.ne_of_lt (Nat.lt_of_lt_of_le V.lt sz_b31)
  have q55 := ((q49.other W47 ne_o2_b44).other W48 ne_o2_b31)
  have ne_o0_b44 : o0 ≠ b44 := Nat.ne_of_lt (Nat.lt_of_lt_of_le E.lt sz_b44)
  have ne_o0_b31 : o0 ≠ b31 := Nat.ne_of_lt (Nat.lt_of_lt_of_le E.lt sz_b31)
  have q56 := ((q50.other W47 (Or.inl ne_o0_b44)).other W48 (Or.inl ne_o0_b31))
  have ne_b22_b44 : b22 ≠ b44 := Nat.ne_of_lt (Nat.lt_of_lt_of_le (Nat.lt_of_lt_of_le (Nat.lt_of_lt_of_le (Nat.lt_of_lt_of_le (Nat.lt_of_lt_of_le (Nat.lt_of_lt_of_le A22.lt (Keep.of_wr W25).1) E31.1) (Keep.of_wr W35).1) E39.1) (Keep.of_wr W43).1) (Nat.le_of_eq g44.symm))
  have q57 := ((q51.other W47 ne_b22_b44).other W48 ne_b22_b31)
  have q58 := (V47.other W48 (Ne.symm ne_b31_b44))
  have ne_b22_b39 : b22 ≠ b39 := Nat.ne_of_lt (Nat.lt_of_lt_of_le (Nat.lt_of_lt_of_le (Nat.lt_of_lt_of_le (Nat.lt_of_lt_of_le A22.lt (Keep.of_wr W25).1) E31.1) (Keep.of_wr W35).1) (Nat.le_of_eq g39.symm))
  have ne_b39_b44 : b39 ≠ b44 := Nat.ne_of_lt (Nat.lt_of_lt_of_le (Nat.lt_of_lt_of_le A39.lt (Keep.of_wr W43).1) (Nat.le_of_eq g44.symm))
  have ne_b31_b39 : b31 ≠ b39 := Nat.ne_of_lt (Nat.lt_of_lt_of_le (Nat.lt_of_lt_of_le A31.lt (Keep.of_wr W35).1) (Nat.le_of_eq g39.symm))
  have q59 := ((((V_b39.other W43 (Ne.symm ne_b22_b39)).ext E44).other W47 ne_b39_b44).other W48 (Ne.symm ne_b31_b39))
  refine t3 X48 hx hby hZ e48 hw hown q55 q56 q57 q58 q59 ne_b39_b44 ⟨by decide, by decide⟩ (x := 1) rfl ⟨by decide, by decide⟩ rfl (f := 0) rfl ⟨by decide, by decide⟩ (f' := 1) rfl (i' := 2) rfl (iN := 1) rfl (Nat.le_of_ble_eq_true rfl) (jN := 0) rfl (Nat.le_of_ble_eq_true rfl) fun T54 h53 h54 X54 e54 W53 W54 V53 V54 => ?_
  have ne_o2_b39 : o2 ≠ b39 := Nat.ne_of_lt (Nat.lt_of_lt_of_le V.lt sz_b39)
  have q62 := ((q55.other W53 ne_o2_b44).other W54 ne_o2_b39)
  have ne_o0_b39 : o0 ≠ b39 := Nat.ne_of_lt (Nat.lt_of_lt_of_le E.lt sz_b39)
  have q63 := ((q56.other W53 (Or.inl ne_o0_b44)).other W54 (Or.inl ne_o0_b39))
  have q64 := ((q57.other W53 ne_b22_b44).other W54 ne_b22_b39)
  have q65 := (V53.other W54 (Ne.symm ne_b39_b44))
  have q66 := ((V48.other W53 ne_b31_b44).other W54 ne_b31_b39)
  refine t3 X54 hx hby hZ e54 hw hown q62 q63 q64 q65 q66 ne_b31_b44 ⟨by decide, by decide⟩ (x := 0) rfl ⟨by decide, by decide⟩ rfl (f := 1) rfl ⟨by decide, by decide⟩ (f' := 2) rfl (i' := 3) rfl (iN := 0) rfl (Nat.le_of_ble_eq_true rfl) (jN := 1) rfl (Nat.le_of_ble_eq_true rfl) fun T61 h60 h61 X61 e61 W60 W61 V60 V61 => ?_
  have q69 := ((q62.other W60 ne_o2_b44).other W61 ne_o2_b31)
  have q70 := ((q63.other W60 (Or.inl ne_o0_b44)).other W61 (Or.inl ne_o0_b31))
  have q71 := ((q64.other W60 ne_b22_b44).other W61 ne_b22_b31)
  have q72 := (V60.other W61 (Ne.symm ne_b31_b44))
  refine t3 X61 hx hby hZ e61 hw hown q69 q70 q71 q72 V61 ne_b31_b44 ⟨by decide, by decide⟩ (x := 0) rfl ⟨by decide, by decide⟩ rfl (f := 2) rfl ⟨by decide, by decide⟩ (f' := 3) rfl (i' := 4) rfl (iN := 0) rfl (Nat.le_of_ble_eq_true rfl) (jN := 2) rfl (Nat.le_of_ble_eq_true rfl) fun T68 h67 h68 X68 e68 W67 W68 V67 V68 => ?_
  refine o_iload X68 hx hby d4_109 rfl (q := 111) rfl ?_
  refine o_aloadN X68 hx hby d4_111 rfl rfl (q := 112) rfl ?_
  have q73 := ((q69.other W67 ne_o2_b44).other W68 ne_o2_b31)
  refine o_lenV X68 hx hby hZ e68 q73 d4_112 (q := 113) rfl ?_
  refine o_icY X68 hx hby d4_113 (flt (by decide : ¬ ((4 : Int32) < (4 : Int32)))).2.1 (by decide) (q := 146) (by decide) ?_
  have q74 := ((q70.other W67 (Or.inl ne_o0_b44)).other W68 (Or.inl ne_o0_b31))
  have q75 := ((q71.other W67 ne_b22_b44).other W68 ne_b22_b31)
  have q76 := ((((V54.other W60 ne_b39_b44).other W61 (Ne.symm ne_b31_b39)).other W67 ne_b39_b44).other W68 (Ne.symm ne_b31_b39))
  have q77 := ((((((((((((((((((((((((Keep.refl h0 [o0]).wr W2 (Or.inl (List.mem_of_getElem? (i := 0) rfl))).wr W3 (Or.inl (List.mem_of_getElem? (i := 0) rfl))).wr W7 (Or.inl (List.mem_of_getElem? (i := 0) rfl))).ext E11).wr W15 (Or.inr sz_b11)).wr W17 (Or.inr sz_b11)).wr W19 (Or.inr sz_b11)).wr W21 (Or.inr sz_b11)).ext E22).wr W25 (Or.inl (List.mem_of_getElem? (i := 0) rfl))).ext E31).wr W35 (Or.inr sz_b22)).ext E39).wr W43 (Or.inr sz_b22)).ext E44).wr W47 (Or.inr sz_b44)).wr W48 (Or.inr sz_b31)).wr W53 (Or.inr sz_b44)).wr W54 (Or.inr sz_b39)).wr W60 (Or.inr sz_b44)).wr W61 (Or.inr sz_b31)).wr W67 (Or.inr sz_b44)).wr W68 (Or.inr sz_b31))
  have q78 := ((((((((((((((q27.wr W25).ext E31).wr W35).ext E39).wr W43).ext E44).wr W47).wr W48).wr W53).wr W54).wr W60).wr W61).wr W67).wr W68)
  have q79 := (((((((((((((((((((((Fw3.other W7 (Or.inr (slot_ne (Or.inr (w_ hw 32 rfl)) (Or.inr (w_ hw 34 rfl)) (by decide) (t := (.array .int)) (t' := .int) (by decide) (by decide)))).ext E11).other W15 (Or.inl ne_o0_b11)).other W17 (Or.inl ne_o0_b11)).other W19 (Or.inl ne_o0_b11)).other W21 (Or.inl ne_o0_b11)).ext E22).other W25 (Or.inr (slot_ne (Or.inr (w_ hw 32 rfl)) (Or.inr (w_ hw 38 rfl)) (by decide) (t := (.array .int)) (t' := (.array (.array .int))) (by decide) (by decide)))).ext E31).other W35 (Or.inl ne_o0_b22)).ext E39).other W43 (Or.inl ne_o0_b22)).ext E44).other W47 (Or.inl ne_o0_b44)).other W48 (Or.inl ne_o0_b31)).other W53 (Or.inl ne_o0_b44)).other W54 (Or.inl ne_o0_b39)).other W60 (Or.inl ne_o0_b44)).other W61 (Or.inl ne_o0_b31)).other W67 (Or.inl ne_o0_b44)).other W68 (Or.inl ne_o0_b31))
  have q80 := ((((((((((((((((((((Fw7.ext E11).other W15 (Or.inl ne_o0_b11)).other W17 (Or.inl ne_o0_b11)).other W19 (Or.inl ne_o0_b11)).other W21 (Or.inl ne_o0_b11)).ext E22).other W25 (Or.inr (slot_ne (Or.inr (w_ hw 34 rfl)) (Or.inr (w_ hw 38 rfl)) (by decide) (t := .int) (t' := (.array (.array .int))) (by decide) (by decide)))).ext E31).other W35 (Or.inl ne_o0_b22)).ext E39).other W43 (Or.inl ne_o0_b22)).ext E44).other W47 (Or.inl ne_o0_b44)).other W48 (Or.inl ne_o0_b31)).other W53 (Or.inl ne_o0_b44)).other W54 (Or.inl ne_o0_b39)).other W60 (Or.inl ne_o0_b44)).other W61 (Or.inl ne_o0_b31)).other W67 (Or.inl ne_o0_b44)).other W68 (Or.inl ne_o0_b31))
  exact own_outV X68 hx hlk hret (hb hby d4_146) (Q := Q4c0100n2 Z o0 o1 o2 k2 h0 n0) (by rw [e68]; exact ⟨rfl, (Fr.snoc X68 (own_snoc (Fr.snoc X61 (own_snoc (Fr.snoc X54 (own_snoc (Fr.snoc X48 (own_snoc (Fr.snoc X43 (Fr.snoc X35 (Fr.snoc X25 (Fr.snoc X21 (Fr.snoc X19 (Fr.snoc X17 (Fr.snoc X15 (Fr.snoc X7 (Fr.snoc X3 (Fr.snoc X2 N0 g_o0) g_o0) g_o0) g_b11) g_b11) g_b11) g_b11) g_o0) g_b22) g_b22) g_b44) g_b31) g_b44) g_b39) g_b44) g_b31) g_b44) g_b31), q77, q78, q79, q80, (fun l a0 hw ws h' K o1 oc kc c0 c1 c2 c3 n1 Z1 Fc Vc => rm7r0100 l Z a0 hw ws o0 o1 b22 k22 b31 k31 b39 k39 oc kc c0 c1 c2 c3 h' n1 Z1 (q74.keep K nin0) (q75.keep K nin0) (V68.keep K nin0) (q76.keep K nin0) Fc Vc)⟩) (by decide) (by decide)
theorem ef_7r0101 (m : MethodId) (x0 : Addr) (x1 : Addr) : entryFrame m #[(.ref x0), (.ref x1)] 10 = mkF m 0 #[.val (.ref x0), .val (.ref x1), .unset, .unset, .unset, .unset, .unset, .unset, .unset, .unset] [] := by first | (simp [entryFrame, mkF, argsToLocals, Value.category]; done) | rfl
def fr0101 (c0 : Int32) (c1 : Int32) (c2 : Int32) (c3 : Int32) : Int32 := if c2 = c0 then (if c3 = c1 then (1 : Int32)
    else (0 : Int32))
  else (0 : Int32)
def Q7r0101 (Z : State) (o0 : Addr) (o1 : Addr) (cc : Addr) (kcc : ClassId) (d0 : Addr) (kd0 : ClassId) (d1 : Addr) (kd1 : ClassId) (oc : Addr) (kc : ClassId) (c0 : Int32) (c1 : Int32) (c2 : Int32) (c3 : Int32) (h0 : Heap) (n0 : Nat) (v : Option Value) (h : Heap) (L : List Loc) : Prop := v = some (.int (fr0101 c0 c1 c2 c3)) ∧ Fr n0 L ∧ h = h0
set_option maxRecDepth 65536 in
set_option maxHeartbeats 40000000 in
theorem rm7r0101 (l : Launch) (Z : State) (a0 : Array Value) (hw : ∀ d ∈ tables_1, d.before a0 Z = true) (ws : List Jvm.Cond) (o0 : Addr) (o1 : Addr) (cc : Addr) (kcc : ClassId) (d0 : Addr) (kd0 : ClassId) (d1 : Addr) (kd1 : ClassId) (oc : Addr) (kc : ClassId) (c0 : Int32) (c1 : Int32) (c2 : Int32) (c3 : Int32) (h0 : Heap) (n0 : Nat) (Z0 : n0 ≤ h0.size) (Fs : Fld Z h0 o0 "com/example/slimc/slimc/game/Observation" "classes" "[[I" (.ref cc)) (Vcc : Arv Z h0 cc kcc (.array .int) (2 : Int32) [(.ref d0), (.ref d1)] .null) (Vd0 : Arv Z h0 d0 kd0 .int (2 : Int32) [(.int (0 : Int32)), (.int (2 : Int32))] (.int (0 : Int32))) (Vd1 : Arv Z h0 d1 kd1 .int (2 : Int32) [(.int (1 : Int32)), (.int (3 : Int32))] (.int (0 : Int32))) (Fc : Fld Z h0 o1 "com/example/slimc/slimc/game/Observation" "classOf" "[I" (.ref oc)) (Vc : Arv Z h0 oc kc .int (4 : Int32) [(.int c0), (.int c1), (.int c2), (.int c3)] (.int (0 : Int32))) :
    MetFree l (⟨"com/example/slimc/slimc/game/Observation", "refines", "(Lcom/example/slimc/slimc/game/Observation;)Z"⟩ : MethodName) (head1 (Jvm.Cond.code (⟨"com/example/slimc/slimc/game/Observation", "refines", "(Lcom/example/slimc/slimc/game/Observation;)Z"⟩ : MethodName) prog_66_method_8_code 10 (some .boolean) :: ws) ({ frames := 0, cells := 0, slots := 0, locals := 0 } : Room)) (fun a U => a = #[(.ref o0), (.ref o1)] ∧ Z.Warmed39 U.vm ∧ U.heap = h0) (fun _ _ _ _ _ => True) (fun _ U o U' => ∃ v L, o = .returned v ∧ Q7r0101 Z o0 o1 cc kcc d0 kd0 d1 kd1 oc kc c0 c1 c2 c3 h0 n0 v U'.heap L ∧ FrameEnd U o U' L ({ frames := 0, cells := 0, slots := 0, locals := 0 } : Room).cells ({ frames := 0, cells := 0, slots := 0, locals := 0 } : Room).slots) := by
  refine MetFree.of_bodySF (plainFor_of_name pn_1) hisR ?_
  intro p e s m args below meth c s₁ Bd hml0 hP hK
  obtain ⟨rfl, hZ, hh⟩ := hP
  have hx := Bd.exec
  have hby := Bd.bytes
  have hml : c.maxLocals = 10 := hml0
  have hown : s.vm.findClass "com/example/slimc/slimc/game/Observation" = some m.cls := findClass_of_methodNamed Bd.named
  have hnm := (name_of_methodNamed Bd.named Bd.method).1
  have X0 : Stand p l e ({ frames := 0, cells := 0, slots := 0, locals := 0 } : Room) s m #[(.ref o0), (.ref o1)] below meth c s₁ [] 0 0 := Stand.of_body Bd
  have e0 : s₁.heap = h0 := by rw [← hh, Bd.state]; rfl
  have N0 := Fr.nil n0
  have hret := Bd.returns
  have hlk := BodyLoose.notSynchronized Bd
  show own_Out p e below (fun o U' => ∃ v L, o = .returned v ∧ Q7r0101 Z o0 o1 cc kcc d0 kd0 d1 kd1 oc kc c0 c1 c2 c3 h0 n0 v U'.heap L ∧ FrameEnd s o U' L ({ frames := 0, cells := 0, slots := 0, locals := 0 } : Room).cells ({ frames := 0, cells := 0, slots := 0, locals := 0 } : Room).slots) (s₁.setTop (entryFrame m #[(.ref o0), (.ref o1)] 10))
  refine own_of (fun t k => castTop (ef_7r0101 m o0 o1) k) ?_
  show own_Out p e below _ (s₁.setTop (mkF m 0 #[rv o0, rv o1, .unset, .unset, .unset, .unset, .unset, .unset, .unset, .unset] []))
  refine o_aloadN X0 hx hby d7_0 rfl rfl (q := 1) rfl ?_
  refine o_getF X0 hx hZ hown hby (w_ hw 37 rfl) Via.refl e0 Fs d7_1 (q := 4) rfl fun T1 X1 e1 => ?_
  refine o_astoreN X1 hx hby d7_4 rfl (l' := #[rv o0, rv o1, rv cc, .unset, .unset, .unset, .unset, .unset, .unset, .unset]) rfl (q := 5) rfl ?_
  refine o_aloadN X1 hx hby d7_5 rfl rfl (q := 6) rfl ?_
  refine o_lenV X1 hx hby hZ e1 Vcc d7_6 (q := 7) rfl ?_
  refine o_istoreN X1 hx hby d7_7 (l' := #[rv o0, rv o1, rv cc, iv 2, .unset, .unset, .unset, .unset, .unset, .unset]) rfl (q := 8) rfl ?_
  refine o_iconst X1 hx hby d7_8 (z := 0) rfl (q := 9) rfl ?_
  refine o_istore X1 hx hby d7_9 (l' := #[rv o0, rv o1, rv cc, iv 2, iv 0, .unset, .unset, .unset, .unset, .unset]) rfl (q := 11) rfl ?_
  refine o_iload X1 hx hby d7_11 rfl (q := 13) rfl ?_
  refine o_iloadN X1 hx hby d7_13 rfl (q := 14) rfl ?_
  refine o_icN X1 hx hby d7_14 (tlt (by decide : (0 : Int32) < (2 : Int32))).2.1 (q := 17) rfl ?_
  refine o_aloadN X1 hx hby d7_17 rfl rfl (q := 18) rfl ?_
  refine o_iload X1 hx hby d7_18 rfl (q := 20) rfl ?_
  refine o_aaV X1 hx hby hZ e1 Vcc rfl ⟨by decide, by decide⟩ (v := .ref d0) rfl d7_20 (q := 21) rfl ?_
  refine o_astore X1 hx hby d7_21 rfl (l' := #[rv o0, rv o1, rv cc, iv 2, iv 0, rv d0, .unset, .unset, .unset, .unset]) rfl (q := 23) rfl ?_
  refine o_aload X1 hx hby d7_23 rfl rfl (q := 25) rfl ?_
  refine o_astore X1 hx hby d7_25 rfl (l' := #[rv o0, rv o1, rv cc, iv 2, iv 0, rv d0, rv d0, .unset, .unset, .unset]) rfl (q := 27) rfl ?_
  refine o_aload X1 hx hby d7_27 rfl rfl (q := 29) rfl ?_
  refine o_lenV X1 hx hby hZ e1 Vd0 d7_29 (q := 30) rfl ?_
  refine o_istore X1 hx hby d7_30 (l' := #[rv o0, rv o1, rv cc, iv 2, iv 0, rv d0, rv d0, iv 2, .unset, .unset]) rfl (q := 32) rfl ?_
  refine o_iconst X1 hx hby d7_32 (z := 0) rfl (q := 33) rfl ?_
  refine o_istore X1 hx hby d7_33 (l' := #[rv o0, rv o1, rv cc, iv 2, iv 0, rv d0, rv d0, iv 2, iv 0, .unset]) rfl (q := 35) rfl ?_
  refine o_iload X1 hx hby d7_35 rfl (q := 37) rfl ?_
  refine o_iload X1 hx hby d7_37 rfl (q := 39) rfl ?_
  refine o_icN X1 hx hby d7_39 (tlt (by decide : (0 : Int32) < (2 : Int32))).2.1 (q := 42) rfl ?_
  refine o_aload X1 hx hby d7_42 rfl rfl (q := 44) rfl ?_
  refine o_iload X1 hx hby d7_44 rfl (q := 46) rfl ?_
  refine o_iaV X1 hx hby hZ e1 Vd0 ⟨by decide, by decide⟩ (v := .int 0) rfl d7_46 (q := 47) rfl ?_
  refine o_istore X1 hx hby d7_47 (l' := #[rv o0, rv o1, rv cc, iv 2, iv 0, rv d0, rv d0, iv 2, iv 0, iv 0]) rfl (q := 49) rfl ?_
  refine o_aloadN X1 hx hby d7_49 rfl rfl (q := 50) rfl ?_
  refine o_getF X1 hx hZ hown hby (w_ hw 31 rfl) Via.refl e1 Fc d7_50 (q := 53) rfl fun T2 X2 e2 => ?_
  refine o_iload X2 hx hby d7_53 rfl (q := 55) rfl ?_
  refine o_iaV X2 hx hby hZ e2 Vc ⟨by decide, by decide⟩ (v := .int c0) rfl d7_55 (q := 56) rfl ?_
  refine o_aloadN X2 hx hby d7_56 rfl rfl (q := 57) rfl ?_
  refine o_getF X2 hx hZ hown hby (w_ hw 31 rfl) Via.refl e2 Fc d7_57 (q := 60) rfl fun T3 X3 e3 => ?_
  refine o_aload X3 hx hby d7_60 rfl rfl (q := 62) rfl ?_
  refine o_iconst X3 hx hby d7_62 (z := 0) rfl (q := 63) rfl ?_
  refine o_iaV X3 hx hby hZ e3 Vd0 ⟨by decide, by decide⟩ (v := .int 0) rfl d7_63 (q := 64) rfl ?_
  refine o_iaV X3 hx hby hZ e3 Vc ⟨by decide, by decide⟩ (v := .int c0) rfl d7_64 (q := 65) rfl ?_
  refine o_icY X3 hx hby d7_65 (teq (rfl : c0 = c0)).1 (by decide) (q := 70) (by decide) ?_
  refine o_iinc X3 hx hby d7_70 rfl (l' := #[rv o0, rv o1, rv cc, iv 2, iv 0, rv d0, rv d0, iv 2, iv 1, iv 0]) rfl (q := 73) rfl ?_
  refine o_goto X3 hx hby d7_73 (by decide) (q := 35) (by decide) ?_
  refine o_iload X3 hx hby d7_35 rfl (q := 37) rfl ?_
  refine o_iload X3 hx hby d7_37 rfl (q := 39) rfl ?_
  refine o_icN X3 hx hby d7_39 (tlt (by decide : (1 : Int32) < (2 : Int32))).2.1 (q := 42) rfl ?_
  refine o_aload X3 hx hby d7_42 rfl rfl (q := 44) rfl ?_
  refine o_iload X3 hx hby d7_44 rfl (q := 46) rfl ?_
  refine o_iaV X3 hx hby hZ e3 Vd0 ⟨by decide, by decide⟩ (v := .int 2) rfl d7_46 (q := 47) rfl ?_
  refine o_istore X3 hx hby d7_47 (l' := #[rv o0, rv o1, rv cc, iv 2, iv 0, rv d0, rv d0, iv 2, iv 1, iv 2]) rfl (q := 49) rfl ?_
  refine o_aloadN X3 hx hby d7_49 rfl rfl (q := 50) rfl ?_
  refine o_getF X3 hx hZ hown hby (w_ hw 31 rfl) Via.refl e3 Fc d7_50 (q := 53) rfl fun T4 X4 e4 => ?_
  refine o_iload X4 hx hby d7_53 rfl (q := 55) rfl ?_
  refine o_iaV X4 hx hby hZ e4 Vc ⟨by decide, by decide⟩ (v := .int c2) rfl d7_55 (q := 56) rfl ?_
  refine o_aloadN X4 hx hby d7_56 rfl rfl (q := 57) rfl ?_
  refine o_getF X4 hx hZ hown hby (w_ hw 31 rfl) Via.refl e4 Fc d7_57 (q := 60) rfl fun T5 X5 e5 => ?_
  refine o_aload X5 hx hby d7_60 rfl rfl (q := 62) rfl ?_
  refine o_iconst X5 hx hby d7_62 (z := 0) rfl (q := 63) rfl ?_
  refine o_iaV X5 hx hby hZ e5 Vd0 ⟨by decide, by decide⟩ (v := .int 0) rfl d7_63 (q := 64) rfl ?_
  refine o_iaV X5 hx hby hZ e5 Vc ⟨by decide, by decide⟩ (v := .int c0) rfl d7_64 (q := 65) rfl ?_
  by_cases hc65_6 : c2 = c0
  · skip
    refine o_icY X5 hx hby d7_65 (teq hc65_6).1 (by decide) (q := 70) (by decide) ?_
    refine o_iinc X5 hx hby d7_70 rfl (l' := #[rv o0, rv o1, rv cc, iv 2, iv 0, rv d0, rv d0, iv 2, iv 2, iv 2]) rfl (q := 73) rfl ?_
    refine o_goto X5 hx hby d7_73 (by decide) (q := 35) (by decide) ?_
    refine o_iload X5 hx hby d7_35 rfl (q := 37) rfl ?_
    refine o_iload X5 hx hby d7_37 rfl (q := 39) rfl ?_
    refine o_icY X5 hx hby d7_39 (flt (by decide : ¬ ((2 : Int32) < (2 : Int32)))).2.1 (by decide) (q := 76) (by decide) ?_
    refine o_iinc X5 hx hby d7_76 rfl (l' := #[rv o0, rv o1, rv cc, iv 2, iv 1, rv d0, rv d0, iv 2, iv 2, iv 2]) rfl (q := 79) rfl ?_
    refine o_goto X5 hx hby d7_79 (by decide) (q := 11) (by decide) ?_
    refine o_iload X5 hx hby d7_11 rfl (q := 13) rfl ?_
    refine o_iloadN X5 hx hby d7_13 rfl (q := 14) rfl ?_
    refine o_icN X5 hx hby d7_14 (tlt (by decide : (1 : Int32) < (2 : Int32))).2.1 (q := 17) rfl ?_
    refine o_aloadN X5 hx hby d7_17 rfl rfl (q := 18) rfl ?_
    refine o_iload X5 hx hby d7_18 rfl (q := 20) rfl ?_
    refine o_aaV X5 hx hby hZ e5 Vcc rfl ⟨by decide, by decide⟩ (v := .ref d1) rfl d7_20 (q := 21) rfl ?_
    refine o_astore X5 hx hby d7_21 rfl (l' := #[rv o0, rv o1, rv cc, iv 2, iv 1, rv d1, rv d0, iv 2, iv 2, iv 2]) rfl (q := 23) rfl ?_
    refine o_aload X5 hx hby d7_23 rfl rfl (q := 25) rfl ?_
    refine o_astore X5 hx hby d7_25 rfl (l' := #[rv o0, rv o1, rv cc, iv 2, iv 1, rv d1, rv d1, iv 2, iv 2, iv 2]) rfl (q := 27) rfl ?_
    refine o_aload X5 hx hby d7_27 rfl rfl (q := 29) rfl ?_
    refine o_lenV X5 hx hby hZ e5 Vd1 d7_29 (q := 30) rfl ?_
    refine o_istore X5 hx hby d7_30 (l' := #[rv o0, rv o1, rv cc, iv 2, iv 1, rv d1, rv d1, iv 2, iv 2, iv 2]) rfl (q := 32) rfl ?_
    refine o_iconst X5 hx hby d7_32 (z := 0) rfl (q := 33) rfl ?_
    refine o_istore X5 hx hby d7_33 (l' := #[rv o0, rv o1, rv cc, iv 2, iv 1, rv d1, rv d1, iv 2, iv 0, iv 2]) rfl (q := 35) rfl ?_
    refine o_iload X5 hx hby d7_35 rfl (q := 37) rfl ?_
    refine o_iload X5 hx hby d7_37 rfl (q := 39) rfl ?_
    refine o_icN X5 hx hby d7_39 (tlt (by decide : (0 : Int32) < (2 : Int32))).2.1 (q := 42) rfl ?_
    refine o_aload X5 hx hby d7_42 rfl rfl (q := 44) rfl ?_
    refine o_iload X5 hx hby d7_44 rfl (q := 46) rfl ?_
    refine o_iaV X5 hx hby hZ e5 Vd1 ⟨by decide, by decide⟩ (v := .int 1) rfl d7_46 (q := 47) rfl ?_
    refine o_istore X5 hx hby d7_47 (l' := #[rv o0, rv o1, rv cc, iv 2, iv 1, rv d1, rv d1, iv 2, iv 0, iv 1]) rfl (q := 49) rfl ?_
    refine o_aloadN X5 hx hby d7_49 rfl rfl (q := 50) rfl ?_
    refine o_getF X5 hx hZ hown hby (w_ hw 31 rfl) Via.refl e5 Fc d7_50 (q := 53) rfl fun T7 X7 e7 => ?_
    refine o_iload X7 hx hby d7_53 rfl (q := 55) rfl ?_
    refine o_iaV X7 hx hby hZ e7 Vc ⟨by decide, by decide⟩ (v := .int c1) rfl d7_55 (q := 56) rfl ?_
    refine o_aloadN X7 hx hby d7_56 rfl rfl (q := 57) rfl ?_
    refine o_getF X7 hx hZ hown hby (w_ hw 31 rfl) Via.refl e7 Fc d7_57 (q := 60) rfl fun T8 X8 e8 => ?_
    refine o_aload X8 hx hby d7_60 rfl rfl (q := 62) rfl ?_
    refine o_iconst X8 hx hby d7_62 (z := 0) rfl (q := 63) rfl ?_
    refine o_iaV X8 hx hby hZ e8 Vd1 ⟨by decide, by decide⟩ (v := .int 1) rfl d7_63 (q := 64) rfl ?_
    refine o_iaV X8 hx hby hZ e8 Vc ⟨by decide, by decide⟩ (v := .int c1) rfl d7_64 (q := 65) rfl ?_
    refine o_icY X8 hx hby d7_65 (teq (rfl : c1 = c1)).1 (by decide) (q := 70) (by decide) ?_
    refine o_iinc X8 hx hby d7_70 rfl (l' := #[rv o0, rv o1, rv cc, iv 2, iv 1, rv d1, rv d1, iv 2, iv 1, iv 1]) rfl (q := 73) rfl ?_
    refine o_goto X8 hx hby d7_73 (by decide) (q := 35) (by decide) ?_
    refine o_iload X8 hx hby d7_35 rfl (q := 37) rfl ?_
    refine o_iload X8 hx hby d7_37 rfl (q := 39) rfl ?_
    refine o_icN X8 hx hby d7_39 (tlt (by decide : (1 : Int32) < (2 : Int32))).2.1 (q := 42) rfl ?_
    refine o_aload X8 hx hby d7_42 rfl rfl (q := 44) rfl ?_
    refine o_iload X8 hx hby d7_44 rfl (q := 46) rfl ?_
    refine o_iaV X8 hx hby hZ e8 Vd1 ⟨by decide, by decide⟩ (v := .int 3) rfl d7_46 (q := 47) rfl ?_
    refine o_istore X8 hx hby d7_47 (l' := #[rv o0, rv o1, rv cc, iv 2, iv 1, rv d1, rv d1, iv 2, iv 1, iv 3]) rfl (q := 49) rfl ?_
    refine o_aloadN X8 hx hby d7_49 rfl rfl (q := 50) rfl ?_
    refine o_getF X8 hx hZ hown hby (w_ hw 31 rfl) Via.refl e8 Fc d7_50 (q := 53) rfl fun T9 X9 e9 => ?_
    refine o_iload X9 hx hby d7_53 rfl (q := 55) rfl ?_
    refine o_iaV X9 hx hby hZ e9 Vc ⟨by decide, by decide⟩ (v := .int c3) rfl d7_55 (q := 56) rfl ?_
    refine o_aloadN X9 hx hby d7_56 rfl rfl (q := 57) rfl ?_
    refine o_getF X9 hx hZ hown hby (w_ hw 31 rfl) Via.refl e9 Fc d7_57 (q := 60) rfl fun T10 X10 e10 => ?_
    refine o_aload X10 hx hby d7_60 rfl rfl (q := 62) rfl ?_
    refine o_iconst X10 hx hby d7_62 (z := 0) rfl (q := 63) rfl ?_
    refine o_iaV X10 hx hby hZ e10 Vd1 ⟨by decide, by decide⟩ (v := .int 1) rfl d7_63 (q := 64) rfl ?_
    refine o_iaV X10 hx hby hZ e10 Vc ⟨by decide, by decide⟩ (v := .int c1) rfl d7_64 (q := 65) rfl ?_
    by_cases hc65_11 : c3 = c1
    · skip
      refine o_icY X10 hx hby d7_65 (teq hc65_11).1 (by decide) (q := 70) (by decide) ?_
      refine o_iinc X10 hx hby d7_70 rfl (l' := #[rv o0, rv o1, rv cc, iv 2, iv 1, rv d1, rv d1, iv 2, iv 2, iv 3]) rfl (q := 73) rfl ?_
      refine o_goto X10 hx hby d7_73 (by decide) (q := 35) (by decide) ?_
      refine o_iload X10 hx hby d7_35 rfl (q := 37) rfl ?_
      refine o_iload X10 hx hby d7_37 rfl (q := 39) rfl ?_
      refine o_icY X10 hx hby d7_39 (flt (by decide : ¬ ((2 : Int32) < (2 : Int32)))).2.1 (by decide) (q := 76) (by decide) ?_
      refine o_iinc X10 hx hby d7_76 rfl (l' := #[rv o0, rv o1, rv cc, iv 2, iv 2, rv d1, rv d1, iv 2, iv 2, iv 3]) rfl (q := 79) rfl ?_
      refine o_goto X10 hx hby d7_79 (by decide) (q := 11) (by decide) ?_
      refine o_iload X10 hx hby d7_11 rfl (q := 13) rfl ?_
      refine o_iloadN X10 hx hby d7_13 rfl (q := 14) rfl ?_
      refine o_icY X10 hx hby d7_14 (flt (by decide : ¬ ((2 : Int32) < (2 : Int32)))).2.1 (by decide) (q := 82) (by decide) ?_
      refine o_iconst X10 hx hby d7_82 (z := 1) rfl (q := 83) rfl ?_
      exact own_outN X10 hx hlk (t := .boolean) hret (by simp) (hb hby d7_83) (z' := (1 : Int32)) rfl (Q := Q7r0101 Z o0 o1 cc kcc d0 kd0 d1 kd1 oc kc c0 c1 c2 c3 h0 n0) ⟨by simp only [fr0101, if_pos hc65_6, if_pos hc65_11], N0, e10⟩ (by decide) (by decide)
    · skip
      refine o_icN X10 hx hby d7_65 (feq hc65_11).1 (q := 68) rfl ?_
      refine o_iconst X10 hx hby d7_68 (z := 0) rfl (q := 69) rfl ?_
      exact own_outN X10 hx hlk (t := .boolean) hret (by simp) (hb hby d7_69) (z' := (0 : Int32)) rfl (Q := Q7r0101 Z o0 o1 cc kcc d0 kd0 d1 kd1 oc kc c0 c1 c2 c3 h0 n0) ⟨by simp only [fr0101, if_pos hc65_6, if_neg hc65_11], N0, e10⟩ (by decide) (by decide)
  · skip
    refine o_icN X5 hx hby d7_65 (feq hc65_6).1 (q := 68) rfl ?_
    refine o_iconst X5 hx hby d7_68 (z := 0) rfl (q := 69) rfl ?_
    exact own_outN X5 hx hlk (t := .boolean) hret (by simp) (hb hby d7_69) (z' := (0 : Int32)) rfl (Q := Q7r0101 Z o0 o1 cc kcc d0 kd0 d1 kd1 oc kc c0 c1 c2 c3 h0 n0) ⟨by simp only [fr0101, if_neg hc65_6], N0, e5⟩ (by decide) (by decide)
theorem ef_4c0101n2 (m : MethodId) (x0 : Addr) (x1 : Addr) (x2 : Addr) : entryFrame m #[(.ref x0), (.ref x1), (.ref x2), (.int (2 : Int32))] 9 = mkF m 0 #[.val (.ref x0), .val (.ref x1), .val (.ref x2), .val (.int (2 : Int32)), .unset, .unset, .unset, .unset, .unset] [] := by first | (simp [entryFrame, mkF, argsToLocals, Value.category]; done) | rfl
def Q4c0101n2 (Z : State) (o0 : Addr) (o1 : Addr) (o2 : Addr) (k2 : ClassId) (h0 : Heap) (n0 : Nat) (v : Option Value) (h : Heap) (L : List Loc) : Prop := v = none ∧ Fr n0 L ∧ Keep h0 h [o0] ∧ Exa Z h o0 "com/example/slimc/slimc/game/Observation" ∧ Fld Z h o0 "com/example/slimc/slimc/game/Observation" "classOf" "[I" (.ref o2) ∧ Fld Z h o0 "com/example/slimc/slimc/game/Observation" "classCount" "I" (.int (2 : Int32)) ∧ RefOk Z h o0 fr0101
set_option maxRecDepth 65536 in
set_option maxHeartbeats 40000000 in
theorem rm4c0101n2 (l : Launch) (Z : State) (a0 : Array Value) (hw : ∀ d ∈ tables_1, d.before a0 Z = true) (ws : List Jvm.Cond) (o0 : Addr) (o1 : Addr) (o2 : Addr) (k2 : ClassId) (h0 : Heap) (n0 : Nat) (Z0 : n0 ≤ h0.size) (E : Exa Z h0 o0 "com/example/slimc/slimc/game/Observation") (F_name : Fld Z h0 o0 "com/example/slimc/slimc/game/Observation" "name" "Ljava/lang/String;" .null) (F_classOf : Fld Z h0 o0 "com/example/slimc/slimc/game/Observation" "classOf" "[I" .null) (F_classCount : Fld Z h0 o0 "com/example/slimc/slimc/game/Observation" "classCount" "I" (.int (0 : Int32))) (F_classes : Fld Z h0 o0 "com/example/slimc/slimc/game/Observation" "classes" "[[I" .null) (g_o0 : n0 ≤ o0) (V : Arv Z h0 o2 k2 .int (4 : Int32) [(.int (0 : Int32)), (.int (1 : Int32)), (.int (0 : Int32)), (.int (1 : Int32))] (.int (0 : Int32))) (n2 : o2 ≠ o0) :
    MetFree l (⟨"com/example/slimc/slimc/game/Observation", "<init>", "(Ljava/lang/String;[II)V"⟩ : MethodName) (head1 (Jvm.Cond.code (⟨"com/example/slimc/slimc/game/Observation", "<init>", "(Ljava/lang/String;[II)V"⟩ : MethodName) prog_66_method_1_code 9 none :: ws) ({ frames := 1, cells := 7, slots := 16, locals := 14 } : Room)) (fun a U => a = #[(.ref o0), (.ref o1), (.ref o2), (.int (2 : Int32))] ∧ Z.Warmed39 U.vm ∧ U.heap = h0) (fun _ _ _ _ _ => True) (fun _ U o U' => ∃ v L, o = .returned v ∧ Q4c0101n2 Z o0 o1 o2 k2 h0 n0 v U'.heap L ∧ FrameEnd U o U' L ({ frames := 1, cells := 7, slots := 16, locals := 14 } : Room).cells ({ frames := 1, cells := 7, slots := 16, locals := 14 } : Room).slots) := by
  refine MetFree.of_bodySF (plainFor_of_name pn_1) hisR ?_
  intro p e s m args below meth c s₁ Bd hml0 hP hK
  obtain ⟨rfl, hZ, hh⟩ := hP
  have hx := Bd.exec
  have hby := Bd.bytes
  have hml : c.maxLocals = 9 := hml0
  have hown : s.vm.findClass "com/example/slimc/slimc/game/Observation" = some m.cls := findClass_of_methodNamed Bd.named
  have hnm := (name_of_methodNamed Bd.named Bd.method).1
  have X0 : Stand p l e ({ frames := 1, cells := 7, slots := 16, locals := 14 } : Room) s m #[(.ref o0), (.ref o1), (.ref o2), (.int (2 : Int32))] below meth c s₁ [] 0 0 := Stand.of_body Bd
  have e0 : s₁.heap = h0 := by rw [← hh, Bd.state]; rfl
  have N0 := Fr.nil n0
  have hret := Bd.returns
  have hlk := BodyLoose.notSynchronized Bd
  show own_Out p e below (fun o U' => ∃ v L, o = .returned v ∧ Q4c0101n2 Z o0 o1 o2 k2 h0 n0 v U'.heap L ∧ FrameEnd s o U' L ({ frames := 1, cells := 7, slots := 16, locals := 14 } : Room).cells ({ frames := 1, cells := 7, slots := 16, locals := 14 } : Room).slots) (s₁.setTop (entryFrame m #[(.ref o0), (.ref o1), (.ref o2), (.int (2 : Int32))] 9))
  refine own_of (fun t k => castTop (ef_4c0101n2 m o0 o1 o2) k) ?_
  show own_Out p e below _ (s₁.setTop (mkF m 0 #[rv o0, rv o1, rv o2, iv 2, .unset, .unset, .unset, .unset, .unset] []))
  refine o_aloadN X0 hx hby d4_0 rfl rfl (q := 1) rfl ?_
  obtain ⟨T1, X1, e1, st1⟩ := initO X0 hx hZ hown (w_ hw 26 rfl) (w_ hw 27 rfl) (w_ hw 28 rfl) e0 (g := (mkF m 1 #[rv o0, rv o1, rv o2, iv 2, .unset, .unset, .unset, .unset, .unset] [.ref o0])) rfl (by rw [hml]; rfl) rfl (hb hby d4_1) (by decide) (W := 0) (by show 2 * 0 + _ ≤ _; exact Nat.le_of_eq rfl) (by decide)
  refine own_of st1 ?_
  show own_Out p e below _ (T1.setTop (mkF m 4 #[rv o0, rv o1, rv o2, iv 2, .unset, .unset, .unset, .unset, .unset] []))
  refine o_aloadN X1 hx hby d4_4 rfl rfl (q := 5) rfl ?_
  refine o_aloadN X1 hx hby d4_5 rfl rfl (q := 6) rfl ?_
  obtain ⟨T2, h2, X2, e2, W2, st2⟩ := putF X1 hx hZ hown (host := "") (Or.inl (w_ hw 29 rfl)) Via.refl e1 F_name E (Or.inr ⟨(w_ hw 30 rfl), rfl, hnm⟩) (w_ hw 10 rfl) (ty := (.object "java/lang/String")) (by decide) rfl rfl (g := (mkF m 6 #[rv o0, rv o1, rv o2, iv 2, .unset, .unset, .unset, .unset, .unset] [.ref o1, .ref o0])) rfl rfl (hb hby d4_6)
  have Fw2 := F_name.same W2
  refine own_of st2 ?_
  show own_Out p e below _ (T2.setTop (mkF m 9 #[rv o0, rv o1, rv o2, iv 2, .unset, .unset, .unset, .unset, .unset] []))
  refine o_aloadN X2 hx hby d4_9 rfl rfl (q := 10) rfl ?_
  refine o_aloadN X2 hx hby d4_10 rfl rfl (q := 11) rfl ?_
  have q4 := (F_classOf.other W2 (Or.inr (slot_ne (Or.inr (w_ hw 32 rfl)) (Or.inr (w_ hw 30 rfl)) (by decide) (t := (.array .int)) (t' := (.object "java/lang/String")) (by decide) (by decide))))
  have q5 := (E.wr W2)
  obtain ⟨T3, h3, X3, e3, W3, st3⟩ := putF X2 hx hZ hown (host := "") (Or.inl (w_ hw 31 rfl)) Via.refl e2 q4 q5 (Or.inr ⟨(w_ hw 32 rfl), rfl, hnm⟩) (w_ hw 10 rfl) (ty := (.array .int)) (by decide) rfl rfl (g := (mkF m 11 #[rv o0, rv o1, rv o2, iv 2, .unset, .unset, .unset, .unset, .unset] [.ref o2, .ref o0])) rfl rfl (hb hby d4_11)
  have q6 := (F_classOf.other W2 (Or.inr (slot_ne (Or.inr (w_ hw 32 rfl)) (Or.inr (w_ hw 30 rfl)) (by decide) (t := (.array .int)) (t' := (.object "java/lang/String")) (by decide) (by decide))))
  have Fw3 := q6.same W3
  refine own_of st3 ?_
  show own_Out p e below _ (T3.setTop (mkF m 14 #[rv o0, rv o1, rv o2, iv 2, .unset, .unset, .unset, .unset, .unset] []))
  refine o_aloadN X3 hx hby d4_14 rfl rfl (q := 15) rfl ?_
  refine o_iloadN X3 hx hby d4_15 rfl (q := 16) rfl ?_
  have q8 := ((F_classCount.other W2 (Or.inr (slot_ne (Or.inr (w_ hw 34 rfl)) (Or.inr (w_ hw 30 rfl)) (by decide) (t := .int) (t' := (.object "java/lang/String")) (by decide) (by decide)))).other W3 (Or.inr (slot_ne (Or.inr (w_ hw 34 rfl)) (Or.inr (w_ hw 32 rfl)) (by decide) (t := .int) (t' := (.array .int)) (by decide) (by decide))))
  have q9 := (q5.wr W3)
  obtain ⟨T7, h7, X7, e7, W7, st7⟩ := putF X3 hx hZ hown (host := "") (Or.inl (w_ hw 33 rfl)) Via.refl e3 q8 q9 (Or.inr ⟨(w_ hw 34 rfl), rfl, hnm⟩) (w_ hw 10 rfl) (ty := .int) (by decide) rfl rfl (g := (mkF m 16 #[rv o0, rv o1, rv o2, iv 2, .unset, .unset, .unset, .unset, .unset] [.int 2, .ref o0])) rfl rfl (hb hby d4_16)
  have q10 := ((F_classCount.other W2 (Or.inr (slot_ne (Or.inr (w_ hw 34 rfl)) (Or.inr (w_ hw 30 rfl)) (by decide) (t := .int) (t' := (.object "java/lang/String")) (by decide) (by decide)))).other W3 (Or.inr (slot_ne (Or.inr (w_ hw 34 rfl)) (Or.inr (w_ hw 32 rfl)) (by decide) (t := .int) (t' := (.array .int)) (by decide) (by decide))))
  have Fw7 := q10.same W7
  refine own_of st7 ?_
  show own_Out p e below _ (T7.setTop (mkF m 19 #[rv o0, rv o1, rv o2, iv 2, .unset, .unset, .unset, .unset, .unset] []))
  refine o_iloadN X7 hx hby d4_19 rfl (q := 20) rfl ?_
  obtain ⟨T11, h11, k11, X11, e11, E11, A11, Ex11, st11⟩ := newPE X7 hx hZ (w_ hw 4 rfl) e7 (g := (mkF m 20 #[rv o0, rv o1, rv o2, iv 2, .unset, .unset, .unset, .unset, .unset] [.int 2])) rfl (hb hby d4_20) rfl (by decide) (cap := 2) (by decide) (by decide) (by decide) (by decide) (ad := "[I") (by decide +kernel)
  obtain ⟨b11, g11⟩ : ∃ z, z = h7.size := ⟨_, rfl⟩
  rw [← g11] at A11 Ex11 st11
  have q12 := (Nat.le_trans (Nat.le_trans (Nat.le_trans Z0 (Keep.of_wr W2).1) (Keep.of_wr W3).1) (Keep.of_wr W7).1)
  have g_b11 : n0 ≤ b11 := Nat.le_trans q12 (Nat.le_of_eq g11.symm)
  have q13 := (Nat.le_trans (Nat.le_trans (Nat.le_trans (Nat.le_refl h0.size) (Keep.of_wr W2).1) (Keep.of_wr W3).1) (Keep.of_wr W7).1)
  have sz_b11 : h0.size ≤ b11 := Nat.le_trans q13 (Nat.le_of_eq g11.symm)
  have V_b11 : Arv Z h11 b11 k11 .int (2 : Int32) [(.int (0 : Int32)), (.int (0 : Int32))] (.int (0 : Int32)) := (Arv.new A11 (by decide)).pad (pad_rep [] (.int (0 : Int32)) 2)
  refine own_of st11 ?_
  show own_Out p e below _ (T11.setTop (mkF m 22 #[rv o0, rv o1, rv o2, iv 2, .unset, .unset, .unset, .unset, .unset] [.ref b11]))
  refine o_astore X11 hx hby d4_22 rfl (l' := #[rv o0, rv o1, rv o2, iv 2, rv b11, .unset, .unset, .unset, .unset]) rfl (q := 24) rfl ?_
  refine o_aloadN X11 hx hby d4_24 rfl rfl (q := 25) rfl ?_
  refine o_astore X11 hx hby d4_25 rfl (l' := #[rv o0, rv o1, rv o2, iv 2, rv b11, rv o2, .unset, .unset, .unset]) rfl (q := 27) rfl ?_
  refine o_aload X11 hx hby d4_27 rfl rfl (q := 29) rfl ?_
  have q14 := ((((V.other W2 n2).other W3 n2).other W7 n2).ext E11)
  refine o_lenV X11 hx hby hZ e11 q14 d4_29 (q := 30) rfl ?_
  refine o_istore X11 hx hby d4_30 (l' := #[rv o0, rv o1, rv o2, iv 2, rv b11, rv o2, iv 4, .unset, .unset]) rfl (q := 32) rfl ?_
  refine o_iconst X11 hx hby d4_32 (z := 0) rfl (q := 33) rfl ?_
  refine o_istore X11 hx hby d4_33 (l' := #[rv o0, rv o1, rv o2, iv 2, rv b11, rv o2, iv 4, iv 0, .unset]) rfl (q := 35) rfl ?_
  refine t1 X11 hx hby hZ e11 q14 V_b11 rfl ⟨by decide, by decide⟩ (cc := 0) rfl ⟨by decide, by decide⟩ (y := 0) rfl (y' := 1) rfl (i' := 1) rfl (iN := 0) rfl (Nat.le_of_ble_eq_true rfl) fun T15 h15 X15 e15 W15 V15 => ?_
  have ne_o2_b11 : o2 ≠ b11 := Nat.ne_of_lt (Nat.lt_of_lt_of_le V.lt sz_b11)
  have q16 := (q14.other W15 ne_o2_b11)
  refine t1 X15 hx hby hZ e15 q16 V15 rfl ⟨by decide, by decide⟩ (cc := 1) rfl ⟨by decide, by decide⟩ (y := 0) rfl (y' := 1) rfl (i' := 2) rfl (iN := 1) rfl (Nat.le_of_ble_eq_true rfl) fun T17 h17 X17 e17 W17 V17 => ?_
  have q18 := (q16.other W17 ne_o2_b11)
  refine t1 X17 hx hby hZ e17 q18 V17 rfl ⟨by decide, by decide⟩ (cc := 0) rfl ⟨by decide, by decide⟩ (y := 1) rfl (y' := 2) rfl (i' := 3) rfl (iN := 0) rfl (Nat.le_of_ble_eq_true rfl) fun T19 h19 X19 e19 W19 V19 => ?_
  have q20 := (q18.other W19 ne_o2_b11)
  refine t1 X19 hx hby hZ e19 q20 V19 rfl ⟨by decide, by decide⟩ (cc := 1) rfl ⟨by decide, by decide⟩ (y := 1) rfl (y' := 2) rfl (i' := 4) rfl (iN := 1) rfl (Nat.le_of_ble_eq_true rfl) fun T21 h21 X21 e21 W21 V21 => ?_
  refine o_iload X21 hx hby d4_35 rfl (q := 37) rfl ?_
  refine o_iload X21 hx hby d4_37 rfl (q := 39) rfl ?_
  refine o_icY X21 hx hby d4_39 (flt (by decide : ¬ ((4 : Int32) < (4 : Int32)))).2.1 (by decide) (q := 64) (by decide) ?_
  refine o_aloadN X21 hx hby d4_64 rfl rfl (q := 65) rfl ?_
  refine o_iloadN X21 hx hby d4_65 rfl (q := 66) rfl ?_
  obtain ⟨T22, h22, k22, X22, e22, E22, A22, Ex22, O22, st22⟩ := newRA X21 hx hZ hown (ty := .int) (by decide +kernel) (w_ hw 35 rfl) (w_ hw 36 rfl) e21 (g := (mkF m 66 #[rv o0, rv o1, rv o2, iv 2, rv b11, rv o2, iv 4, iv 4, iv 1] [.int 2, .ref o0])) rfl (hb hby d4_66) rfl (by decide) (cap := 2) (by decide) (by decide) (by decide) (by decide) (ad := "[[I") (by decide +kernel)
  obtain ⟨b22, g22⟩ : ∃ z, z = h21.size := ⟨_, rfl⟩
  rw [← g22] at A22 Ex22 st22
  have q23 := (Nat.le_trans (Nat.le_trans (Nat.le_trans (Nat.le_trans (Nat.le_trans q12 E11.1) (Keep.of_wr W15).1) (Keep.of_wr W17).1) (Keep.of_wr W19).1) (Keep.of_wr W21).1)
  have g_b22 : n0 ≤ b22 := Nat.le_trans q23 (Nat.le_of_eq g22.symm)
  have q24 := (Nat.le_trans (Nat.le_trans (Nat.le_trans (Nat.le_trans (Nat.le_trans q13 E11.1) (Keep.of_wr W15).1) (Keep.of_wr W17).1) (Keep.of_wr W19).1) (Keep.of_wr W21).1)
  have sz_b22 : h0.size ≤ b22 := Nat.le_trans q24 (Nat.le_of_eq g22.symm)
  have V_b22 : Arv Z h22 b22 k22 (.array .int) (2 : Int32) [.null, .null] .null := (Arv.new A22 (by decide)).pad (pad_rep [] .null 2)
  refine own_of st22 ?_
  show own_Out p e below _ (T22.setTop (mkF m 69 #[rv o0, rv o1, rv o2, iv 2, rv b11, rv o2, iv 4, iv 4, iv 1] [.ref b22, .ref o0]))
  have ne_o0_b11 : o0 ≠ b11 := Nat.ne_of_lt (Nat.lt_of_lt_of_le E.lt sz_b11)
  have q26 := (((((((((F_classes.other W2 (Or.inr (slot_ne (Or.inr (w_ hw 38 rfl)) (Or.inr (w_ hw 30 rfl)) (by decide) (t := (.array (.array .int))) (t' := (.object "java/lang/String")) (by decide) (by decide)))).other W3 (Or.inr (slot_ne (Or.inr (w_ hw 38 rfl)) (Or.inr (w_ hw 32 rfl)) (by decide) (t := (.array (.array .int))) (t' := (.array .int)) (by decide) (by decide)))).other W7 (Or.inr (slot_ne (Or.inr (w_ hw 38 rfl)) (Or.inr (w_ hw 34 rfl)) (by decide) (t := (.array (.array .int))) (t' := .int) (by decide) (by decide)))).ext E11).other W15 (Or.inl ne_o0_b11)).other W17 (Or.inl ne_o0_b11)).other W19 (Or.inl ne_o0_b11)).other W21 (Or.inl ne_o0_b11)).ext E22)
  have q27 := (((((((q9.wr W7).ext E11).wr W15).wr W17).wr W19).wr W21).ext E22)
  obtain ⟨T25, h25, X25, e25, W25, st25⟩ := putF X22 hx hZ hown (host := "") (Or.inl (w_ hw 37 rfl)) Via.refl e22 q26 q27 (Or.inr ⟨(w_ hw 38 rfl), rfl, hnm⟩) (w_ hw 10 rfl) (ty := (.array (.array .int))) (by decide) rfl rfl (g := (mkF m 69 #[rv o0, rv o1, rv o2, iv 2, rv b11, rv o2, iv 4, iv 4, iv 1] [.ref b22, .ref o0])) rfl rfl (hb hby d4_69)
  have q28 := (((((((((F_classes.other W2 (Or.inr (slot_ne (Or.inr (w_ hw 38 rfl)) (Or.inr (w_ hw 30 rfl)) (by decide) (t := (.array (.array .int))) (t' := (.object "java/lang/String")) (by decide) (by decide)))).other W3 (Or.inr (slot_ne (Or.inr (w_ hw 38 rfl)) (Or.inr (w_ hw 32 rfl)) (by decide) (t := (.array (.array .int))) (t' := (.array .int)) (by decide) (by decide)))).other W7 (Or.inr (slot_ne (Or.inr (w_ hw 38 rfl)) (Or.inr (w_ hw 34 rfl)) (by decide) (t := (.array (.array .int))) (t' := .int) (by decide) (by decide)))).ext E11).other W15 (Or.inl ne_o0_b11)).other W17 (Or.inl ne_o0_b11)).other W19 (Or.inl ne_o0_b11)).other W21 (Or.inl ne_o0_b11)).ext E22)
  have Fw25 := q28.same W25
  refine own_of st25 ?_
  show own_Out p e below _ (T25.setTop (mkF m 72 #[rv o0, rv o1, rv o2, iv 2, rv b11, rv o2, iv 4, iv 4, iv 1] []))
  refine o_iconst X25 hx hby d4_72 (z := 0) rfl (q := 73) rfl ?_
  refine o_istore X25 hx hby d4_73 (l' := #[rv o0, rv o1, rv o2, iv 2, rv b11, iv 0, iv 4, iv 4, iv 1]) rfl (q := 75) rfl ?_
  refine o_iload X25 hx hby d4_75 rfl (q := 77) rfl ?_
  refine o_iloadN X25 hx hby d4_77 rfl (q := 78) rfl ?_
  refine o_icN X25 hx hby d4_78 (tlt (by decide : (0 : Int32) < (2 : Int32))).2.1 (q := 81) rfl ?_
  refine o_aloadN X25 hx hby d4_81 rfl rfl (q := 82) rfl ?_
  refine o_getF X25 hx hZ hown hby (w_ hw 37 rfl) Via.refl e25 Fw25 d4_82 (q := 85) rfl fun T29 X29 e29 => ?_
  refine o_iload X29 hx hby d4_85 rfl (q := 87) rfl ?_
  refine o_aload X29 hx hby d4_87 rfl rfl (q := 89) rfl ?_
  refine o_iload X29 hx hby d4_89 rfl (q := 91) rfl ?_
  have q30 := ((V21.ext E22).other W25 (Ne.symm ne_o0_b11))
  refine o_iaV X29 hx hby hZ e29 q30 ⟨by decide, by decide⟩ (v := .int 2) rfl d4_91 (q := 92) rfl ?_
  obtain ⟨T31, h31, k31, X31, e31, E31, A31, Ex31, st31⟩ := newPE X29 hx hZ (w_ hw 4 rfl) e29 (g := (mkF m 92 #[rv o0, rv o1, rv o2, iv 2, rv b11, iv 0, iv 4, iv 4, iv 1] [.int 2, .int 0, .ref b22])) rfl (hb hby d4_92) rfl (by decide) (cap := 2) (by decide) (by decide) (by decide) (by decide) (ad := "[I") (by decide +kernel)
  obtain ⟨b31, g31⟩ : ∃ z, z = h25.size := ⟨_, rfl⟩
  rw [← g31] at A31 Ex31 st31
  have q32 := (Nat.le_trans (Nat.le_trans q23 E22.1) (Keep.of_wr W25).1)
  have g_b31 : n0 ≤ b31 := Nat.le_trans q32 (Nat.le_of_eq g31.symm)
  have q33 := (Nat.le_trans (Nat.le_trans q24 E22.1) (Keep.of_wr W25).1)
  have sz_b31 : h0.size ≤ b31 := Nat.le_trans q33 (Nat.le_of_eq g31.symm)
  have V_b31 : Arv Z h31 b31 k31 .int (2 : Int32) [(.int (0 : Int32)), (.int (0 : Int32))] (.int (0 : Int32)) := (Arv.new A31 (by decide)).pad (pad_rep [] (.int (0 : Int32)) 2)
  refine own_of st31 ?_
  show own_Out p e below _ (T31.setTop (mkF m 94 #[rv o0, rv o1, rv o2, iv 2, rv b11, iv 0, iv 4, iv 4, iv 1] [.ref b31, .int 0, .ref b22]))
  have ne_o0_b22 : o0 ≠ b22 := Nat.ne_of_lt (Nat.lt_of_lt_of_le E.lt sz_b22)
  have q34 := ((V_b22.other W25 (Ne.symm ne_o0_b22)).ext E31)
  refine o_stVR X31 hx hby hZ e31 q34 ⟨by decide, by decide⟩ 0 rfl (Nat.le_of_ble_eq_true rfl) O22 (Ins.self Ex31) d4_94 (q := 95) rfl fun T35 h35 X35 e35 W35 V35 => ?_
  refine o_iinc X35 hx hby d4_95 rfl (l' := #[rv o0, rv o1, rv o2, iv 2, rv b11, iv 1, iv 4, iv 4, iv 1]) rfl (q := 98) rfl ?_
  refine o_goto X35 hx hby d4_98 (by decide) (q := 75) (by decide) ?_
  refine o_iload X35 hx hby d4_75 rfl (q := 77) rfl ?_
  refine o_iloadN X35 hx hby d4_77 rfl (q := 78) rfl ?_
  refine o_icN X35 hx hby d4_78 (tlt (by decide : (1 : Int32) < (2 : Int32))).2.1 (q := 81) rfl ?_
  refine o_aloadN X35 hx hby d4_81 rfl rfl (q := 82) rfl ?_
  have q37 := ((Fw25.ext E31).other W35 (Or.inl ne_o0_b22))
  refine o_getF X35 hx hZ hown hby (w_ hw 37 rfl) Via.refl e35 q37 d4_82 (q := 85) rfl fun T36 X36 e36 => ?_
  refine o_iload X36 hx hby d4_85 rfl (q := 87) rfl ?_
  refine o_aload X36 hx hby d4_87 rfl rfl (q := 89) rfl ?_
  refine o_iload X36 hx hby d4_89 rfl (q := 91) rfl ?_
  have ne_b11_b22 : b11 ≠ b22 := Nat.ne_of_lt (Nat.lt_of_lt_of_le (Nat.lt_of_lt_of_le (Nat.lt_of_lt_of_le (Nat.lt_of_lt_of_le (Nat.lt_of_lt_of_le A11.lt (Keep.of_wr W15).1) (Keep.of_wr W17).1) (Keep.of_wr W19).1) (Keep.of_wr W21).1) (Nat.le_of_eq g22.symm))
  have q38 := ((q30.ext E31).other W35 ne_b11_b22)
  refine o_iaV X36 hx hby hZ e36 q38 ⟨by decide, by decide⟩ (v := .int 2) rfl d4_91 (q := 92) rfl ?_
  obtain ⟨T39, h39, k39, X39, e39, E39, A39, Ex39, st39⟩ := newPE X36 hx hZ (w_ hw 4 rfl) e36 (g := (mkF m 92 #[rv o0, rv o1, rv o2, iv 2, rv b11, iv 1, iv 4, iv 4, iv 1] [.int 2, .int 1, .ref b22])) rfl (hb hby d4_92) rfl (by decide) (cap := 2) (by decide) (by decide) (by decide) (by decide) (ad := "[I") (by decide +kernel)
  obtain ⟨b39, g39⟩ : ∃ z, z = h35.size := ⟨_, rfl⟩
  rw [← g39] at A39 Ex39 st39
  have q40 := (Nat.le_trans (Nat.le_trans q32 E31.1) (Keep.of_wr W35).1)
  have g_b39 : n0 ≤ b39 := Nat.le_trans q40 (Nat.le_of_eq g39.symm)
  have q41 := (Nat.le_trans (Nat.le_trans q33 E31.1) (Keep.of_wr W35).1)
  have sz_b39 : h0.size ≤ b39 := Nat.le_trans q41 (Nat.le_of_eq g39.symm)
  have V_b39 : Arv Z h39 b39 k39 .int (2 : Int32) [(.int (0 : Int32)), (.int (0 : Int32))] (.int (0 : Int32)) := (Arv.new A39 (by decide)).pad (pad_rep [] (.int (0 : Int32)) 2)
  refine own_of st39 ?_
  show own_Out p e below _ (T39.setTop (mkF m 94 #[rv o0, rv o1, rv o2, iv 2, rv b11, iv 1, iv 4, iv 4, iv 1] [.ref b39, .int 1, .ref b22]))
  have q42 := (V35.ext E39)
  refine o_stVR X39 hx hby hZ e39 q42 ⟨by decide, by decide⟩ 1 rfl (Nat.le_of_ble_eq_true rfl) O22 (Ins.self Ex39) d4_94 (q := 95) rfl fun T43 h43 X43 e43 W43 V43 => ?_
  refine o_iinc X43 hx hby d4_95 rfl (l' := #[rv o0, rv o1, rv o2, iv 2, rv b11, iv 2, iv 4, iv 4, iv 1]) rfl (q := 98) rfl ?_
  refine o_goto X43 hx hby d4_98 (by decide) (q := 75) (by decide) ?_
  refine o_iload X43 hx hby d4_75 rfl (q := 77) rfl ?_
  refine o_iloadN X43 hx hby d4_77 rfl (q := 78) rfl ?_
  refine o_icY X43 hx hby d4_78 (flt (by decide : ¬ ((2 : Int32) < (2 : Int32)))).2.1 (by decide) (q := 101) (by decide) ?_
  refine o_iloadN X43 hx hby d4_101 rfl (q := 102) rfl ?_
  obtain ⟨T44, h44, k44, X44, e44, E44, A44, Ex44, st44⟩ := newPE X43 hx hZ (w_ hw 4 rfl) e43 (g := (mkF m 102 #[rv o0, rv o1, rv o2, iv 2, rv b11, iv 2, iv 4, iv 4, iv 1] [.int 2])) rfl (hb hby d4_102) rfl (by decide) (cap := 2) (by decide) (by decide) (by decide) (by decide) (ad := "[I") (by decide +kernel)
  obtain ⟨b44, g44⟩ : ∃ z, z = h43.size := ⟨_, rfl⟩
  rw [← g44] at A44 Ex44 st44
  have q45 := (Nat.le_trans (Nat.le_trans q40 E39.1) (Keep.of_wr W43).1)
  have g_b44 : n0 ≤ b44 := Nat.le_trans q45 (Nat.le_of_eq g44.symm)
  have q46 := (Nat.le_trans (Nat.le_trans q41 E39.1) (Keep.of_wr W43).1)
  have sz_b44 : h0.size ≤ b44 := Nat.le_trans q46 (Nat.le_of_eq g44.symm)
  have V_b44 : Arv Z h44 b44 k44 .int (2 : Int32) [(.int (0 : Int32)), (.int (0 : Int32))] (.int (0 : Int32)) := (Arv.new A44 (by decide)).pad (pad_rep [] (.int (0 : Int32)) 2)
  refine own_of st44 ?_
  show own_Out p e below _ (T44.setTop (mkF m 104 #[rv o0, rv o1, rv o2, iv 2, rv b11, iv 2, iv 4, iv 4, iv 1] [.ref b44]))
  refine o_astore X44 hx hby d4_104 rfl (l' := #[rv o0, rv o1, rv o2, iv 2, rv b11, rv b44, iv 4, iv 4, iv 1]) rfl (q := 106) rfl ?_
  refine o_iconst X44 hx hby d4_106 (z := 0) rfl (q := 107) rfl ?_
  refine o_istore X44 hx hby d4_107 (l' := #[rv o0, rv o1, rv o2, iv 2, rv b11, rv b44, iv 0, iv 4, iv 1]) rfl (q := 109) rfl ?_
  have ne_o2_b22 : o2 ≠ b22 := Nat.ne_of_lt (Nat.lt_of_lt_of_le V.lt sz_b22)
  have q49 := ((((((((q20.other W21 ne_o2_b11).ext E22).other W25 n2).ext E31).other W35 ne_o2_b22).ext E39).other W43 ne_o2_b22).ext E44)
  have q50 := (((q37.ext E39).other W43 (Or.inl ne_o0_b22)).ext E44)
  have q51 := (V43.ext E44)
  have ne_b22_b31 : b22 ≠ b31 := Nat.ne_of_lt (Nat.lt_of_lt_of_le (Nat.lt_of_lt_of_le A22.lt (Keep.of_wr W25).1) (Nat.le_of_eq g31.symm))
  have q52 := ((((V_b31.other W35 (Ne.symm ne_b22_b31)).ext E39).other W43 (Ne.symm ne_b22_b31)).ext E44)
  have ne_b31_b44 : b31 ≠ b44 := Nat.ne_of_lt (Nat.lt_of_lt_of_le (Nat.lt_of_lt_of_le (Nat.lt_of_lt_of_le (Nat.lt_of_lt_of_le A31.lt (Keep.of_wr W35).1) E39.1) (Keep.of_wr W43).1) (Nat.le_of_eq g44.symm))
  refine t3 X44 hx hby hZ e44 hw hown q49 q50 q51 V_b44 q52 ne_b31_b44 ⟨by decide, by decide⟩ (x := 0) rfl ⟨by decide, by decide⟩ rfl (f := 0) rfl ⟨by decide, by decide⟩ (f' := 1) rfl (i' := 1) rfl (iN := 0) rfl (Nat.le_of_ble_eq_true rfl) (jN := 0) rfl (Nat.le_of_ble_eq_true rfl) fun T48 h47 h48 X48 e48 W47 W48 V47 V48 => ?_
  have ne_o2_b44 : o2 ≠ b44 := Nat.ne_of_lt (Nat.lt_of_lt_of_le V.lt sz_b44)
  have ne_o2_b31 : o2 ≠ b31 := Nat.ne_of_lt (Nat.lt_of_lt_of_le V.lt sz_b31)
  have q55 := ((q49.other W47 ne_o2_b44).other W48 ne_o2_b31)
  have ne_o0_b44 : o0 ≠ b44 := Nat.ne_of_lt (Nat.lt_of_lt_of_le E.lt sz_b44)
  have ne_o0_b31 : o0 ≠ b31 := Nat.ne_of_lt (Nat.lt_of_lt_of_le E.lt sz_b31)
  have q56 := ((q50.other W47 (Or.inl ne_o0_b44)).other W48 (Or.inl ne_o0_b31))
  have ne_b22_b44 : b22 ≠ b44 := Nat.ne_of_lt (Nat.lt_of_lt_of_le (Nat.lt_of_lt_of_le (Nat.lt_of_lt_of_le (Nat.lt_of_lt_of_le (Nat.lt_of_lt_of_le (Nat.lt_of_lt_of_le A22.lt (Keep.of_wr W25).1) E31.1) (Keep.of_wr W35).1) E39.1) (Keep.of_wr W43).1) (Nat.le_of_eq g44.symm))
  have q57 := ((q51.other W47 ne_b22_b44).other W48 ne_b22_b31)
  have q58 := (V47.other W48 (Ne.symm ne_b31_b44))
  have ne_b22_b39 : b22 ≠ b39 := Nat.ne_of_lt (Nat.lt_of_lt_of_le (Nat.lt_of_lt_of_le (Nat.lt_of_lt_of_le (Nat.lt_of_lt_of_le A22.lt (Keep.of_wr W25).1) E31.1) (Keep.of_wr W35).1) (Nat.le_of_eq g39.symm))
  have ne_b39_b44 : b39 ≠ b44 := Nat.ne_of_lt (Nat.lt_of_lt_of_le (Nat.lt_of_lt_of_le A39.lt (Keep.of_wr W43).1) (Nat.le_of_eq g44.symm))
  have ne_b31_b39 : b31 ≠ b39 := Nat.ne_of_lt (Nat.lt_of_lt_of_le (Nat.lt_of_lt_of_le A31.lt (Keep.of_wr W35).1) (Nat.le_of_eq g39.symm))
  have q59 := ((((V_b39.other W43 (Ne.symm ne_b22_b39)).ext E44).other W47 ne_b39_b44).other W48 (Ne.symm ne_b31_b39))
  refine t3 X48 hx hby hZ e48 hw hown q55 q56 q57 q58 q59 ne_b39_b44 ⟨by decide, by decide⟩ (x := 1) rfl ⟨by decide, by decide⟩ rfl (f := 0) rfl ⟨by decide, by decide⟩ (f' := 1) rfl (i' := 2) rfl (iN := 1) rfl (Nat.le_of_ble_eq_true rfl) (jN := 0) rfl (Nat.le_of_ble_eq_true rfl) fun T54 h53 h54 X54 e54 W53 W54 V53 V54 => ?_
  have ne_o2_b39 : o2 ≠ b39 := Nat.ne_of_lt (Nat.lt_of_lt_of_le V.lt sz_b39)
  have q62 := ((q55.other W53 ne_o2_b44).other W54 ne_o2_b39)
  have ne_o0_b39 : o0 ≠ b39 := Nat.ne_of_lt (Nat.lt_of_lt_of_le E.lt sz_b39)
  have q63 := ((q56.other W53 (Or.inl ne_o0_b44)).other W54 (Or.inl ne_o0_b39))
  have q64 := ((q57.other W53 ne_b22_b44).other W54 ne_b22_b39)
  have q65 := (V53.other W54 (Ne.symm ne_b39_b44))
  have q66 := ((V48.other W53 ne_b31_b44).other W54 ne_b31_b39)
  refine t3 X54 hx hby hZ e54 hw hown q62 q63 q64 q65 q66 ne_b31_b44 ⟨by decide, by decide⟩ (x := 0) rfl ⟨by decide, by decide⟩ rfl (f := 1) rfl ⟨by decide, by decide⟩ (f' := 2) rfl (i' := 3) rfl (iN := 0) rfl (Nat.le_of_ble_eq_true rfl) (jN := 1) rfl (Nat.le_of_ble_eq_true rfl) fun T61 h60 h61 X61 e61 W60 W61 V60 V61 => ?_
  have q69 := ((q62.other W60 ne_o2_b44).other W61 ne_o2_b31)
  have q70 := ((q63.other W60 (Or.inl ne_o0_b44)).other W61 (Or.inl ne_o0_b31))
  have q71 := ((q64.other W60 ne_b22_b44).other W61 ne_b22_b31)
  have q72 := (V60.other W61 (Ne.symm ne_b31_b44))
  have q73 := ((V54.other W60 ne_b39_b44).other W61 (Ne.symm ne_b31_b39))
  refine t3 X61 hx hby hZ e61 hw hown q69 q70 q71 q72 q73 ne_b39_b44 ⟨by decide, by decide⟩ (x := 1) rfl ⟨by decide, by decide⟩ rfl (f := 1) rfl ⟨by decide, by decide⟩ (f' := 2) rfl (i' := 4) rfl (iN := 1) rfl (Nat.le_of_ble_eq_true rfl) (jN := 1) rfl (Nat.le_of_ble_eq_true rfl) fun T68 h67 h68 X68 e68 W67 W68 V67 V68 => ?_
  refine o_iload X68 hx hby d4_109 rfl (q := 111) rfl ?_
  refine o_aloadN X68 hx hby d4_111 rfl rfl (q := 112) rfl ?_
  have q74 := ((q69.other W67 ne_o2_b44).other W68 ne_o2_b39)
  refine o_lenV X68 hx hby hZ e68 q74 d4_112 (q := 113) rfl ?_
  refine o_icY X68 hx hby d4_113 (flt (by decide : ¬ ((4 : Int32) < (4 : Int32)))).2.1 (by decide) (q := 146) (by decide) ?_
  have q75 := ((q70.other W67 (Or.inl ne_o0_b44)).other W68 (Or.inl ne_o0_b39))
  have q76 := ((q71.other W67 ne_b22_b44).other W68 ne_b22_b39)
  have q77 := ((V61.other W67 ne_b31_b44).other W68 ne_b31_b39)
  have q78 := ((((((((((((((((((((((((Keep.refl h0 [o0]).wr W2 (Or.inl (List.mem_of_getElem? (i := 0) rfl))).wr W3 (Or.inl (List.mem_of_getElem? (i := 0) rfl))).wr W7 (Or.inl (List.mem_of_getElem? (i := 0) rfl))).ext E11).wr W15 (Or.inr sz_b11)).wr W17 (Or.inr sz_b11)).wr W19 (Or.inr sz_b11)).wr W21 (Or.inr sz_b11)).ext E22).wr W25 (Or.inl (List.mem_of_getElem? (i := 0) rfl))).ext E31).wr W35 (Or.inr sz_b22)).ext E39).wr W43 (Or.inr sz_b22)).ext E44).wr W47 (Or.inr sz_b44)).wr W48 (Or.inr sz_b31)).wr W53 (Or.inr sz_b44)).wr W54 (Or.inr sz_b39)).wr W60 (Or.inr sz_b44)).wr W61 (Or.inr sz_b31)).wr W67 (Or.inr sz_b44)).wr W68 (Or.inr sz_b39))
  have q79 := ((((((((((((((q27.wr W25).ext E31).wr W35).ext E39).wr W43).ext E44).wr W47).wr W48).wr W53).wr W54).wr W60).wr W61).wr W67).wr W68)
  have q80 := (((((((((((((((((((((Fw3.other W7 (Or.inr (slot_ne (Or.inr (w_ hw 32 rfl)) (Or.inr (w_ hw 34 rfl)) (by decide) (t := (.array .int)) (t' := .int) (by decide) (by decide)))).ext E11).other W15 (Or.inl ne_o0_b11)).other W17 (Or.inl ne_o0_b11)).other W19 (Or.inl ne_o0_b11)).other W21 (Or.inl ne_o0_b11)).ext E22).other W25 (Or.inr (slot_ne (Or.inr (w_ hw 32 rfl)) (Or.inr (w_ hw 38 rfl)) (by decide) (t := (.array .int)) (t' := (.array (.array .int))) (by decide) (by decide)))).ext E31).other W35 (Or.inl ne_o0_b22)).ext E39).other W43 (Or.inl ne_o0_b22)).ext E44).other W47 (Or.inl ne_o0_b44)).other W48 (Or.inl ne_o0_b31)).other W53 (Or.inl ne_o0_b44)).other W54 (Or.inl ne_o0_b39)).other W60 (Or.inl ne_o0_b44)).other W61 (Or.inl ne_o0_b31)).other W67 (Or.inl ne_o0_b44)).other W68 (Or.inl ne_o0_b39))
  have q81 := ((((((((((((((((((((Fw7.ext E11).other W15 (Or.inl ne_o0_b11)).other W17 (Or.inl ne_o0_b11)).other W19 (Or.inl ne_o0_b11)).other W21 (Or.inl ne_o0_b11)).ext E22).other W25 (Or.inr (slot_ne (Or.inr (w_ hw 34 rfl)) (Or.inr (w_ hw 38 rfl)) (by decide) (t := .int) (t' := (.array (.array .int))) (by decide) (by decide)))).ext E31).other W35 (Or.inl ne_o0_b22)).ext E39).other W43 (Or.inl ne_o0_b22)).ext E44).other W47 (Or.inl ne_o0_b44)).other W48 (Or.inl ne_o0_b31)).other W53 (Or.inl ne_o0_b44)).other W54 (Or.inl ne_o0_b39)).other W60 (Or.inl ne_o0_b44)).other W61 (Or.inl ne_o0_b31)).other W67 (Or.inl ne_o0_b44)).other W68 (Or.inl ne_o0_b39))
  exact own_outV X68 hx hlk hret (hb hby d4_146) (Q := Q4c0101n2 Z o0 o1 o2 k2 h0 n0) (by rw [e68]; exact ⟨rfl, (Fr.snoc X68 (own_snoc (Fr.snoc X61 (own_snoc (Fr.snoc X54 (own_snoc (Fr.snoc X48 (own_snoc (Fr.snoc X43 (Fr.snoc X35 (Fr.snoc X25 (Fr.snoc X21 (Fr.snoc X19 (Fr.snoc X17 (Fr.snoc X15 (Fr.snoc X7 (Fr.snoc X3 (Fr.snoc X2 N0 g_o0) g_o0) g_o0) g_b11) g_b11) g_b11) g_b11) g_o0) g_b22) g_b22) g_b44) g_b31) g_b44) g_b39) g_b44) g_b31) g_b44) g_b39), q78, q79, q80, q81, (fun l a0 hw ws h' K o1 oc kc c0 c1 c2 c3 n1 Z1 Fc Vc => rm7r0101 l Z a0 hw ws o0 o1 b22 k22 b31 k31 b39 k39 oc kc c0 c1 c2 c3 h' n1 Z1 (q75.keep K nin0) (q76.keep K nin0) (q77.keep K nin0) (V68.keep K nin0) Fc Vc)⟩) (by decide) (by decide)
theorem ef_7r0102 (m : MethodId) (x0 : Addr) (x1 : Addr) : entryFrame m #[(.ref x0), (.ref x1)] 10 = mkF m 0 #[.val (.ref x0), .val (.ref x1), .unset, .unset, .unset, .unset, .unset, .unset, .unset, .unset] [] := by first | (simp [entryFrame, mkF, argsToLocals, Value.category]; done) | rfl
def fr0102 (c0 : Int32) (c1 : Int32) (c2 : Int32) (c3 : Int32) : Int32 := if c2 = c0 then (1 : Int32)
  else (0 : Int32)
def Q7r0102 (Z : State) (o0 : Addr) (o1 : Addr) (cc : Addr) (kcc : ClassId) (d0 : Addr) (kd0 : ClassId) (d1 : Addr) (kd1 : ClassId) (d2 : Addr) (kd2 : ClassId) (oc : Addr) (kc : ClassId) (c0 : Int32) (c1 : Int32) (c2 : Int32) (c3 : Int32) (h0 : Heap) (n0 : Nat) (v : Option Value) (h : Heap) (L : List Loc) : Prop := v = some (.int (fr0102 c0 c1 c2 c3)) ∧ Fr n0 L ∧ h = h0
set_option maxRecDepth 65536 in
set_option maxHeartbeats 40000000 in
theorem rm7r0102 (l : Launch) (Z : State) (a0 : Array Value) (hw : ∀ d ∈ tables_1, d.before a0 Z = true) (ws : List Jvm.Cond) (o0 : Addr) (o1 : Addr) (cc : Addr) (kcc : ClassId) (d0 : Addr) (kd0 : ClassId) (d1 : Addr) (kd1 : ClassId) (d2 : Addr) (kd2 : ClassId) (oc : Addr) (kc : ClassId) (c0 : Int32) (c1 : Int32) (c2 : Int32) (c3 : Int32) (h0 : Heap) (n0 : Nat) (Z0 : n0 ≤ h0.size) (Fs : Fld Z h0 o0 "com/example/slimc/slimc/game/Observation" "classes" "[[I" (.ref cc)) (Vcc : Arv Z h0 cc kcc (.array .int) (3 : Int32) [(.ref d0), (.ref d1), (.ref d2)] .null) (Vd0 : Arv Z h0 d0 kd0 .int (2 : Int32) [(.int (0 : Int32)), (.int (2 : Int32))] (.int (0 : Int32))) (Vd1 : Arv Z h0 d1 kd1 .int (1 : Int32) [(.int (1 : Int32))] (.int (0 : Int32))) (Vd2 : Arv Z h0 d2 kd2 .int (1 : Int32) [(.int (3 : Int32))] (.int (0 : Int32))) (Fc : Fld Z h0 o1 "com/example/slimc/slimc/game/Observation" "classOf" "[I" (.ref oc)) (Vc : Arv Z h0 oc kc .int (4 : Int32) [(.int c0), (.int c1), (.int c2), (.int c3)] (.int (0 : Int32))) :
    MetFree l (⟨"com/example/slimc/slimc/game/Observation", "refines", "(Lcom/example/slimc/slimc/game/Observation;)Z"⟩ : MethodName) (head1 (Jvm.Cond.code (⟨"com/example/slimc/slimc/game/Observation", "refines", "(Lcom/example/slimc/slimc/game/Observation;)Z"⟩ : MethodName) prog_66_method_8_code 10 (some .boolean) :: ws) ({ frames := 0, cells := 0, slots := 0, locals := 0 } : Room)) (fun a U => a = #[(.ref o0), (.ref o1)] ∧ Z.Warmed39 U.vm ∧ U.heap = h0) (fun _ _ _ _ _ => True) (fun _ U o U' => ∃ v L, o = .returned v ∧ Q7r0102 Z o0 o1 cc kcc d0 kd0 d1 kd1 d2 kd2 oc kc c0 c1 c2 c3 h0 n0 v U'.heap L ∧ FrameEnd U o U' L ({ frames := 0, cells := 0, slots := 0, locals := 0 } : Room).cells ({ frames := 0, cells := 0, slots := 0, locals := 0 } : Room).slots) := by
  refine MetFree.of_bodySF (plainFor_of_name pn_1) hisR ?_
  intro p e s m args below meth c s₁ Bd hml0 hP hK
  obtain ⟨rfl, hZ, hh⟩ := hP
  have hx := Bd.exec
  have hby := Bd.bytes
  have hml : c.maxLocals = 10 := hml0
  have hown : s.vm.findClass "com/example/slimc/slimc/game/Observation" = some m.cls := findClass_of_methodNamed Bd.named
  have hnm := (name_of_methodNamed Bd.named Bd.method).1
  have X0 : Stand p l e ({ frames := 0, cells := 0, slots := 0, locals := 0 } : Room) s m #[(.ref o0), (.ref o1)] below meth c s₁ [] 0 0 := Stand.of_body Bd
  have e0 : s₁.heap = h0 := by rw [← hh, Bd.state]; rfl
  have N0 := Fr.nil n0
  have hret := Bd.returns
  have hlk := BodyLoose.notSynchronized Bd
  show own_Out p e below (fun o U' => ∃ v L, o = .returned v ∧ Q7r0102 Z o0 o1 cc kcc d0 kd0 d1 kd1 d2 kd2 oc kc c0 c1 c2 c3 h0 n0 v U'.heap L ∧ FrameEnd s o U' L ({ frames := 0, cells := 0, slots := 0, locals := 0 } : Room).cells ({ frames := 0, cells := 0, slots := 0, locals := 0 } : Room).slots) (s₁.setTop (entryFrame m #[(.ref o0), (.ref o1)] 10))
  refine own_of (fun t k => castTop (ef_7r0102 m o0 o1) k) ?_
  show own_Out p e below _ (s₁.setTop (mkF m 0 #[rv o0, rv o1, .unset, .unset, .unset, .unset, .unset, .unset, .unset, .unset] []))
  refine o_aloadN X0 hx hby d7_0 rfl rfl (q := 1) rfl ?_
  refine o_getF X0 hx hZ hown hby (w_ hw 37 rfl) Via.refl e0 Fs d7_1 (q := 4) rfl fun T1 X1 e1 => ?_
  refine o_astoreN X1 hx hby d7_4 rfl (l' := #[rv o0, rv o1, rv cc, .unset, .unset, .unset, .unset, .unset, .unset, .unset]) rfl (q := 5) rfl ?_
  refine o_aloadN X1 hx hby d7_5 rfl rfl (q := 6) rfl ?_
  refine o_lenV X1 hx hby hZ e1 Vcc d7_6 (q := 7) rfl ?_
  refine o_istoreN X1 hx hby d7_7 (l' := #[rv o0, rv o1, rv cc, iv 3, .unset, .unset, .unset, .unset, .unset, .unset]) rfl (q := 8) rfl ?_
  refine o_iconst X1 hx hby d7_8 (z := 0) rfl (q := 9) rfl ?_
  refine o_istore X1 hx hby d7_9 (l' := #[rv o0, rv o1, rv cc, iv 3, iv 0, .unset, .unset, .unset, .unset, .unset]) rfl (q := 11) rfl ?_
  refine o_iload X1 hx hby d7_11 rfl (q := 13) rfl ?_
  refine o_iloadN X1 hx hby d7_13 rfl (q := 14) rfl ?_
  refine o_icN X1 hx hby d7_14 (tlt (by decide : (0 : Int32) < (3 : Int32))).2.1 (q := 17) rfl ?_
  refine o_aloadN X1 hx hby d7_17 rfl rfl (q := 18) rfl ?_
  refine o_iload X1 hx hby d7_18 rfl (q := 20) rfl ?_
  refine o_aaV X1 hx hby hZ e1 Vcc rfl ⟨by decide, by decide⟩ (v := .ref d0) rfl d7_20 (q := 21) rfl ?_
  refine o_astore X1 hx hby d7_21 rfl (l' := #[rv o0, rv o1, rv cc, iv 3, iv 0, rv d0, .unset, .unset, .unset, .unset]) rfl (q := 23) rfl ?_
  refine o_aload X1 hx hby d7_23 rfl rfl (q := 25) rfl ?_
  refine o_astore X1 hx hby d7_25 rfl (l' := #[rv o0, rv o1, rv cc, iv 3, iv 0, rv d0, rv d0, .unset, .unset, .unset]) rfl (q := 27) rfl ?_
  refine o_aload X1 hx hby d7_27 rfl rfl (q := 29) rfl ?_
  refine o_lenV X1 hx hby hZ e1 Vd0 d7_29 (q := 30) rfl ?_
  refine o_istore X1 hx hby d7_30 (l' := #[rv o0, rv o1, rv cc, iv 3, iv 0, rv d0, rv d0, iv 2, .unset, .unset]) rfl (q := 32) rfl ?_
  refine o_iconst X1 hx hby d7_32 (z := 0) rfl (q := 33) rfl ?_
  refine o_istore X1 hx hby d7_33 (l' := #[rv o0, rv o1, rv cc, iv 3, iv 0, rv d0, rv d0, iv 2, iv 0, .unset]) rfl (q := 35) rfl ?_
  refine o_iload X1 hx hby d7_35 rfl (q := 37) rfl ?_
  refine o_iload X1 hx hby d7_37 rfl (q := 39) rfl ?_
  refine o_icN X1 hx hby d7_39 (tlt (by decide : (0 : Int32) < (2 : Int32))).2.1 (q := 42) rfl ?_
  refine o_aload X1 hx hby d7_42 rfl rfl (q := 44) rfl ?_
  refine o_iload X1 hx hby d7_44 rfl (q := 46) rfl ?_
  refine o_iaV X1 hx hby hZ e1 Vd0 ⟨by decide, by decide⟩ (v := .int 0) rfl d7_46 (q := 47) rfl ?_
  refine o_istore X1 hx hby d7_47 (l' := #[rv o0, rv o1, rv cc, iv 3, iv 0, rv d0, rv d0, iv 2, iv 0, iv 0]) rfl (q := 49) rfl ?_
  refine o_aloadN X1 hx hby d7_49 rfl rfl (q := 50) rfl ?_
  refine o_getF X1 hx hZ hown hby (w_ hw 31 rfl) Via.refl e1 Fc d7_50 (q := 53) rfl fun T2 X2 e2 => ?_
  refine o_iload X2 hx hby d7_53 rfl (q := 55) rfl ?_
  refine o_iaV X2 hx hby hZ e2 Vc ⟨by decide, by decide⟩ (v := .int c0) rfl d7_55 (q := 56) rfl ?_
  refine o_aloadN X2 hx hby d7_56 rfl rfl (q := 57) rfl ?_
  refine o_getF X2 hx hZ hown hby (w_ hw 31 rfl) Via.refl e2 Fc d7_57 (q := 60) rfl fun T3 X3 e3 => ?_
  refine o_aload X3 hx hby d7_60 rfl rfl (q := 62) rfl ?_
  refine o_iconst X3 hx hby d7_62 (z := 0) rfl (q := 63) rfl ?_
  refine o_iaV X3 hx hby hZ e3 Vd0 ⟨by decide, by decide⟩ (v := .int 0) rfl d7_63 (q := 64) rfl ?_
  refine o_iaV X3 hx hby hZ e3 Vc ⟨by decide, by decide⟩ (v := .int c0) rfl d7_64 (q := 65) rfl ?_
  refine o_icY X3 hx hby d7_65 (teq (rfl : c0 = c0)).1 (by decide) (q := 70) (by decide) ?_
  refine o_iinc X3 hx hby d7_70 rfl (l' := #[rv o0, rv o1, rv cc, iv 3, iv 0, rv d0, rv d0, iv 2, iv 1, iv 0]) rfl (q := 73) rfl ?_
  refine o_goto X3 hx hby d7_73 (by decide) (q := 35) (by decide) ?_
  refine o_iload X3 hx hby d7_35 rfl (q := 37) rfl ?_
  refine o_iload X3 hx hby d7_37 rfl (q := 39) rfl ?_
  refine o_icN X3 hx hby d7_39 (tlt (by decide : (1 : Int32) < (2 : Int32))).2.1 (q := 42) rfl ?_
  refine o_aload X3 hx hby d7_42 rfl rfl (q := 44) rfl ?_
  refine o_iload X3 hx hby d7_44 rfl (q := 46) rfl ?_
  refine o_iaV X3 hx hby hZ e3 Vd0 ⟨by decide, by decide⟩ (v := .int 2) rfl d7_46 (q := 47) rfl ?_
  refine o_istore X3 hx hby d7_47 (l' := #[rv o0, rv o1, rv cc, iv 3, iv 0, rv d0, rv d0, iv 2, iv 1, iv 2]) rfl (q := 49) rfl ?_
  refine o_aloadN X3 hx hby d7_49 rfl rfl (q := 50) rfl ?_
  refine o_getF X3 hx hZ hown hby (w_ hw 31 rfl) Via.refl e3 Fc d7_50 (q := 53) rfl fun T4 X4 e4 => ?_
  refine o_iload X4 hx hby d7_53 rfl (q := 55) rfl ?_
  refine o_iaV X4 hx hby hZ e4 Vc ⟨by decide, by decide⟩ (v := .int c2) rfl d7_55 (q := 56) rfl ?_
  refine o_aloadN X4 hx hby d7_56 rfl rfl (q := 57) rfl ?_
  refine o_getF X4 hx hZ hown hby (w_ hw 31 rfl) Via.refl e4 Fc d7_57 (q := 60) rfl fun T5 X5 e5 => ?_
  refine o_aload X5 hx hby d7_60 rfl rfl (q := 62) rfl ?_
  refine o_iconst X5 hx hby d7_62 (z := 0) rfl (q := 63) rfl ?_
  refine o_iaV X5 hx hby hZ e5 Vd0 ⟨by decide, by decide⟩ (v := .int 0) rfl d7_63 (q := 64) rfl ?_
  refine o_iaV X5 hx hby hZ e5 Vc ⟨by decide, by decide⟩ (v := .int c0) rfl d7_64 (q := 65) rfl ?_
  by_cases hc65_6 : c2 = c0
  · skip
    refine o_icY X5 hx hby d7_65 (teq hc65_6).1 (by decide) (q := 70) (by decide) ?_
    refine o_iinc X5 hx hby d7_70 rfl (l' := #[rv o0, rv o1, rv cc, iv 3, iv 0, rv d0, rv d0, iv 2, iv 2, iv 2]) rfl (q := 73) rfl ?_
    refine o_goto X5 hx hby d7_73 (by decide) (q := 35) (by decide) ?_
    refine o_iload X5 hx hby d7_35 rfl (q := 37) rfl ?_
    refine o_iload X5 hx hby d7_37 rfl (q := 39) rfl ?_
    refine o_icY X5 hx hby d7_39 (flt (by decide : ¬ ((2 : Int32) < (2 : Int32)))).2.1 (by decide) (q := 76) (by decide) ?_
    refine o_iinc X5 hx hby d7_76 rfl (l' := #[rv o0, rv o1, rv cc, iv 3, iv 1, rv d0, rv d0, iv 2, iv 2, iv 2]) rfl (q := 79) rfl ?_
    refine o_goto X5 hx hby d7_79 (by decide) (q := 11) (by decide) ?_
    refine o_iload X5 hx hby d7_11 rfl (q := 13) rfl ?_
    refine o_iloadN X5 hx hby d7_13 rfl (q := 14) rfl ?_
    refine o_icN X5 hx hby d7_14 (tlt (by decide : (1 : Int32) < (3 : Int32))).2.1 (q := 17) rfl ?_
    refine o_aloadN X5 hx hby d7_17 rfl rfl (q := 18) rfl ?_
    refine o_iload X5 hx hby d7_18 rfl (q := 20) rfl ?_
    refine o_aaV X5 hx hby hZ e5 Vcc rfl ⟨by decide, by decide⟩ (v := .ref d1) rfl d7_20 (q := 21) rfl ?_
    refine o_astore X5 hx hby d7_21 rfl (l' := #[rv o0, rv o1, rv cc, iv 3, iv 1, rv d1, rv d0, iv 2, iv 2, iv 2]) rfl (q := 23) rfl ?_
    refine o_aload X5 hx hby d7_23 rfl rfl (q := 25) rfl ?_
    refine o_astore X5 hx hby d7_25 rfl (l' := #[rv o0, rv o1, rv cc, iv 3, iv 1, rv d1, rv d1, iv 2, iv 2, iv 2]) rfl (q := 27) rfl ?_
    refine o_aload X5 hx hby d7_27 rfl rfl (q := 29) rfl ?_
    refine o_lenV X5 hx hby hZ e5 Vd1 d7_29 (q := 30) rfl ?_
    refine o_istore X5 hx hby d7_30 (l' := #[rv o0, rv o1, rv cc, iv 3, iv 1, rv d1, rv d1, iv 1, iv 2, iv 2]) rfl (q := 32) rfl ?_
    refine o_iconst X5 hx hby d7_32 (z := 0) rfl (q := 33) rfl ?_
    refine o_istore X5 hx hby d7_33 (l' := #[rv o0, rv o1, rv cc, iv 3, iv 1, rv d1, rv d1, iv 1, iv 0, iv 2]) rfl (q := 35) rfl ?_
    refine o_iload X5 hx hby d7_35 rfl (q := 37) rfl ?_
    refine o_iload X5 hx hby d7_37 rfl (q := 39) rfl ?_
    refine o_icN X5 hx hby d7_39 (tlt (by decide : (0 : Int32) < (1 : Int32))).2.1 (q := 42) rfl ?_
    refine o_aload X5 hx hby d7_42 rfl rfl (q := 44) rfl ?_
    refine o_iload X5 hx hby d7_44 rfl (q := 46) rfl ?_
    refine o_iaV X5 hx hby hZ e5 Vd1 ⟨by decide, by decide⟩ (v := .int 1) rfl d7_46 (q := 47) rfl ?_
    refine o_istore X5 hx hby d7_47 (l' := #[rv o0, rv o1, rv cc, iv 3, iv 1, rv d1, rv d1, iv 1, iv 0, iv 1]) rfl (q := 49) rfl ?_
    refine o_aloadN X5 hx hby d7_49 rfl rfl (q := 50) rfl ?_
    refine o_getF X5 hx hZ hown hby (w_ hw 31 rfl) Via.refl e5 Fc d7_50 (q := 53) rfl fun T7 X7 e7 => ?_
    refine o_iload X7 hx hby d7_53 rfl (q := 55) rfl ?_
    refine o_iaV X7 hx hby hZ e7 Vc ⟨by decide, by decide⟩ (v := .int c1) rfl d7_55 (q := 56) rfl ?_
    refine o_aloadN X7 hx hby d7_56 rfl rfl (q := 57) rfl ?_
    refine o_getF X7 hx hZ hown hby (w_ hw 31 rfl) Via.refl e7 Fc d7_57 (q := 60) rfl fun T8 X8 e8 => ?_
    refine o_aload X8 hx hby d7_60 rfl rfl (q := 62) rfl ?_
    refine o_iconst X8 hx hby d7_62 (z := 0) rfl (q := 63) rfl ?_
    refine o_iaV X8 hx hby hZ e8 Vd1 ⟨by decide, by decide⟩ (v := .int 1) rfl d7_63 (q := 64) rfl ?_
    refine o_iaV X8 hx hby hZ e8 Vc ⟨by decide, by decide⟩ (v := .int c1) rfl d7_64 (q := 65) rfl ?_
    refine o_icY X8 hx hby d7_65 (teq (rfl : c1 = c1)).1 (by decide) (q := 70) (by decide) ?_
    refine o_iinc X8 hx hby d7_70 rfl (l' := #[rv o0, rv o1, rv cc, iv 3, iv 1, rv d1, rv d1, iv 1, iv 1, iv 1]) rfl (q := 73) rfl ?_
    refine o_goto X8 hx hby d7_73 (by decide) (q := 35) (by decide) ?_
    refine o_iload X8 hx hby d7_35 rfl (q := 37) rfl ?_
    refine o_iload X8 hx hby d7_37 rfl (q := 39) rfl ?_
    refine o_icY X8 hx hby d7_39 (flt (by decide : ¬ ((1 : Int32) < (1 : Int32)))).2.1 (by decide) (q := 76) (by decide) ?_
    refine o_iinc X8 hx hby d7_76 rfl (l' := #[rv o0, rv o1, rv cc, iv 3, iv 2, rv d1, rv d1, iv 1, iv 1, iv 1]) rfl (q := 79) rfl ?_
    refine o_goto X8 hx hby d7_79 (by decide) (q := 11) (by decide) ?_
    refine o_iload X8 hx hby d7_11 rfl (q := 13) rfl ?_
    refine o_iloadN X8 hx hby d7_13 rfl (q := 14) rfl ?_
    refine o_icN X8 hx hby d7_14 (tlt (by decide : (2 : Int32) < (3 : Int32))).2.1 (q := 17) rfl ?_
    refine o_aloadN X8 hx hby d7_17 rfl rfl (q := 18) rfl ?_
    refine o_iload X8 hx hby d7_18 rfl (q := 20) rfl ?_
    refine o_aaV X8 hx hby hZ e8 Vcc rfl ⟨by decide, by decide⟩ (v := .ref d2) rfl d7_20 (q := 21) rfl ?_
    refine o_astore X8 hx hby d7_21 rfl (l' := #[rv o0, rv o1, rv cc, iv 3, iv 2, rv d2, rv d1, iv 1, iv 1, iv 1]) rfl (q := 23) rfl ?_
    refine o_aload X8 hx hby d7_23 rfl rfl (q := 25) rfl ?_
    refine o_astore X8 hx hby d7_25 rfl (l' := #[rv o0, rv o1, rv cc, iv 3, iv 2, rv d2, rv d2, iv 1, iv 1, iv 1]) rfl (q := 27) rfl ?_
    refine o_aload X8 hx hby d7_27 rfl rfl (q := 29) rfl ?_
    refine o_lenV X8 hx hby hZ e8 Vd2 d7_29 (q := 30) rfl ?_
    refine o_istore X8 hx hby d7_30 (l' := #[rv o0, rv o1, rv cc, iv 3, iv 2, rv d2, rv d2, iv 1, iv 1, iv 1]) rfl (q := 32) rfl ?_
    refine o_iconst X8 hx hby d7_32 (z := 0) rfl (q := 33) rfl ?_
    refine o_istore X8 hx hby d7_33 (l' := #[rv o0, rv o1, rv cc, iv 3, iv 2, rv d2, rv d2, iv 1, iv 0, iv 1]) rfl (q := 35) rfl ?_
    refine o_iload X8 hx hby d7_35 rfl (q := 37) rfl ?_
    refine o_iload X8 hx hby d7_37 rfl (q := 39) rfl ?_
    refine o_icN X8 hx hby d7_39 (tlt (by decide : (0 : Int32) < (1 : Int32))).2.1 (q := 42) rfl ?_
    refine o_aload X8 hx hby d7_42 rfl rfl (q := 44) rfl ?_
    refine o_iload X8 hx hby d7_44 rfl (q := 46) rfl ?_
    refine o_iaV X8 hx hby hZ e8 Vd2 ⟨by decide, by decide⟩ (v := .int 3) rfl d7_46 (q := 47) rfl ?_
    refine o_istore X8 hx hby d7_47 (l' := #[rv o0, rv o1, rv cc, iv 3, iv 2, rv d2, rv d2, iv 1, iv 0, iv 3]) rfl (q := 49) rfl ?_
    refine o_aloadN X8 hx hby d7_49 rfl rfl (q := 50) rfl ?_
    refine o_getF X8 hx hZ hown hby (w_ hw 31 rfl) Via.refl e8 Fc d7_50 (q := 53) rfl fun T9 X9 e9 => ?_
    refine o_iload X9 hx hby d7_53 rfl (q := 55) rfl ?_
    refine o_iaV X9 hx hby hZ e9 Vc ⟨by decide, by decide⟩ (v := .int c3) rfl d7_55 (q := 56) rfl ?_
    refine o_aloadN X9 hx hby d7_56 rfl rfl (q := 57) rfl ?_
    refine o_getF X9 hx hZ hown hby (w_ hw 31 rfl) Via.refl e9 Fc d7_57 (q := 60) rfl fun T10 X10 e10 => ?_
    refine o_aload X10 hx hby d7_60 rfl rfl (q := 62) rfl ?_
    refine o_iconst X10 hx hby d7_62 (z := 0) rfl (q := 63) rfl ?_
    refine o_iaV X10 hx hby hZ e10 Vd2 ⟨by decide, by decide⟩ (v := .int 3) rfl d7_63 (q := 64) rfl ?_
    refine o_iaV X10 hx hby hZ e10 Vc ⟨by decide, by decide⟩ (v := .int c3) rfl d7_64 (q := 65) rfl ?_
    refine o_icY X10 hx hby d7_65 (teq (rfl : c3 = c3)).1 (by decide) (q := 70) (by decide) ?_
    refine o_iinc X10 hx hby d7_70 rfl (l' := #[rv o0, rv o1, rv cc, iv 3, iv 2, rv d2, rv d2, iv 1, iv 1, iv 3]) rfl (q := 73) rfl ?_
    refine o_goto X10 hx hby d7_73 (by decide) (q := 35) (by decide) ?_
    refine o_iload X10 hx hby d7_35 rfl (q := 37) rfl ?_
    refine o_iload X10 hx hby d7_37 rfl (q := 39) rfl ?_
    refine o_icY X10 hx hby d7_39 (flt (by decide : ¬ ((1 : Int32) < (1 : Int32)))).2.1 (by decide) (q := 76) (by decide) ?_
    refine o_iinc X10 hx hby d7_76 rfl (l' := #[rv o0, rv o1, rv cc, iv 3, iv 3, rv d2, rv d2, iv 1, iv 1, iv 3]) rfl (q := 79) rfl ?_
    refine o_goto X10 hx hby d7_79 (by decide) (q := 11) (by decide) ?_
    refine o_iload X10 hx hby d7_11 rfl (q := 13) rfl ?_
    refine o_iloadN X10 hx hby d7_13 rfl (q := 14) rfl ?_
    refine o_icY X10 hx hby d7_14 (flt (by decide : ¬ ((3 : Int32) < (3 : Int32)))).2.1 (by decide) (q := 82) (by decide) ?_
    refine o_iconst X10 hx hby d7_82 (z := 1) rfl (q := 83) rfl ?_
    exact own_outN X10 hx hlk (t := .boolean) hret (by simp) (hb hby d7_83) (z' := (1 : Int32)) rfl (Q := Q7r0102 Z o0 o1 cc kcc d0 kd0 d1 kd1 d2 kd2 oc kc c0 c1 c2 c3 h0 n0) ⟨by simp only [fr0102, if_pos hc65_6], N0, e10⟩ (by decide) (by decide)
  · skip
    refine o_icN X5 hx hby d7_65 (feq hc65_6).1 (q := 68) rfl ?_
    refine o_iconst X5 hx hby d7_68 (z := 0) rfl (q := 69) rfl ?_
    exact own_outN X5 hx hlk (t := .boolean) hret (by simp) (hb hby d7_69) (z' := (0 : Int32)) rfl (Q := Q7r0102 Z o0 o1 cc kcc d0 kd0 d1 kd1 d2 kd2 oc kc c0 c1 c2 c3 h0 n0) ⟨by simp only [fr0102, if_neg hc65_6], N0, e5⟩ (by decide) (by decide)
theorem ef_4c0102n3 (m : MethodId) (x0 : Addr) (x1 : Addr) (x2 : Addr) : entryFrame m #[(.ref x0), (.ref x1), (.ref x2), (.int (3 : Int32))] 9 = mkF m 0 #[.val (.ref x0), .val (.ref x1), .val (.ref x2), .val (.int (3 : Int32)), .unset, .unset, .unset, .unset, .unset] [] := by first | (simp [entryFrame, mkF, argsToLocals, Value.category]; done) | rfl
def Q4c0102n3 (Z : State) (o0 : Addr) (o1 : Addr) (o2 : Addr) (k2 : ClassId) (h0 : Heap) (n0 : Nat) (v : Option Value) (h : Heap) (L : List Loc) : Prop := v = none ∧ Fr n0 L ∧ Keep h0 h [o0] ∧ Exa Z h o0 "com/example/slimc/slimc/game/Observation" ∧ Fld Z h o0 "com/example/slimc/slimc/game/Observation" "classOf" "[I" (.ref o2) ∧ Fld Z h o0 "com/example/slimc/slimc/game/Observation" "classCount" "I" (.int (3 : Int32)) ∧ RefOk Z h o0 fr0102
set_option maxRecDepth 65536 in
set_option maxHeartbeats 40000000 in
theorem rm4c0102n3 (l : Launch) (Z : State) (a0 : Array Value) (hw : ∀ d ∈ tables_1, d.before a0 Z = true) (ws : List Jvm.Cond) (o0 : Addr) (o1 : Addr) (o2 : Addr) (k2 : ClassId) (h0 : Heap) (n0 : Nat) (Z0 : n0 ≤ h0.size) (E : Exa Z h0 o0 "com/example/slimc/slimc/game/Observation") (F_name : Fld Z h0 o0 "com/example/slimc/slimc/game/Observation" "name" "Ljava/lang/String;" .null) (F_classOf : Fld Z h0 o0 "com/example/slimc/slimc/game/Observation" "classOf" "[I" .null) (F_classCount : Fld Z h0 o0 "com/example/slimc/slimc/game/Observation" "classCount" "I" (.int (0 : Int32))) (F_classes : Fld Z h0 o0 "com/example/slimc/slimc/game/Observation" "classes" "[[I" .null) (g_o0 : n0 ≤ o0) (V : Arv Z h0 o2 k2 .int (4 : Int32) [(.int (0 : Int32)), (.int (1 : Int32)), (.int (0 : Int32)), (.int (2 : Int32))] (.int (0 : Int32))) (n2 : o2 ≠ o0) :
    MetFree l (⟨"com/example/slimc/slimc/game/Observation", "<init>", "(Ljava/lang/String;[II)V"⟩ : MethodName) (head1 (Jvm.Cond.code (⟨"com/example/slimc/slimc/game/Observation", "<init>", "(Ljava/lang/String;[II)V"⟩ : MethodName) prog_66_method_1_code 9 none :: ws) ({ frames := 1, cells := 7, slots := 16, locals := 14 } : Room)) (fun a U => a = #[(.ref o0), (.ref o1), (.ref o2), (.int (3 : Int32))] ∧ Z.Warmed39 U.vm ∧ U.heap = h0) (fun _ _ _ _ _ => True) (fun _ U o U' => ∃ v L, o = .returned v ∧ Q4c0102n3 Z o0 o1 o2 k2 h0 n0 v U'.heap L ∧ FrameEnd U o U' L ({ frames := 1, cells := 7, slots := 16, locals := 14 } : Room).cells ({ frames := 1, cells := 7, slots := 16, locals := 14 } : Room).slots) := by
  refine MetFree.of_bodySF (plainFor_of_name pn_1) hisR ?_
  intro p e s m args below meth c s₁ Bd hml0 hP hK
  obtain ⟨rfl, hZ, hh⟩ := hP
  have hx := Bd.exec
  have hby := Bd.bytes
  have hml : c.maxLocals = 9 := hml0
  have hown : s.vm.findClass "com/example/slimc/slimc/game/Observation" = some m.cls := findClass_of_methodNamed Bd.named
  have hnm := (name_of_methodNamed Bd.named Bd.method).1
  have X0 : Stand p l e ({ frames := 1, cells := 7, slots := 16, locals := 14 } : Room) s m #[(.ref o0), (.ref o1), (.ref o2), (.int (3 : Int32))] below meth c s₁ [] 0 0 := Stand.of_body Bd
  have e0 : s₁.heap = h0 := by rw [← hh, Bd.state]; rfl
  have N0 := Fr.nil n0
  have hret := Bd.returns
  have hlk := BodyLoose.notSynchronized Bd
  show own_Out p e below (fun o U' => ∃ v L, o = .returned v ∧ Q4c0102n3 Z o0 o1 o2 k2 h0 n0 v U'.heap L ∧ FrameEnd s o U' L ({ frames := 1, cells := 7, slots := 16, locals := 14 } : Room).cells ({ frames := 1, cells := 7, slots := 16, locals := 14 } : Room).slots) (s₁.setTop (entryFrame m #[(.ref o0), (.ref o1), (.ref o2), (.int (3 : Int32))] 9))
  refine own_of (fun t k => castTop (ef_4c0102n3 m o0 o1 o2) k) ?_
  show own_Out p e below _ (s₁.setTop (mkF m 0 #[rv o0, rv o1, rv o2, iv 3, .unset, .unset, .unset, .unset, .unset] []))
  refine o_aloadN X0 hx hby d4_0 rfl rfl (q := 1) rfl ?_
  obtain ⟨T1, X1, e1, st1⟩ := initO X0 hx hZ hown (w_ hw 26 rfl) (w_ hw 27 rfl) (w_ hw 28 rfl) e0 (g := (mkF m 1 #[rv o0, rv o1, rv o2, iv 3, .unset, .unset, .unset, .unset, .unset] [.ref o0])) rfl (by rw [hml]; rfl) rfl (hb hby d4_1) (by decide) (W := 0) (by show 2 * 0 + _ ≤ _; exact Nat.le_of_eq rfl) (by decide)
  refine own_of st1 ?_
  show own_Out p e below _ (T1.setTop (mkF m 4 #[rv o0, rv o1, rv o2, iv 3, .unset, .unset, .unset, .unset, .unset] []))
  refine o_aloadN X1 hx hby d4_4 rfl rfl (q := 5) rfl ?_
  refine o_aloadN X1 hx hby d4_5 rfl rfl (q := 6) rfl ?_
  obtain ⟨T2, h2, X2, e2, W2, st2⟩ := putF X1 hx hZ hown (host := "") (Or.inl (w_ hw 29 rfl)) Via.refl e1 F_name E (Or.inr ⟨(w_ hw 30 rfl), rfl, hnm⟩) (w_ hw 10 rfl) (ty := (.object "java/lang/String")) (by decide) rfl rfl (g := (mkF m 6 #[rv o0, rv o1, rv o2, iv 3, .unset, .unset, .unset, .unset, .unset] [.ref o1, .ref o0])) rfl rfl (hb hby d4_6)
  have Fw2 := F_name.same W2
  refine own_of st2 ?_
  show own_Out p e below _ (T2.setTop (mkF m 9 #[rv o0, rv o1, rv o2, iv 3, .unset, .unset, .unset, .unset, .unset] []))
  refine o_aloadN X2 hx hby d4_9 rfl rfl (q := 10) rfl ?_
  refine o_aloadN X2 hx hby d4_10 rfl rfl (q := 11) rfl ?_
  have q4 := (F_classOf.other W2 (Or.inr (slot_ne (Or.inr (w_ hw 32 rfl)) (Or.inr (w_ hw 30 rfl)) (by decide) (t := (.array .int)) (t' := (.object "java/lang/String")) (by decide) (by decide))))
  have q5 := (E.wr W2)
  obtain ⟨T3, h3, X3, e3, W3, st3⟩ := putF X2 hx hZ hown (host := "") (Or.inl (w_ hw 31 rfl)) Via.refl e2 q4 q5 (Or.inr ⟨(w_ hw 32 rfl), rfl, hnm⟩) (w_ hw 10 rfl) (ty := (.array .int)) (by decide) rfl rfl (g := (mkF m 11 #[rv o0, rv o1, rv o2, iv 3, .unset, .unset, .unset, .unset, .unset] [.ref o2, .ref o0])) rfl rfl (hb hby d4_11)
  have q6 := (F_classOf.other W2 (Or.inr (slot_ne (Or.inr (w_ hw 32 rfl)) (Or.inr (w_ hw 30 rfl)) (by decide) (t := (.array .int)) (t' := (.object "java/lang/String")) (by decide) (by decide))))
  have Fw3 := q6.same W3
  refine own_of st3 ?_
  show own_Out p e below _ (T3.setTop (mkF m 14 #[rv o0, rv o1, rv o2, iv 3, .unset, .unset, .unset, .unset, .unset] []))
  refine o_aloadN X3 hx hby d4_14 rfl rfl (q := 15) rfl ?_
  refine o_iloadN X3 hx hby d4_15 rfl (q := 16) rfl ?_
  have q8 := ((F_classCount.other W2 (Or.inr (slot_ne (Or.inr (w_ hw 34 rfl)) (Or.inr (w_ hw 30 rfl)) (by decide) (t := .int) (t' := (.object "java/lang/String")) (by decide) (by decide)))).other W3 (Or.inr (slot_ne (Or.inr (w_ hw 34 rfl)) (Or.inr (w_ hw 32 rfl)) (by decide) (t := .int) (t' := (.array .int)) (by decide) (by decide))))
  have q9 := (q5.wr W3)
  obtain ⟨T7, h7, X7, e7, W7, st7⟩ := putF X3 hx hZ hown (host := "") (Or.inl (w_ hw 33 rfl)) Via.refl e3 q8 q9 (Or.inr ⟨(w_ hw 34 rfl), rfl, hnm⟩) (w_ hw 10 rfl) (ty := .int) (by decide) rfl rfl (g := (mkF m 16 #[rv o0, rv o1, rv o2, iv 3, .unset, .unset, .unset, .unset, .unset] [.int 3, .ref o0])) rfl rfl (hb hby d4_16)
  have q10 := ((F_classCount.other W2 (Or.inr (slot_ne (Or.inr (w_ hw 34 rfl)) (Or.inr (w_ hw 30 rfl)) (by decide) (t := .int) (t' := (.object "java/lang/String")) (by decide) (by decide)))).other W3 (Or.inr (slot_ne (Or.inr (w_ hw 34 rfl)) (Or.inr (w_ hw 32 rfl)) (by decide) (t := .int) (t' := (.array .int)) (by decide) (by decide))))
  have Fw7 := q10.same W7
  refine own_of st7 ?_
  show own_Out p e below _ (T7.setTop (mkF m 19 #[rv o0, rv o1, rv o2, iv 3, .unset, .unset, .unset, .unset, .unset] []))
  refine o_iloadN X7 hx hby d4_19 rfl (q := 20) rfl ?_
  obtain ⟨T11, h11, k11, X11, e11, E11, A11, Ex11, st11⟩ := newPE X7 hx hZ (w_ hw 4 rfl) e7 (g := (mkF m 20 #[rv o0, rv o1, rv o2, iv 3, .unset, .unset, .unset, .unset, .unset] [.int 3])) rfl (hb hby d4_20) rfl (by decide) (cap := 3) (by decide) (by decide) (by decide) (by decide) (ad := "[I") (by decide +kernel)
  obtain ⟨b11, g11⟩ : ∃ z, z = h7.size := ⟨_, rfl⟩
  rw [← g11] at A11 Ex11 st11
  have q12 := (Nat.le_trans (Nat.le_trans (Nat.le_trans Z0 (Keep.of_wr W2).1) (Keep.of_wr W3).1) (Keep.of_wr W7).1)
  have g_b11 : n0 ≤ b11 := Nat.le_trans q12 (Nat.le_of_eq g11.symm)
  have q13 := (Nat.le_trans (Nat.le_trans (Nat.le_trans (Nat.le_refl h0.size) (Keep.of_wr W2).1) (Keep.of_wr W3).1) (Keep.of_wr W7).1)
  have sz_b11 : h0.size ≤ b11 := Nat.le_trans q13 (Nat.le_of_eq g11.symm)
  have V_b11 : Arv Z h11 b11 k11 .int (3 : Int32) [(.int (0 : Int32)), (.int (0 : Int32)), (.int (0 : Int32))] (.int (0 : Int32)) := (Arv.new A11 (by decide)).pad (pad_rep [] (.int (0 : Int32)) 3)
  refine own_of st11 ?_
  show own_Out p e below _ (T11.setTop (mkF m 22 #[rv o0, rv o1, rv o2, iv 3, .unset, .unset, .unset, .unset, .unset] [.ref b11]))
  refine o_astore X11 hx hby d4_22 rfl (l' := #[rv o0, rv o1, rv o2, iv 3, rv b11, .unset, .unset, .unset, .unset]) rfl (q := 24) rfl ?_
  refine o_aloadN X11 hx hby d4_24 rfl rfl (q := 25) rfl ?_
  refine o_astore X11 hx hby d4_25 rfl (l' := #[rv o0, rv o1, rv o2, iv 3, rv b11, rv o2, .unset, .unset, .unset]) rfl (q := 27) rfl ?_
  refine o_aload X11 hx hby d4_27 rfl rfl (q := 29) rfl ?_
  have q14 := ((((V.other W2 n2).other W3 n2).other W7 n2).ext E11)
  refine o_lenV X11 hx hby hZ e11 q14 d4_29 (q := 30) rfl ?_
  refine o_istore X11 hx hby d4_30 (l' := #[rv o0, rv o1, rv o2, iv 3, rv b11, rv o2, iv 4, .unset, .unset]) rfl (q := 32) rfl ?_
  refine o_iconst X11 hx hby d4_32 (z := 0) rfl (q := 33) rfl ?_
  refine o_istore X11 hx hby d4_33 (l' := #[rv o0, rv o1, rv o2, iv 3, rv b11, rv o2, iv 4, iv 0, .unset]) rfl (q := 35) rfl ?_
  refine t1 X11 hx hby hZ e11 q14 V_b11 rfl ⟨by decide, by decide⟩ (cc := 0) rfl ⟨by decide, by decide⟩ (y := 0) rfl (y' := 1) rfl (i' := 1) rfl (iN := 0) rfl (Nat.le_of_ble_eq_true rfl) fun T15 h15 X15 e15 W15 V15 => ?_
  have ne_o2_b11 : o2 ≠ b11 := Nat.ne_of_lt (Nat.lt_of_lt_of_le V.lt sz_b11)
  have q16 := (q14.other W15 ne_o2_b11)
  refine t1 X15 hx hby hZ e15 q16 V15 rfl ⟨by decide, by decide⟩ (cc := 1) rfl ⟨by decide, by decide⟩ (y := 0) rfl (y' := 1) rfl (i' := 2) rfl (iN := 1) rfl (Nat.le_of_ble_eq_true rfl) fun T17 h17 X17 e17 W17 V17 => ?_
  have q18 := (q16.other W17 ne_o2_b11)
  refine t1 X17 hx hby hZ e17 q18 V17 rfl ⟨by decide, by decide⟩ (cc := 0) rfl ⟨by decide, by decide⟩ (y := 1) rfl (y' := 2) rfl (i' := 3) rfl (iN := 0) rfl (Nat.le_of_ble_eq_true rfl) fun T19 h19 X19 e19 W19 V19 => ?_
  have q20 := (q18.other W19 ne_o2_b11)
  refine t1 X19 hx hby hZ e19 q20 V19 rfl ⟨by decide, by decide⟩ (cc := 2) rfl ⟨by decide, by decide⟩ (y := 0) rfl (y' := 1) rfl (i' := 4) rfl (iN := 2) rfl (Nat.le_of_ble_eq_true rfl) fun T21 h21 X21 e21 W21 V21 => ?_
  refine o_iload X21 hx hby d4_35 rfl (q := 37) rfl ?_
  refine o_iload X21 hx hby d4_37 rfl (q := 39) rfl ?_
  refine o_icY X21 hx hby d4_39 (flt (by decide : ¬ ((4 : Int32) < (4 : Int32)))).2.1 (by decide) (q := 64) (by decide) ?_
  refine o_aloadN X21 hx hby d4_64 rfl rfl (q := 65) rfl ?_
  refine o_iloadN X21 hx hby d4_65 rfl (q := 66) rfl ?_
  obtain ⟨T22, h22, k22, X22, e22, E22, A22, Ex22, O22, st22⟩ := newRA X21 hx hZ hown (ty := .int) (by decide +kernel) (w_ hw 35 rfl) (w_ hw 36 rfl) e21 (g := (mkF m 66 #[rv o0, rv o1, rv o2, iv 3, rv b11, rv o2, iv 4, iv 4, iv 2] [.int 3, .ref o0])) rfl (hb hby d4_66) rfl (by decide) (cap := 3) (by decide) (by decide) (by decide) (by decide) (ad := "[[I") (by decide +kernel)
  obtain ⟨b22, g22⟩ : ∃ z, z = h21.size := ⟨_, rfl⟩
  rw [← g22] at A22 Ex22 st22
  have q23 := (Nat.le_trans (Nat.le_trans (Nat.le_trans (Nat.le_trans (Nat.le_trans q12 E11.1) (Keep.of_wr W15).1) (Keep.of_wr W17).1) (Keep.of_wr W19).1) (Keep.of_wr W21).1)
  have g_b22 : n0 ≤ b22 := Nat.le_trans q23 (Nat.le_of_eq g22.symm)
  have q24 := (Nat.le_trans (Nat.le_trans (Nat.le_trans (Nat.le_trans (Nat.le_trans q13 E11.1) (Keep.of_wr W15).1) (Keep.of_wr W17).1) (Keep.of_wr W19).1) (Keep.of_wr W21).1)
  have sz_b22 : h0.size ≤ b22 := Nat.le_trans q24 (Nat.le_of_eq g22.symm)
  have V_b22 : Arv Z h22 b22 k22 (.array .int) (3 : Int32) [.null, .null, .null] .null := (Arv.new A22 (by decide)).pad (pad_rep [] .null 3)
  refine own_of st22 ?_
  show own_Out p e below _ (T22.setTop (mkF m 69 #[rv o0, rv o1, rv o2, iv 3, rv b11, rv o2, iv 4, iv 4, iv 2] [.ref b22, .ref o0]))
  have ne_o0_b11 : o0 ≠ b11 := Nat.ne_of_lt (Nat.lt_of_lt_of_le E.lt sz_b11)
  have q26 := (((((((((F_classes.other W2 (Or.inr (slot_ne (Or.inr (w_ hw 38 rfl)) (Or.inr (w_ hw 30 rfl)) (by decide) (t := (.array (.array .int))) (t' := (.object "java/lang/String")) (by decide) (by decide)))).other W3 (Or.inr (slot_ne (Or.inr (w_ hw 38 rfl)) (Or.inr (w_ hw 32 rfl)) (by decide) (t := (.array (.array .int))) (t' := (.array .int)) (by decide) (by decide)))).other W7 (Or.inr (slot_ne (Or.inr (w_ hw 38 rfl)) (Or.inr (w_ hw 34 rfl)) (by decide) (t := (.array (.array .int))) (t' := .int) (by decide) (by decide)))).ext E11).other W15 (Or.inl ne_o0_b11)).other W17 (Or.inl ne_o0_b11)).other W19 (Or.inl ne_o0_b11)).other W21 (Or.inl ne_o0_b11)).ext E22)
  have q27 := (((((((q9.wr W7).ext E11).wr W15).wr W17).wr W19).wr W21).ext E22)
  obtain ⟨T25, h25, X25, e25, W25, st25⟩ := putF X22 hx hZ hown (host := "") (Or.inl (w_ hw 37 rfl)) Via.refl e22 q26 q27 (Or.inr ⟨(w_ hw 38 rfl), rfl, hnm⟩) (w_ hw 10 rfl) (ty := (.array (.array .int))) (by decide) rfl rfl (g := (mkF m 69 #[rv o0, rv o1, rv o2, iv 3, rv b11, rv o2, iv 4, iv 4, iv 2] [.ref b22, .ref o0])) rfl rfl (hb hby d4_69)
  have q28 := (((((((((F_classes.other W2 (Or.inr (slot_ne (Or.inr (w_ hw 38 rfl)) (Or.inr (w_ hw 30 rfl)) (by decide) (t := (.array (.array .int))) (t' := (.object "java/lang/String")) (by decide) (by decide)))).other W3 (Or.inr (slot_ne (Or.inr (w_ hw 38 rfl)) (Or.inr (w_ hw 32 rfl)) (by decide) (t := (.array (.array .int))) (t' := (.array .int)) (by decide) (by decide)))).other W7 (Or.inr (slot_ne (Or.inr (w_ hw 38 rfl)) (Or.inr (w_ hw 34 rfl)) (by decide) (t := (.array (.array .int))) (t' := .int) (by decide) (by decide)))).ext E11).other W15 (Or.inl ne_o0_b11)).other W17 (Or.inl ne_o0_b11)).other W19 (Or.inl ne_o0_b11)).other W21 (Or.inl ne_o0_b11)).ext E22)
  have Fw25 := q28.same W25
  refine own_of st25 ?_
  show own_Out p e below _ (T25.setTop (mkF m 72 #[rv o0, rv o1, rv o2, iv 3, rv b11, rv o2, iv 4, iv 4, iv 2] []))
  refine o_iconst X25 hx hby d4_72 (z := 0) rfl (q := 73) rfl ?_
  refine o_istore X25 hx hby d4_73 (l' := #[rv o0, rv o1, rv o2, iv 3, rv b11, iv 0, iv 4, iv 4, iv 2]) rfl (q := 75) rfl ?_
  refine o_iload X25 hx hby d4_75 rfl (q := 77) rfl ?_
  refine o_iloadN X25 hx hby d4_77 rfl (q := 78) rfl ?_
  refine o_icN X25 hx hby d4_78 (tlt (by decide : (0 : Int32) < (3 : Int32))).2.1 (q := 81) rfl ?_
  refine o_aloadN X25 hx hby d4_81 rfl rfl (q := 82) rfl ?_
  refine o_getF X25 hx hZ hown hby (w_ hw 37 rfl) Via.refl e25 Fw25 d4_82 (q := 85) rfl fun T29 X29 e29 => ?_
  refine o_iload X29 hx hby d4_85 rfl (q := 87) rfl ?_
  refine o_aload X29 hx hby d4_87 rfl rfl (q := 89) rfl ?_
  refine o_iload X29 hx hby d4_89 rfl (q := 91) rfl ?_
  have q30 := ((V21.ext E22).other W25 (Ne.symm ne_o0_b11))
  refine o_iaV X29 hx hby hZ e29 q30 ⟨by decide, by decide⟩ (v := .int 2) rfl d4_91 (q := 92) rfl ?_
  obtain ⟨T31, h31, k31, X31, e31, E31, A31, Ex31, st31⟩ := newPE X29 hx hZ (w_ hw 4 rfl) e29 (g := (mkF m 92 #[rv o0, rv o1, rv o2, iv 3, rv b11, iv 0, iv 4, iv 4, iv 2] [.int 2, .int 0, .ref b22])) rfl (hb hby d4_92) rfl (by decide) (cap := 2) (by decide) (by decide) (by decide) (by decide) (ad := "[I") (by decide +kernel)
  obtain ⟨b31, g31⟩ : ∃ z, z = h25.size := ⟨_, rfl⟩
  rw [← g31] at A31 Ex31 st31
  have q32 := (Nat.le_trans (Nat.le_trans q23 E22.1) (Keep.of_wr W25).1)
  have g_b31 : n0 ≤ b31 := Nat.le_trans q32 (Nat.le_of_eq g31.symm)
  have q33 := (Nat.le_trans (Nat.le_trans q24 E22.1) (Keep.of_wr W25).1)
  have sz_b31 : h0.size ≤ b31 := Nat.le_trans q33 (Nat.le_of_eq g31.symm)
  have V_b31 : Arv Z h31 b31 k31 .int (2 : Int32) [(.int (0 : Int32)), (.int (0 : Int32))] (.int (0 : Int32)) := (Arv.new A31 (by decide)).pad (pad_rep [] (.int (0 : Int32)) 2)
  refine own_of st31 ?_
  show own_Out p e below _ (T31.setTop (mkF m 94 #[rv o0, rv o1, rv o2, iv 3, rv b11, iv 0, iv 4, iv 4, iv 2] [.ref b31, .int 0, .ref b22]))
  have ne_o0_b22 : o0 ≠ b22 := Nat.ne_of_lt (Nat.lt_of_lt_of_le E.lt sz_b22)
  have q34 := ((V_b22.other W25 (Ne.symm ne_o0_b22)).ext E31)
  refine o_stVR X31 hx hby hZ e31 q34 ⟨by decide, by decide⟩ 0 rfl (Nat.le_of_ble_eq_true rfl) O22 (Ins.self Ex31) d4_94 (q := 95) rfl fun T35 h35 X35 e35 W35 V35 => ?_
  refine o_iinc X35 hx hby d4_95 rfl (l' := #[rv o0, rv o1, rv o2, iv 3, rv b11, iv 1, iv 4, iv 4, iv 2]) rfl (q := 98) rfl ?_
  refine o_goto X35 hx hby d4_98 (by decide) (q := 75) (by decide) ?_
  refine o_iload X35 hx hby d4_75 rfl (q := 77) rfl ?_
  refine o_iloadN X35 hx hby d4_77 rfl (q := 78) rfl ?_
  refine o_icN X35 hx hby d4_78 (tlt (by decide : (1 : Int32) < (3 : Int32))).2.1 (q := 81) rfl ?_
  refine o_aloadN X35 hx hby d4_81 rfl rfl (q := 82) rfl ?_
  have q37 := ((Fw25.ext E31).other W35 (Or.inl ne_o0_b22))
  refine o_getF X35 hx hZ hown hby (w_ hw 37 rfl) Via.refl e35 q37 d4_82 (q := 85) rfl fun T36 X36 e36 => ?_
  refine o_iload X36 hx hby d4_85 rfl (q := 87) rfl ?_
  refine o_aload X36 hx hby d4_87 rfl rfl (q := 89) rfl ?_
  refine o_iload X36 hx hby d4_89 rfl (q := 91) rfl ?_
  have ne_b11_b22 : b11 ≠ b22 := Nat.ne_of_lt (Nat.lt_of_lt_of_le (Nat.lt_of_lt_of_le (Nat.lt_of_lt_of_le (Nat.lt_of_lt_of_le (Nat.lt_of_lt_of_le A11.lt (Keep.of_wr W15).1) (Keep.of_wr W17).1) (Keep.of_wr W19).1) (Keep.of_wr W21).1) (Nat.le_of_eq g22.symm))
  have q38 := ((q30.ext E31).other W35 ne_b11_b22)
  refine o_iaV X36 hx hby hZ e36 q38 ⟨by decide, by decide⟩ (v := .int 1) rfl d4_91 (q := 92) rfl ?_
  obtain ⟨T39, h39, k39, X39, e39, E39, A39, Ex39, st39⟩ := newPE X36 hx hZ (w_ hw 4 rfl) e36 (g := (mkF m 92 #[rv o0, rv o1, rv o2, iv 3, rv b11, iv 1, iv 4, iv 4, iv 2] [.int 1, .int 1, .ref b22])) rfl (hb hby d4_92) rfl (by decide) (cap := 1) (by decide) (by decide) (by decide) (by decide) (ad := "[I") (by decide +kernel)
  obtain ⟨b39, g39⟩ : ∃ z, z = h35.size := ⟨_, rfl⟩
  rw [← g39] at A39 Ex39 st39
  have q40 := (Nat.le_trans (Nat.le_trans q32 E31.1) (Keep.of_wr W35).1)
  have g_b39 : n0 ≤ b39 := Nat.le_trans q40 (Nat.le_of_eq g39.symm)
  have q41 := (Nat.le_trans (Nat.le_trans q33 E31.1) (Keep.of_wr W35).1)
  have sz_b39 : h0.size ≤ b39 := Nat.le_trans q41 (Nat.le_of_eq g39.symm)
  have V_b39 : Arv Z h39 b39 k39 .int (1 : Int32) [(.int (0 : Int32))] (.int (0 : Int32)) := (Arv.new A39 (by decide)).pad (pad_rep [] (.int (0 : Int32)) 1)
  refine own_of st39 ?_
  show own_Out p e below _ (T39.setTop (mkF m 94 #[rv o0, rv o1, rv o2, iv 3, rv b11, iv 1, iv 4, iv 4, iv 2] [.ref b39, .int 1, .ref b22]))
  have q42 := (V35.ext E39)
  refine o_stVR X39 hx hby hZ e39 q42 ⟨by decide, by decide⟩ 1 rfl (Nat.le_of_ble_eq_true rfl) O22 (Ins.self Ex39) d4_94 (q := 95) rfl fun T43 h43 X43 e43 W43 V43 => ?_
  refine o_iinc X43 hx hby d4_95 rfl (l' := #[rv o0, rv o1, rv o2, iv 3, rv b11, iv 2, iv 4, iv 4, iv 2]) rfl (q := 98) rfl ?_
  refine o_goto X43 hx hby d4_98 (by decide) (q := 75) (by decide) ?_
  refine o_iload X43 hx hby d4_75 rfl (q := 77) rfl ?_
  refine o_iloadN X43 hx hby d4_77 rfl (q := 78) rfl ?_
  refine o_icN X43 hx hby d4_78 (tlt (by decide : (2 : Int32) < (3 : Int32))).2.1 (q := 81) rfl ?_
  refine o_aloadN X43 hx hby d4_81 rfl rfl (q := 82) rfl ?_
  have q45 := ((q37.ext E39).other W43 (Or.inl ne_o0_b22))
  refine o_getF X43 hx hZ hown hby (w_ hw 37 rfl) Via.refl e43 q45 d4_82 (q := 85) rfl fun T44 X44 e44 => ?_
  refine o_iload X44 hx hby d4_85 rfl (q := 87) rfl ?_
  refine o_aload X44 hx hby d4_87 rfl rfl (q := 89) rfl ?_
  refine o_iload X44 hx hby d4_89 rfl (q := 91) rfl ?_
  have q46 := ((q38.ext E39).other W43 ne_b11_b22)
  refine o_iaV X44 hx hby hZ e44 q46 ⟨by decide, by decide⟩ (v := .int 1) rfl d4_91 (q := 92) rfl ?_
  obtain ⟨T47, h47, k47, X47, e47, E47, A47, Ex47, st47⟩ := newPE X44 hx hZ (w_ hw 4 rfl) e44 (g := (mkF m 92 #[rv o0, rv o1, rv o2, iv 3, rv b11, iv 2, iv 4, iv 4, iv 2] [.int 1, .int 2, .ref b22])) rfl (hb hby d4_92) rfl (by decide) (cap := 1) (by decide) (by decide) (by decide) (by decide) (ad := "[I") (by decide +kernel)
  obtain ⟨b47, g47⟩ : ∃ z, z = h43.size := ⟨_, rfl⟩
  rw [← g47] at A47 Ex47 st47
  have q48 := (Nat.le_trans (Nat.le_trans q40 E39.1) (Keep.of_wr W43).1)
  have g_b47 : n0 ≤ b47 := Nat.le_trans q48 (Nat.le_of_eq g47.symm)
  have q49 := (Nat.le_trans (Nat.le_trans q41 E39.1) (Keep.of_wr W43).1)
  have sz_b47 : h0.size ≤ b47 := Nat.le_trans q49 (Nat.le_of_eq g47.symm)
  have V_b47 : Arv Z h47 b47 k47 .int (1 : Int32) [(.int (0 : Int32))] (.int (0 : Int32)) := (Arv.new A47 (by decide)).pad (pad_rep [] (.int (0 : Int32)) 1)
  refine own_of st47 ?_
  show own_Out p e below _ (T47.setTop (mkF m 94 #[rv o0, rv o1, rv o2, iv 3, rv b11, iv 2, iv 4, iv 4, iv 2] [.ref b47, .int 2, .ref b22]))
  have q50 := (V43.ext E47)
  refine o_stVR X47 hx hby hZ e47 q50 ⟨by decide, by decide⟩ 2 rfl (Nat.le_of_ble_eq_true rfl) O22 (Ins.self Ex47) d4_94 (q := 95) rfl fun T51 h51 X51 e51 W51 V51 => ?_
  refine o_iinc X51 hx hby d4_95 rfl (l' := #[rv o0, rv o1, rv o2, iv 3, rv b11, iv 3, iv 4, iv 4, iv 2]) rfl (q := 98) rfl ?_
  refine o_goto X51 hx hby d4_98 (by decide) (q := 75) (by decide) ?_
  refine o_iload X51 hx hby d4_75 rfl (q := 77) rfl ?_
  refine o_iloadN X51 hx hby d4_77 rfl (q := 78) rfl ?_
  refine o_icY X51 hx hby d4_78 (flt (by decide : ¬ ((3 : Int32) < (3 : Int32)))).2.1 (by decide) (q := 101) (by decide) ?_
  refine o_iloadN X51 hx hby d4_101 rfl (q := 102) rfl ?_
  obtain ⟨T52, h52, k52, X52, e52, E52, A52, Ex52, st52⟩ := newPE X51 hx hZ (w_ hw 4 rfl) e51 (g := (mkF m 102 #[rv o0, rv o1, rv o2, iv 3, rv b11, iv 3, iv 4, iv 4, iv 2] [.int 3])) rfl (hb hby d4_102) rfl (by decide) (cap := 3) (by decide) (by decide) (by decide) (by decide) (ad := "[I") (by decide +kernel)
  obtain ⟨b52, g52⟩ : ∃ z, z = h51.size := ⟨_, rfl⟩
  rw [← g52] at A52 Ex52 st52
  have q53 := (Nat.le_trans (Nat.le_trans q48 E47.1) (Keep.of_wr W51).1)
  have g_b52 : n0 ≤ b52 := Nat.le_trans q53 (Nat.le_of_eq g52.symm)
  have q54 := (Nat.le_trans (Nat.le_trans q49 E47.1) (Keep.of_wr W51).1)
  have sz_b52 : h0.size ≤ b52 := Nat.le_trans q54 (Nat.le_of_eq g52.symm)
  have V_b52 : Arv Z h52 b52 k52 .int (3 : Int32) [(.int (0 : Int32)), (.int (0 : Int32)), (.int (0 : Int32))] (.int (0 : Int32)) := (Arv.new A52 (by decide)).pad (pad_rep [] (.int (0 : Int32)) 3)
  refine own_of st52 ?_
  show own_Out p e below _ (T52.setTop (mkF m 104 #[rv o0, rv o1, rv o2, iv 3, rv b11, iv 3, iv 4, iv 4, iv 2] [.ref b52]))
  refine o_astore X52 hx hby d4_104 rfl (l' := #[rv o0, rv o1, rv o2, iv 3, rv b11, rv b52, iv 4, iv 4, iv 2]) rfl (q := 106) rfl ?_
  refine o_iconst X52 hx hby d4_106 (z := 0) rfl (q := 107) rfl ?_
  refine o_istore X52 hx hby d4_107 (l' := #[rv o0, rv o1, rv o2, iv 3, rv b11, rv b52, iv 0, iv 4, iv 2]) rfl (q := 109) rfl ?_
  have ne_o2_b22 : o2 ≠ b22 := Nat.ne_of_lt (Nat.lt_of_lt_of_le V.lt sz_b22)
  have q57 := ((((((((((q20.other W21 ne_o2_b11).ext E22).other W25 n2).ext E31).other W35 ne_o2_b22).ext E39).other W43 ne_o2_b22).ext E47).other W51 ne_o2_b22).ext E52)
  have q58 := (((q45.ext E47).other W51 (Or.inl ne_o0_b22)).ext E52)
  have q59 := (V51.ext E52)
  have ne_b22_b31 : b22 ≠ b31 := Nat.ne_of_lt (Nat.lt_of_lt_of_le (Nat.lt_of_lt_of_le A22.lt (Keep.of_wr W25).1) (Nat.le_of_eq g31.symm))
  have q60 := ((((((V_b31.other W35 (Ne.symm ne_b22_b31)).ext E39).other W43 (Ne.symm ne_b22_b31)).ext E47).other W51 (Ne.symm ne_b22_b31)).ext E52)
  have ne_b31_b52 : b31 ≠ b52 := Nat.ne_of_lt (Nat.lt_of_lt_of_le (Nat.lt_of_lt_of_le (Nat.lt_of_lt_of_le (Nat.lt_of_lt_of_le (Nat.lt_of_lt_of_le (Nat.lt_of_lt_of_le A31.lt (Keep.of_wr W35).1) E39.1) (Keep.of_wr W43).1) E47.1) (Keep.of_wr W51).1) (Nat.le_of_eq g52.symm))
  refine t3 X52 hx hby hZ e52 hw hown q57 q58 q59 V_b52 q60 ne_b31_b52 ⟨by decide, by decide⟩ (x := 0) rfl ⟨by decide, by decide⟩ rfl (f := 0) rfl ⟨by decide, by decide⟩ (f' := 1) rfl (i' := 1) rfl (iN := 0) rfl (Nat.le_of_ble_eq_true rfl) (jN := 0) rfl (Nat.le_of_ble_eq_true rfl) fun T56 h55 h56 X56 e56 W55 W56 V55 V56 => ?_
  have ne_o2_b52 : o2 ≠ b52 := Nat.ne_of_lt (Nat.lt_of_lt_of_le V.lt sz_b52)
  have ne_o2_b31 : o2 ≠ b31 := Nat.ne_of_lt (Nat.lt_of_lt_of_le V.lt sz_b31)
  have q63 := ((q57.other W55 ne_o2_b52).other W56 ne_o2_b31)
  have ne_o0_b52 : o0 ≠ b52 := Nat.ne_of_lt (Nat.lt_of_lt_of_le E.lt sz_b52)
  have ne_o0_b31 : o0 ≠ b31 := Nat.ne_of_lt (Nat.lt_of_lt_of_le E.lt sz_b31)
  have q64 := ((q58.other W55 (Or.inl ne_o0_b52)).other W56 (Or.inl ne_o0_b31))
  have ne_b22_b52 : b22 ≠ b52 := Nat.ne_of_lt (Nat.lt_of_lt_of_le (Nat.lt_of_lt_of_le (Nat.lt_of_lt_of_le (Nat.lt_of_lt_of_le (Nat.lt_of_lt_of_le (Nat.lt_of_lt_of_le (Nat.lt_of_lt_of_le (Nat.lt_of_lt_of_le A22.lt (Keep.of_wr W25).1) E31.1) (Keep.of_wr W35).1) E39.1) (Keep.of_wr W43).1) E47.1) (Keep.of_wr W51).1) (Nat.le_of_eq g52.symm))
  have q65 := ((q59.other W55 ne_b22_b52).other W56 ne_b22_b31)
  have q66 := (V55.other W56 (Ne.symm ne_b31_b52))
  have ne_b22_b39 : b22 ≠ b39 := Nat.ne_of_lt (Nat.lt_of_lt_of_le (Nat.lt_of_lt_of_le (Nat.lt_of_lt_of_le (Nat.lt_of_lt_of_le A22.lt (Keep.of_wr W25).1) E31.1) (Keep.of_wr W35).1) (Nat.le_of_eq g39.symm))
  have ne_b39_b52 : b39 ≠ b52 := Nat.ne_of_lt (Nat.lt_of_lt_of_le (Nat.lt_of_lt_of_le (Nat.lt_of_lt_of_le (Nat.lt_of_lt_of_le A39.lt (Keep.of_wr W43).1) E47.1) (Keep.of_wr W51).1) (Nat.le_of_eq g52.symm))
  have ne_b31_b39 : b31 ≠ b39 := Nat.ne_of_lt (Nat.lt_of_lt_of_le (Nat.lt_of_lt_of_le A31.lt (Keep.of_wr W35).1) (Nat.le_of_eq g39.symm))
  have q67 := ((((((V_b39.other W43 (Ne.symm ne_b22_b39)).ext E47).other W51 (Ne.symm ne_b22_b39)).ext E52).other W55 ne_b39_b52).other W56 (Ne.symm ne_b31_b39))
  refine t3 X56 hx hby hZ e56 hw hown q63 q64 q65 q66 q67 ne_b39_b52 ⟨by decide, by decide⟩ (x := 1) rfl ⟨by decide, by decide⟩ rfl (f := 0) rfl ⟨by decide, by decide⟩ (f' := 1) rfl (i' := 2) rfl (iN := 1) rfl (Nat.le_of_ble_eq_true rfl) (jN := 0) rfl (Nat.le_of_ble_eq_true rfl) fun T62 h61 h62 X62 e62 W61 W62 V61 V62 => ?_
  have ne_o2_b39 : o2 ≠ b39 := Nat.ne_of_lt (Nat.lt_of_lt_of_le V.lt sz_b39)
  have q70 := ((q63.other W61 ne_o2_b52).other W62 ne_o2_b39)
  have ne_o0_b39 : o0 ≠ b39 := Nat.ne_of_lt (Nat.lt_of_lt_of_le E.lt sz_b39)
  have q71 := ((q64.other W61 (Or.inl ne_o0_b52)).other W62 (Or.inl ne_o0_b39))
  have q72 := ((q65.other W61 ne_b22_b52).other W62 ne_b22_b39)
  have q73 := (V61.other W62 (Ne.symm ne_b39_b52))
  have q74 := ((V56.other W61 ne_b31_b52).other W62 ne_b31_b39)
  refine t3 X62 hx hby hZ e62 hw hown q70 q71 q72 q73 q74 ne_b31_b52 ⟨by decide, by decide⟩ (x := 0) rfl ⟨by decide, by decide⟩ rfl (f := 1) rfl ⟨by decide, by decide⟩ (f' := 2) rfl (i' := 3) rfl (iN := 0) rfl (Nat.le_of_ble_eq_true rfl) (jN := 1) rfl (Nat.le_of_ble_eq_true rfl) fun T69 h68 h69 X69 e69 W68 W69 V68 V69 => ?_
  have q77 := ((q70.other W68 ne_o2_b52).other W69 ne_o2_b31)
  have q78 := ((q71.other W68 (Or.inl ne_o0_b52)).other W69 (Or.inl ne_o0_b31))
  have q79 := ((q72.other W68 ne_b22_b52).other W69 ne_b22_b31)
  have q80 := (V68.other W69 (Ne.symm ne_b31_b52))
  have ne_b22_b47 : b22 ≠ b47 := Nat.ne_of_lt (Nat.lt_of_lt_of_le (Nat.lt_of_lt_of_le (Nat.lt_of_lt_of_le (Nat.lt_of_lt_of_le (Nat.lt_of_lt_of_le (Nat.lt_of_lt_of_le A22.lt (Keep.of_wr W25).1) E31.1) (Keep.of_wr W35).1) E39.1) (Keep.of_wr W43).1) (Nat.le_of_eq g47.symm))
  have ne_b47_b52 : b47 ≠ b52 := Nat.ne_of_lt (Nat.lt_of_lt_of_le (Nat.lt_of_lt_of_le A47.lt (Keep.of_wr W51).1) (Nat.le_of_eq g52.symm))
  have ne_b31_b47 : b31 ≠ b47 := Nat.ne_of_lt (Nat.lt_of_lt_of_le (Nat.lt_of_lt_of_le (Nat.lt_of_lt_of_le (Nat.lt_of_lt_of_le A31.lt (Keep.of_wr W35).1) E39.1) (Keep.of_wr W43).1) (Nat.le_of_eq g47.symm))
  have ne_b39_b47 : b39 ≠ b47 := Nat.ne_of_lt (Nat.lt_of_lt_of_le (Nat.lt_of_lt_of_le A39.lt (Keep.of_wr W43).1) (Nat.le_of_eq g47.symm))
  have q81 := ((((((((V_b47.other W51 (Ne.symm ne_b22_b47)).ext E52).other W55 ne_b47_b52).other W56 (Ne.symm ne_b31_b47)).other W61 ne_b47_b52).other W62 (Ne.symm ne_b39_b47)).other W68 ne_b47_b52).other W69 (Ne.symm ne_b31_b47))
  refine t3 X69 hx hby hZ e69 hw hown q77 q78 q79 q80 q81 ne_b47_b52 ⟨by decide, by decide⟩ (x := 2) rfl ⟨by decide, by decide⟩ rfl (f := 0) rfl ⟨by decide, by decide⟩ (f' := 1) rfl (i' := 4) rfl (iN := 2) rfl (Nat.le_of_ble_eq_true rfl) (jN := 0) rfl (Nat.le_of_ble_eq_true rfl) fun T76 h75 h76 X76 e76 W75 W76 V75 V76 => ?_
  refine o_iload X76 hx hby d4_109 rfl (q := 111) rfl ?_
  refine o_aloadN X76 hx hby d4_111 rfl rfl (q := 112) rfl ?_
  have ne_o2_b47 : o2 ≠ b47 := Nat.ne_of_lt (Nat.lt_of_lt_of_le V.lt sz_b47)
  have q82 := ((q77.other W75 ne_o2_b52).other W76 ne_o2_b47)
  refine o_lenV X76 hx hby hZ e76 q82 d4_112 (q := 113) rfl ?_
  refine o_icY X76 hx hby d4_113 (flt (by decide : ¬ ((4 : Int32) < (4 : Int32)))).2.1 (by decide) (q := 146) (by decide) ?_
  have ne_o0_b47 : o0 ≠ b47 := Nat.ne_of_lt (Nat.lt_of_lt_of_le E.lt sz_b47)
  have q83 := ((q78.other W75 (Or.inl ne_o0_b52)).other W76 (Or.inl ne_o0_b47))
  have q84 := ((q79.other W75 ne_b22_b52).other W76 ne_b22_b47)
  have q85 := ((V69.other W75 ne_b31_b52).other W76 ne_b31_b47)
  have q86 := ((((V62.other W68 ne_b39_b52).other W69 (Ne.symm ne_b31_b39)).other W75 ne_b39_b52).other W76 ne_b39_b47)
  have q87 := ((((((((((((((((((((((((((Keep.refl h0 [o0]).wr W2 (Or.inl (List.mem_of_getElem? (i := 0) rfl))).wr W3 (Or.inl (List.mem_of_getElem? (i := 0) rfl))).wr W7 (Or.inl (List.mem_of_getElem? (i := 0) rfl))).ext E11).wr W15 (Or.inr sz_b11)).wr W17 (Or.inr sz_b11)).wr W19 (Or.inr sz_b11)).wr W21 (Or.inr sz_b11)).ext E22).wr W25 (Or.inl (List.mem_of_getElem? (i := 0) rfl))).ext E31).wr W35 (Or.inr sz_b22)).ext E39).wr W43 (Or.inr sz_b22)).ext E47).wr W51 (Or.inr sz_b22)).ext E52).wr W55 (Or.inr sz_b52)).wr W56 (Or.inr sz_b31)).wr W61 (Or.inr sz_b52)).wr W62 (Or.inr sz_b39)).wr W68 (Or.inr sz_b52)).wr W69 (Or.inr sz_b31)).wr W75 (Or.inr sz_b52)).wr W76 (Or.inr sz_b47))
  have q88 := ((((((((((((((((q27.wr W25).ext E31).wr W35).ext E39).wr W43).ext E47).wr W51).ext E52).wr W55).wr W56).wr W61).wr W62).wr W68).wr W69).wr W75).wr W76)
  have q89 := (((((((((((((((((((((((Fw3.other W7 (Or.inr (slot_ne (Or.inr (w_ hw 32 rfl)) (Or.inr (w_ hw 34 rfl)) (by decide) (t := (.array .int)) (t' := .int) (by decide) (by decide)))).ext E11).other W15 (Or.inl ne_o0_b11)).other W17 (Or.inl ne_o0_b11)).other W19 (Or.inl ne_o0_b11)).other W21 (Or.inl ne_o0_b11)).ext E22).other W25 (Or.inr (slot_ne (Or.inr (w_ hw 32 rfl)) (Or.inr (w_ hw 38 rfl)) (by decide) (t := (.array .int)) (t' := (.array (.array .int))) (by decide) (by decide)))).ext E31).other W35 (Or.inl ne_o0_b22)).ext E39).other W43 (Or.inl ne_o0_b22)).ext E47).other W51 (Or.inl ne_o0_b22)).ext E52).other W55 (Or.inl ne_o0_b52)).other W56 (Or.inl ne_o0_b31)).other W61 (Or.inl ne_o0_b52)).other W62 (Or.inl ne_o0_b39)).other W68 (Or.inl ne_o0_b52)).other W69 (Or.inl ne_o0_b31)).other W75 (Or.inl ne_o0_b52)).other W76 (Or.inl ne_o0_b47))
  have q90 := ((((((((((((((((((((((Fw7.ext E11).other W15 (Or.inl ne_o0_b11)).other W17 (Or.inl ne_o0_b11)).other W19 (Or.inl ne_o0_b11)).other W21 (Or.inl ne_o0_b11)).ext E22).other W25 (Or.inr (slot_ne (Or.inr (w_ hw 34 rfl)) (Or.inr (w_ hw 38 rfl)) (by decide) (t := .int) (t' := (.array (.array .int))) (by decide) (by decide)))).ext E31).other W35 (Or.inl ne_o0_b22)).ext E39).other W43 (Or.inl ne_o0_b22)).ext E47).other W51 (Or.inl ne_o0_b22)).ext E52).other W55 (Or.inl ne_o0_b52)).other W56 (Or.inl ne_o0_b31)).other W61 (Or.inl ne_o0_b52)).other W62 (Or.inl ne_o0_b39)).other W68 (Or.inl ne_o0_b52)).other W69 (Or.inl ne_o0_b31)).other W75 (Or.inl ne_o0_b52)).other W76 (Or.inl ne_o0_b47))
  exact own_outV X76 hx hlk hret (hb hby d4_146) (Q := Q4c0102n3 Z o0 o1 o2 k2 h0 n0) (by rw [e76]; exact ⟨rfl, (Fr.snoc X76 (own_snoc (Fr.snoc X69 (own_snoc (Fr.snoc X62 (own_snoc (Fr.snoc X56 (own_snoc (Fr.snoc X51 (Fr.snoc X43 (Fr.snoc X35 (Fr.snoc X25 (Fr.snoc X21 (Fr.snoc X19 (Fr.snoc X17 (Fr.snoc X15 (Fr.snoc X7 (Fr.snoc X3 (Fr.snoc X2 N0 g_o0) g_o0) g_o0) g_b11) g_b11) g_b11) g_b11) g_o0) g_b22) g_b22) g_b22) g_b52) g_b31) g_b52) g_b39) g_b52) g_b31) g_b52) g_b47), q87, q88, q89, q90, (fun l a0 hw ws h' K o1 oc kc c0 c1 c2 c3 n1 Z1 Fc Vc => rm7r0102 l Z a0 hw ws o0 o1 b22 k22 b31 k31 b39 k39 b47 k47 oc kc c0 c1 c2 c3 h' n1 Z1 (q83.keep K nin0) (q84.keep K nin0) (q85.keep K nin0) (q86.keep K nin0) (V76.keep K nin0) Fc Vc)⟩) (by decide) (by decide)
theorem ef_7r0110 (m : MethodId) (x0 : Addr) (x1 : Addr) : entryFrame m #[(.ref x0), (.ref x1)] 10 = mkF m 0 #[.val (.ref x0), .val (.ref x1), .unset, .unset, .unset, .unset, .unset, .unset, .unset, .unset] [] := by first | (simp [entryFrame, mkF, argsToLocals, Value.category]; done) | rfl
def fr0110 (c0 : Int32) (c1 : Int32) (c2 : Int32) (c3 : Int32) : Int32 := if c3 = c0 then (if c2 = c1 then (1 : Int32)
    else (0 : Int32))
  else (0 : Int32)
def Q7r0110 (Z : State) (o0 : Addr) (o1 : Addr) (cc : Addr) (kcc : ClassId) (d0 : Addr) (kd0 : ClassId) (d1 : Addr) (kd1 : ClassId) (oc : Addr) (kc : ClassId) (c0 : Int32) (c1 : Int32) (c2 : Int32) (c3 : Int32) (h0 : Heap) (n0 : Nat) (v : Option Value) (h : Heap) (L : List Loc) : Prop := v = some (.int (fr0110 c0 c1 c2 c3)) ∧ Fr n0 L ∧ h = h0
set_option maxRecDepth 65536 in
set_option maxHeartbeats 40000000 in
theorem rm7r0110 (l : Launch) (Z : State) (a0 : Array Value) (hw : ∀ d ∈ tables_1, d.before a0 Z = true) (ws : List Jvm.Cond) (o0 : Addr) (o1 : Addr) (cc : Addr) (kcc : ClassId) (d0 : Addr) (kd0 : ClassId) (d1 : Addr) (kd1 : ClassId) (oc : Addr) (kc : ClassId) (c0 : Int32) (c1 : Int32) (c2 : Int32) (c3 : Int32) (h0 : Heap) (n0 : Nat) (Z0 : n0 ≤ h0.size) (Fs : Fld Z h0 o0 "com/example/slimc/slimc/game/Observation" "classes" "[[I" (.ref cc)) (Vcc : Arv Z h0 cc kcc (.array .int) (2 : Int32) [(.ref d0), (.ref d1)] .null) (Vd0 : Arv Z h0 d0 kd0 .int (2 : Int32) [(.int (0 : Int32)), (.int (3 : Int32))] (.int (0 : Int32))) (Vd1 : Arv Z h0 d1 kd1 .int (2 : Int32) [(.int (1 : Int32)), (.int (2 : Int32))] (.int (0 : Int32))) (Fc : Fld Z h0 o1 "com/example/slimc/slimc/game/Observation" "classOf" "[I" (.ref oc)) (Vc : Arv Z h0 oc kc .int (4 : Int32) [(.int c0), (.int c1), (.int c2), (.int c3)] (.int (0 : Int32))) :
    MetFree l (⟨"com/example/slimc/slimc/game/Observation", "refines", "(Lcom/example/slimc/slimc/game/Observation;)Z"⟩ : MethodName) (head1 (Jvm.Cond.code (⟨"com/example/slimc/slimc/game/Observation", "refines", "(Lcom/example/slimc/slimc/game/Observation;)Z"⟩ : MethodName) prog_66_method_8_code 10 (some .boolean) :: ws) ({ frames := 0, cells := 0, slots := 0, locals := 0 } : Room)) (fun a U => a = #[(.ref o0), (.ref o1)] ∧ Z.Warmed39 U.vm ∧ U.heap = h0) (fun _ _ _ _ _ => True) (fun _ U o U' => ∃ v L, o = .returned v ∧ Q7r0110 Z o0 o1 cc kcc d0 kd0 d1 kd1 oc kc c0 c1 c2 c3 h0 n0 v U'.heap L ∧ FrameEnd U o U' L ({ frames := 0, cells := 0, slots := 0, locals := 0 } : Room).cells ({ frames := 0, cells := 0, slots := 0, locals := 0 } : Room).slots) := by
  refine MetFree.of_bodySF (plainFor_of_name pn_1) hisR ?_
  intro p e s m args below meth c s₁ Bd hml0 hP hK
  obtain ⟨rfl, hZ, hh⟩ := hP
  have hx := Bd.exec
  have hby := Bd.bytes
  have hml : c.maxLocals = 10 := hml0
  have hown : s.vm.findClass "com/example/slimc/slimc/game/Observation" = some m.cls := findClass_of_methodNamed Bd.named
  have hnm := (name_of_methodNamed Bd.named Bd.method).1
  have X0 : Stand p l e ({ frames := 0, cells := 0, slots := 0, locals := 0 } : Room) s m #[(.ref o0), (.ref o1)] below meth c s₁ [] 0 0 := Stand.of_body Bd
  have e0 : s₁.heap = h0 := by rw [← hh, Bd.state]; rfl
  have N0 := Fr.nil n0
  have hret := Bd.returns
  have hlk := BodyLoose.notSynchronized Bd
  show own_Out p e below (fun o U' => ∃ v L, o = .returned v ∧ Q7r0110 Z o0 o1 cc kcc d0 kd0 d1 kd1 oc kc c0 c1 c2 c3 h0 n0 v U'.heap L ∧ FrameEnd s o U' L ({ frames := 0, cells := 0, slots := 0, locals := 0 } : Room).cells ({ frames := 0, cells := 0, slots := 0, locals := 0 } : Room).slots) (s₁.setTop (entryFrame m #[(.ref o0), (.ref o1)] 10))
  refine own_of (fun t k => castTop (ef_7r0110 m o0 o1) k) ?_
  show own_Out p e below _ (s₁.setTop (mkF m 0 #[rv o0, rv o1, .unset, .unset, .unset, .unset, .unset, .unset, .unset, .unset] []))
  refine o_aloadN X0 hx hby d7_0 rfl rfl (q := 1) rfl ?_
  refine o_getF X0 hx hZ hown hby (w_ hw 37 rfl) Via.refl e0 Fs d7_1 (q := 4) rfl fun T1 X1 e1 => ?_
  refine o_astoreN X1 hx hby d7_4 rfl (l' := #[rv o0, rv o1, rv cc, .unset, .unset, .unset, .unset, .unset, .unset, .unset]) rfl (q := 5) rfl ?_
  refine o_aloadN X1 hx hby d7_5 rfl rfl (q := 6) rfl ?_
  refine o_lenV X1 hx hby hZ e1 Vcc d7_6 (q := 7) rfl ?_
  refine o_istoreN X1 hx hby d7_7 (l' := #[rv o0, rv o1, rv cc, iv 2, .unset, .unset, .unset, .unset, .unset, .unset]) rfl (q := 8) rfl ?_
  refine o_iconst X1 hx hby d7_8 (z := 0) rfl (q := 9) rfl ?_
  refine o_istore X1 hx hby d7_9 (l' := #[rv o0, rv o1, rv cc, iv 2, iv 0, .unset, .unset, .unset, .unset, .unset]) rfl (q := 11) rfl ?_
  refine o_iload X1 hx hby d7_11 rfl (q := 13) rfl ?_
  refine o_iloadN X1 hx hby d7_13 rfl (q := 14) rfl ?_
  refine o_icN X1 hx hby d7_14 (tlt (by decide : (0 : Int32) < (2 : Int32))).2.1 (q := 17) rfl ?_
  refine o_aloadN X1 hx hby d7_17 rfl rfl (q := 18) rfl ?_
  refine o_iload X1 hx hby d7_18 rfl (q := 20) rfl ?_
  refine o_aaV X1 hx hby hZ e1 Vcc rfl ⟨by decide, by decide⟩ (v := .ref d0) rfl d7_20 (q := 21) rfl ?_
  refine o_astore X1 hx hby d7_21 rfl (l' := #[rv o0, rv o1, rv cc, iv 2, iv 0, rv d0, .unset, .unset, .unset, .unset]) rfl (q := 23) rfl ?_
  refine o_aload X1 hx hby d7_23 rfl rfl (q := 25) rfl ?_
  refine o_astore X1 hx hby d7_25 rfl (l' := #[rv o0, rv o1, rv cc, iv 2, iv 0, rv d0, rv d0, .unset, .unset, .unset]) rfl (q := 27) rfl ?_
  refine o_aload X1 hx hby d7_27 rfl rfl (q := 29) rfl ?_
  refine o_lenV X1 hx hby hZ e1 Vd0 d7_29 (q := 30) rfl ?_
  refine o_istore X1 hx hby d7_30 (l' := #[rv o0, rv o1, rv cc, iv 2, iv 0, rv d0, rv d0, iv 2, .unset, .unset]) rfl (q := 32) rfl ?_
  refine o_iconst X1 hx hby d7_32 (z := 0) rfl (q := 33) rfl ?_
  refine o_istore X1 hx hby d7_33 (l' := #[rv o0, rv o1, rv cc, iv 2, iv 0, rv d0, rv d0, iv 2, iv 0, .unset]) rfl (q := 35) rfl ?_
  refine o_iload X1 hx hby d7_35 rfl (q := 37) rfl ?_
  refine o_iload X1 hx hby d7_37 rfl (q := 39) rfl ?_
  refine o_icN X1 hx hby d7_39 (tlt (by decide : (0 : Int32) < (2 : Int32))).2.1 (q := 42) rfl ?_
  refine o_aload X1 hx hby d7_42 rfl rfl (q := 44) rfl ?_
  refine o_iload X1 hx hby d7_44 rfl (q := 46) rfl ?_
  refine o_iaV X1 hx hby hZ e1 Vd0 ⟨by decide, by decide⟩ (v := .int 0) rfl d7_46 (q := 47) rfl ?_
  refine o_istore X1 hx hby d7_47 (l' := #[rv o0, rv o1, rv cc, iv 2, iv 0, rv d0, rv d0, iv 2, iv 0, iv 0]) rfl (q := 49) rfl ?_
  refine o_aloadN X1 hx hby d7_49 rfl rfl (q := 50) rfl ?_
  refine o_getF X1 hx hZ hown hby (w_ hw 31 rfl) Via.refl e1 Fc d7_50 (q := 53) rfl fun T2 X2 e2 => ?_
  refine o_iload X2 hx hby d7_53 rfl (q := 55) rfl ?_
  refine o_iaV X2 hx hby hZ e2 Vc ⟨by decide, by decide⟩ (v := .int c0) rfl d7_55 (q := 56) rfl ?_
  refine o_aloadN X2 hx hby d7_56 rfl rfl (q := 57) rfl ?_
  refine o_getF X2 hx hZ hown hby (w_ hw 31 rfl) Via.refl e2 Fc d7_57 (q := 60) rfl fun T3 X3 e3 => ?_
  refine o_aload X3 hx hby d7_60 rfl rfl (q := 62) rfl ?_
  refine o_iconst X3 hx hby d7_62 (z := 0) rfl (q := 63) rfl ?_
  refine o_iaV X3 hx hby hZ e3 Vd0 ⟨by decide, by decide⟩ (v := .int 0) rfl d7_63 (q := 64) rfl ?_
  refine o_iaV X3 hx hby hZ e3 Vc ⟨by decide, by decide⟩ (v := .int c0) rfl d7_64 (q := 65) rfl ?_
  refine o_icY X3 hx hby d7_65 (teq (rfl : c0 = c0)).1 (by decide) (q := 70) (by decide) ?_
  refine o_iinc X3 hx hby d7_70 rfl (l' := #[rv o0, rv o1, rv cc, iv 2, iv 0, rv d0, rv d0, iv 2, iv 1, iv 0]) rfl (q := 73) rfl ?_
  refine o_goto X3 hx hby d7_73 (by decide) (q := 35) (by decide) ?_
  refine o_iload X3 hx hby d7_35 rfl (q := 37) rfl ?_
  refine o_iload X3 hx hby d7_37 rfl (q := 39) rfl ?_
  refine o_icN X3 hx hby d7_39 (tlt (by decide : (1 : Int32) < (2 : Int32))).2.1 (q := 42) rfl ?_
  refine o_aload X3 hx hby d7_42 rfl rfl (q := 44) rfl ?_
  refine o_iload X3 hx hby d7_44 rfl (q := 46) rfl ?_
  refine o_iaV X3 hx hby hZ e3 Vd0 ⟨by decide, by decide⟩ (v := .int 3) rfl d7_46 (q := 47) rfl ?_
  refine o_istore X3 hx hby d7_47 (l' := #[rv o0, rv o1, rv cc, iv 2, iv 0, rv d0, rv d0, iv 2, iv 1, iv 3]) rfl (q := 49) rfl ?_
  refine o_aloadN X3 hx hby d7_49 rfl rfl (q := 50) rfl ?_
  refine o_getF X3 hx hZ hown hby (w_ hw 31 rfl) Via.refl e3 Fc d7_50 (q := 53) rfl fun T4 X4 e4 => ?_
  refine o_iload X4 hx hby d7_53 rfl (q := 55) rfl ?_
  refine o_iaV X4 hx hby hZ e4 Vc ⟨by decide, by decide⟩ (v := .int c3) rfl d7_55 (q := 56) rfl ?_
  refine o_aloadN X4 hx hby d7_56 rfl rfl (q := 57) rfl ?_
  refine o_getF X4 hx hZ hown hby (w_ hw 31 rfl) Via.refl e4 Fc d7_57 (q := 60) rfl fun T5 X5 e5 => ?_
  refine o_aload X5 hx hby d7_60 rfl rfl (q := 62) rfl ?_
  refine o_iconst X5 hx hby d7_62 (z := 0) rfl (q := 63) rfl ?_
  refine o_iaV X5 hx hby hZ e5 Vd0 ⟨by decide, by decide⟩ (v := .int 0) rfl d7_63 (q := 64) rfl ?_
  refine o_iaV X5 hx hby hZ e5 Vc ⟨by decide, by decide⟩ (v := .int c0) rfl d7_64 (q := 65) rfl ?_
  by_cases hc65_6 : c3 = c0
  · skip
    refine o_icY X5 hx hby d7_65 (teq hc65_6).1 (by decide) (q := 70) (by decide) ?_
    refine o_iinc X5 hx hby d7_70 rfl (l' := #[rv o0, rv o1, rv cc, iv 2, iv 0, rv d0, rv d0, iv 2, iv 2, iv 3]) rfl (q := 73) rfl ?_
    refine o_goto X5 hx hby d7_73 (by decide) (q := 35) (by decide) ?_
    refine o_iload X5 hx hby d7_35 rfl (q := 37) rfl ?_
    refine o_iload X5 hx hby d7_37 rfl (q := 39) rfl ?_
    refine o_icY X5 hx hby d7_39 (flt (by decide : ¬ ((2 : Int32) < (2 : Int32)))).2.1 (by decide) (q := 76) (by decide) ?_
    refine o_iinc X5 hx hby d7_76 rfl (l' := #[rv o0, rv o1, rv cc, iv 2, iv 1, rv d0, rv d0, iv 2, iv 2, iv 3]) rfl (q := 79) rfl ?_
    refine o_goto X5 hx hby d7_79 (by decide) (q := 11) (by decide) ?_
    refine o_iload X5 hx hby d7_11 rfl (q := 13) rfl ?_
    refine o_iloadN X5 hx hby d7_13 rfl (q := 14) rfl ?_
    refine o_icN X5 hx hby d7_14 (tlt (by decide : (1 : Int32) < (2 : Int32))).2.1 (q := 17) rfl ?_
    refine o_aloadN X5 hx hby d7_17 rfl rfl (q := 18) rfl ?_
    refine o_iload X5 hx hby d7_18 rfl (q := 20) rfl ?_
    refine o_aaV X5 hx hby hZ e5 Vcc rfl ⟨by decide, by decide⟩ (v := .ref d1) rfl d7_20 (q := 21) rfl ?_
    refine o_astore X5 hx hby d7_21 rfl (l' := #[rv o0, rv o1, rv cc, iv 2, iv 1, rv d1, rv d0, iv 2, iv 2, iv 3]) rfl (q := 23) rfl ?_
    refine o_aload X5 hx hby d7_23 rfl rfl (q := 25) rfl ?_
    refine o_astore X5 hx hby d7_25 rfl (l' := #[rv o0, rv o1, rv cc, iv 2, iv 1, rv d1, rv d1, iv 2, iv 2, iv 3]) rfl (q := 27) rfl ?_
    refine o_aload X5 hx hby d7_27 rfl rfl (q := 29) rfl ?_
    refine o_lenV X5 hx hby hZ e5 Vd1 d7_29 (q := 30) rfl ?_
    refine o_istore X5 hx hby d7_30 (l' := #[rv o0, rv o1, rv cc, iv 2, iv 1, rv d1, rv d1, iv 2, iv 2, iv 3]) rfl (q := 32) rfl ?_
    refine o_iconst X5 hx hby d7_32 (z := 0) rfl (q := 33) rfl ?_
    refine o_istore X5 hx hby d7_33 (l' := #[rv o0, rv o1, rv cc, iv 2, iv 1, rv d1, rv d1, iv 2, iv 0, iv 3]) rfl (q := 35) rfl ?_
    refine o_iload X5 hx hby d7_35 rfl (q := 37) rfl ?_
    refine o_iload X5 hx hby d7_37 rfl (q := 39) rfl ?_
    refine o_icN X5 hx hby d7_39 (tlt (by decide : (0 : Int32) < (2 : Int32))).2.1 (q := 42) rfl ?_
    refine o_aload X5 hx hby d7_42 rfl rfl (q := 44) rfl ?_
    refine o_iload X5 hx hby d7_44 rfl (q := 46) rfl ?_
    refine o_iaV X5 hx hby hZ e5 Vd1 ⟨by decide, by decide⟩ (v := .int 1) rfl d7_46 (q := 47) rfl ?_
    refine o_istore X5 hx hby d7_47 (l' := #[rv o0, rv o1, rv cc, iv 2, iv 1, rv d1, rv d1, iv 2, iv 0, iv 1]) rfl (q := 49) rfl ?_
    refine o_aloadN X5 hx hby d7_49 rfl rfl (q := 50) rfl ?_
    refine o_getF X5 hx hZ hown hby (w_ hw 31 rfl) Via.refl e5 Fc d7_50 (q := 53) rfl fun T7 X7 e7 => ?_
    refine o_iload X7 hx hby d7_53 rfl (q := 55) rfl ?_
    refine o_iaV X7 hx hby hZ e7 Vc ⟨by decide, by decide⟩ (v := .int c1) rfl d7_55 (q := 56) rfl ?_
    refine o_aloadN X7 hx hby d7_56 rfl rfl (q := 57) rfl ?_
    refine o_getF X7 hx hZ hown hby (w_ hw 31 rfl) Via.refl e7 Fc d7_57 (q := 60) rfl fun T8 X8 e8 => ?_
    refine o_aload X8 hx hby d7_60 rfl rfl (q := 62) rfl ?_
    refine o_iconst X8 hx hby d7_62 (z := 0) rfl (q := 63) rfl ?_
    refine o_iaV X8 hx hby hZ e8 Vd1 ⟨by decide, by decide⟩ (v := .int 1) rfl d7_63 (q := 64) rfl ?_
    refine o_iaV X8 hx hby hZ e8 Vc ⟨by decide, by decide⟩ (v := .int c1) rfl d7_64 (q := 65) rfl ?_
    refine o_icY X8 hx hby d7_65 (teq (rfl : c1 = c1)).1 (by decide) (q := 70) (by decide) ?_
    refine o_iinc X8 hx hby d7_70 rfl (l' := #[rv o0, rv o1, rv cc, iv 2, iv 1, rv d1, rv d1, iv 2, iv 1, iv 1]) rfl (q := 73) rfl ?_
    refine o_goto X8 hx hby d7_73 (by decide) (q := 35) (by decide) ?_
    refine o_iload X8 hx hby d7_35 rfl (q := 37) rfl ?_
    refine o_iload X8 hx hby d7_37 rfl (q := 39) rfl ?_
    refine o_icN X8 hx hby d7_39 (tlt (by decide : (1 : Int32) < (2 : Int32))).2.1 (q := 42) rfl ?_
    refine o_aload X8 hx hby d7_42 rfl rfl (q := 44) rfl ?_
    refine o_iload X8 hx hby d7_44 rfl (q := 46) rfl ?_
    refine o_iaV X8 hx hby hZ e8 Vd1 ⟨by decide, by decide⟩ (v := .int 2) rfl d7_46 (q := 47) rfl ?_
    refine o_istore X8 hx hby d7_47 (l' := #[rv o0, rv o1, rv cc, iv 2, iv 1, rv d1, rv d1, iv 2, iv 1, iv 2]) rfl (q := 49) rfl ?_
    refine o_aloadN X8 hx hby d7_49 rfl rfl (q := 50) rfl ?_
    refine o_getF X8 hx hZ hown hby (w_ hw 31 rfl) Via.refl e8 Fc d7_50 (q := 53) rfl fun T9 X9 e9 => ?_
    refine o_iload X9 hx hby d7_53 rfl (q := 55) rfl ?_
    refine o_iaV X9 hx hby hZ e9 Vc ⟨by decide, by decide⟩ (v := .int c2) rfl d7_55 (q := 56) rfl ?_
    refine o_aloadN X9 hx hby d7_56 rfl rfl (q := 57) rfl ?_
    refine o_getF X9 hx hZ hown hby (w_ hw 31 rfl) Via.refl e9 Fc d7_57 (q := 60) rfl fun T10 X10 e10 => ?_
    refine o_aload X10 hx hby d7_60 rfl rfl (q := 62) rfl ?_
    refine o_iconst X10 hx hby d7_62 (z := 0) rfl (q := 63) rfl ?_
    refine o_iaV X10 hx hby hZ e10 Vd1 ⟨by decide, by decide⟩ (v := .int 1) rfl d7_63 (q := 64) rfl ?_
    refine o_iaV X10 hx hby hZ e10 Vc ⟨by decide, by decide⟩ (v := .int c1) rfl d7_64 (q := 65) rfl ?_
    by_cases hc65_11 : c2 = c1
    · skip
      refine o_icY X10 hx hby d7_65 (teq hc65_11).1 (by decide) (q := 70) (by decide) ?_
      refine o_iinc X10 hx hby d7_70 rfl (l' := #[rv o0, rv o1, rv cc, iv 2, iv 1, rv d1, rv d1, iv 2, iv 2, iv 2]) rfl (q := 73) rfl ?_
      refine o_goto X10 hx hby d7_73 (by decide) (q := 35) (by decide) ?_
      refine o_iload X10 hx hby d7_35 rfl (q := 37) rfl ?_
      refine o_iload X10 hx hby d7_37 rfl (q := 39) rfl ?_
      refine o_icY X10 hx hby d7_39 (flt (by decide : ¬ ((2 : Int32) < (2 : Int32)))).2.1 (by decide) (q := 76) (by decide) ?_
      refine o_iinc X10 hx hby d7_76 rfl (l' := #[rv o0, rv o1, rv cc, iv 2, iv 2, rv d1, rv d1, iv 2, iv 2, iv 2]) rfl (q := 79) rfl ?_
      refine o_goto X10 hx hby d7_79 (by decide) (q := 11) (by decide) ?_
      refine o_iload X10 hx hby d7_11 rfl (q := 13) rfl ?_
      refine o_iloadN X10 hx hby d7_13 rfl (q := 14) rfl ?_
      refine o_icY X10 hx hby d7_14 (flt (by decide : ¬ ((2 : Int32) < (2 : Int32)))).2.1 (by decide) (q := 82) (by decide) ?_
      refine o_iconst X10 hx hby d7_82 (z := 1) rfl (q := 83) rfl ?_
      exact own_outN X10 hx hlk (t := .boolean) hret (by simp) (hb hby d7_83) (z' := (1 : Int32)) rfl (Q := Q7r0110 Z o0 o1 cc kcc d0 kd0 d1 kd1 oc kc c0 c1 c2 c3 h0 n0) ⟨by simp only [fr0110, if_pos hc65_6, if_pos hc65_11], N0, e10⟩ (by decide) (by decide)
    · skip
      refine o_icN X10 hx hby d7_65 (feq hc65_11).1 (q := 68) rfl ?_
      refine o_iconst X10 hx hby d7_68 (z := 0) rfl (q := 69) rfl ?_
      exact own_outN X10 hx hlk (t := .boolean) hret (by simp) (hb hby d7_69) (z' := (0 : Int32)) rfl (Q := Q7r0110 Z o0 o1 cc kcc d0 kd0 d1 kd1 oc kc c0 c1 c2 c3 h0 n0) ⟨by simp only [fr0110, if_pos hc65_6, if_neg hc65_11], N0, e10⟩ (by decide) (by decide)
  · skip
    refine o_icN X5 hx hby d7_65 (feq hc65_6).1 (q := 68) rfl ?_
    refine o_iconst X5 hx hby d7_68 (z := 0) rfl (q := 69) rfl ?_
    exact own_outN X5 hx hlk (t := .boolean) hret (by simp) (hb hby d7_69) (z' := (0 : Int32)) rfl (Q := Q7r0110 Z o0 o1 cc kcc d0 kd0 d1 kd1 oc kc c0 c1 c2 c3 h0 n0) ⟨by simp only [fr0110, if_neg hc65_6], N0, e5⟩ (by decide) (by decide)
theorem ef_4c0110n2 (m : MethodId) (x0 : Addr) (x1 : Addr) (x2 : Addr) : entryFrame m #[(.ref x0), (.ref x1), (.ref x2), (.int (2 : Int32))] 9 = mkF m 0 #[.val (.ref x0), .val (.ref x1), .val (.ref x2), .val (.int (2 : Int32)), .unset, .unset, .unset, .unset, .unset] [] := by first | (simp [entryFrame, mkF, argsToLocals, Value.category]; done) | rfl
def Q4c0110n2 (Z : State) (o0 : Addr) (o1 : Addr) (o2 : Addr) (k2 : ClassId) (h0 : Heap) (n0 : Nat) (v : Option Value) (h : Heap) (L : List Loc) : Prop := v = none ∧ Fr n0 L ∧ Keep h0 h [o0] ∧ Exa Z h o0 "com/example/slimc/slimc/game/Observation" ∧ Fld Z h o0 "com/example/slimc/slimc/game/Observation" "classOf" "[I" (.ref o2) ∧ Fld Z h o0 "com/example/slimc/slimc/game/Observation" "classCount" "I" (.int (2 : Int32)) ∧ RefOk Z h o0 fr0110
set_option maxRecDepth 65536 in
set_option maxHeartbeats 40000000 in
theorem rm4c0110n2 (l : Launch) (Z : State) (a0 : Array Value) (hw : ∀ d ∈ tables_1, d.before a0 Z = true) (ws : List Jvm.Cond) (o0 : Addr) (o1 : Addr) (o2 : Addr) (k2 : ClassId) (h0 : Heap) (n0 : Nat) (Z0 : n0 ≤ h0.size) (E : Exa Z h0 o0 "com/example/slimc/slimc/game/Observation") (F_name : Fld Z h0 o0 "com/example/slimc/slimc/game/Observation" "name" "Ljava/lang/String;" .null) (F_classOf : Fld Z h0 o0 "com/example/slimc/slimc/game/Observation" "classOf" "[I" .null) (F_classCount : Fld Z h0 o0 "com/example/slimc/slimc/game/Observation" "classCount" "I" (.int (0 : Int32))) (F_classes : Fld Z h0 o0 "com/example/slimc/slimc/game/Observation" "classes" "[[I" .null) (g_o0 : n0 ≤ o0) (V : Arv Z h0 o2 k2 .int (4 : Int32) [(.int (0 : Int32)), (.int (1 : Int32)), (.int (1 : Int32)), (.int (0 : Int32))] (.int (0 : Int32))) (n2 : o2 ≠ o0) :
    MetFree l (⟨"com/example/slimc/slimc/game/Observation", "<init>", "(Ljava/lang/String;[II)V"⟩ : MethodName) (head1 (Jvm.Cond.code (⟨"com/example/slimc/slimc/game/Observation", "<init>", "(Ljava/lang/String;[II)V"⟩ : MethodName) prog_66_method_1_code 9 none :: ws) ({ frames := 1, cells := 7, slots := 16, locals := 14 } : Room)) (fun a U => a = #[(.ref o0), (.ref o1), (.ref o2), (.int (2 : Int32))] ∧ Z.Warmed39 U.vm ∧ U.heap = h0) (fun _ _ _ _ _ => True) (fun _ U o U' => ∃ v L, o = .returned v ∧ Q4c0110n2 Z o0 o1 o2 k2 h0 n0 v U'.heap L ∧ FrameEnd U o U' L ({ frames := 1, cells := 7, slots := 16, locals := 14 } : Room).cells ({ frames := 1, cells := 7, slots := 16, locals := 14 } : Room).slots) := by
  refine MetFree.of_bodySF (plainFor_of_name pn_1) hisR ?_
  intro p e s m args below meth c s₁ Bd hml0 hP hK
  obtain ⟨rfl, hZ, hh⟩ := hP
  have hx := Bd.exec
  have hby := Bd.bytes
  have hml : c.maxLocals = 9 := hml0
  have hown : s.vm.findClass "com/example/slimc/slimc/game/Observation" = some m.cls := findClass_of_methodNamed Bd.named
  have hnm := (name_of_methodNamed Bd.named Bd.method).1
  have X0 : Stand p l e ({ frames := 1, cells := 7, slots := 16, locals := 14 } : Room) s m #[(.ref o0), (.ref o1), (.ref o2), (.int (2 : Int32))] below meth c s₁ [] 0 0 := Stand.of_body Bd
  have e0 : s₁.heap = h0 := by rw [← hh, Bd.state]; rfl
  have N0 := Fr.nil n0
  have hret := Bd.returns
  have hlk := BodyLoose.notSynchronized Bd
  show own_Out p e below (fun o U' => ∃ v L, o = .returned v ∧ Q4c0110n2 Z o0 o1 o2 k2 h0 n0 v U'.heap L ∧ FrameEnd s o U' L ({ frames := 1, cells := 7, slots := 16, locals := 14 } : Room).cells ({ frames := 1, cells := 7, slots := 16, locals := 14 } : Room).slots) (s₁.setTop (entryFrame m #[(.ref o0), (.ref o1), (.ref o2), (.int (2 : Int32))] 9))
  refine own_of (fun t k => castTop (ef_4c0110n2 m o0 o1 o2) k) ?_
  show own_Out p e below _ (s₁.setTop (mkF m 0 #[rv o0, rv o1, rv o2, iv 2, .unset, .unset, .unset, .unset, .unset] []))
  refine o_aloadN X0 hx hby d4_0 rfl rfl (q := 1) rfl ?_
  obtain ⟨T1, X1, e1, st1⟩ := initO X0 hx hZ hown (w_ hw 26 rfl) (w_ hw 27 rfl) (w_ hw 28 rfl) e0 (g := (mkF m 1 #[rv o0, rv o1, rv o2, iv 2, .unset, .unset, .unset, .unset, .unset] [.ref o0])) rfl (by rw [hml]; rfl) rfl (hb hby d4_1) (by decide) (W := 0) (by show 2 * 0 + _ ≤ _; exact Nat.le_of_eq rfl) (by decide)
  refine own_of st1 ?_
  show own_Out p e below _ (T1.setTop (mkF m 4 #[rv o0, rv o1, rv o2, iv 2, .unset, .unset, .unset, .unset, .unset] []))
  refine o_aloadN X1 hx hby d4_4 rfl rfl (q := 5) rfl ?_
  refine o_aloadN X1 hx hby d4_5 rfl rfl (q := 6) rfl ?_
  obtain ⟨T2, h2, X2, e2, W2, st2⟩ := putF X1 hx hZ hown (host := "") (Or.inl (w_ hw 29 rfl)) Via.refl e1 F_name E (Or.inr ⟨(w_ hw 30 rfl), rfl, hnm⟩) (w_ hw 10 rfl) (ty := (.object "java/lang/String")) (by decide) rfl rfl (g := (mkF m 6 #[rv o0, rv o1, rv o2, iv 2, .unset, .unset, .unset, .unset, .unset] [.ref o1, .ref o0])) rfl rfl (hb hby d4_6)
  have Fw2 := F_name.same W2
  refine own_of st2 ?_
  show own_Out p e below _ (T2.setTop (mkF m 9 #[rv o0, rv o1, rv o2, iv 2, .unset, .unset, .unset, .unset, .unset] []))
  refine o_aloadN X2 hx hby d4_9 rfl rfl (q := 10) rfl ?_
  refine o_aloadN X2 hx hby d4_10 rfl rfl (q := 11) rfl ?_
  have q4 := (F_classOf.other W2 (Or.inr (slot_ne (Or.inr (w_ hw 32 rfl)) (Or.inr (w_ hw 30 rfl)) (by decide) (t := (.array .int)) (t' := (.object "java/lang/String")) (by decide) (by decide))))
  have q5 := (E.wr W2)
  obtain ⟨T3, h3, X3, e3, W3, st3⟩ := putF X2 hx hZ hown (host := "") (Or.inl (w_ hw 31 rfl)) Via.refl e2 q4 q5 (Or.inr ⟨(w_ hw 32 rfl), rfl, hnm⟩) (w_ hw 10 rfl) (ty := (.array .int)) (by decide) rfl rfl (g := (mkF m 11 #[rv o0, rv o1, rv o2, iv 2, .unset, .unset, .unset, .unset, .unset] [.ref o2, .ref o0])) rfl rfl (hb hby d4_11)
  have q6 := (F_classOf.other W2 (Or.inr (slot_ne (Or.inr (w_ hw 32 rfl)) (Or.inr (w_ hw 30 rfl)) (by decide) (t := (.array .int)) (t' := (.object "java/lang/String")) (by decide) (by decide))))
  have Fw3 := q6.same W3
  refine own_of st3 ?_
  show own_Out p e below _ (T3.setTop (mkF m 14 #[rv o0, rv o1, rv o2, iv 2, .unset, .unset, .unset, .unset, .unset] []))
  refine o_aloadN X3 hx hby d4_14 rfl rfl (q := 15) rfl ?_
  refine o_iloadN X3 hx hby d4_15 rfl (q := 16) rfl ?_
  have q8 := ((F_classCount.other W2 (Or.inr (slot_ne (Or.inr (w_ hw 34 rfl)) (Or.inr (w_ hw 30 rfl)) (by decide) (t := .int) (t' := (.object "java/lang/String")) (by decide) (by decide)))).other W3 (Or.inr (slot_ne (Or.inr (w_ hw 34 rfl)) (Or.inr (w_ hw 32 rfl)) (by decide) (t := .int) (t' := (.array .int)) (by decide) (by decide))))
  have q9 := (q5.wr W3)
  obtain ⟨T7, h7, X7, e7, W7, st7⟩ := putF X3 hx hZ hown (host := "") (Or.inl (w_ hw 33 rfl)) Via.refl e3 q8 q9 (Or.inr ⟨(w_ hw 34 rfl), rfl, hnm⟩) (w_ hw 10 rfl) (ty := .int) (by decide) rfl rfl (g := (mkF m 16 #[rv o0, rv o1, rv o2, iv 2, .unset, .unset, .unset, .unset, .unset] [.int 2, .ref o0])) rfl rfl (hb hby d4_16)
  have q10 := ((F_classCount.other W2 (Or.inr (slot_ne (Or.inr (w_ hw 34 rfl)) (Or.inr (w_ hw 30 rfl)) (by decide) (t := .int) (t' := (.object "java/lang/String")) (by decide) (by decide)))).other W3 (Or.inr (slot_ne (Or.inr (w_ hw 34 rfl)) (Or.inr (w_ hw 32 rfl)) (by decide) (t := .int) (t' := (.array .int)) (by decide) (by decide))))
  have Fw7 := q10.same W7
  refine own_of st7 ?_
  show own_Out p e below _ (T7.setTop (mkF m 19 #[rv o0, rv o1, rv o2, iv 2, .unset, .unset, .unset, .unset, .unset] []))
  refine o_iloadN X7 hx hby d4_19 rfl (q := 20) rfl ?_
  obtain ⟨T11, h11, k11, X11, e11, E11, A11, Ex11, st11⟩ := newPE X7 hx hZ (w_ hw 4 rfl) e7 (g := (mkF m 20 #[rv o0, rv o1, rv o2, iv 2, .unset, .unset, .unset, .unset, .unset] [.int 2])) rfl (hb hby d4_20) rfl (by decide) (cap := 2) (by decide) (by decide) (by decide) (by decide) (ad := "[I") (by decide +kernel)
  obtain ⟨b11, g11⟩ : ∃ z, z = h7.size := ⟨_, rfl⟩
  rw [← g11] at A11 Ex11 st11
  have q12 := (Nat.le_trans (Nat.le_trans (Nat.le_trans Z0 (Keep.of_wr W2).1) (Keep.of_wr W3).1) (Keep.of_wr W7).1)
  have g_b11 : n0 ≤ b11 := Nat.le_trans q12 (Nat.le_of_eq g11.symm)
  have q13 := (Nat.le_trans (Nat.le_trans (Nat.le_trans (Nat.le_refl h0.size) (Keep.of_wr W2).1) (Keep.of_wr W3).1) (Keep.of_wr W7).1)
  have sz_b11 : h0.size ≤ b11 := Nat.le_trans q13 (Nat.le_of_eq g11.symm)
  have V_b11 : Arv Z h11 b11 k11 .int (2 : Int32) [(.int (0 : Int32)), (.int (0 : Int32))] (.int (0 : Int32)) := (Arv.new A11 (by decide)).pad (pad_rep [] (.int (0 : Int32)) 2)
  refine own_of st11 ?_
  show own_Out p e below _ (T11.setTop (mkF m 22 #[rv o0, rv o1, rv o2, iv 2, .unset, .unset, .unset, .unset, .unset] [.ref b11]))
  refine o_astore X11 hx hby d4_22 rfl (l' := #[rv o0, rv o1, rv o2, iv 2, rv b11, .unset, .unset, .unset, .unset]) rfl (q := 24) rfl ?_
  refine o_aloadN X11 hx hby d4_24 rfl rfl (q := 25) rfl ?_
  refine o_astore X11 hx hby d4_25 rfl (l' := #[rv o0, rv o1, rv o2, iv 2, rv b11, rv o2, .unset, .unset, .unset]) rfl (q := 27) rfl ?_
  refine o_aload X11 hx hby d4_27 rfl rfl (q := 29) rfl ?_
  have q14 := ((((V.other W2 n2).other W3 n2).other W7 n2).ext E11)
  refine o_lenV X11 hx hby hZ e11 q14 d4_29 (q := 30) rfl ?_
  refine o_istore X11 hx hby d4_30 (l' := #[rv o0, rv o1, rv o2, iv 2, rv b11, rv o2, iv 4, .unset, .unset]) rfl (q := 32) rfl ?_
  refine o_iconst X11 hx hby d4_32 (z := 0) rfl (q := 33) rfl ?_
  refine o_istore X11 hx hby d4_33 (l' := #[rv o0, rv o1, rv o2, iv 2, rv b11, rv o2, iv 4, iv 0, .unset]) rfl (q := 35) rfl ?_
  refine t1 X11 hx hby hZ e11 q14 V_b11 rfl ⟨by decide, by decide⟩ (cc := 0) rfl ⟨by decide, by decide⟩ (y := 0) rfl (y' := 1) rfl (i' := 1) rfl (iN := 0) rfl (Nat.le_of_ble_eq_true rfl) fun T15 h15 X15 e15 W15 V15 => ?_
  have ne_o2_b11 : o2 ≠ b11 := Nat.ne_of_lt (Nat.lt_of_lt_of_le V.lt sz_b11)
  have q16 := (q14.other W15 ne_o2_b11)
  refine t1 X15 hx hby hZ e15 q16 V15 rfl ⟨by decide, by decide⟩ (cc := 1) rfl ⟨by decide, by decide⟩ (y := 0) rfl (y' := 1) rfl (i' := 2) rfl (iN := 1) rfl (Nat.le_of_ble_eq_true rfl) fun T17 h17 X17 e17 W17 V17 => ?_
  have q18 := (q16.other W17 ne_o2_b11)
  refine t1 X17 hx hby hZ e17 q18 V17 rfl ⟨by decide, by decide⟩ (cc := 1) rfl ⟨by decide, by decide⟩ (y := 1) rfl (y' := 2) rfl (i' := 3) rfl (iN := 1) rfl (Nat.le_of_ble_eq_true rfl) fun T19 h19 X19 e19 W19 V19 => ?_
  have q20 := (q18.other W19 ne_o2_b11)
  refine t1 X19 hx hby hZ e19 q20 V19 rfl ⟨by decide, by decide⟩ (cc := 0) rfl ⟨by decide, by decide⟩ (y := 1) rfl (y' := 2) rfl (i' := 4) rfl (iN := 0) rfl (Nat.le_of_ble_eq_true rfl) fun T21 h21 X21 e21 W21 V21 => ?_
  refine o_iload X21 hx hby d4_35 rfl (q := 37) rfl ?_
  refine o_iload X21 hx hby d4_37 rfl (q := 39) rfl ?_
  refine o_icY X21 hx hby d4_39 (flt (by decide : ¬ ((4 : Int32) < (4 : Int32)))).2.1 (by decide) (q := 64) (by decide) ?_
  refine o_aloadN X21 hx hby d4_64 rfl rfl (q := 65) rfl ?_
  refine o_iloadN X21 hx hby d4_65 rfl (q := 66) rfl ?_
  obtain ⟨T22, h22, k22, X22, e22, E22, A22, Ex22, O22, st22⟩ := newRA X21 hx hZ hown (ty := .int) (by decide +kernel) (w_ hw 35 rfl) (w_ hw 36 rfl) e21 (g := (mkF m 66 #[rv o0, rv o1, rv o2, iv 2, rv b11, rv o2, iv 4, iv 4, iv 0] [.int 2, .ref o0])) rfl (hb hby d4_66) rfl (by decide) (cap := 2) (by decide) (by decide) (by decide) (by decide) (ad := "[[I") (by decide +kernel)
  obtain ⟨b22, g22⟩ : ∃ z, z = h21.size := ⟨_, rfl⟩
  rw [← g22] at A22 Ex22 st22
  have q23 := (Nat.le_trans (Nat.le_trans (Nat.le_trans (Nat.le_trans (Nat.le_trans q12 E11.1) (Keep.of_wr W15).1) (Keep.of_wr W17).1) (Keep.of_wr W19).1) (Keep.of_wr W21).1)
  have g_b22 : n0 ≤ b22 := Nat.le_trans q23 (Nat.le_of_eq g22.symm)
  have q24 := (Nat.le_trans (Nat.le_trans (Nat.le_trans (Nat.le_trans (Nat.le_trans q13 E11.1) (Keep.of_wr W15).1) (Keep.of_wr W17).1) (Keep.of_wr W19).1) (Keep.of_wr W21).1)
  have sz_b22 : h0.size ≤ b22 := Nat.le_trans q24 (Nat.le_of_eq g22.symm)
  have V_b22 : Arv Z h22 b22 k22 (.array .int) (2 : Int32) [.null, .null] .null := (Arv.new A22 (by decide)).pad (pad_rep [] .null 2)
  refine own_of st22 ?_
  show own_Out p e below _ (T22.setTop (mkF m 69 #[rv o0, rv o1, rv o2, iv 2, rv b11, rv o2, iv 4, iv 4, iv 0] [.ref b22, .ref o0]))
  have ne_o0_b11 : o0 ≠ b11 := Nat.ne_of_lt (Nat.lt_of_lt_of_le E.lt sz_b11)
  have q26 := (((((((((F_classes.other W2 (Or.inr (slot_ne (Or.inr (w_ hw 38 rfl)) (Or.inr (w_ hw 30 rfl)) (by decide) (t := (.array (.array .int))) (t' := (.object "java/lang/String")) (by decide) (by decide)))).other W3 (Or.inr (slot_ne (Or.inr (w_ hw 38 rfl)) (Or.inr (w_ hw 32 rfl)) (by decide) (t := (.array (.array .int))) (t' := (.array .int)) (by decide) (by decide)))).other W7 (Or.inr (slot_ne (Or.inr (w_ hw 38 rfl)) (Or.inr (w_ hw 34 rfl)) (by decide) (t := (.array (.array .int))) (t' := .int) (by decide) (by decide)))).ext E11).other W15 (Or.inl ne_o0_b11)).other W17 (Or.inl ne_o0_b11)).other W19 (Or.inl ne_o0_b11)).other W21 (Or.inl ne_o0_b11)).ext E22)
  have q27 := (((((((q9.wr W7).ext E11).wr W15).wr W17).wr W19).wr W21).ext E22)
  obtain ⟨T25, h25, X25, e25, W25, st25⟩ := putF X22 hx hZ hown (host := "") (Or.inl (w_ hw 37 rfl)) Via.refl e22 q26 q27 (Or.inr ⟨(w_ hw 38 rfl), rfl, hnm⟩) (w_ hw 10 rfl) (ty := (.array (.array .int))) (by decide) rfl rfl (g := (mkF m 69 #[rv o0, rv o1, rv o2, iv 2, rv b11, rv o2, iv 4, iv 4, iv 0] [.ref b22, .ref o0])) rfl rfl (hb hby d4_69)
  have q28 := (((((((((F_classes.other W2 (Or.inr (slot_ne (Or.inr (w_ hw 38 rfl)) (Or.inr (w_ hw 30 rfl)) (by decide) (t := (.array (.array .int))) (t' := (.object "java/lang/String")) (by decide) (by decide)))).other W3 (Or.inr (slot_ne (Or.inr (w_ hw 38 rfl)) (Or.inr (w_ hw 32 rfl)) (by decide) (t := (.array (.array .int))) (t' := (.array .int)) (by decide) (by decide)))).other W7 (Or.inr (slot_ne (Or.inr (w_ hw 38 rfl)) (Or.inr (w_ hw 34 rfl)) (by decide) (t := (.array (.array .int))) (t' := .int) (by decide) (by decide)))).ext E11).other W15 (Or.inl ne_o0_b11)).other W17 (Or.inl ne_o0_b11)).other W19 (Or.inl ne_o0_b11)).other W21 (Or.inl ne_o0_b11)).ext E22)
  have Fw25 := q28.same W25
  refine own_of st25 ?_
  show own_Out p e below _ (T25.setTop (mkF m 72 #[rv o0, rv o1, rv o2, iv 2, rv b11, rv o2, iv 4, iv 4, iv 0] []))
  refine o_iconst X25 hx hby d4_72 (z := 0) rfl (q := 73) rfl ?_
  refine o_istore X25 hx hby d4_73 (l' := #[rv o0, rv o1, rv o2, iv 2, rv b11, iv 0, iv 4, iv 4, iv 0]) rfl (q := 75) rfl ?_
  refine o_iload X25 hx hby d4_75 rfl (q := 77) rfl ?_
  refine o_iloadN X25 hx hby d4_77 rfl (q := 78) rfl ?_
  refine o_icN X25 hx hby d4_78 (tlt (by decide : (0 : Int32) < (2 : Int32))).2.1 (q := 81) rfl ?_
  refine o_aloadN X25 hx hby d4_81 rfl rfl (q := 82) rfl ?_
  refine o_getF X25 hx hZ hown hby (w_ hw 37 rfl) Via.refl e25 Fw25 d4_82 (q := 85) rfl fun T29 X29 e29 => ?_
  refine o_iload X29 hx hby d4_85 rfl (q := 87) rfl ?_
  refine o_aload X29 hx hby d4_87 rfl rfl (q := 89) rfl ?_
  refine o_iload X29 hx hby d4_89 rfl (q := 91) rfl ?_
  have q30 := ((V21.ext E22).other W25 (Ne.symm ne_o0_b11))
  refine o_iaV X29 hx hby hZ e29 q30 ⟨by decide, by decide⟩ (v := .int 2) rfl d4_91 (q := 92) rfl ?_
  obtain ⟨T31, h31, k31, X31, e31, E31, A31, Ex31, st31⟩ := newPE X29 hx hZ (w_ hw 4 rfl) e29 (g := (mkF m 92 #[rv o0, rv o1, rv o2, iv 2, rv b11, iv 0, iv 4, iv 4, iv 0] [.int 2, .int 0, .ref b22])) rfl (hb hby d4_92) rfl (by decide) (cap := 2) (by decide) (by decide) (by decide) (by decide) (ad := "[I") (by decide +kernel)
  obtain ⟨b31, g31⟩ : ∃ z, z = h25.size := ⟨_, rfl⟩
  rw [← g31] at A31 Ex31 st31
  have q32 := (Nat.le_trans (Nat.le_trans q23 E22.1) (Keep.of_wr W25).1)
  have g_b31 : n0 ≤ b31 := Nat.le_trans q32 (Nat.le_of_eq g31.symm)
  have q33 := (Nat.le_trans (Nat.le_trans q24 E22.1) (Keep.of_wr W25).1)
  have sz_b31 : h0.size ≤ b31 := Nat.le_trans q33 (Nat.le_of_eq g31.symm)
  have V_b31 : Arv Z h31 b31 k31 .int (2 : Int32) [(.int (0 : Int32)), (.int (0 : Int32))] (.int (0 : Int32)) := (Arv.new A31 (by decide)).pad (pad_rep [] (.int (0 : Int32)) 2)
  refine own_of st31 ?_
  show own_Out p e below _ (T31.setTop (mkF m 94 #[rv o0, rv o1, rv o2, iv 2, rv b11, iv 0, iv 4, iv 4, iv 0] [.ref b31, .int 0, .ref b22]))
  have ne_o0_b22 : o0 ≠ b22 := Nat.ne_of_lt (Nat.lt_of_lt_of_le E.lt sz_b22)
  have q34 := ((V_b22.other W25 (Ne.symm ne_o0_b22)).ext E31)
  refine o_stVR X31 hx hby hZ e31 q34 ⟨by decide, by decide⟩ 0 rfl (Nat.le_of_ble_eq_true rfl) O22 (Ins.self Ex31) d4_94 (q := 95) rfl fun T35 h35 X35 e35 W35 V35 => ?_
  refine o_iinc X35 hx hby d4_95 rfl (l' := #[rv o0, rv o1, rv o2, iv 2, rv b11, iv 1, iv 4, iv 4, iv 0]) rfl (q := 98) rfl ?_
  refine o_goto X35 hx hby d4_98 (by decide) (q := 75) (by decide) ?_
  refine o_iload X35 hx hby d4_75 rfl (q := 77) rfl ?_
  refine o_iloadN X35 hx hby d4_77 rfl (q := 78) rfl ?_
  refine o_icN X35 hx hby d4_78 (tlt (by decide : (1 : Int32) < (2 : Int32))).2.1 (q := 81) rfl ?_
  refine o_aloadN X35 hx hby d4_81 rfl rfl (q := 82) rfl ?_
  have q37 := ((Fw25.ext E31).other W35 (Or.inl ne_o0_b22))
  refine o_getF X35 hx hZ hown hby (w_ hw 37 rfl) Via.refl e35 q37 d4_82 (q := 85) rfl fun T36 X36 e36 => ?_
  refine o_iload X36 hx hby d4_85 rfl (q := 87) rfl ?_
  refine o_aload X36 hx hby d4_87 rfl rfl (q := 89) rfl ?_
  refine o_iload X36 hx hby d4_89 rfl (q := 91) rfl ?_
  have ne_b11_b22 : b11 ≠ b22 := Nat.ne_of_lt (Nat.lt_of_lt_of_le (Nat.lt_of_lt_of_le (Nat.lt_of_lt_of_le (Nat.lt_of_lt_of_le (Nat.lt_of_lt_of_le A11.lt (Keep.of_wr W15).1) (Keep.of_wr W17).1) (Keep.of_wr W19).1) (Keep.of_wr W21).1) (Nat.le_of_eq g22.symm))
  have q38 := ((q30.ext E31).other W35 ne_b11_b22)
  refine o_iaV X36 hx hby hZ e36 q38 ⟨by decide, by decide⟩ (v := .int 2) rfl d4_91 (q := 92) rfl ?_
  obtain ⟨T39, h39, k39, X39, e39, E39, A39, Ex39, st39⟩ := newPE X36 hx hZ (w_ hw 4 rfl) e36 (g := (mkF m 92 #[rv o0, rv o1, rv o2, iv 2, rv b11, iv 1, iv 4, iv 4, iv 0] [.int 2, .int 1, .ref b22])) rfl (hb hby d4_92) rfl (by decide) (cap := 2) (by decide) (by decide) (by decide) (by decide) (ad := "[I") (by decide +kernel)
  obtain ⟨b39, g39⟩ : ∃ z, z = h35.size := ⟨_, rfl⟩
  rw [← g39] at A39 Ex39 st39
  have q40 := (Nat.le_trans (Nat.le_trans q32 E31.1) (Keep.of_wr W35).1)
  have g_b39 : n0 ≤ b39 := Nat.le_trans q40 (Nat.le_of_eq g39.symm)
  have q41 := (Nat.le_trans (Nat.le_trans q33 E31.1) (Keep.of_wr W35).1)
  have sz_b39 : h0.size ≤ b39 := Nat.le_trans q41 (Nat.le_of_eq g39.symm)
  have V_b39 : Arv Z h39 b39 k39 .int (2 : Int32) [(.int (0 : Int32)), (.int (0 : Int32))] (.int (0 : Int32)) := (Arv.new A39 (by decide)).pad (pad_rep [] (.int (0 : Int32)) 2)
  refine own_of st39 ?_
  show own_Out p e below _ (T39.setTop (mkF m 94 #[rv o0, rv o1, rv o2, iv 2, rv b11, iv 1, iv 4, iv 4, iv 0] [.ref b39, .int 1, .ref b22]))
  have q42 := (V35.ext E39)
  refine o_stVR X39 hx hby hZ e39 q42 ⟨by decide, by decide⟩ 1 rfl (Nat.le_of_ble_eq_true rfl) O22 (Ins.self Ex39) d4_94 (q := 95) rfl fun T43 h43 X43 e43 W43 V43 => ?_
  refine o_iinc X43 hx hby d4_95 rfl (l' := #[rv o0, rv o1, rv o2, iv 2, rv b11, iv 2, iv 4, iv 4, iv 0]) rfl (q := 98) rfl ?_
  refine o_goto X43 hx hby d4_98 (by decide) (q := 75) (by decide) ?_
  refine o_iload X43 hx hby d4_75 rfl (q := 77) rfl ?_
  refine o_iloadN X43 hx hby d4_77 rfl (q := 78) rfl ?_
  refine o_icY X43 hx hby d4_78 (flt (by decide : ¬ ((2 : Int32) < (2 : Int32)))).2.1 (by decide) (q := 101) (by decide) ?_
  refine o_iloadN X43 hx hby d4_101 rfl (q := 102) rfl ?_
  obtain ⟨T44, h44, k44, X44, e44, E44, A44, Ex44, st44⟩ := newPE X43 hx hZ (w_ hw 4 rfl) e43 (g := (mkF m 102 #[rv o0, rv o1, rv o2, iv 2, rv b11, iv 2, iv 4, iv 4, iv 0] [.int 2])) rfl (hb hby d4_102) rfl (by decide) (cap := 2) (by decide) (by decide) (by decide) (by decide) (ad := "[I") (by decide +kernel)
  obtain ⟨b44, g44⟩ : ∃ z, z = h43.size := ⟨_, rfl⟩
  rw [← g44] at A44 Ex44 st44
  have q45 := (Nat.le_trans (Nat.le_trans q40 E39.1) (Keep.of_wr W43).1)
  have g_b44 : n0 ≤ b44 := Nat.le_trans q45 (Nat.le_of_eq g44.symm)
  have q46 := (Nat.le_trans (Nat.le_trans q41 E39.1) (Keep.of_wr W43).1)
  have sz_b44 : h0.size ≤ b44 := Nat.le_trans q46 (Nat.le_of_eq g44.symm)
  have V_b44 : Arv Z h44 b44 k44 .int (2 : Int32) [(.int (0 : Int32)), (.int (0 : Int32))] (.int (0 : Int32)) := (Arv.new A44 (by decide)).pad (pad_rep [] (.int (0 : Int32)) 2)
  refine own_of st44 ?_
  show own_Out p e below _ (T44.setTop (mkF m 104 #[rv o0, rv o1, rv o2, iv 2, rv b11, iv 2, iv 4, iv 4, iv 0] [.ref b44]))
  refine o_astore X44 hx hby d4_104 rfl (l' := #[rv o0, rv o1, rv o2, iv 2, rv b11, rv b44, iv 4, iv 4, iv 0]) rfl (q := 106) rfl ?_
  refine o_iconst X44 hx hby d4_106 (z := 0) rfl (q := 107) rfl ?_
  refine o_istore X44 hx hby d4_107 (l' := #[rv o0, rv o1, rv o2, iv 2, rv b11, rv b44, iv 0, iv 4, iv 0]) rfl (q := 109) rfl ?_
  have ne_o2_b22 : o2 ≠ b22 := Nat.ne_of_lt (Nat.lt_of_lt_of_le V.lt sz_b22)
  have q49 := ((((((((q20.other W21 ne_o2_b11).ext E22).other W25 n2).ext E31).other W35 ne_o2_b22).ext E39).other W43 ne_o2_b22).ext E44)
  have q50 := (((q37.ext E39).other W43 (Or.inl ne_o0_b22)).ext E44)
  have q51 := (V43.ext E44)
  have ne_b22_b31 : b22 ≠ b31 := Nat.ne_of_lt (Nat.lt_of_lt_of_le (Nat.lt_of_lt_of_le A22.lt (Keep.of_wr W25).1) (Nat.le_of_eq g31.symm))
  have q52 := ((((V_b31.other W35 (Ne.symm ne_b22_b31)).ext E39).other W43 (Ne.symm ne_b22_b31)).ext E44)
  have ne_b31_b44 : b31 ≠ b44 := Nat.ne_of_lt (Nat.lt_of_lt_of_le (Nat.lt_of_lt_of_le (Nat.lt_of_lt_of_le (Nat.lt_of_lt_of_le A31.lt (Keep.of_wr W35).1) E39.1) (Keep.of_wr W43).1) (Nat.le_of_eq g44.symm))
  refine t3 X44 hx hby hZ e44 hw hown q49 q50 q51 V_b44 q52 ne_b31_b44 ⟨by decide, by decide⟩ (x := 0) rfl ⟨by decide, by decide⟩ rfl (f := 0) rfl ⟨by decide, by decide⟩ (f' := 1) rfl (i' := 1) rfl (iN := 0) rfl (Nat.le_of_ble_eq_true rfl) (jN := 0) rfl (Nat.le_of_ble_eq_true rfl) fun T48 h47 h48 X48 e48 W47 W48 V47 V48 => ?_
  have ne_o2_b44 : o2 ≠ b44 := Nat.ne_of_lt (Nat.lt_of_lt_of_le V.lt sz_b44)
  have ne_o2_b31 : o2 ≠ b31 := Nat.ne_of_lt (Nat.lt_of_lt_of_le V.lt sz_b31)
  have q55 := ((q49.other W47 ne_o2_b44).other W48 ne_o2_b31)
  have ne_o0_b44 : o0 ≠ b44 := Nat.ne_of_lt (Nat.lt_of_lt_of_le E.lt sz_b44)
  have ne_o0_b31 : o0 ≠ b31 := Nat.ne_of_lt (Nat.lt_of_lt_of_le E.lt sz_b31)
  have q56 := ((q50.other W47 (Or.inl ne_o0_b44)).other W48 (Or.inl ne_o0_b31))
  have ne_b22_b44 : b22 ≠ b44 := Nat.ne_of_lt (Nat.lt_of_lt_of_le (Nat.lt_of_lt_of_le (Nat.lt_of_lt_of_le (Nat.lt_of_lt_of_le (Nat.lt_of_lt_of_le (Nat.lt_of_lt_of_le A22.lt (Keep.of_wr W25).1) E31.1) (Keep.of_wr W35).1) E39.1) (Keep.of_wr W43).1) (Nat.le_of_eq g44.symm))
  have q57 := ((q51.other W47 ne_b22_b44).other W48 ne_b22_b31)
  have q58 := (V47.other W48 (Ne.symm ne_b31_b44))
  have ne_b22_b39 : b22 ≠ b39 := Nat.ne_of_lt (Nat.lt_of_lt_of_le (Nat.lt_of_lt_of_le (Nat.lt_of_lt_of_le (Nat.lt_of_lt_of_le A22.lt (Keep.of_wr W25).1) E31.1) (Keep.of_wr W35).1) (Nat.le_of_eq g39.symm))
  have ne_b39_b44 : b39 ≠ b44 := Nat.ne_of_lt (Nat.lt_of_lt_of_le (Nat.lt_of_lt_of_le A39.lt (Keep.of_wr W43).1) (Nat.le_of_eq g44.symm))
  have ne_b31_b39 : b31 ≠ b39 := Nat.ne_of_lt (Nat.lt_of_lt_of_le (Nat.lt_of_lt_of_le A31.lt (Keep.of_wr W35).1) (Nat.le_of_eq g39.symm))
  have q59 := ((((V_b39.other W43 (Ne.symm ne_b22_b39)).ext E44).other W47 ne_b39_b44).other W48 (Ne.symm ne_b31_b39))
  refine t3 X48 hx hby hZ e48 hw hown q55 q56 q57 q58 q59 ne_b39_b44 ⟨by decide, by decide⟩ (x := 1) rfl ⟨by decide, by decide⟩ rfl (f := 0) rfl ⟨by decide, by decide⟩ (f' := 1) rfl (i' := 2) rfl (iN := 1) rfl (Nat.le_of_ble_eq_true rfl) (jN := 0) rfl (Nat.le_of_ble_eq_true rfl) fun T54 h53 h54 X54 e54 W53 W54 V53 V54 => ?_
  have ne_o2_b39 : o2 ≠ b39 := Nat.ne_of_lt (Nat.lt_of_lt_of_le V.lt sz_b39)
  have q62 := ((q55.other W53 ne_o2_b44).other W54 ne_o2_b39)
  have ne_o0_b39 : o0 ≠ b39 := Nat.ne_of_lt (Nat.lt_of_lt_of_le E.lt sz_b39)
  have q63 := ((q56.other W53 (Or.inl ne_o0_b44)).other W54 (Or.inl ne_o0_b39))
  have q64 := ((q57.other W53 ne_b22_b44).other W54 ne_b22_b39)
  have q65 := (V53.other W54 (Ne.symm ne_b39_b44))
  refine t3 X54 hx hby hZ e54 hw hown q62 q63 q64 q65 V54 ne_b39_b44 ⟨by decide, by decide⟩ (x := 1) rfl ⟨by decide, by decide⟩ rfl (f := 1) rfl ⟨by decide, by decide⟩ (f' := 2) rfl (i' := 3) rfl (iN := 1) rfl (Nat.le_of_ble_eq_true rfl) (jN := 1) rfl (Nat.le_of_ble_eq_true rfl) fun T61 h60 h61 X61 e61 W60 W61 V60 V61 => ?_
  have q68 := ((q62.other W60 ne_o2_b44).other W61 ne_o2_b39)
  have q69 := ((q63.other W60 (Or.inl ne_o0_b44)).other W61 (Or.inl ne_o0_b39))
  have q70 := ((q64.other W60 ne_b22_b44).other W61 ne_b22_b39)
  have q71 := (V60.other W61 (Ne.symm ne_b39_b44))
  have q72 := ((((V48.other W53 ne_b31_b44).other W54 ne_b31_b39).other W60 ne_b31_b44).other W61 ne_b31_b39)
  refine t3 X61 hx hby hZ e61 hw hown q68 q69 q70 q71 q72 ne_b31_b44 ⟨by decide, by decide⟩ (x := 0) rfl ⟨by decide, by decide⟩ rfl (f := 1) rfl ⟨by decide, by decide⟩ (f' := 2) rfl (i' := 4) rfl (iN := 0) rfl (Nat.le_of_ble_eq_true rfl) (jN := 1) rfl (Nat.le_of_ble_eq_true rfl) fun T67 h66 h67 X67 e67 W66 W67 V66 V67 => ?_
  refine o_iload X67 hx hby d4_109 rfl (q := 111) rfl ?_
  refine o_aloadN X67 hx hby d4_111 rfl rfl (q := 112) rfl ?_
  have q73 := ((q68.other W66 ne_o2_b44).other W67 ne_o2_b31)
  refine o_lenV X67 hx hby hZ e67 q73 d4_112 (q := 113) rfl ?_
  refine o_icY X67 hx hby d4_113 (flt (by decide : ¬ ((4 : Int32) < (4 : Int32)))).2.1 (by decide) (q := 146) (by decide) ?_
  have q74 := ((q69.other W66 (Or.inl ne_o0_b44)).other W67 (Or.inl ne_o0_b31))
  have q75 := ((q70.other W66 ne_b22_b44).other W67 ne_b22_b31)
  have q76 := ((V61.other W66 ne_b39_b44).other W67 (Ne.symm ne_b31_b39))
  have q77 := ((((((((((((((((((((((((Keep.refl h0 [o0]).wr W2 (Or.inl (List.mem_of_getElem? (i := 0) rfl))).wr W3 (Or.inl (List.mem_of_getElem? (i := 0) rfl))).wr W7 (Or.inl (List.mem_of_getElem? (i := 0) rfl))).ext E11).wr W15 (Or.inr sz_b11)).wr W17 (Or.inr sz_b11)).wr W19 (Or.inr sz_b11)).wr W21 (Or.inr sz_b11)).ext E22).wr W25 (Or.inl (List.mem_of_getElem? (i := 0) rfl))).ext E31).wr W35 (Or.inr sz_b22)).ext E39).wr W43 (Or.inr sz_b22)).ext E44).wr W47 (Or.inr sz_b44)).wr W48 (Or.inr sz_b31)).wr W53 (Or.inr sz_b44)).wr W54 (Or.inr sz_b39)).wr W60 (Or.inr sz_b44)).wr W61 (Or.inr sz_b39)).wr W66 (Or.inr sz_b44)).wr W67 (Or.inr sz_b31))
  have q78 := ((((((((((((((q27.wr W25).ext E31).wr W35).ext E39).wr W43).ext E44).wr W47).wr W48).wr W53).wr W54).wr W60).wr W61).wr W66).wr W67)
  have q79 := (((((((((((((((((((((Fw3.other W7 (Or.inr (slot_ne (Or.inr (w_ hw 32 rfl)) (Or.inr (w_ hw 34 rfl)) (by decide) (t := (.array .int)) (t' := .int) (by decide) (by decide)))).ext E11).other W15 (Or.inl ne_o0_b11)).other W17 (Or.inl ne_o0_b11)).other W19 (Or.inl ne_o0_b11)).other W21 (Or.inl ne_o0_b11)).ext E22).other W25 (Or.inr (slot_ne (Or.inr (w_ hw 32 rfl)) (Or.inr (w_ hw 38 rfl)) (by decide) (t := (.array .int)) (t' := (.array (.array .int))) (by decide) (by decide)))).ext E31).other W35 (Or.inl ne_o0_b22)).ext E39).other W43 (Or.inl ne_o0_b22)).ext E44).other W47 (Or.inl ne_o0_b44)).other W48 (Or.inl ne_o0_b31)).other W53 (Or.inl ne_o0_b44)).other W54 (Or.inl ne_o0_b39)).other W60 (Or.inl ne_o0_b44)).other W61 (Or.inl ne_o0_b39)).other W66 (Or.inl ne_o0_b44)).other W67 (Or.inl ne_o0_b31))
  have q80 := ((((((((((((((((((((Fw7.ext E11).other W15 (Or.inl ne_o0_b11)).other W17 (Or.inl ne_o0_b11)).other W19 (Or.inl ne_o0_b11)).other W21 (Or.inl ne_o0_b11)).ext E22).other W25 (Or.inr (slot_ne (Or.inr (w_ hw 34 rfl)) (Or.inr (w_ hw 38 rfl)) (by decide) (t := .int) (t' := (.array (.array .int))) (by decide) (by decide)))).ext E31).other W35 (Or.inl ne_o0_b22)).ext E39).other W43 (Or.inl ne_o0_b22)).ext E44).other W47 (Or.inl ne_o0_b44)).other W48 (Or.inl ne_o0_b31)).other W53 (Or.inl ne_o0_b44)).other W54 (Or.inl ne_o0_b39)).other W60 (Or.inl ne_o0_b44)).other W61 (Or.inl ne_o0_b39)).other W66 (Or.inl ne_o0_b44)).other W67 (Or.inl ne_o0_b31))
  exact own_outV X67 hx hlk hret (hb hby d4_146) (Q := Q4c0110n2 Z o0 o1 o2 k2 h0 n0) (by rw [e67]; exact ⟨rfl, (Fr.snoc X67 (own_snoc (Fr.snoc X61 (own_snoc (Fr.snoc X54 (own_snoc (Fr.snoc X48 (own_snoc (Fr.snoc X43 (Fr.snoc X35 (Fr.snoc X25 (Fr.snoc X21 (Fr.snoc X19 (Fr.snoc X17 (Fr.snoc X15 (Fr.snoc X7 (Fr.snoc X3 (Fr.snoc X2 N0 g_o0) g_o0) g_o0) g_b11) g_b11) g_b11) g_b11) g_o0) g_b22) g_b22) g_b44) g_b31) g_b44) g_b39) g_b44) g_b39) g_b44) g_b31), q77, q78, q79, q80, (fun l a0 hw ws h' K o1 oc kc c0 c1 c2 c3 n1 Z1 Fc Vc => rm7r0110 l Z a0 hw ws o0 o1 b22 k22 b31 k31 b39 k39 oc kc c0 c1 c2 c3 h' n1 Z1 (q74.keep K nin0) (q75.keep K nin0) (V67.keep K nin0) (q76.keep K nin0) Fc Vc)⟩) (by decide) (by decide)
theorem ef_7r0111 (m : MethodId) (x0 : Addr) (x1 : Addr) : entryFrame m #[(.ref x0), (.ref x1)] 10 = mkF m 0 #[.val (.ref x0), .val (.ref x1), .unset, .unset, .unset, .unset, .unset, .unset, .unset, .unset] [] := by first | (simp [entryFrame, mkF, argsToLocals, Value.category]; done) | rfl
def fr0111 (c0 : Int32) (c1 : Int32) (c2 : Int32) (c3 : Int32) : Int32 := if c2 = c1 then (if c3 = c1 then (1 : Int32)
    else (0 : Int32))
  else (0 : Int32)
def Q7r0111 (Z : State) (o0 : Addr) (o1 : Addr) (cc : Addr) (kcc : ClassId) (d0 : Addr) (kd0 : ClassId) (d1 : Addr) (kd1 : ClassId) (oc : Addr) (kc : ClassId) (c0 : Int32) (c1 : Int32) (c2 : Int32) (c3 : Int32) (h0 : Heap) (n0 : Nat) (v : Option Value) (h : Heap) (L : List Loc) : Prop := v = some (.int (fr0111 c0 c1 c2 c3)) ∧ Fr n0 L ∧ h = h0
set_option maxRecDepth 65536 in
set_option maxHeartbeats 40000000 in
theorem rm7r0111 (l : Launch) (Z : State) (a0 : Array Value) (hw : ∀ d ∈ tables_1, d.before a0 Z = true) (ws : List Jvm.Cond) (o0 : Addr) (o1 : Addr) (cc : Addr) (kcc : ClassId) (d0 : Addr) (kd0 : ClassId) (d1 : Addr) (kd1 : ClassId) (oc : Addr) (kc : ClassId) (c0 : Int32) (c1 : Int32) (c2 : Int32) (c3 : Int32) (h0 : Heap) (n0 : Nat) (Z0 : n0 ≤ h0.size) (Fs : Fld Z h0 o0 "com/example/slimc/slimc/game/Observation" "classes" "[[I" (.ref cc)) (Vcc : Arv Z h0 cc kcc (.array .int) (2 : Int32) [(.ref d0), (.ref d1)] .null) (Vd0 : Arv Z h0 d0 kd0 .int (1 : Int32) [(.int (0 : Int32))] (.int (0 : Int32))) (Vd1 : Arv Z h0 d1 kd1 .int (3 : Int32) [(.int (1 : Int32)), (.int (2 : Int32)), (.int (3 : Int32))] (.int (0 : Int32))) (Fc : Fld Z h0 o1 "com/example/slimc/slimc/game/Observation" "classOf" "[I" (.ref oc)) (Vc : Arv Z h0 oc kc .int (4 : Int32) [(.int c0), (.int c1), (.int c2), (.int c3)] (.int (0 : Int32))) :
    MetFree l (⟨"com/example/slimc/slimc/game/Observation", "refines", "(Lcom/example/slimc/slimc/game/Observation;)Z"⟩ : MethodName) (head1 (Jvm.Cond.code (⟨"com/example/slimc/slimc/game/Observation", "refines", "(Lcom/example/slimc/slimc/game/Observation;)Z"⟩ : MethodName) prog_66_method_8_code 10 (some .boolean) :: ws) ({ frames := 0, cells := 0, slots := 0, locals := 0 } : Room)) (fun a U => a = #[(.ref o0), (.ref o1)] ∧ Z.Warmed39 U.vm ∧ U.heap = h0) (fun _ _ _ _ _ => True) (fun _ U o U' => ∃ v L, o = .returned v ∧ Q7r0111 Z o0 o1 cc kcc d0 kd0 d1 kd1 oc kc c0 c1 c2 c3 h0 n0 v U'.heap L ∧ FrameEnd U o U' L ({ frames := 0, cells := 0, slots := 0, locals := 0 } : Room).cells ({ frames := 0, cells := 0, slots := 0, locals := 0 } : Room).slots) := by
  refine MetFree.of_bodySF (plainFor_of_name pn_1) hisR ?_
  intro p e s m args below meth c s₁ Bd hml0 hP hK
  obtain ⟨rfl, hZ, hh⟩ := hP
  have hx := Bd.exec
  have hby := Bd.bytes
  have hml : c.maxLocals = 10 := hml0
  have hown : s.vm.findClass "com/example/slimc/slimc/game/Observation" = some m.cls := findClass_of_methodNamed Bd.named
  have hnm := (name_of_methodNamed Bd.named Bd.method).1
  have X0 : Stand p l e ({ frames := 0, cells := 0, slots := 0, locals := 0 } : Room) s m #[(.ref o0), (.ref o1)] below meth c s₁ [] 0 0 := Stand.of_body Bd
  have e0 : s₁.heap = h0 := by rw [← hh, Bd.state]; rfl
  have N0 := Fr.nil n0
  have hret := Bd.returns
  have hlk := BodyLoose.notSynchronized Bd
  show own_Out p e below (fun o U' => ∃ v L, o = .returned v ∧ Q7r0111 Z o0 o1 cc kcc d0 kd0 d1 kd1 oc kc c0 c1 c2 c3 h0 n0 v U'.heap L ∧ FrameEnd s o U' L ({ frames := 0, cells := 0, slots := 0, locals := 0 } : Room).cells ({ frames := 0, cells := 0, slots := 0, locals := 0 } : Room).slots) (s₁.setTop (entryFrame m #[(.ref o0), (.ref o1)] 10))
  refine own_of (fun t k => castTop (ef_7r0111 m o0 o1) k) ?_
  show own_Out p e below _ (s₁.setTop (mkF m 0 #[rv o0, rv o1, .unset, .unset, .unset, .unset, .unset, .unset, .unset, .unset] []))
  refine o_aloadN X0 hx hby d7_0 rfl rfl (q := 1) rfl ?_
  refine o_getF X0 hx hZ hown hby (w_ hw 37 rfl) Via.refl e0 Fs d7_1 (q := 4) rfl fun T1 X1 e1 => ?_
  refine o_astoreN X1 hx hby d7_4 rfl (l' := #[rv o0, rv o1, rv cc, .unset, .unset, .unset, .unset, .unset, .unset, .unset]) rfl (q := 5) rfl ?_
  refine o_aloadN X1 hx hby d7_5 rfl rfl (q := 6) rfl ?_
  refine o_lenV X1 hx hby hZ e1 Vcc d7_6 (q := 7) rfl ?_
  refine o_istoreN X1 hx hby d7_7 (l' := #[rv o0, rv o1, rv cc, iv 2, .unset, .unset, .unset, .unset, .unset, .unset]) rfl (q := 8) rfl ?_
  refine o_iconst X1 hx hby d7_8 (z := 0) rfl (q := 9) rfl ?_
  refine o_istore X1 hx hby d7_9 (l' := #[rv o0, rv o1, rv cc, iv 2, iv 0, .unset, .unset, .unset, .unset, .unset]) rfl (q := 11) rfl ?_
  refine o_iload X1 hx hby d7_11 rfl (q := 13) rfl ?_
  refine o_iloadN X1 hx hby d7_13 rfl (q := 14) rfl ?_
  refine o_icN X1 hx hby d7_14 (tlt (by decide : (0 : Int32) < (2 : Int32))).2.1 (q := 17) rfl ?_
  refine o_aloadN X1 hx hby d7_17 rfl rfl (q := 18) rfl ?_
  refine o_iload X1 hx hby d7_18 rfl (q := 20) rfl ?_
  refine o_aaV X1 hx hby hZ e1 Vcc rfl ⟨by decide, by decide⟩ (v := .ref d0) rfl d7_20 (q := 21) rfl ?_
  refine o_astore X1 hx hby d7_21 rfl (l' := #[rv o0, rv o1, rv cc, iv 2, iv 0, rv d0, .unset, .unset, .unset, .unset]) rfl (q := 23) rfl ?_
  refine o_aload X1 hx hby d7_23 rfl rfl (q := 25) rfl ?_
  refine o_astore X1 hx hby d7_25 rfl (l' := #[rv o0, rv o1, rv cc, iv 2, iv 0, rv d0, rv d0, .unset, .unset, .unset]) rfl (q := 27) rfl ?_
  refine o_aload X1 hx hby d7_27 rfl rfl (q := 29) rfl ?_
  refine o_lenV X1 hx hby hZ e1 Vd0 d7_29 (q := 30) rfl ?_
  refine o_istore X1 hx hby d7_30 (l' := #[rv o0, rv o1, rv cc, iv 2, iv 0, rv d0, rv d0, iv 1, .unset, .unset]) rfl (q := 32) rfl ?_
  refine o_iconst X1 hx hby d7_32 (z := 0) rfl (q := 33) rfl ?_
  refine o_istore X1 hx hby d7_33 (l' := #[rv o0, rv o1, rv cc, iv 2, iv 0, rv d0, rv d0, iv 1, iv 0, .unset]) rfl (q := 35) rfl ?_
  refine o_iload X1 hx hby d7_35 rfl (q := 37) rfl ?_
  refine o_iload X1 hx hby d7_37 rfl (q := 39) rfl ?_
  refine o_icN X1 hx hby d7_39 (tlt (by decide : (0 : Int32) < (1 : Int32))).2.1 (q := 42) rfl ?_
  refine o_aload X1 hx hby d7_42 rfl rfl (q := 44) rfl ?_
  refine o_iload X1 hx hby d7_44 rfl (q := 46) rfl ?_
  refine o_iaV X1 hx hby hZ e1 Vd0 ⟨by decide, by decide⟩ (v := .int 0) rfl d7_46 (q := 47) rfl ?_
  refine o_istore X1 hx hby d7_47 (l' := #[rv o0, rv o1, rv cc, iv 2, iv 0, rv d0, rv d0, iv 1, iv 0, iv 0]) rfl (q := 49) rfl ?_
  refine o_aloadN X1 hx hby d7_49 rfl rfl (q := 50) rfl ?_
  refine o_getF X1 hx hZ hown hby (w_ hw 31 rfl) Via.refl e1 Fc d7_50 (q := 53) rfl fun T2 X2 e2 => ?_
  refine o_iload X2 hx hby d7_53 rfl (q := 55) rfl ?_
  refine o_iaV X2 hx hby hZ e2 Vc ⟨by decide, by decide⟩ (v := .int c0) rfl d7_55 (q := 56) rfl ?_
  refine o_aloadN X2 hx hby d7_56 rfl rfl (q := 57) rfl ?_
  refine o_getF X2 hx hZ hown hby (w_ hw 31 rfl) Via.refl e2 Fc d7_57 (q := 60) rfl fun T3 X3 e3 => ?_
  refine o_aload X3 hx hby d7_60 rfl rfl (q := 62) rfl ?_
  refine o_iconst X3 hx hby d7_62 (z := 0) rfl (q := 63) rfl ?_
  refine o_iaV X3 hx hby hZ e3 Vd0 ⟨by decide, by decide⟩ (v := .int 0) rfl d7_63 (q := 64) rfl ?_
  refine o_iaV X3 hx hby hZ e3 Vc ⟨by decide, by decide⟩ (v := .int c0) rfl d7_64 (q := 65) rfl ?_
  refine o_icY X3 hx hby d7_65 (teq (rfl : c0 = c0)).1 (by decide) (q := 70) (by decide) ?_
  refine o_iinc X3 hx hby d7_70 rfl (l' := #[rv o0, rv o1, rv cc, iv 2, iv 0, rv d0, rv d0, iv 1, iv 1, iv 0]) rfl (q := 73) rfl ?_
  refine o_goto X3 hx hby d7_73 (by decide) (q := 35) (by decide) ?_
  refine o_iload X3 hx hby d7_35 rfl (q := 37) rfl ?_
  refine o_iload X3 hx hby d7_37 rfl (q := 39) rfl ?_
  refine o_icY X3 hx hby d7_39 (flt (by decide : ¬ ((1 : Int32) < (1 : Int32)))).2.1 (by decide) (q := 76) (by decide) ?_
  refine o_iinc X3 hx hby d7_76 rfl (l' := #[rv o0, rv o1, rv cc, iv 2, iv 1, rv d0, rv d0, iv 1, iv 1, iv 0]) rfl (q := 79) rfl ?_
  refine o_goto X3 hx hby d7_79 (by decide) (q := 11) (by decide) ?_
  refine o_iload X3 hx hby d7_11 rfl (q := 13) rfl ?_
  refine o_iloadN X3 hx hby d7_13 rfl (q := 14) rfl ?_
  refine o_icN X3 hx hby d7_14 (tlt (by decide : (1 : Int32) < (2 : Int32))).2.1 (q := 17) rfl ?_
  refine o_aloadN X3 hx hby d7_17 rfl rfl (q := 18) rfl ?_
  refine o_iload X3 hx hby d7_18 rfl (q := 20) rfl ?_
  refine o_aaV X3 hx hby hZ e3 Vcc rfl ⟨by decide, by decide⟩ (v := .ref d1) rfl d7_20 (q := 21) rfl ?_
  refine o_astore X3 hx hby d7_21 rfl (l' := #[rv o0, rv o1, rv cc, iv 2, iv 1, rv d1, rv d0, iv 1, iv 1, iv 0]) rfl (q := 23) rfl ?_
  refine o_aload X3 hx hby d7_23 rfl rfl (q := 25) rfl ?_
  refine o_astore X3 hx hby d7_25 rfl (l' := #[rv o0, rv o1, rv cc, iv 2, iv 1, rv d1, rv d1, iv 1, iv 1, iv 0]) rfl (q := 27) rfl ?_
  refine o_aload X3 hx hby d7_27 rfl rfl (q := 29) rfl ?_
  refine o_lenV X3 hx hby hZ e3 Vd1 d7_29 (q := 30) rfl ?_
  refine o_istore X3 hx hby d7_30 (l' := #[rv o0, rv o1, rv cc, iv 2, iv 1, rv d1, rv d1, iv 3, iv 1, iv 0]) rfl (q := 32) rfl ?_
  refine o_iconst X3 hx hby d7_32 (z := 0) rfl (q := 33) rfl ?_
  refine o_istore X3 hx hby d7_33 (l' := #[rv o0, rv o1, rv cc, iv 2, iv 1, rv d1, rv d1, iv 3, iv 0, iv 0]) rfl (q := 35) rfl ?_
  refine o_iload X3 hx hby d7_35 rfl (q := 37) rfl ?_
  refine o_iload X3 hx hby d7_37 rfl (q := 39) rfl ?_
  refine o_icN X3 hx hby d7_39 (tlt (by decide : (0 : Int32) < (3 : Int32))).2.1 (q := 42) rfl ?_
  refine o_aload X3 hx hby d7_42 rfl rfl (q := 44) rfl ?_
  refine o_iload X3 hx hby d7_44 rfl (q := 46) rfl ?_
  refine o_iaV X3 hx hby hZ e3 Vd1 ⟨by decide, by decide⟩ (v := .int 1) rfl d7_46 (q := 47) rfl ?_
  refine o_istore X3 hx hby d7_47 (l' := #[rv o0, rv o1, rv cc, iv 2, iv 1, rv d1, rv d1, iv 3, iv 0, iv 1]) rfl (q := 49) rfl ?_
  refine o_aloadN X3 hx hby d7_49 rfl rfl (q := 50) rfl ?_
  refine o_getF X3 hx hZ hown hby (w_ hw 31 rfl) Via.refl e3 Fc d7_50 (q := 53) rfl fun T4 X4 e4 => ?_
  refine o_iload X4 hx hby d7_53 rfl (q := 55) rfl ?_
  refine o_iaV X4 hx hby hZ e4 Vc ⟨by decide, by decide⟩ (v := .int c1) rfl d7_55 (q := 56) rfl ?_
  refine o_aloadN X4 hx hby d7_56 rfl rfl (q := 57) rfl ?_
  refine o_getF X4 hx hZ hown hby (w_ hw 31 rfl) Via.refl e4 Fc d7_57 (q := 60) rfl fun T5 X5 e5 => ?_
  refine o_aload X5 hx hby d7_60 rfl rfl (q := 62) rfl ?_
  refine o_iconst X5 hx hby d7_62 (z := 0) rfl (q := 63) rfl ?_
  refine o_iaV X5 hx hby hZ e5 Vd1 ⟨by decide, by decide⟩ (v := .int 1) rfl d7_63 (q := 64) rfl ?_
  refine o_iaV X5 hx hby hZ e5 Vc ⟨by decide, by decide⟩ (v := .int c1) rfl d7_64 (q := 65) rfl ?_
  refine o_icY X5 hx hby d7_65 (teq (rfl : c1 = c1)).1 (by decide) (q := 70) (by decide) ?_
  refine o_iinc X5 hx hby d7_70 rfl (l' := #[rv o0, rv o1, rv cc, iv 2, iv 1, rv d1, rv d1, iv 3, iv 1, iv 1]) rfl (q := 73) rfl ?_
  refine o_goto X5 hx hby d7_73 (by decide) (q := 35) (by decide) ?_
  refine o_iload X5 hx hby d7_35 rfl (q := 37) rfl ?_
  refine o_iload X5 hx hby d7_37 rfl (q := 39) rfl ?_
  refine o_icN X5 hx hby d7_39 (tlt (by decide : (1 : Int32) < (3 : Int32))).2.1 (q := 42) rfl ?_
  refine o_aload X5 hx hby d7_42 rfl rfl (q := 44) rfl ?_
  refine o_iload X5 hx hby d7_44 rfl (q := 46) rfl ?_
  refine o_iaV X5 hx hby hZ e5 Vd1 ⟨by decide, by decide⟩ (v := .int 2) rfl d7_46 (q := 47) rfl ?_
  refine o_istore X5 hx hby d7_47 (l' := #[rv o0, rv o1, rv cc, iv 2, iv 1, rv d1, rv d1, iv 3, iv 1, iv 2]) rfl (q := 49) rfl ?_
  refine o_aloadN X5 hx hby d7_49 rfl rfl (q := 50) rfl ?_
  refine o_getF X5 hx hZ hown hby (w_ hw 31 rfl) Via.refl e5 Fc d7_50 (q := 53) rfl fun T6 X6 e6 => ?_
  refine o_iload X6 hx hby d7_53 rfl (q := 55) rfl ?_
  refine o_iaV X6 hx hby hZ e6 Vc ⟨by decide, by decide⟩ (v := .int c2) rfl d7_55 (q := 56) rfl ?_
  refine o_aloadN X6 hx hby d7_56 rfl rfl (q := 57) rfl ?_
  refine o_getF X6 hx hZ hown hby (w_ hw 31 rfl) Via.refl e6 Fc d7_57 (q := 60) rfl fun T7 X7 e7 => ?_
  refine o_aload X7 hx hby d7_60 rfl rfl (q := 62) rfl ?_
  refine o_iconst X7 hx hby d7_62 (z := 0) rfl (q := 63) rfl ?_
  refine o_iaV X7 hx hby hZ e7 Vd1 ⟨by decide, by decide⟩ (v := .int 1) rfl d7_63 (q := 64) rfl ?_
  refine o_iaV X7 hx hby hZ e7 Vc ⟨by decide, by decide⟩ (v := .int c1) rfl d7_64 (q := 65) rfl ?_
  by_cases hc65_8 : c2 = c1
  · skip
    refine o_icY X7 hx hby d7_65 (teq hc65_8).1 (by decide) (q := 70) (by decide) ?_
    refine o_iinc X7 hx hby d7_70 rfl (l' := #[rv o0, rv o1, rv cc, iv 2, iv 1, rv d1, rv d1, iv 3, iv 2, iv 2]) rfl (q := 73) rfl ?_
    refine o_goto X7 hx hby d7_73 (by decide) (q := 35) (by decide) ?_
    refine o_iload X7 hx hby d7_35 rfl (q := 37) rfl ?_
    refine o_iload X7 hx hby d7_37 rfl (q := 39) rfl ?_
    refine o_icN X7 hx hby d7_39 (tlt (by decide : (2 : Int32) < (3 : Int32))).2.1 (q := 42) rfl ?_
    refine o_aload X7 hx hby d7_42 rfl rfl (q := 44) rfl ?_
    refine o_iload X7 hx hby d7_44 rfl (q := 46) rfl ?_
    refine o_iaV X7 hx hby hZ e7 Vd1 ⟨by decide, by decide⟩ (v := .int 3) rfl d7_46 (q := 47) rfl ?_
    refine o_istore X7 hx hby d7_47 (l' := #[rv o0, rv o1, rv cc, iv 2, iv 1, rv d1, rv d1, iv 3, iv 2, iv 3]) rfl (q := 49) rfl ?_
    refine o_aloadN X7 hx hby d7_49 rfl rfl (q := 50) rfl ?_
    refine o_getF X7 hx hZ hown hby (w_ hw 31 rfl) Via.refl e7 Fc d7_50 (q := 53) rfl fun T9 X9 e9 => ?_
    refine o_iload X9 hx hby d7_53 rfl (q := 55) rfl ?_
    refine o_iaV X9 hx hby hZ e9 Vc ⟨by decide, by decide⟩ (v := .int c3) rfl d7_55 (q := 56) rfl ?_
    refine o_aloadN X9 hx hby d7_56 rfl rfl (q := 57) rfl ?_
    refine o_getF X9 hx hZ hown hby (w_ hw 31 rfl) Via.refl e9 Fc d7_57 (q := 60) rfl fun T10 X10 e10 => ?_
    refine o_aload X10 hx hby d7_60 rfl rfl (q := 62) rfl ?_
    refine o_iconst X10 hx hby d7_62 (z := 0) rfl (q := 63) rfl ?_
    refine o_iaV X10 hx hby hZ e10 Vd1 ⟨by decide, by decide⟩ (v := .int 1) rfl d7_63 (q := 64) rfl ?_
    refine o_iaV X10 hx hby hZ e10 Vc ⟨by decide, by decide⟩ (v := .int c1) rfl d7_64 (q := 65) rfl ?_
    by_cases hc65_11 : c3 = c1
    · skip
      refine o_icY X10 hx hby d7_65 (teq hc65_11).1 (by decide) (q := 70) (by decide) ?_
      refine o_iinc X10 hx hby d7_70 rfl (l' := #[rv o0, rv o1, rv cc, iv 2, iv 1, rv d1, rv d1, iv 3, iv 3, iv 3]) rfl (q := 73) rfl ?_
      refine o_goto X10 hx hby d7_73 (by decide) (q := 35) (by decide) ?_
      refine o_iload X10 hx hby d7_35 rfl (q := 37) rfl ?_
      refine o_iload X10 hx hby d7_37 rfl (q := 39) rfl ?_
      refine o_icY X10 hx hby d7_39 (flt (by decide : ¬ ((3 : Int32) < (3 : Int32)))).2.1 (by decide) (q := 76) (by decide) ?_
      refine o_iinc X10 hx hby d7_76 rfl (l' := #[rv o0, rv o1, rv cc, iv 2, iv 2, rv d1, rv d1, iv 3, iv 3, iv 3]) rfl (q := 79) rfl ?_
      refine o_goto X10 hx hby d7_79 (by decide) (q := 11) (by decide) ?_
      refine o_iload X10 hx hby d7_11 rfl (q := 13) rfl ?_
      refine o_iloadN X10 hx hby d7_13 rfl (q := 14) rfl ?_
      refine o_icY X10 hx hby d7_14 (flt (by decide : ¬ ((2 : Int32) < (2 : Int32)))).2.1 (by decide) (q := 82) (by decide) ?_
      refine o_iconst X10 hx hby d7_82 (z := 1) rfl (q := 83) rfl ?_
      exact own_outN X10 hx hlk (t := .boolean) hret (by simp) (hb hby d7_83) (z' := (1 : Int32)) rfl (Q := Q7r0111 Z o0 o1 cc kcc d0 kd0 d1 kd1 oc kc c0 c1 c2 c3 h0 n0) ⟨by simp only [fr0111, if_pos hc65_8, if_pos hc65_11], N0, e10⟩ (by decide) (by decide)
    · skip
      refine o_icN X10 hx hby d7_65 (feq hc65_11).1 (q := 68) rfl ?_
      refine o_iconst X10 hx hby d7_68 (z := 0) rfl (q := 69) rfl ?_
      exact own_outN X10 hx hlk (t := .boolean) hret (by simp) (hb hby d7_69) (z' := (0 : Int32)) rfl (Q := Q7r0111 Z o0 o1 cc kcc d0 kd0 d1 kd1 oc kc c0 c1 c2 c3 h0 n0) ⟨by simp only [fr0111, if_pos hc65_8, if_neg hc65_11], N0, e10⟩ (by decide) (by decide)
  · skip
    refine o_icN X7 hx hby d7_65 (feq hc65_8).1 (q := 68) rfl ?_
    refine o_iconst X7 hx hby d7_68 (z := 0) rfl (q := 69) rfl ?_
    exact own_outN X7 hx hlk (t := .boolean) hret (by simp) (hb hby d7_69) (z' := (0 : Int32)) rfl (Q := Q7r0111 Z o0 o1 cc kcc d0 kd0 d1 kd1 oc kc c0 c1 c2 c3 h0 n0) ⟨by simp only [fr0111, if_neg hc65_8], N0, e7⟩ (by decide) (by decide)
theorem ef_4c0111n2 (m : MethodId) (x0 : Addr) (x1 : Addr) (x2 : Addr) : entryFrame m #[(.ref x0), (.ref x1), (.ref x2), (.int (2 : Int32))] 9 = mkF m 0 #[.val (.ref x0), .val (.ref x1), .val (.ref x2), .val (.int (2 : Int32)), .unset, .unset, .unset, .unset, .unset] [] := by first | (simp [entryFrame, mkF, argsToLocals, Value.category]; done) | rfl
def Q4c0111n2 (Z : State) (o0 : Addr) (o1 : Addr) (o2 : Addr) (k2 : ClassId) (h0 : Heap) (n0 : Nat) (v : Option Value) (h : Heap) (L : List Loc) : Prop := v = none ∧ Fr n0 L ∧ Keep h0 h [o0] ∧ Exa Z h o0 "com/example/slimc/slimc/game/Observation" ∧ Fld Z h o0 "com/example/slimc/slimc/game/Observation" "classOf" "[I" (.ref o2) ∧ Fld Z h o0 "com/example/slimc/slimc/game/Observation" "classCount" "I" (.int (2 : Int32)) ∧ RefOk Z h o0 fr0111
set_option maxRecDepth 65536 in
set_option maxHeartbeats 40000000 in
theorem rm4c0111n2 (l : Launch) (Z : State) (a0 : Array Value) (hw : ∀ d ∈ tables_1, d.before a0 Z = true) (ws : List Jvm.Cond) (o0 : Addr) (o1 : Addr) (o2 : Addr) (k2 : ClassId) (h0 : Heap) (n0 : Nat) (Z0 : n0 ≤ h0.size) (E : Exa Z h0 o0 "com/example/slimc/slimc/game/Observation") (F_name : Fld Z h0 o0 "com/example/slimc/slimc/game/Observation" "name" "Ljava/lang/String;" .null) (F_classOf : Fld Z h0 o0 "com/example/slimc/slimc/game/Observation" "classOf" "[I" .null) (F_classCount : Fld Z h0 o0 "com/example/slimc/slimc/game/Observation" "classCount" "I" (.int (0 : Int32))) (F_classes : Fld Z h0 o0 "com/example/slimc/slimc/game/Observation" "classes" "[[I" .null) (g_o0 : n0 ≤ o0) (V : Arv Z h0 o2 k2 .int (4 : Int32) [(.int (0 : Int32)), (.int (1 : Int32)), (.int (1 : Int32)), (.int (1 : Int32))] (.int (0 : Int32))) (n2 : o2 ≠ o0) :
    MetFree l (⟨"com/example/slimc/slimc/game/Observation", "<init>", "(Ljava/lang/String;[II)V"⟩ : MethodName) (head1 (Jvm.Cond.code (⟨"com/example/slimc/slimc/game/Observation", "<init>", "(Ljava/lang/String;[II)V"⟩ : MethodName) prog_66_method_1_code 9 none :: ws) ({ frames := 1, cells := 7, slots := 16, locals := 14 } : Room)) (fun a U => a = #[(.ref o0), (.ref o1), (.ref o2), (.int (2 : Int32))] ∧ Z.Warmed39 U.vm ∧ U.heap = h0) (fun _ _ _ _ _ => True) (fun _ U o U' => ∃ v L, o = .returned v ∧ Q4c0111n2 Z o0 o1 o2 k2 h0 n0 v U'.heap L ∧ FrameEnd U o U' L ({ frames := 1, cells := 7, slots := 16, locals := 14 } : Room).cells ({ frames := 1, cells := 7, slots := 16, locals := 14 } : Room).slots) := by
  refine MetFree.of_bodySF (plainFor_of_name pn_1) hisR ?_
  intro p e s m args below meth c s₁ Bd hml0 hP hK
  obtain ⟨rfl, hZ, hh⟩ := hP
  have hx := Bd.exec
  have hby := Bd.bytes
  have hml : c.maxLocals = 9 := hml0
  have hown : s.vm.findClass "com/example/slimc/slimc/game/Observation" = some m.cls := findClass_of_methodNamed Bd.named
  have hnm := (name_of_methodNamed Bd.named Bd.method).1
  have X0 : Stand p l e ({ frames := 1, cells := 7, slots := 16, locals := 14 } : Room) s m #[(.ref o0), (.ref o1), (.ref o2), (.int (2 : Int32))] below meth c s₁ [] 0 0 := Stand.of_body Bd
  have e0 : s₁.heap = h0 := by rw [← hh, Bd.state]; rfl
  have N0 := Fr.nil n0
  have hret := Bd.returns
  have hlk := BodyLoose.notSynchronized Bd
  show own_Out p e below (fun o U' => ∃ v L, o = .returned v ∧ Q4c0111n2 Z o0 o1 o2 k2 h0 n0 v U'.heap L ∧ FrameEnd s o U' L ({ frames := 1, cells := 7, slots := 16, locals := 14 } : Room).cells ({ frames := 1, cells := 7, slots := 16, locals := 14 } : Room).slots) (s₁.setTop (entryFrame m #[(.ref o0), (.ref o1), (.ref o2), (.int (2 : Int32))] 9))
  refine own_of (fun t k => castTop (ef_4c0111n2 m o0 o1 o2) k) ?_
  show own_Out p e below _ (s₁.setTop (mkF m 0 #[rv o0, rv o1, rv o2, iv 2, .unset, .unset, .unset, .unset, .unset] []))
  refine o_aloadN X0 hx hby d4_0 rfl rfl (q := 1) rfl ?_
  obtain ⟨T1, X1, e1, st1⟩ := initO X0 hx hZ hown (w_ hw 26 rfl) (w_ hw 27 rfl) (w_ hw 28 rfl) e0 (g := (mkF m 1 #[rv o0, rv o1, rv o2, iv 2, .unset, .unset, .unset, .unset, .unset] [.ref o0])) rfl (by rw [hml]; rfl) rfl (hb hby d4_1) (by decide) (W := 0) (by show 2 * 0 + _ ≤ _; exact Nat.le_of_eq rfl) (by decide)
  refine own_of st1 ?_
  show own_Out p e below _ (T1.setTop (mkF m 4 #[rv o0, rv o1, rv o2, iv 2, .unset, .unset, .unset, .unset, .unset] []))
  refine o_aloadN X1 hx hby d4_4 rfl rfl (q := 5) rfl ?_
  refine o_aloadN X1 hx hby d4_5 rfl rfl (q := 6) rfl ?_
  obtain ⟨T2, h2, X2, e2, W2, st2⟩ := putF X1 hx hZ hown (host := "") (Or.inl (w_ hw 29 rfl)) Via.refl e1 F_name E (Or.inr ⟨(w_ hw 30 rfl), rfl, hnm⟩) (w_ hw 10 rfl) (ty := (.object "java/lang/String")) (by decide) rfl rfl (g := (mkF m 6 #[rv o0, rv o1, rv o2, iv 2, .unset, .unset, .unset, .unset, .unset] [.ref o1, .ref o0])) rfl rfl (hb hby d4_6)
  have Fw2 := F_name.same W2
  refine own_of st2 ?_
  show own_Out p e below _ (T2.setTop (mkF m 9 #[rv o0, rv o1, rv o2, iv 2, .unset, .unset, .unset, .unset, .unset] []))
  refine o_aloadN X2 hx hby d4_9 rfl rfl (q := 10) rfl ?_
  refine o_aloadN X2 hx hby d4_10 rfl rfl (q := 11) rfl ?_
  have q4 := (F_classOf.other W2 (Or.inr (slot_ne (Or.inr (w_ hw 32 rfl)) (Or.inr (w_ hw 30 rfl)) (by decide) (t := (.array .int)) (t' := (.object "java/lang/String")) (by decide) (by decide))))
  have q5 := (E.wr W2)
  obtain ⟨T3, h3, X3, e3, W3, st3⟩ := putF X2 hx hZ hown (host := "") (Or.inl (w_ hw 31 rfl)) Via.refl e2 q4 q5 (Or.inr ⟨(w_ hw 32 rfl), rfl, hnm⟩) (w_ hw 10 rfl) (ty := (.array .int)) (by decide) rfl rfl (g := (mkF m 11 #[rv o0, rv o1, rv o2, iv 2, .unset, .unset, .unset, .unset, .unset] [.ref o2, .ref o0])) rfl rfl (hb hby d4_11)
  have q6 := (F_classOf.other W2 (Or.inr (slot_ne (Or.inr (w_ hw 32 rfl)) (Or.inr (w_ hw 30 rfl)) (by decide) (t := (.array .int)) (t' := (.object "java/lang/String")) (by decide) (by decide))))
  have Fw3 := q6.same W3
  refine own_of st3 ?_
  show own_Out p e below _ (T3.setTop (mkF m 14 #[rv o0, rv o1, rv o2, iv 2, .unset, .unset, .unset, .unset, .unset] []))
  refine o_aloadN X3 hx hby d4_14 rfl rfl (q := 15) rfl ?_
  refine o_iloadN X3 hx hby d4_15 rfl (q := 16) rfl ?_
  have q8 := ((F_classCount.other W2 (Or.inr (slot_ne (Or.inr (w_ hw 34 rfl)) (Or.inr (w_ hw 30 rfl)) (by decide) (t := .int) (t' := (.object "java/lang/String")) (by decide) (by decide)))).other W3 (Or.inr (slot_ne (Or.inr (w_ hw 34 rfl)) (Or.inr (w_ hw 32 rfl)) (by decide) (t := .int) (t' := (.array .int)) (by decide) (by decide))))
  have q9 := (q5.wr W3)
  obtain ⟨T7, h7, X7, e7, W7, st7⟩ := putF X3 hx hZ hown (host := "") (Or.inl (w_ hw 33 rfl)) Via.refl e3 q8 q9 (Or.inr ⟨(w_ hw 34 rfl), rfl, hnm⟩) (w_ hw 10 rfl) (ty := .int) (by decide) rfl rfl (g := (mkF m 16 #[rv o0, rv o1, rv o2, iv 2, .unset, .unset, .unset, .unset, .unset] [.int 2, .ref o0])) rfl rfl (hb hby d4_16)
  have q10 := ((F_classCount.other W2 (Or.inr (slot_ne (Or.inr (w_ hw 34 rfl)) (Or.inr (w_ hw 30 rfl)) (by decide) (t := .int) (t' := (.object "java/lang/String")) (by decide) (by decide)))).other W3 (Or.inr (slot_ne (Or.inr (w_ hw 34 rfl)) (Or.inr (w_ hw 32 rfl)) (by decide) (t := .int) (t' := (.array .int)) (by decide) (by decide))))
  have Fw7 := q10.same W7
  refine own_of st7 ?_
  show own_Out p e below _ (T7.setTop (mkF m 19 #[rv o0, rv o1, rv o2, iv 2, .unset, .unset, .unset, .unset, .unset] []))
  refine o_iloadN X7 hx hby d4_19 rfl (q := 20) rfl ?_
  obtain ⟨T11, h11, k11, X11, e11, E11, A11, Ex11, st11⟩ := newPE X7 hx hZ (w_ hw 4 rfl) e7 (g := (mkF m 20 #[rv o0, rv o1, rv o2, iv 2, .unset, .unset, .unset, .unset, .unset] [.int 2])) rfl (hb hby d4_20) rfl (by decide) (cap := 2) (by decide) (by decide) (by decide) (by decide) (ad := "[I") (by decide +kernel)
  obtain ⟨b11, g11⟩ : ∃ z, z = h7.size := ⟨_, rfl⟩
  rw [← g11] at A11 Ex11 st11
  have q12 := (Nat.le_trans (Nat.le_trans (Nat.le_trans Z0 (Keep.of_wr W2).1) (Keep.of_wr W3).1) (Keep.of_wr W7).1)
  have g_b11 : n0 ≤ b11 := Nat.le_trans q12 (Nat.le_of_eq g11.symm)
  have q13 := (Nat.le_trans (Nat.le_trans (Nat.le_trans (Nat.le_refl h0.size) (Keep.of_wr W2).1) (Keep.of_wr W3).1) (Keep.of_wr W7).1)
  have sz_b11 : h0.size ≤ b11 := Nat.le_trans q13 (Nat.le_of_eq g11.symm)
  have V_b11 : Arv Z h11 b11 k11 .int (2 : Int32) [(.int (0 : Int32)), (.int (0 : Int32))] (.int (0 : Int32)) := (Arv.new A11 (by decide)).pad (pad_rep [] (.int (0 : Int32)) 2)
  refine own_of st11 ?_
  show own_Out p e below _ (T11.setTop (mkF m 22 #[rv o0, rv o1, rv o2, iv 2, .unset, .unset, .unset, .unset, .unset] [.ref b11]))
  refine o_astore X11 hx hby d4_22 rfl (l' := #[rv o0, rv o1, rv o2, iv 2, rv b11, .unset, .unset, .unset, .unset]) rfl (q := 24) rfl ?_
  refine o_aloadN X11 hx hby d4_24 rfl rfl (q := 25) rfl ?_
  refine o_astore X11 hx hby d4_25 rfl (l' := #[rv o0, rv o1, rv o2, iv 2, rv b11, rv o2, .unset, .unset, .unset]) rfl (q := 27) rfl ?_
  refine o_aload X11 hx hby d4_27 rfl rfl (q := 29) rfl ?_
  have q14 := ((((V.other W2 n2).other W3 n2).other W7 n2).ext E11)
  refine o_lenV X11 hx hby hZ e11 q14 d4_29 (q := 30) rfl ?_
  refine o_istore X11 hx hby d4_30 (l' := #[rv o0, rv o1, rv o2, iv 2, rv b11, rv o2, iv 4, .unset, .unset]) rfl (q := 32) rfl ?_
  refine o_iconst X11 hx hby d4_32 (z := 0) rfl (q := 33) rfl ?_
  refine o_istore X11 hx hby d4_33 (l' := #[rv o0, rv o1, rv o2, iv 2, rv b11, rv o2, iv 4, iv 0, .unset]) rfl (q := 35) rfl ?_
  refine t1 X11 hx hby hZ e11 q14 V_b11 rfl ⟨by decide, by decide⟩ (cc := 0) rfl ⟨by decide, by decide⟩ (y := 0) rfl (y' := 1) rfl (i' := 1) rfl (iN := 0) rfl (Nat.le_of_ble_eq_true rfl) fun T15 h15 X15 e15 W15 V15 => ?_
  have ne_o2_b11 : o2 ≠ b11 := Nat.ne_of_lt (Nat.lt_of_lt_of_le V.lt sz_b11)
  have q16 := (q14.other W15 ne_o2_b11)
  refine t1 X15 hx hby hZ e15 q16 V15 rfl ⟨by decide, by decide⟩ (cc := 1) rfl ⟨by decide, by decide⟩ (y := 0) rfl (y' := 1) rfl (i' := 2) rfl (iN := 1) rfl (Nat.le_of_ble_eq_true rfl) fun T17 h17 X17 e17 W17 V17 => ?_
  have q18 := (q16.other W17 ne_o2_b11)
  refine t1 X17 hx hby hZ e17 q18 V17 rfl ⟨by decide, by decide⟩ (cc := 1) rfl ⟨by decide, by decide⟩ (y := 1) rfl (y' := 2) rfl (i' := 3) rfl (iN := 1) rfl (Nat.le_of_ble_eq_true rfl) fun T19 h19 X19 e19 W19 V19 => ?_
  have q20 := (q18.other W19 ne_o2_b11)
  refine t1 X19 hx hby hZ e19 q20 V19 rfl ⟨by decide, by decide⟩ (cc := 1) rfl ⟨by decide, by decide⟩ (y := 2) rfl (y' := 3) rfl (i' := 4) rfl (iN := 1) rfl (Nat.le_of_ble_eq_true rfl) fun T21 h21 X21 e21 W21 V21 => ?_
  refine o_iload X21 hx hby d4_35 rfl (q := 37) rfl ?_
  refine o_iload X21 hx hby d4_37 rfl (q := 39) rfl ?_
  refine o_icY X21 hx hby d4_39 (flt (by decide : ¬ ((4 : Int32) < (4 : Int32)))).2.1 (by decide) (q := 64) (by decide) ?_
  refine o_aloadN X21 hx hby d4_64 rfl rfl (q := 65) rfl ?_
  refine o_iloadN X21 hx hby d4_65 rfl (q := 66) rfl ?_
  obtain ⟨T22, h22, k22, X22, e22, E22, A22, Ex22, O22, st22⟩ := newRA X21 hx hZ hown (ty := .int) (by decide +kernel) (w_ hw 35 rfl) (w_ hw 36 rfl) e21 (g := (mkF m 66 #[rv o0, rv o1, rv o2, iv 2, rv b11, rv o2, iv 4, iv 4, iv 1] [.int 2, .ref o0])) rfl (hb hby d4_66) rfl (by decide) (cap := 2) (by decide) (by decide) (by decide) (by decide) (ad := "[[I") (by decide +kernel)
  obtain ⟨b22, g22⟩ : ∃ z, z = h21.size := ⟨_, rfl⟩
  rw [← g22] at A22 Ex22 st22
  have q23 := (Nat.le_trans (Nat.le_trans (Nat.le_trans (Nat.le_trans (Nat.le_trans q12 E11.1) (Keep.of_wr W15).1) (Keep.of_wr W17).1) (Keep.of_wr W19).1) (Keep.of_wr W21).1)
  have g_b22 : n0 ≤ b22 := Nat.le_trans q23 (Nat.le_of_eq g22.symm)
  have q24 := (Nat.le_trans (Nat.le_trans (Nat.le_trans (Nat.le_trans (Nat.le_trans q13 E11.1) (Keep.of_wr W15).1) (Keep.of_wr W17).1) (Keep.of_wr W19).1) (Keep.of_wr W21).1)
  have sz_b22 : h0.size ≤ b22 := Nat.le_trans q24 (Nat.le_of_eq g22.symm)
  have V_b22 : Arv Z h22 b22 k22 (.array .int) (2 : Int32) [.null, .null] .null := (Arv.new A22 (by decide)).pad (pad_rep [] .null 2)
  refine own_of st22 ?_
  show own_Out p e below _ (T22.setTop (mkF m 69 #[rv o0, rv o1, rv o2, iv 2, rv b11, rv o2, iv 4, iv 4, iv 1] [.ref b22, .ref o0]))
  have ne_o0_b11 : o0 ≠ b11 := Nat.ne_of_lt (Nat.lt_of_lt_of_le E.lt sz_b11)
  have q26 := (((((((((F_classes.other W2 (Or.inr (slot_ne (Or.inr (w_ hw 38 rfl)) (Or.inr (w_ hw 30 rfl)) (by decide) (t := (.array (.array .int))) (t' := (.object "java/lang/String")) (by decide) (by decide)))).other W3 (Or.inr (slot_ne (Or.inr (w_ hw 38 rfl)) (Or.inr (w_ hw 32 rfl)) (by decide) (t := (.array (.array .int))) (t' := (.array .int)) (by decide) (by decide)))).other W7 (Or.inr (slot_ne (Or.inr (w_ hw 38 rfl)) (Or.inr (w_ hw 34 rfl)) (by decide) (t := (.array (.array .int))) (t' := .int) (by decide) (by decide)))).ext E11).other W15 (Or.inl ne_o0_b11)).other W17 (Or.inl ne_o0_b11)).other W19 (Or.inl ne_o0_b11)).other W21 (Or.inl ne_o0_b11)).ext E22)
  have q27 := (((((((q9.wr W7).ext E11).wr W15).wr W17).wr W19).wr W21).ext E22)
  obtain ⟨T25, h25, X25, e25, W25, st25⟩ := putF X22 hx hZ hown (host := "") (Or.inl (w_ hw 37 rfl)) Via.refl e22 q26 q27 (Or.inr ⟨(w_ hw 38 rfl), rfl, hnm⟩) (w_ hw 10 rfl) (ty := (.array (.array .int))) (by decide) rfl rfl (g := (mkF m 69 #[rv o0, rv o1, rv o2, iv 2, rv b11, rv o2, iv 4, iv 4, iv 1] [.ref b22, .ref o0])) rfl rfl (hb hby d4_69)
  have q28 := (((((((((F_classes.other W2 (Or.inr (slot_ne (Or.inr (w_ hw 38 rfl)) (Or.inr (w_ hw 30 rfl)) (by decide) (t := (.array (.array .int))) (t' := (.object "java/lang/String")) (by decide) (by decide)))).other W3 (Or.inr (slot_ne (Or.inr (w_ hw 38 rfl)) (Or.inr (w_ hw 32 rfl)) (by decide) (t := (.array (.array .int))) (t' := (.array .int)) (by decide) (by decide)))).other W7 (Or.inr (slot_ne (Or.inr (w_ hw 38 rfl)) (Or.inr (w_ hw 34 rfl)) (by decide) (t := (.array (.array .int))) (t' := .int) (by decide) (by decide)))).ext E11).other W15 (Or.inl ne_o0_b11)).other W17 (Or.inl ne_o0_b11)).other W19 (Or.inl ne_o0_b11)).other W21 (Or.inl ne_o0_b11)).ext E22)
  have Fw25 := q28.same W25
  refine own_of st25 ?_
  show own_Out p e below _ (T25.setTop (mkF m 72 #[rv o0, rv o1, rv o2, iv 2, rv b11, rv o2, iv 4, iv 4, iv 1] []))
  refine o_iconst X25 hx hby d4_72 (z := 0) rfl (q := 73) rfl ?_
  refine o_istore X25 hx hby d4_73 (l' := #[rv o0, rv o1, rv o2, iv 2, rv b11, iv 0, iv 4, iv 4, iv 1]) rfl (q := 75) rfl ?_
  refine o_iload X25 hx hby d4_75 rfl (q := 77) rfl ?_
  refine o_iloadN X25 hx hby d4_77 rfl (q := 78) rfl ?_
  refine o_icN X25 hx hby d4_78 (tlt (by decide : (0 : Int32) < (2 : Int32))).2.1 (q := 81) rfl ?_
  refine o_aloadN X25 hx hby d4_81 rfl rfl (q := 82) rfl ?_
  refine o_getF X25 hx hZ hown hby (w_ hw 37 rfl) Via.refl e25 Fw25 d4_82 (q := 85) rfl fun T29 X29 e29 => ?_
  refine o_iload X29 hx hby d4_85 rfl (q := 87) rfl ?_
  refine o_aload X29 hx hby d4_87 rfl rfl (q := 89) rfl ?_
  refine o_iload X29 hx hby d4_89 rfl (q := 91) rfl ?_
  have q30 := ((V21.ext E22).other W25 (Ne.symm ne_o0_b11))
  refine o_iaV X29 hx hby hZ e29 q30 ⟨by decide, by decide⟩ (v := .int 1) rfl d4_91 (q := 92) rfl ?_
  obtain ⟨T31, h31, k31, X31, e31, E31, A31, Ex31, st31⟩ := newPE X29 hx hZ (w_ hw 4 rfl) e29 (g := (mkF m 92 #[rv o0, rv o1, rv o2, iv 2, rv b11, iv 0, iv 4, iv 4, iv 1] [.int 1, .int 0, .ref b22])) rfl (hb hby d4_92) rfl (by decide) (cap := 1) (by decide) (by decide) (by decide) (by decide) (ad := "[I") (by decide +kernel)
  obtain ⟨b31, g31⟩ : ∃ z, z = h25.size := ⟨_, rfl⟩
  rw [← g31] at A31 Ex31 st31
  have q32 := (Nat.le_trans (Nat.le_trans q23 E22.1) (Keep.of_wr W25).1)
  have g_b31 : n0 ≤ b31 := Nat.le_trans q32 (Nat.le_of_eq g31.symm)
  have q33 := (Nat.le_trans (Nat.le_trans q24 E22.1) (Keep.of_wr W25).1)
  have sz_b31 : h0.size ≤ b31 := Nat.le_trans q33 (Nat.le_of_eq g31.symm)
  have V_b31 : Arv Z h31 b31 k31 .int (1 : Int32) [(.int (0 : Int32))] (.int (0 : Int32)) := (Arv.new A31 (by decide)).pad (pad_rep [] (.int (0 : Int32)) 1)
  refine own_of st31 ?_
  show own_Out p e below _ (T31.setTop (mkF m 94 #[rv o0, rv o1, rv o2, iv 2, rv b11, iv 0, iv 4, iv 4, iv 1] [.ref b31, .int 0, .ref b22]))
  have ne_o0_b22 : o0 ≠ b22 := Nat.ne_of_lt (Nat.lt_of_lt_of_le E.lt sz_b22)
  have q34 := ((V_b22.other W25 (Ne.symm ne_o0_b22)).ext E31)
  refine o_stVR X31 hx hby hZ e31 q34 ⟨by decide, by decide⟩ 0 rfl (Nat.le_of_ble_eq_true rfl) O22 (Ins.self Ex31) d4_94 (q := 95) rfl fun T35 h35 X35 e35 W35 V35 => ?_
  refine o_iinc X35 hx hby d4_95 rfl (l' := #[rv o0, rv o1, rv o2, iv 2, rv b11, iv 1, iv 4, iv 4, iv 1]) rfl (q := 98) rfl ?_
  refine o_goto X35 hx hby d4_98 (by decide) (q := 75) (by decide) ?_
  refine o_iload X35 hx hby d4_75 rfl (q := 77) rfl ?_
  refine o_iloadN X35 hx hby d4_77 rfl (q := 78) rfl ?_
  refine o_icN X35 hx hby d4_78 (tlt (by decide : (1 : Int32) < (2 : Int32))).2.1 (q := 81) rfl ?_
  refine o_aloadN X35 hx hby d4_81 rfl rfl (q := 82) rfl ?_
  have q37 := ((Fw25.ext E31).other W35 (Or.inl ne_o0_b22))
  refine o_getF X35 hx hZ hown hby (w_ hw 37 rfl) Via.refl e35 q37 d4_82 (q := 85) rfl fun T36 X36 e36 => ?_
  refine o_iload X36 hx hby d4_85 rfl (q := 87) rfl ?_
  refine o_aload X36 hx hby d4_87 rfl rfl (q := 89) rfl ?_
  refine o_iload X36 hx hby d4_89 rfl (q := 91) rfl ?_
  have ne_b11_b22 : b11 ≠ b22 := Nat.ne_of_lt (Nat.lt_of_lt_of_le (Nat.lt_of_lt_of_le (Nat.lt_of_lt_of_le (Nat.lt_of_lt_of_le (Nat.lt_of_lt_of_le A11.lt (Keep.of_wr W15).1) (Keep.of_wr W17).1) (Keep.of_wr W19).1) (Keep.of_wr W21).1) (Nat.le_of_eq g22.symm))
  have q38 := ((q30.ext E31).other W35 ne_b11_b22)
  refine o_iaV X36 hx hby hZ e36 q38 ⟨by decide, by decide⟩ (v := .int 3) rfl d4_91 (q := 92) rfl ?_
  obtain ⟨T39, h39, k39, X39, e39, E39, A39, Ex39, st39⟩ := newPE X36 hx hZ (w_ hw 4 rfl) e36 (g := (mkF m 92 #[rv o0, rv o1, rv o2, iv 2, rv b11, iv 1, iv 4, iv 4, iv 1] [.int 3, .int 1, .ref b22])) rfl (hb hby d4_92) rfl (by decide) (cap := 3) (by decide) (by decide) (by decide) (by decide) (ad := "[I") (by decide +kernel)
  obtain ⟨b39, g39⟩ : ∃ z, z = h35.size := ⟨_, rfl⟩
  rw [← g39] at A39 Ex39 st39
  have q40 := (Nat.le_trans (Nat.le_trans q32 E31.1) (Keep.of_wr W35).1)
  have g_b39 : n0 ≤ b39 := Nat.le_trans q40 (Nat.le_of_eq g39.symm)
  have q41 := (Nat.le_trans (Nat.le_trans q33 E31.1) (Keep.of_wr W35).1)
  have sz_b39 : h0.size ≤ b39 := Nat.le_trans q41 (Nat.le_of_eq g39.symm)
  have V_b39 : Arv Z h39 b39 k39 .int (3 : Int32) [(.int (0 : Int32)), (.int (0 : Int32)), (.int (0 : Int32))] (.int (0 : Int32)) := (Arv.new A39 (by decide)).pad (pad_rep [] (.int (0 : Int32)) 3)
  refine own_of st39 ?_
  show own_Out p e below _ (T39.setTop (mkF m 94 #[rv o0, rv o1, rv o2, iv 2, rv b11, iv 1, iv 4, iv 4, iv 1] [.ref b39, .int 1, .ref b22]))
  have q42 := (V35.ext E39)
  refine o_stVR X39 hx hby hZ e39 q42 ⟨by decide, by decide⟩ 1 rfl (Nat.le_of_ble_eq_true rfl) O22 (Ins.self Ex39) d4_94 (q := 95) rfl fun T43 h43 X43 e43 W43 V43 => ?_
  refine o_iinc X43 hx hby d4_95 rfl (l' := #[rv o0, rv o1, rv o2, iv 2, rv b11, iv 2, iv 4, iv 4, iv 1]) rfl (q := 98) rfl ?_
  refine o_goto X43 hx hby d4_98 (by decide) (q := 75) (by decide) ?_
  refine o_iload X43 hx hby d4_75 rfl (q := 77) rfl ?_
  refine o_iloadN X43 hx hby d4_77 rfl (q := 78) rfl ?_
  refine o_icY X43 hx hby d4_78 (flt (by decide : ¬ ((2 : Int32) < (2 : Int32)))).2.1 (by decide) (q := 101) (by decide) ?_
  refine o_iloadN X43 hx hby d4_101 rfl (q := 102) rfl ?_
  obtain ⟨T44, h44, k44, X44, e44, E44, A44, Ex44, st44⟩ := newPE X43 hx hZ (w_ hw 4 rfl) e43 (g := (mkF m 102 #[rv o0, rv o1, rv o2, iv 2, rv b11, iv 2, iv 4, iv 4, iv 1] [.int 2])) rfl (hb hby d4_102) rfl (by decide) (cap := 2) (by decide) (by decide) (by decide) (by decide) (ad := "[I") (by decide +kernel)
  obtain ⟨b44, g44⟩ : ∃ z, z = h43.size := ⟨_, rfl⟩
  rw [← g44] at A44 Ex44 st44
  have q45 := (Nat.le_trans (Nat.le_trans q40 E39.1) (Keep.of_wr W43).1)
  have g_b44 : n0 ≤ b44 := Nat.le_trans q45 (Nat.le_of_eq g44.symm)
  have q46 := (Nat.le_trans (Nat.le_trans q41 E39.1) (Keep.of_wr W43).1)
  have sz_b44 : h0.size ≤ b44 := Nat.le_trans q46 (Nat.le_of_eq g44.symm)
  have V_b44 : Arv Z h44 b44 k44 .int (2 : Int32) [(.int (0 : Int32)), (.int (0 : Int32))] (.int (0 : Int32)) := (Arv.new A44 (by decide)).pad (pad_rep [] (.int (0 : Int32)) 2)
  refine own_of st44 ?_
  show own_Out p e below _ (T44.setTop (mkF m 104 #[rv o0, rv o1, rv o2, iv 2, rv b11, iv 2, iv 4, iv 4, iv 1] [.ref b44]))
  refine o_astore X44 hx hby d4_104 rfl (l' := #[rv o0, rv o1, rv o2, iv 2, rv b11, rv b44, iv 4, iv 4, iv 1]) rfl (q := 106) rfl ?_
  refine o_iconst X44 hx hby d4_106 (z := 0) rfl (q := 107) rfl ?_
  refine o_istore X44 hx hby d4_107 (l' := #[rv o0, rv o1, rv o2, iv 2, rv b11, rv b44, iv 0, iv 4, iv 1]) rfl (q := 109) rfl ?_
  have ne_o2_b22 : o2 ≠ b22 := Nat.ne_of_lt (Nat.lt_of_lt_of_le V.lt sz_b22)
  have q49 := ((((((((q20.other W21 ne_o2_b11).ext E22).other W25 n2).ext E31).other W35 ne_o2_b22).ext E39).other W43 ne_o2_b22).ext E44)
  have q50 := (((q37.ext E39).other W43 (Or.inl ne_o0_b22)).ext E44)
  have q51 := (V43.ext E44)
  have ne_b22_b31 : b22 ≠ b31 := Nat.ne_of_lt (Nat.lt_of_lt_of_le (Nat.lt_of_lt_of_le A22.lt (Keep.of_wr W25).1) (Nat.le_of_eq g31.symm))
  have q52 := ((((V_b31.other W35 (Ne.symm ne_b22_b31)).ext E39).other W43 (Ne.symm ne_b22_b31)).ext E44)
  have ne_b31_b44 : b31 ≠ b44 := Nat.ne_of_lt (Nat.lt_of_lt_of_le (Nat.lt_of_lt_of_le (Nat.lt_of_lt_of_le (Nat.lt_of_lt_of_le A31.lt (Keep.of_wr W35).1) E39.1) (Keep.of_wr W43).1) (Nat.le_of_eq g44.symm))
  refine t3 X44 hx hby hZ e44 hw hown q49 q50 q51 V_b44 q52 ne_b31_b44 ⟨by decide, by decide⟩ (x := 0) rfl ⟨by decide, by decide⟩ rfl (f := 0) rfl ⟨by decide, by decide⟩ (f' := 1) rfl (i' := 1) rfl (iN := 0) rfl (Nat.le_of_ble_eq_true rfl) (jN := 0) rfl (Nat.le_of_ble_eq_true rfl) fun T48 h47 h48 X48 e48 W47 W48 V47 V48 => ?_
  have ne_o2_b44 : o2 ≠ b44 := Nat.ne_of_lt (Nat.lt_of_lt_of_le V.lt sz_b44)
  have ne_o2_b31 : o2 ≠ b31 := Nat.ne_of_lt (Nat.lt_of_lt_of_le V.lt sz_b31)
  have q55 := ((q49.other W47 ne_o2_b44).other W48 ne_o2_b31)
  have ne_o0_b44 : o0 ≠ b44 := Nat.ne_of_lt (Nat.lt_of_lt_of_le E.lt sz_b44)
  have ne_o0_b31 : o0 ≠ b31 := Nat.ne_of_lt (Nat.lt_of_lt_of_le E.lt sz_b31)
  have q56 := ((q50.other W47 (Or.inl ne_o0_b44)).other W48 (Or.inl ne_o0_b31))
  have ne_b22_b44 : b22 ≠ b44 := Nat.ne_of_lt (Nat.lt_of_lt_of_le (Nat.lt_of_lt_of_le (Nat.lt_of_lt_of_le (Nat.lt_of_lt_of_le (Nat.lt_of_lt_of_le (Nat.lt_of_lt_of_le A22.lt (Keep.of_wr W25).1) E31.1) (Keep.of_wr W35).1) E39.1) (Keep.of_wr W43).1) (Nat.le_of_eq g44.symm))
  have q57 := ((q51.other W47 ne_b22_b44).other W48 ne_b22_b31)
  have q58 := (V47.other W48 (Ne.symm ne_b31_b44))
  have ne_b22_b39 : b22 ≠ b39 := Nat.ne_of_lt (Nat.lt_of_lt_of_le (Nat.lt_of_lt_of_le (Nat.lt_of_lt_of_le (Nat.lt_of_lt_of_le A22.lt (Keep.of_wr W25).1) E31.1) (Keep.of_wr W35).1) (Nat.le_of_eq g39.symm))
  have ne_b39_b44 : b39 ≠ b44 := Nat.ne_of_lt (Nat.lt_of_lt_of_le (Nat.lt_of_lt_of_le A39.lt (Keep.of_wr W43).1) (Nat.le_of_eq g44.symm))
  have ne_b31_b39 : b31 ≠ b39 := Nat.ne_of_lt (Nat.lt_of_lt_of_le (Nat.lt_of_lt_of_le A31.lt (Keep.of_wr W35).1) (Nat.le_of_eq g39.symm))
  have q59 := ((((V_b39.other W43 (Ne.symm ne_b22_b39)).ext E44).other W47 ne_b39_b44).other W48 (Ne.symm ne_b31_b39))
  refine t3 X48 hx hby hZ e48 hw hown q55 q56 q57 q58 q59 ne_b39_b44 ⟨by decide, by decide⟩ (x := 1) rfl ⟨by decide, by decide⟩ rfl (f := 0) rfl ⟨by decide, by decide⟩ (f' := 1) rfl (i' := 2) rfl (iN := 1) rfl (Nat.le_of_ble_eq_true rfl) (jN := 0) rfl (Nat.le_of_ble_eq_true rfl) fun T54 h53 h54 X54 e54 W53 W54 V53 V54 => ?_
  have ne_o2_b39 : o2 ≠ b39 := Nat.ne_of_lt (Nat.lt_of_lt_of_le V.lt sz_b39)
  have q62 := ((q55.other W53 ne_o2_b44).other W54 ne_o2_b39)
  have ne_o0_b39 : o0 ≠ b39 := Nat.ne_of_lt (Nat.lt_of_lt_of_le E.lt sz_b39)
  have q63 := ((q56.other W53 (Or.inl ne_o0_b44)).other W54 (Or.inl ne_o0_b39))
  have q64 := ((q57.other W53 ne_b22_b44).other W54 ne_b22_b39)
  have q65 := (V53.other W54 (Ne.symm ne_b39_b44))
  refine t3 X54 hx hby hZ e54 hw hown q62 q63 q64 q65 V54 ne_b39_b44 ⟨by decide, by decide⟩ (x := 1) rfl ⟨by decide, by decide⟩ rfl (f := 1) rfl ⟨by decide, by decide⟩ (f' := 2) rfl (i' := 3) rfl (iN := 1) rfl (Nat.le_of_ble_eq_true rfl) (jN := 1) rfl (Nat.le_of_ble_eq_true rfl) fun T61 h60 h61 X61 e61 W60 W61 V60 V61 => ?_
  have q68 := ((q62.other W60 ne_o2_b44).other W61 ne_o2_b39)
  have q69 := ((q63.other W60 (Or.inl ne_o0_b44)).other W61 (Or.inl ne_o0_b39))
  have q70 := ((q64.other W60 ne_b22_b44).other W61 ne_b22_b39)
  have q71 := (V60.other W61 (Ne.symm ne_b39_b44))
  refine t3 X61 hx hby hZ e61 hw hown q68 q69 q70 q71 V61 ne_b39_b44 ⟨by decide, by decide⟩ (x := 1) rfl ⟨by decide, by decide⟩ rfl (f := 2) rfl ⟨by decide, by decide⟩ (f' := 3) rfl (i' := 4) rfl (iN := 1) rfl (Nat.le_of_ble_eq_true rfl) (jN := 2) rfl (Nat.le_of_ble_eq_true rfl) fun T67 h66 h67 X67 e67 W66 W67 V66 V67 => ?_
  refine o_iload X67 hx hby d4_109 rfl (q := 111) rfl ?_
  refine o_aloadN X67 hx hby d4_111 rfl rfl (q := 112) rfl ?_
  have q72 := ((q68.other W66 ne_o2_b44).other W67 ne_o2_b39)
  refine o_lenV X67 hx hby hZ e67 q72 d4_112 (q := 113) rfl ?_
  refine o_icY X67 hx hby d4_113 (flt (by decide : ¬ ((4 : Int32) < (4 : Int32)))).2.1 (by decide) (q := 146) (by decide) ?_
  have q73 := ((q69.other W66 (Or.inl ne_o0_b44)).other W67 (Or.inl ne_o0_b39))
  have q74 := ((q70.other W66 ne_b22_b44).other W67 ne_b22_b39)
  have q75 := ((((((V48.other W53 ne_b31_b44).other W54 ne_b31_b39).other W60 ne_b31_b44).other W61 ne_b31_b39).other W66 ne_b31_b44).other W67 ne_b31_b39)
  have q76 := ((((((((((((((((((((((((Keep.refl h0 [o0]).wr W2 (Or.inl (List.mem_of_getElem? (i := 0) rfl))).wr W3 (Or.inl (List.mem_of_getElem? (i := 0) rfl))).wr W7 (Or.inl (List.mem_of_getElem? (i := 0) rfl))).ext E11).wr W15 (Or.inr sz_b11)).wr W17 (Or.inr sz_b11)).wr W19 (Or.inr sz_b11)).wr W21 (Or.inr sz_b11)).ext E22).wr W25 (Or.inl (List.mem_of_getElem? (i := 0) rfl))).ext E31).wr W35 (Or.inr sz_b22)).ext E39).wr W43 (Or.inr sz_b22)).ext E44).wr W47 (Or.inr sz_b44)).wr W48 (Or.inr sz_b31)).wr W53 (Or.inr sz_b44)).wr W54 (Or.inr sz_b39)).wr W60 (Or.inr sz_b44)).wr W61 (Or.inr sz_b39)).wr W66 (Or.inr sz_b44)).wr W67 (Or.inr sz_b39))
  have q77 := ((((((((((((((q27.wr W25).ext E31).wr W35).ext E39).wr W43).ext E44).wr W47).wr W48).wr W53).wr W54).wr W60).wr W61).wr W66).wr W67)
  have q78 := (((((((((((((((((((((Fw3.other W7 (Or.inr (slot_ne (Or.inr (w_ hw 32 rfl)) (Or.inr (w_ hw 34 rfl)) (by decide) (t := (.array .int)) (t' := .int) (by decide) (by decide)))).ext E11).other W15 (Or.inl ne_o0_b11)).other W17 (Or.inl ne_o0_b11)).other W19 (Or.inl ne_o0_b11)).other W21 (Or.inl ne_o0_b11)).ext E22).other W25 (Or.inr (slot_ne (Or.inr (w_ hw 32 rfl)) (Or.inr (w_ hw 38 rfl)) (by decide) (t := (.array .int)) (t' := (.array (.array .int))) (by decide) (by decide)))).ext E31).other W35 (Or.inl ne_o0_b22)).ext E39).other W43 (Or.inl ne_o0_b22)).ext E44).other W47 (Or.inl ne_o0_b44)).other W48 (Or.inl ne_o0_b31)).other W53 (Or.inl ne_o0_b44)).other W54 (Or.inl ne_o0_b39)).other W60 (Or.inl ne_o0_b44)).other W61 (Or.inl ne_o0_b39)).other W66 (Or.inl ne_o0_b44)).other W67 (Or.inl ne_o0_b39))
  have q79 := ((((((((((((((((((((Fw7.ext E11).other W15 (Or.inl ne_o0_b11)).other W17 (Or.inl ne_o0_b11)).other W19 (Or.inl ne_o0_b11)).other W21 (Or.inl ne_o0_b11)).ext E22).other W25 (Or.inr (slot_ne (Or.inr (w_ hw 34 rfl)) (Or.inr (w_ hw 38 rfl)) (by decide) (t := .int) (t' := (.array (.array .int))) (by decide) (by decide)))).ext E31).other W35 (Or.inl ne_o0_b22)).ext E39).other W43 (Or.inl ne_o0_b22)).ext E44).other W47 (Or.inl ne_o0_b44)).other W48 (Or.inl ne_o0_b31)).other W53 (Or.inl ne_o0_b44)).other W54 (Or.inl ne_o0_b39)).other W60 (Or.inl ne_o0_b44)).other W61 (Or.inl ne_o0_b39)).other W66 (Or.inl ne_o0_b44)).other W67 (Or.inl ne_o0_b39))
  exact own_outV X67 hx hlk hret (hb hby d4_146) (Q := Q4c0111n2 Z o0 o1 o2 k2 h0 n0) (by rw [e67]; exact ⟨rfl, (Fr.snoc X67 (own_snoc (Fr.snoc X61 (own_snoc (Fr.snoc X54 (own_snoc (Fr.snoc X48 (own_snoc (Fr.snoc X43 (Fr.snoc X35 (Fr.snoc X25 (Fr.snoc X21 (Fr.snoc X19 (Fr.snoc X17 (Fr.snoc X15 (Fr.snoc X7 (Fr.snoc X3 (Fr.snoc X2 N0 g_o0) g_o0) g_o0) g_b11) g_b11) g_b11) g_b11) g_o0) g_b22) g_b22) g_b44) g_b31) g_b44) g_b39) g_b44) g_b39) g_b44) g_b39), q76, q77, q78, q79, (fun l a0 hw ws h' K o1 oc kc c0 c1 c2 c3 n1 Z1 Fc Vc => rm7r0111 l Z a0 hw ws o0 o1 b22 k22 b31 k31 b39 k39 oc kc c0 c1 c2 c3 h' n1 Z1 (q73.keep K nin0) (q74.keep K nin0) (q75.keep K nin0) (V67.keep K nin0) Fc Vc)⟩) (by decide) (by decide)
theorem ef_7r0112 (m : MethodId) (x0 : Addr) (x1 : Addr) : entryFrame m #[(.ref x0), (.ref x1)] 10 = mkF m 0 #[.val (.ref x0), .val (.ref x1), .unset, .unset, .unset, .unset, .unset, .unset, .unset, .unset] [] := by first | (simp [entryFrame, mkF, argsToLocals, Value.category]; done) | rfl
def fr0112 (c0 : Int32) (c1 : Int32) (c2 : Int32) (c3 : Int32) : Int32 := if c2 = c1 then (1 : Int32)
  else (0 : Int32)
def Q7r0112 (Z : State) (o0 : Addr) (o1 : Addr) (cc : Addr) (kcc : ClassId) (d0 : Addr) (kd0 : ClassId) (d1 : Addr) (kd1 : ClassId) (d2 : Addr) (kd2 : ClassId) (oc : Addr) (kc : ClassId) (c0 : Int32) (c1 : Int32) (c2 : Int32) (c3 : Int32) (h0 : Heap) (n0 : Nat) (v : Option Value) (h : Heap) (L : List Loc) : Prop := v = some (.int (fr0112 c0 c1 c2 c3)) ∧ Fr n0 L ∧ h = h0
set_option maxRecDepth 65536 in
set_option maxHeartbeats 40000000 in
theorem rm7r0112 (l : Launch) (Z : State) (a0 : Array Value) (hw : ∀ d ∈ tables_1, d.before a0 Z = true) (ws : List Jvm.Cond) (o0 : Addr) (o1 : Addr) (cc : Addr) (kcc : ClassId) (d0 : Addr) (kd0 : ClassId) (d1 : Addr) (kd1 : ClassId) (d2 : Addr) (kd2 : ClassId) (oc : Addr) (kc : ClassId) (c0 : Int32) (c1 : Int32) (c2 : Int32) (c3 : Int32) (h0 : Heap) (n0 : Nat) (Z0 : n0 ≤ h0.size) (Fs : Fld Z h0 o0 "com/example/slimc/slimc/game/Observation" "classes" "[[I" (.ref cc)) (Vcc : Arv Z h0 cc kcc (.array .int) (3 : Int32) [(.ref d0), (.ref d1), (.ref d2)] .null) (Vd0 : Arv Z h0 d0 kd0 .int (1 : Int32) [(.int (0 : Int32))] (.int (0 : Int32))) (Vd1 : Arv Z h0 d1 kd1 .int (2 : Int32) [(.int (1 : Int32)), (.int (2 : Int32))] (.int (0 : Int32))) (Vd2 : Arv Z h0 d2 kd2 .int (1 : Int32) [(.int (3 : Int32))] (.int (0 : Int32))) (Fc : Fld Z h0 o1 "com/example/slimc/slimc/game/Observation" "classOf" "[I" (.ref oc)) (Vc : Arv Z h0 oc kc .int (4 : Int32) [(.int c0), (.int c1), (.int c2), (.int c3)] (.int (0 : Int32))) :
    MetFree l (⟨"com/example/slimc/slimc/game/Observation", "refines", "(Lcom/example/slimc/slimc/game/Observation;)Z"⟩ : MethodName) (head1 (Jvm.Cond.code (⟨"com/example/slimc/slimc/game/Observation", "refines", "(Lcom/example/slimc/slimc/game/Observation;)Z"⟩ : MethodName) prog_66_method_8_code 10 (some .boolean) :: ws) ({ frames := 0, cells := 0, slots := 0, locals := 0 } : Room)) (fun a U => a = #[(.ref o0), (.ref o1)] ∧ Z.Warmed39 U.vm ∧ U.heap = h0) (fun _ _ _ _ _ => True) (fun _ U o U' => ∃ v L, o = .returned v ∧ Q7r0112 Z o0 o1 cc kcc d0 kd0 d1 kd1 d2 kd2 oc kc c0 c1 c2 c3 h0 n0 v U'.heap L ∧ FrameEnd U o U' L ({ frames := 0, cells := 0, slots := 0, locals := 0 } : Room).cells ({ frames := 0, cells := 0, slots := 0, locals := 0 } : Room).slots) := by
  refine MetFree.of_bodySF (plainFor_of_name pn_1) hisR ?_
  intro p e s m args below meth c s₁ Bd hml0 hP hK
  obtain ⟨rfl, hZ, hh⟩ := hP
  have hx := Bd.exec
  have hby := Bd.bytes
  have hml : c.maxLocals = 10 := hml0
  have hown : s.vm.findClass "com/example/slimc/slimc/game/Observation" = some m.cls := findClass_of_methodNamed Bd.named
  have hnm := (name_of_methodNamed Bd.named Bd.method).1
  have X0 : Stand p l e ({ frames := 0, cells := 0, slots := 0, locals := 0 } : Room) s m #[(.ref o0), (.ref o1)] below meth c s₁ [] 0 0 := Stand.of_body Bd
  have e0 : s₁.heap = h0 := by rw [← hh, Bd.state]; rfl
  have N0 := Fr.nil n0
  have hret := Bd.returns
  have hlk := BodyLoose.notSynchronized Bd
  show own_Out p e below (fun o U' => ∃ v L, o = .returned v ∧ Q7r0112 Z o0 o1 cc kcc d0 kd0 d1 kd1 d2 kd2 oc kc c0 c1 c2 c3 h0 n0 v U'.heap L ∧ FrameEnd s o U' L ({ frames := 0, cells := 0, slots := 0, locals := 0 } : Room).cells ({ frames := 0, cells := 0, slots := 0, locals := 0 } : Room).slots) (s₁.setTop (entryFrame m #[(.ref o0), (.ref o1)] 10))
  refine own_of (fun t k => castTop (ef_7r0112 m o0 o1) k) ?_
  show own_Out p e below _ (s₁.setTop (mkF m 0 #[rv o0, rv o1, .unset, .unset, .unset, .unset, .unset, .unset, .unset, .unset] []))
  refine o_aloadN X0 hx hby d7_0 rfl rfl (q := 1) rfl ?_
  refine o_getF X0 hx hZ hown hby (w_ hw 37 rfl) Via.refl e0 Fs d7_1 (q := 4) rfl fun T1 X1 e1 => ?_
  refine o_astoreN X1 hx hby d7_4 rfl (l' := #[rv o0, rv o1, rv cc, .unset, .unset, .unset, .unset, .unset, .unset, .unset]) rfl (q := 5) rfl ?_
  refine o_aloadN X1 hx hby d7_5 rfl rfl (q := 6) rfl ?_
  refine o_lenV X1 hx hby hZ e1 Vcc d7_6 (q := 7) rfl ?_
  refine o_istoreN X1 hx hby d7_7 (l' := #[rv o0, rv o1, rv cc, iv 3, .unset, .unset, .unset, .unset, .unset, .unset]) rfl (q := 8) rfl ?_
  refine o_iconst X1 hx hby d7_8 (z := 0) rfl (q := 9) rfl ?_
  refine o_istore X1 hx hby d7_9 (l' := #[rv o0, rv o1, rv cc, iv 3, iv 0, .unset, .unset, .unset, .unset, .unset]) rfl (q := 11) rfl ?_
  refine o_iload X1 hx hby d7_11 rfl (q := 13) rfl ?_
  refine o_iloadN X1 hx hby d7_13 rfl (q := 14) rfl ?_
  refine o_icN X1 hx hby d7_14 (tlt (by decide : (0 : Int32) < (3 : Int32))).2.1 (q := 17) rfl ?_
  refine o_aloadN X1 hx hby d7_17 rfl rfl (q := 18) rfl ?_
  refine o_iload X1 hx hby d7_18 rfl (q := 20) rfl ?_
  refine o_aaV X1 hx hby hZ e1 Vcc rfl ⟨by decide, by decide⟩ (v := .ref d0) rfl d7_20 (q := 21) rfl ?_
  refine o_astore X1 hx hby d7_21 rfl (l' := #[rv o0, rv o1, rv cc, iv 3, iv 0, rv d0, .unset, .unset, .unset, .unset]) rfl (q := 23) rfl ?_
  refine o_aload X1 hx hby d7_23 rfl rfl (q := 25) rfl ?_
  refine o_astore X1 hx hby d7_25 rfl (l' := #[rv o0, rv o1, rv cc, iv 3, iv 0, rv d0, rv d0, .unset, .unset, .unset]) rfl (q := 27) rfl ?_
  refine o_aload X1 hx hby d7_27 rfl rfl (q := 29) rfl ?_
  refine o_lenV X1 hx hby hZ e1 Vd0 d7_29 (q := 30) rfl ?_
  refine o_istore X1 hx hby d7_30 (l' := #[rv o0, rv o1, rv cc, iv 3, iv 0, rv d0, rv d0, iv 1, .unset, .unset]) rfl (q := 32) rfl ?_
  refine o_iconst X1 hx hby d7_32 (z := 0) rfl (q := 33) rfl ?_
  refine o_istore X1 hx hby d7_33 (l' := #[rv o0, rv o1, rv cc, iv 3, iv 0, rv d0, rv d0, iv 1, iv 0, .unset]) rfl (q := 35) rfl ?_
  refine o_iload X1 hx hby d7_35 rfl (q := 37) rfl ?_
  refine o_iload X1 hx hby d7_37 rfl (q := 39) rfl ?_
  refine o_icN X1 hx hby d7_39 (tlt (by decide : (0 : Int32) < (1 : Int32))).2.1 (q := 42) rfl ?_
  refine o_aload X1 hx hby d7_42 rfl rfl (q := 44) rfl ?_
  refine o_iload X1 hx hby d7_44 rfl (q := 46) rfl ?_
  refine o_iaV X1 hx hby hZ e1 Vd0 ⟨by decide, by decide⟩ (v := .int 0) rfl d7_46 (q := 47) rfl ?_
  refine o_istore X1 hx hby d7_47 (l' := #[rv o0, rv o1, rv cc, iv 3, iv 0, rv d0, rv d0, iv 1, iv 0, iv 0]) rfl (q := 49) rfl ?_
  refine o_aloadN X1 hx hby d7_49 rfl rfl (q := 50) rfl ?_
  refine o_getF X1 hx hZ hown hby (w_ hw 31 rfl) Via.refl e1 Fc d7_50 (q := 53) rfl fun T2 X2 e2 => ?_
  refine o_iload X2 hx hby d7_53 rfl (q := 55) rfl ?_
  refine o_iaV X2 hx hby hZ e2 Vc ⟨by decide, by decide⟩ (v := .int c0) rfl d7_55 (q := 56) rfl ?_
  refine o_aloadN X2 hx hby d7_56 rfl rfl (q := 57) rfl ?_
  refine o_getF X2 hx hZ hown hby (w_ hw 31 rfl) Via.refl e2 Fc d7_57 (q := 60) rfl fun T3 X3 e3 => ?_
  refine o_aload X3 hx hby d7_60 rfl rfl (q := 62) rfl ?_
  refine o_iconst X3 hx hby d7_62 (z := 0) rfl (q := 63) rfl ?_
  refine o_iaV X3 hx hby hZ e3 Vd0 ⟨by decide, by decide⟩ (v := .int 0) rfl d7_63 (q := 64) rfl ?_
  refine o_iaV X3 hx hby hZ e3 Vc ⟨by decide, by decide⟩ (v := .int c0) rfl d7_64 (q := 65) rfl ?_
  refine o_icY X3 hx hby d7_65 (teq (rfl : c0 = c0)).1 (by decide) (q := 70) (by decide) ?_
  refine o_iinc X3 hx hby d7_70 rfl (l' := #[rv o0, rv o1, rv cc, iv 3, iv 0, rv d0, rv d0, iv 1, iv 1, iv 0]) rfl (q := 73) rfl ?_
  refine o_goto X3 hx hby d7_73 (by decide) (q := 35) (by decide) ?_
  refine o_iload X3 hx hby d7_35 rfl (q := 37) rfl ?_
  refine o_iload X3 hx hby d7_37 rfl (q := 39) rfl ?_
  refine o_icY X3 hx hby d7_39 (flt (by decide : ¬ ((1 : Int32) < (1 : Int32)))).2.1 (by decide) (q := 76) (by decide) ?_
  refine o_iinc X3 hx hby d7_76 rfl (l' := #[rv o0, rv o1, rv cc, iv 3, iv 1, rv d0, rv d0, iv 1, iv 1, iv 0]) rfl (q := 79) rfl ?_
  refine o_goto X3 hx hby d7_79 (by decide) (q := 11) (by decide) ?_
  refine o_iload X3 hx hby d7_11 rfl (q := 13) rfl ?_
  refine o_iloadN X3 hx hby d7_13 rfl (q := 14) rfl ?_
  refine o_icN X3 hx hby d7_14 (tlt (by decide : (1 : Int32) < (3 : Int32))).2.1 (q := 17) rfl ?_
  refine o_aloadN X3 hx hby d7_17 rfl rfl (q := 18) rfl ?_
  refine o_iload X3 hx hby d7_18 rfl (q := 20) rfl ?_
  refine o_aaV X3 hx hby hZ e3 Vcc rfl ⟨by decide, by decide⟩ (v := .ref d1) rfl d7_20 (q := 21) rfl ?_
  refine o_astore X3 hx hby d7_21 rfl (l' := #[rv o0, rv o1, rv cc, iv 3, iv 1, rv d1, rv d0, iv 1, iv 1, iv 0]) rfl (q := 23) rfl ?_
  refine o_aload X3 hx hby d7_23 rfl rfl (q := 25) rfl ?_
  refine o_astore X3 hx hby d7_25 rfl (l' := #[rv o0, rv o1, rv cc, iv 3, iv 1, rv d1, rv d1, iv 1, iv 1, iv 0]) rfl (q := 27) rfl ?_
  refine o_aload X3 hx hby d7_27 rfl rfl (q := 29) rfl ?_
  refine o_lenV X3 hx hby hZ e3 Vd1 d7_29 (q := 30) rfl ?_
  refine o_istore X3 hx hby d7_30 (l' := #[rv o0, rv o1, rv cc, iv 3, iv 1, rv d1, rv d1, iv 2, iv 1, iv 0]) rfl (q := 32) rfl ?_
  refine o_iconst X3 hx hby d7_32 (z := 0) rfl (q := 33) rfl ?_
  refine o_istore X3 hx hby d7_33 (l' := #[rv o0, rv o1, rv cc, iv 3, iv 1, rv d1, rv d1, iv 2, iv 0, iv 0]) rfl (q := 35) rfl ?_
  refine o_iload X3 hx hby d7_35 rfl (q := 37) rfl ?_
  refine o_iload X3 hx hby d7_37 rfl (q := 39) rfl ?_
  refine o_icN X3 hx hby d7_39 (tlt (by decide : (0 : Int32) < (2 : Int32))).2.1 (q := 42) rfl ?_
  refine o_aload X3 hx hby d7_42 rfl rfl (q := 44) rfl ?_
  refine o_iload X3 hx hby d7_44 rfl (q := 46) rfl ?_
  refine o_iaV X3 hx hby hZ e3 Vd1 ⟨by decide, by decide⟩ (v := .int 1) rfl d7_46 (q := 47) rfl ?_
  refine o_istore X3 hx hby d7_47 (l' := #[rv o0, rv o1, rv cc, iv 3, iv 1, rv d1, rv d1, iv 2, iv 0, iv 1]) rfl (q := 49) rfl ?_
  refine o_aloadN X3 hx hby d7_49 rfl rfl (q := 50) rfl ?_
  refine o_getF X3 hx hZ hown hby (w_ hw 31 rfl) Via.refl e3 Fc d7_50 (q := 53) rfl fun T4 X4 e4 => ?_
  refine o_iload X4 hx hby d7_53 rfl (q := 55) rfl ?_
  refine o_iaV X4 hx hby hZ e4 Vc ⟨by decide, by decide⟩ (v := .int c1) rfl d7_55 (q := 56) rfl ?_
  refine o_aloadN X4 hx hby d7_56 rfl rfl (q := 57) rfl ?_
  refine o_getF X4 hx hZ hown hby (w_ hw 31 rfl) Via.refl e4 Fc d7_57 (q := 60) rfl fun T5 X5 e5 => ?_
  refine o_aload X5 hx hby d7_60 rfl rfl (q := 62) rfl ?_
  refine o_iconst X5 hx hby d7_62 (z := 0) rfl (q := 63) rfl ?_
  refine o_iaV X5 hx hby hZ e5 Vd1 ⟨by decide, by decide⟩ (v := .int 1) rfl d7_63 (q := 64) rfl ?_
  refine o_iaV X5 hx hby hZ e5 Vc ⟨by decide, by decide⟩ (v := .int c1) rfl d7_64 (q := 65) rfl ?_
  refine o_icY X5 hx hby d7_65 (teq (rfl : c1 = c1)).1 (by decide) (q := 70) (by decide) ?_
  refine o_iinc X5 hx hby d7_70 rfl (l' := #[rv o0, rv o1, rv cc, iv 3, iv 1, rv d1, rv d1, iv 2, iv 1, iv 1]) rfl (q := 73) rfl ?_
  refine o_goto X5 hx hby d7_73 (by decide) (q := 35) (by decide) ?_
  refine o_iload X5 hx hby d7_35 rfl (q := 37) rfl ?_
  refine o_iload X5 hx hby d7_37 rfl (q := 39) rfl ?_
  refine o_icN X5 hx hby d7_39 (tlt (by decide : (1 : Int32) < (2 : Int32))).2.1 (q := 42) rfl ?_
  refine o_aload X5 hx hby d7_42 rfl rfl (q := 44) rfl ?_
  refine o_iload X5 hx hby d7_44 rfl (q := 46) rfl ?_
  refine o_iaV X5 hx hby hZ e5 Vd1 ⟨by decide, by decide⟩ (v := .int 2) rfl d7_46 (q := 47) rfl ?_
  refine o_istore X5 hx hby d7_47 (l' := #[rv o0, rv o1, rv cc, iv 3, iv 1, rv d1, rv d1, iv 2, iv 1, iv 2]) rfl (q := 49) rfl ?_
  refine o_aloadN X5 hx hby d7_49 rfl rfl (q := 50) rfl ?_
  refine o_getF X5 hx hZ hown hby (w_ hw 31 rfl) Via.refl e5 Fc d7_50 (q := 53) rfl fun T6 X6 e6 => ?_
  refine o_iload X6 hx hby d7_53 rfl (q := 55) rfl ?_
  refine o_iaV X6 hx hby hZ e6 Vc ⟨by decide, by decide⟩ (v := .int c2) rfl d7_55 (q := 56) rfl ?_
  refine o_aloadN X6 hx hby d7_56 rfl rfl (q := 57) rfl ?_
  refine o_getF X6 hx hZ hown hby (w_ hw 31 rfl) Via.refl e6 Fc d7_57 (q := 60) rfl fun T7 X7 e7 => ?_
  refine o_aload X7 hx hby d7_60 rfl rfl (q := 62) rfl ?_
  refine o_iconst X7 hx hby d7_62 (z := 0) rfl (q := 63) rfl ?_
  refine o_iaV X7 hx hby hZ e7 Vd1 ⟨by decide, by decide⟩ (v := .int 1) rfl d7_63 (q := 64) rfl ?_
  refine o_iaV X7 hx hby hZ e7 Vc ⟨by decide, by decide⟩ (v := .int c1) rfl d7_64 (q := 65) rfl ?_
  by_cases hc65_8 : c2 = c1
  · skip
    refine o_icY X7 hx hby d7_65 (teq hc65_8).1 (by decide) (q := 70) (by decide) ?_
    refine o_iinc X7 hx hby d7_70 rfl (l' := #[rv o0, rv o1, rv cc, iv 3, iv 1, rv d1, rv d1, iv 2, iv 2, iv 2]) rfl (q := 73) rfl ?_
    refine o_goto X7 hx hby d7_73 (by decide) (q := 35) (by decide) ?_
    refine o_iload X7 hx hby d7_35 rfl (q := 37) rfl ?_
    refine o_iload X7 hx hby d7_37 rfl (q := 39) rfl ?_
    refine o_icY X7 hx hby d7_39 (flt (by decide : ¬ ((2 : Int32) < (2 : Int32)))).2.1 (by decide) (q := 76) (by decide) ?_
    refine o_iinc X7 hx hby d7_76 rfl (l' := #[rv o0, rv o1, rv cc, iv 3, iv 2, rv d1, rv d1, iv 2, iv 2, iv 2]) rfl (q := 79) rfl ?_
    refine o_goto X7 hx hby d7_79 (by decide) (q := 11) (by decide) ?_
    refine o_iload X7 hx hby d7_11 rfl (q := 13) rfl ?_
    refine o_iloadN X7 hx hby d7_13 rfl (q := 14) rfl ?_
    refine o_icN X7 hx hby d7_14 (tlt (by decide : (2 : Int32) < (3 : Int32))).2.1 (q := 17) rfl ?_
    refine o_aloadN X7 hx hby d7_17 rfl rfl (q := 18) rfl ?_
    refine o_iload X7 hx hby d7_18 rfl (q := 20) rfl ?_
    refine o_aaV X7 hx hby hZ e7 Vcc rfl ⟨by decide, by decide⟩ (v := .ref d2) rfl d7_20 (q := 21) rfl ?_
    refine o_astore X7 hx hby d7_21 rfl (l' := #[rv o0, rv o1, rv cc, iv 3, iv 2, rv d2, rv d1, iv 2, iv 2, iv 2]) rfl (q := 23) rfl ?_
    refine o_aload X7 hx hby d7_23 rfl rfl (q := 25) rfl ?_
    refine o_astore X7 hx hby d7_25 rfl (l' := #[rv o0, rv o1, rv cc, iv 3, iv 2, rv d2, rv d2, iv 2, iv 2, iv 2]) rfl (q := 27) rfl ?_
    refine o_aload X7 hx hby d7_27 rfl rfl (q := 29) rfl ?_
    refine o_lenV X7 hx hby hZ e7 Vd2 d7_29 (q := 30) rfl ?_
    refine o_istore X7 hx hby d7_30 (l' := #[rv o0, rv o1, rv cc, iv 3, iv 2, rv d2, rv d2, iv 1, iv 2, iv 2]) rfl (q := 32) rfl ?_
    refine o_iconst X7 hx hby d7_32 (z := 0) rfl (q := 33) rfl ?_
    refine o_istore X7 hx hby d7_33 (l' := #[rv o0, rv o1, rv cc, iv 3, iv 2, rv d2, rv d2, iv 1, iv 0, iv 2]) rfl (q := 35) rfl ?_
    refine o_iload X7 hx hby d7_35 rfl (q := 37) rfl ?_
    refine o_iload X7 hx hby d7_37 rfl (q := 39) rfl ?_
    refine o_icN X7 hx hby d7_39 (tlt (by decide : (0 : Int32) < (1 : Int32))).2.1 (q := 42) rfl ?_
    refine o_aload X7 hx hby d7_42 rfl rfl (q := 44) rfl ?_
    refine o_iload X7 hx hby d7_44 rfl (q := 46) rfl ?_
    refine o_iaV X7 hx hby hZ e7 Vd2 ⟨by decide, by decide⟩ (v := .int 3) rfl d7_46 (q := 47) rfl ?_
    refine o_istore X7 hx hby d7_47 (l' := #[rv o0, rv o1, rv cc, iv 3, iv 2, rv d2, rv d2, iv 1, iv 0, iv 3]) rfl (q := 49) rfl ?_
    refine o_aloadN X7 hx hby d7_49 rfl rfl (q := 50) rfl ?_
    refine o_getF X7 hx hZ hown hby (w_ hw 31 rfl) Via.refl e7 Fc d7_50 (q := 53) rfl fun T9 X9 e9 => ?_
    refine o_iload X9 hx hby d7_53 rfl (q := 55) rfl ?_
    refine o_iaV X9 hx hby hZ e9 Vc ⟨by decide, by decide⟩ (v := .int c3) rfl d7_55 (q := 56) rfl ?_
    refine o_aloadN X9 hx hby d7_56 rfl rfl (q := 57) rfl ?_
    refine o_getF X9 hx hZ hown hby (w_ hw 31 rfl) Via.refl e9 Fc d7_57 (q := 60) rfl fun T10 X10 e10 => ?_
    refine o_aload X10 hx hby d7_60 rfl rfl (q := 62) rfl ?_
    refine o_iconst X10 hx hby d7_62 (z := 0) rfl (q := 63) rfl ?_
    refine o_iaV X10 hx hby hZ e10 Vd2 ⟨by decide, by decide⟩ (v := .int 3) rfl d7_63 (q := 64) rfl ?_
    refine o_iaV X10 hx hby hZ e10 Vc ⟨by decide, by decide⟩ (v := .int c3) rfl d7_64 (q := 65) rfl ?_
    refine o_icY X10 hx hby d7_65 (teq (rfl : c3 = c3)).1 (by decide) (q := 70) (by decide) ?_
    refine o_iinc X10 hx hby d7_70 rfl (l' := #[rv o0, rv o1, rv cc, iv 3, iv 2, rv d2, rv d2, iv 1, iv 1, iv 3]) rfl (q := 73) rfl ?_
    refine o_goto X10 hx hby d7_73 (by decide) (q := 35) (by decide) ?_
    refine o_iload X10 hx hby d7_35 rfl (q := 37) rfl ?_
    refine o_iload X10 hx hby d7_37 rfl (q := 39) rfl ?_
    refine o_icY X10 hx hby d7_39 (flt (by decide : ¬ ((1 : Int32) < (1 : Int32)))).2.1 (by decide) (q := 76) (by decide) ?_
    refine o_iinc X10 hx hby d7_76 rfl (l' := #[rv o0, rv o1, rv cc, iv 3, iv 3, rv d2, rv d2, iv 1, iv 1, iv 3]) rfl (q := 79) rfl ?_
    refine o_goto X10 hx hby d7_79 (by decide) (q := 11) (by decide) ?_
    refine o_iload X10 hx hby d7_11 rfl (q := 13) rfl ?_
    refine o_iloadN X10 hx hby d7_13 rfl (q := 14) rfl ?_
    refine o_icY X10 hx hby d7_14 (flt (by decide : ¬ ((3 : Int32) < (3 : Int32)))).2.1 (by decide) (q := 82) (by decide) ?_
    refine o_iconst X10 hx hby d7_82 (z := 1) rfl (q := 83) rfl ?_
    exact own_outN X10 hx hlk (t := .boolean) hret (by simp) (hb hby d7_83) (z' := (1 : Int32)) rfl (Q := Q7r0112 Z o0 o1 cc kcc d0 kd0 d1 kd1 d2 kd2 oc kc c0 c1 c2 c3 h0 n0) ⟨by simp only [fr0112, if_pos hc65_8], N0, e10⟩ (by decide) (by decide)
  · skip
    refine o_icN X7 hx hby d7_65 (feq hc65_8).1 (q := 68) rfl ?_
    refine o_iconst X7 hx hby d7_68 (z := 0) rfl (q := 69) rfl ?_
    exact own_outN X7 hx hlk (t := .boolean) hret (by simp) (hb hby d7_69) (z' := (0 : Int32)) rfl (Q := Q7r0112 Z o0 o1 cc kcc d0 kd0 d1 kd1 d2 kd2 oc kc c0 c1 c2 c3 h0 n0) ⟨by simp only [fr0112, if_neg hc65_8], N0, e7⟩ (by decide) (by decide)
theorem ef_4c0112n3 (m : MethodId) (x0 : Addr) (x1 : Addr) (x2 : Addr) : entryFrame m #[(.ref x0), (.ref x1), (.ref x2), (.int (3 : Int32))] 9 = mkF m 0 #[.val (.ref x0), .val (.ref x1), .val (.ref x2), .val (.int (3 : Int32)), .unset, .unset, .unset, .unset, .unset] [] := by first | (simp [entryFrame, mkF, argsToLocals, Value.category]; done) | rfl
def Q4c0112n3 (Z : State) (o0 : Addr) (o1 : Addr) (o2 : Addr) (k2 : ClassId) (h0 : Heap) (n0 : Nat) (v : Option Value) (h : Heap) (L : List Loc) : Prop := v = none ∧ Fr n0 L ∧ Keep h0 h [o0] ∧ Exa Z h o0 "com/example/slimc/slimc/game/Observation" ∧ Fld Z h o0 "com/example/slimc/slimc/game/Observation" "classOf" "[I" (.ref o2) ∧ Fld Z h o0 "com/example/slimc/slimc/game/Observation" "classCount" "I" (.int (3 : Int32)) ∧ RefOk Z h o0 fr0112
set_option maxRecDepth 65536 in
set_option maxHeartbeats 40000000 in
theorem rm4c0112n3 (l : Launch) (Z : State) (a0 : Array Value) (hw : ∀ d ∈ tables_1, d.before a0 Z = true) (ws : List Jvm.Cond) (o0 : Addr) (o1 : Addr) (o2 : Addr) (k2 : ClassId) (h0 : Heap) (n0 : Nat) (Z0 : n0 ≤ h0.size) (E : Exa Z h0 o0 "com/example/slimc/slimc/game/Observation") (F_name : Fld Z h0 o0 "com/example/slimc/slimc/game/Observation" "name" "Ljava/lang/String;" .null) (F_classOf : Fld Z h0 o0 "com/example/slimc/slimc/game/Observation" "classOf" "[I" .null) (F_classCount : Fld Z h0 o0 "com/example/slimc/slimc/game/Observation" "classCount" "I" (.int (0 : Int32))) (F_classes : Fld Z h0 o0 "com/example/slimc/slimc/game/Observation" "classes" "[[I" .null) (g_o0 : n0 ≤ o0) (V : Arv Z h0 o2 k2 .int (4 : Int32) [(.int (0 : Int32)), (.int (1 : Int32)), (.int (1 : Int32)), (.int (2 : Int32))] (.int (0 : Int32))) (n2 : o2 ≠ o0) :
    MetFree l (⟨"com/example/slimc/slimc/game/Observation", "<init>", "(Ljava/lang/String;[II)V"⟩ : MethodName) (head1 (Jvm.Cond.code (⟨"com/example/slimc/slimc/game/Observation", "<init>", "(Ljava/lang/String;[II)V"⟩ : MethodName) prog_66_method_1_code 9 none :: ws) ({ frames := 1, cells := 7, slots := 16, locals := 14 } : Room)) (fun a U => a = #[(.ref o0), (.ref o1), (.ref o2), (.int (3 : Int32))] ∧ Z.Warmed39 U.vm ∧ U.heap = h0) (fun _ _ _ _ _ => True) (fun _ U o U' => ∃ v L, o = .returned v ∧ Q4c0112n3 Z o0 o1 o2 k2 h0 n0 v U'.heap L ∧ FrameEnd U o U' L ({ frames := 1, cells := 7, slots := 16, locals := 14 } : Room).cells ({ frames := 1, cells := 7, slots := 16, locals := 14 } : Room).slots) := by
  refine MetFree.of_bodySF (plainFor_of_name pn_1) hisR ?_
  intro p e s m args below meth c s₁ Bd hml0 hP hK
  obtain ⟨rfl, hZ, hh⟩ := hP
  have hx := Bd.exec
  have hby := Bd.bytes
  have hml : c.maxLocals = 9 := hml0
  have hown : s.vm.findClass "com/example/slimc/slimc/game/Observation" = some m.cls := findClass_of_methodNamed Bd.named
  have hnm := (name_of_methodNamed Bd.named Bd.method).1
  have X0 : Stand p l e ({ frames := 1, cells := 7, slots := 16, locals := 14 } : Room) s m #[(.ref o0), (.ref o1), (.ref o2), (.int (3 : Int32))] below meth c s₁ [] 0 0 := Stand.of_body Bd
  have e0 : s₁.heap = h0 := by rw [← hh, Bd.state]; rfl
  have N0 := Fr.nil n0
  have hret := Bd.returns
  have hlk := BodyLoose.notSynchronized Bd
  show own_Out p e below (fun o U' => ∃ v L, o = .returned v ∧ Q4c0112n3 Z o0 o1 o2 k2 h0 n0 v U'.heap L ∧ FrameEnd s o U' L ({ frames := 1, cells := 7, slots := 16, locals := 14 } : Room).cells ({ frames := 1, cells := 7, slots := 16, locals := 14 } : Room).slots) (s₁.setTop (entryFrame m #[(.ref o0), (.ref o1), (.ref o2), (.int (3 : Int32))] 9))
  refine own_of (fun t k => castTop (ef_4c0112n3 m o0 o1 o2) k) ?_
  show own_Out p e below _ (s₁.setTop (mkF m 0 #[rv o0, rv o1, rv o2, iv 3, .unset, .unset, .unset, .unset, .unset] []))
  refine o_aloadN X0 hx hby d4_0 rfl rfl (q := 1) rfl ?_
  obtain ⟨T1, X1, e1, st1⟩ := initO X0 hx hZ hown (w_ hw 26 rfl) (w_ hw 27 rfl) (w_ hw 28 rfl) e0 (g := (mkF m 1 #[rv o0, rv o1, rv o2, iv 3, .unset, .unset, .unset, .unset, .unset] [.ref o0])) rfl (by rw [hml]; rfl) rfl (hb hby d4_1) (by decide) (W := 0) (by show 2 * 0 + _ ≤ _; exact Nat.le_of_eq rfl) (by decide)
  refine own_of st1 ?_
  show own_Out p e below _ (T1.setTop (mkF m 4 #[rv o0, rv o1, rv o2, iv 3, .unset, .unset, .unset, .unset, .unset] []))
  refine o_aloadN X1 hx hby d4_4 rfl rfl (q := 5) rfl ?_
  refine o_aloadN X1 hx hby d4_5 rfl rfl (q := 6) rfl ?_
  obtain ⟨T2, h2, X2, e2, W2, st2⟩ := putF X1 hx hZ hown (host := "") (Or.inl (w_ hw 29 rfl)) Via.refl e1 F_name E (Or.inr ⟨(w_ hw 30 rfl), rfl, hnm⟩) (w_ hw 10 rfl) (ty := (.object "java/lang/String")) (by decide) rfl rfl (g := (mkF m 6 #[rv o0, rv o1, rv o2, iv 3, .unset, .unset, .unset, .unset, .unset] [.ref o1, .ref o0])) rfl rfl (hb hby d4_6)
  have Fw2 := F_name.same W2
  refine own_of st2 ?_
  show own_Out p e below _ (T2.setTop (mkF m 9 #[rv o0, rv o1, rv o2, iv 3, .unset, .unset, .unset, .unset, .unset] []))
  refine o_aloadN X2 hx hby d4_9 rfl rfl (q := 10) rfl ?_
  refine o_aloadN X2 hx hby d4_10 rfl rfl (q := 11) rfl ?_
  have q4 := (F_classOf.other W2 (Or.inr (slot_ne (Or.inr (w_ hw 32 rfl)) (Or.inr (w_ hw 30 rfl)) (by decide) (t := (.array .int)) (t' := (.object "java/lang/String")) (by decide) (by decide))))
  have q5 := (E.wr W2)
  obtain ⟨T3, h3, X3, e3, W3, st3⟩ := putF X2 hx hZ hown (host := "") (Or.inl (w_ hw 31 rfl)) Via.refl e2 q4 q5 (Or.inr ⟨(w_ hw 32 rfl), rfl, hnm⟩) (w_ hw 10 rfl) (ty := (.array .int)) (by decide) rfl rfl (g := (mkF m 11 #[rv o0, rv o1, rv o2, iv 3, .unset, .unset, .unset, .unset, .unset] [.ref o2, .ref o0])) rfl rfl (hb hby d4_11)
  have q6 := (F_classOf.other W2 (Or.inr (slot_ne (Or.inr (w_ hw 32 rfl)) (Or.inr (w_ hw 30 rfl)) (by decide) (t := (.array .int)) (t' := (.object "java/lang/String")) (by decide) (by decide))))
  have Fw3 := q6.same W3
  refine own_of st3 ?_
  show own_Out p e below _ (T3.setTop (mkF m 14 #[rv o0, rv o1, rv o2, iv 3, .unset, .unset, .unset, .unset, .unset] []))
  refine o_aloadN X3 hx hby d4_14 rfl rfl (q := 15) rfl ?_
  refine o_iloadN X3 hx hby d4_15 rfl (q := 16) rfl ?_
  have q8 := ((F_classCount.other W2 (Or.inr (slot_ne (Or.inr (w_ hw 34 rfl)) (Or.inr (w_ hw 30 rfl)) (by decide) (t := .int) (t' := (.object "java/lang/String")) (by decide) (by decide)))).other W3 (Or.inr (slot_ne (Or.inr (w_ hw 34 rfl)) (Or.inr (w_ hw 32 rfl)) (by decide) (t := .int) (t' := (.array .int)) (by decide) (by decide))))
  have q9 := (q5.wr W3)
  obtain ⟨T7, h7, X7, e7, W7, st7⟩ := putF X3 hx hZ hown (host := "") (Or.inl (w_ hw 33 rfl)) Via.refl e3 q8 q9 (Or.inr ⟨(w_ hw 34 rfl), rfl, hnm⟩) (w_ hw 10 rfl) (ty := .int) (by decide) rfl rfl (g := (mkF m 16 #[rv o0, rv o1, rv o2, iv 3, .unset, .unset, .unset, .unset, .unset] [.int 3, .ref o0])) rfl rfl (hb hby d4_16)
  have q10 := ((F_classCount.other W2 (Or.inr (slot_ne (Or.inr (w_ hw 34 rfl)) (Or.inr (w_ hw 30 rfl)) (by decide) (t := .int) (t' := (.object "java/lang/String")) (by decide) (by decide)))).other W3 (Or.inr (slot_ne (Or.inr (w_ hw 34 rfl)) (Or.inr (w_ hw 32 rfl)) (by decide) (t := .int) (t' := (.array .int)) (by decide) (by decide))))
  have Fw7 := q10.same W7
  refine own_of st7 ?_
  show own_Out p e below _ (T7.setTop (mkF m 19 #[rv o0, rv o1, rv o2, iv 3, .unset, .unset, .unset, .unset, .unset] []))
  refine o_iloadN X7 hx hby d4_19 rfl (q := 20) rfl ?_
  obtain ⟨T11, h11, k11, X11, e11, E11, A11, Ex11, st11⟩ := newPE X7 hx hZ (w_ hw 4 rfl) e7 (g := (mkF m 20 #[rv o0, rv o1, rv o2, iv 3, .unset, .unset, .unset, .unset, .unset] [.int 3])) rfl (hb hby d4_20) rfl (by decide) (cap := 3) (by decide) (by decide) (by decide) (by decide) (ad := "[I") (by decide +kernel)
  obtain ⟨b11, g11⟩ : ∃ z, z = h7.size := ⟨_, rfl⟩
  rw [← g11] at A11 Ex11 st11
  have q12 := (Nat.le_trans (Nat.le_trans (Nat.le_trans Z0 (Keep.of_wr W2).1) (Keep.of_wr W3).1) (Keep.of_wr W7).1)
  have g_b11 : n0 ≤ b11 := Nat.le_trans q12 (Nat.le_of_eq g11.symm)
  have q13 := (Nat.le_trans (Nat.le_trans (Nat.le_trans (Nat.le_refl h0.size) (Keep.of_wr W2).1) (Keep.of_wr W3).1) (Keep.of_wr W7).1)
  have sz_b11 : h0.size ≤ b11 := Nat.le_trans q13 (Nat.le_of_eq g11.symm)
  have V_b11 : Arv Z h11 b11 k11 .int (3 : Int32) [(.int (0 : Int32)), (.int (0 : Int32)), (.int (0 : Int32))] (.int (0 : Int32)) := (Arv.new A11 (by decide)).pad (pad_rep [] (.int (0 : Int32)) 3)
  refine own_of st11 ?_
  show own_Out p e below _ (T11.setTop (mkF m 22 #[rv o0, rv o1, rv o2, iv 3, .unset, .unset, .unset, .unset, .unset] [.ref b11]))
  refine o_astore X11 hx hby d4_22 rfl (l' := #[rv o0, rv o1, rv o2, iv 3, rv b11, .unset, .unset, .unset, .unset]) rfl (q := 24) rfl ?_
  refine o_aloadN X11 hx hby d4_24 rfl rfl (q := 25) rfl ?_
  refine o_astore X11 hx hby d4_25 rfl (l' := #[rv o0, rv o1, rv o2, iv 3, rv b11, rv o2, .unset, .unset, .unset]) rfl (q := 27) rfl ?_
  refine o_aload X11 hx hby d4_27 rfl rfl (q := 29) rfl ?_
  have q14 := ((((V.other W2 n2).other W3 n2).other W7 n2).ext E11)
  refine o_lenV X11 hx hby hZ e11 q14 d4_29 (q := 30) rfl ?_
  refine o_istore X11 hx hby d4_30 (l' := #[rv o0, rv o1, rv o2, iv 3, rv b11, rv o2, iv 4, .unset, .unset]) rfl (q := 32) rfl ?_
  refine o_iconst X11 hx hby d4_32 (z := 0) rfl (q := 33) rfl ?_
  refine o_istore X11 hx hby d4_33 (l' := #[rv o0, rv o1, rv o2, iv 3, rv b11, rv o2, iv 4, iv 0, .unset]) rfl (q := 35) rfl ?_
  refine t1 X11 hx hby hZ e11 q14 V_b11 rfl ⟨by decide, by decide⟩ (cc := 0) rfl ⟨by decide, by decide⟩ (y := 0) rfl (y' := 1) rfl (i' := 1) rfl (iN := 0) rfl (Nat.le_of_ble_eq_true rfl) fun T15 h15 X15 e15 W15 V15 => ?_
  have ne_o2_b11 : o2 ≠ b11 := Nat.ne_of_lt (Nat.lt_of_lt_of_le V.lt sz_b11)
  have q16 := (q14.other W15 ne_o2_b11)
  refine t1 X15 hx hby hZ e15 q16 V15 rfl ⟨by decide, by decide⟩ (cc := 1) rfl ⟨by decide, by decide⟩ (y := 0) rfl (y' := 1) rfl (i' := 2) rfl (iN := 1) rfl (Nat.le_of_ble_eq_true rfl) fun T17 h17 X17 e17 W17 V17 => ?_
  have q18 := (q16.other W17 ne_o2_b11)
  refine t1 X17 hx hby hZ e17 q18 V17 rfl ⟨by decide, by decide⟩ (cc := 1) rfl ⟨by decide, by decide⟩ (y := 1) rfl (y' := 2) rfl (i' := 3) rfl (iN := 1) rfl (Nat.le_of_ble_eq_true rfl) fun T19 h19 X19 e19 W19 V19 => ?_
  have q20 := (q18.other W19 ne_o2_b11)
  refine t1 X19 hx hby hZ e19 q20 V19 rfl ⟨by decide, by decide⟩ (cc := 2) rfl ⟨by decide, by decide⟩ (y := 0) rfl (y' := 1) rfl (i' := 4) rfl (iN := 2) rfl (Nat.le_of_ble_eq_true rfl) fun T21 h21 X21 e21 W21 V21 => ?_
  refine o_iload X21 hx hby d4_35 rfl (q := 37) rfl ?_
  refine o_iload X21 hx hby d4_37 rfl (q := 39) rfl ?_
  refine o_icY X21 hx hby d4_39 (flt (by decide : ¬ ((4 : Int32) < (4 : Int32)))).2.1 (by decide) (q := 64) (by decide) ?_
  refine o_aloadN X21 hx hby d4_64 rfl rfl (q := 65) rfl ?_
  refine o_iloadN X21 hx hby d4_65 rfl (q := 66) rfl ?_
  obtain ⟨T22, h22, k22, X22, e22, E22, A22, Ex22, O22, st22⟩ := newRA X21 hx hZ hown (ty := .int) (by decide +kernel) (w_ hw 35 rfl) (w_ hw 36 rfl) e21 (g := (mkF m 66 #[rv o0, rv o1, rv o2, iv 3, rv b11, rv o2, iv 4, iv 4, iv 2] [.int 3, .ref o0])) rfl (hb hby d4_66) rfl (by decide) (cap := 3) (by decide) (by decide) (by decide) (by decide) (ad := "[[I") (by decide +kernel)
  obtain ⟨b22, g22⟩ : ∃ z, z = h21.size := ⟨_, rfl⟩
  rw [← g22] at A22 Ex22 st22
  have q23 := (Nat.le_trans (Nat.le_trans (Nat.le_trans (Nat.le_trans (Nat.le_trans q12 E11.1) (Keep.of_wr W15).1) (Keep.of_wr W17).1) (Keep.of_wr W19).1) (Keep.of_wr W21).1)
  have g_b22 : n0 ≤ b22 := Nat.le_trans q23 (Nat.le_of_eq g22.symm)
  have q24 := (Nat.le_trans (Nat.le_trans (Nat.le_trans (Nat.le_trans (Nat.le_trans q13 E11.1) (Keep.of_wr W15).1) (Keep.of_wr W17).1) (Keep.of_wr W19).1) (Keep.of_wr W21).1)
  have sz_b22 : h0.size ≤ b22 := Nat.le_trans q24 (Nat.le_of_eq g22.symm)
  have V_b22 : Arv Z h22 b22 k22 (.array .int) (3 : Int32) [.null, .null, .null] .null := (Arv.new A22 (by decide)).pad (pad_rep [] .null 3)
  refine own_of st22 ?_
  show own_Out p e below _ (T22.setTop (mkF m 69 #[rv o0, rv o1, rv o2, iv 3, rv b11, rv o2, iv 4, iv 4, iv 2] [.ref b22, .ref o0]))
  have ne_o0_b11 : o0 ≠ b11 := Nat.ne_of_lt (Nat.lt_of_lt_of_le E.lt sz_b11)
  have q26 := (((((((((F_classes.other W2 (Or.inr (slot_ne (Or.inr (w_ hw 38 rfl)) (Or.inr (w_ hw 30 rfl)) (by decide) (t := (.array (.array .int))) (t' := (.object "java/lang/String")) (by decide) (by decide)))).other W3 (Or.inr (slot_ne (Or.inr (w_ hw 38 rfl)) (Or.inr (w_ hw 32 rfl)) (by decide) (t := (.array (.array .int))) (t' := (.array .int)) (by decide) (by decide)))).other W7 (Or.inr (slot_ne (Or.inr (w_ hw 38 rfl)) (Or.inr (w_ hw 34 rfl)) (by decide) (t := (.array (.array .int))) (t' := .int) (by decide) (by decide)))).ext E11).other W15 (Or.inl ne_o0_b11)).other W17 (Or.inl ne_o0_b11)).other W19 (Or.inl ne_o0_b11)).other W21 (Or.inl ne_o0_b11)).ext E22)
  have q27 := (((((((q9.wr W7).ext E11).wr W15).wr W17).wr W19).wr W21).ext E22)
  obtain ⟨T25, h25, X25, e25, W25, st25⟩ := putF X22 hx hZ hown (host := "") (Or.inl (w_ hw 37 rfl)) Via.refl e22 q26 q27 (Or.inr ⟨(w_ hw 38 rfl), rfl, hnm⟩) (w_ hw 10 rfl) (ty := (.array (.array .int))) (by decide) rfl rfl (g := (mkF m 69 #[rv o0, rv o1, rv o2, iv 3, rv b11, rv o2, iv 4, iv 4, iv 2] [.ref b22, .ref o0])) rfl rfl (hb hby d4_69)
  have q28 := (((((((((F_classes.other W2 (Or.inr (slot_ne (Or.inr (w_ hw 38 rfl)) (Or.inr (w_ hw 30 rfl)) (by decide) (t := (.array (.array .int))) (t' := (.object "java/lang/String")) (by decide) (by decide)))).other W3 (Or.inr (slot_ne (Or.inr (w_ hw 38 rfl)) (Or.inr (w_ hw 32 rfl)) (by decide) (t := (.array (.array .int))) (t' := (.array .int)) (by decide) (by decide)))).other W7 (Or.inr (slot_ne (Or.inr (w_ hw 38 rfl)) (Or.inr (w_ hw 34 rfl)) (by decide) (t := (.array (.array .int))) (t' := .int) (by decide) (by decide)))).ext E11).other W15 (Or.inl ne_o0_b11)).other W17 (Or.inl ne_o0_b11)).other W19 (Or.inl ne_o0_b11)).other W21 (Or.inl ne_o0_b11)).ext E22)
  have Fw25 := q28.same W25
  refine own_of st25 ?_
  show own_Out p e below _ (T25.setTop (mkF m 72 #[rv o0, rv o1, rv o2, iv 3, rv b11, rv o2, iv 4, iv 4, iv 2] []))
  refine o_iconst X25 hx hby d4_72 (z := 0) rfl (q := 73) rfl ?_
  refine o_istore X25 hx hby d4_73 (l' := #[rv o0, rv o1, rv o2, iv 3, rv b11, iv 0, iv 4, iv 4, iv 2]) rfl (q := 75) rfl ?_
  refine o_iload X25 hx hby d4_75 rfl (q := 77) rfl ?_
  refine o_iloadN X25 hx hby d4_77 rfl (q := 78) rfl ?_
  refine o_icN X25 hx hby d4_78 (tlt (by decide : (0 : Int32) < (3 : Int32))).2.1 (q := 81) rfl ?_
  refine o_aloadN X25 hx hby d4_81 rfl rfl (q := 82) rfl ?_
  refine o_getF X25 hx hZ hown hby (w_ hw 37 rfl) Via.refl e25 Fw25 d4_82 (q := 85) rfl fun T29 X29 e29 => ?_
  refine o_iload X29 hx hby d4_85 rfl (q := 87) rfl ?_
  refine o_aload X29 hx hby d4_87 rfl rfl (q := 89) rfl ?_
  refine o_iload X29 hx hby d4_89 rfl (q := 91) rfl ?_
  have q30 := ((V21.ext E22).other W25 (Ne.symm ne_o0_b11))
  refine o_iaV X29 hx hby hZ e29 q30 ⟨by decide, by decide⟩ (v := .int 1) rfl d4_91 (q := 92) rfl ?_
  obtain ⟨T31, h31, k31, X31, e31, E31, A31, Ex31, st31⟩ := newPE X29 hx hZ (w_ hw 4 rfl) e29 (g := (mkF m 92 #[rv o0, rv o1, rv o2, iv 3, rv b11, iv 0, iv 4, iv 4, iv 2] [.int 1, .int 0, .ref b22])) rfl (hb hby d4_92) rfl (by decide) (cap := 1) (by decide) (by decide) (by decide) (by decide) (ad := "[I") (by decide +kernel)
  obtain ⟨b31, g31⟩ : ∃ z, z = h25.size := ⟨_, rfl⟩
  rw [← g31] at A31 Ex31 st31
  have q32 := (Nat.le_trans (Nat.le_trans q23 E22.1) (Keep.of_wr W25).1)
  have g_b31 : n0 ≤ b31 := Nat.le_trans q32 (Nat.le_of_eq g31.symm)
  have q33 := (Nat.le_trans (Nat.le_trans q24 E22.1) (Keep.of_wr W25).1)
  have sz_b31 : h0.size ≤ b31 := Nat.le_trans q33 (Nat.le_of_eq g31.symm)
  have V_b31 : Arv Z h31 b31 k31 .int (1 : Int32) [(.int (0 : Int32))] (.int (0 : Int32)) := (Arv.new A31 (by decide)).pad (pad_rep [] (.int (0 : Int32)) 1)
  refine own_of st31 ?_
  show own_Out p e below _ (T31.setTop (mkF m 94 #[rv o0, rv o1, rv o2, iv 3, rv b11, iv 0, iv 4, iv 4, iv 2] [.ref b31, .int 0, .ref b22]))
  have ne_o0_b22 : o0 ≠ b22 := Nat.ne_of_lt (Nat.lt_of_lt_of_le E.lt sz_b22)
  have q34 := ((V_b22.other W25 (Ne.symm ne_o0_b22)).ext E31)
  refine o_stVR X31 hx hby hZ e31 q34 ⟨by decide, by decide⟩ 0 rfl (Nat.le_of_ble_eq_true rfl) O22 (Ins.self Ex31) d4_94 (q := 95) rfl fun T35 h35 X35 e35 W35 V35 => ?_
  refine o_iinc X35 hx hby d4_95 rfl (l' := #[rv o0, rv o1, rv o2, iv 3, rv b11, iv 1, iv 4, iv 4, iv 2]) rfl (q := 98) rfl ?_
  refine o_goto X35 hx hby d4_98 (by decide) (q := 75) (by decide) ?_
  refine o_iload X35 hx hby d4_75 rfl (q := 77) rfl ?_
  refine o_iloadN X35 hx hby d4_77 rfl (q := 78) rfl ?_
  refine o_icN X35 hx hby d4_78 (tlt (by decide : (1 : Int32) < (3 : Int32))).2.1 (q := 81) rfl ?_
  refine o_aloadN X35 hx hby d4_81 rfl rfl (q := 82) rfl ?_
  have q37 := ((Fw25.ext E31).other W35 (Or.inl ne_o0_b22))
  refine o_getF X35 hx hZ hown hby (w_ hw 37 rfl) Via.refl e35 q37 d4_82 (q := 85) rfl fun T36 X36 e36 => ?_
  refine o_iload X36 hx hby d4_85 rfl (q := 87) rfl ?_
  refine o_aload X36 hx hby d4_87 rfl rfl (q := 89) rfl ?_
  refine o_iload X36 hx hby d4_89 rfl (q := 91) rfl ?_
  have ne_b11_b22 : b11 ≠ b22 := Nat.ne_of_lt (Nat.lt_of_lt_of_le (Nat.lt_of_lt_of_le (Nat.lt_of_lt_of_le (Nat.lt_of_lt_of_le (Nat.lt_of_lt_of_le A11.lt (Keep.of_wr W15).1) (Keep.of_wr W17).1) (Keep.of_wr W19).1) (Keep.of_wr W21).1) (Nat.le_of_eq g22.symm))
  have q38 := ((q30.ext E31).other W35 ne_b11_b22)
  refine o_iaV X36 hx hby hZ e36 q38 ⟨by decide, by decide⟩ (v := .int 2) rfl d4_91 (q := 92) rfl ?_
  obtain ⟨T39, h39, k39, X39, e39, E39, A39, Ex39, st39⟩ := newPE X36 hx hZ (w_ hw 4 rfl) e36 (g := (mkF m 92 #[rv o0, rv o1, rv o2, iv 3, rv b11, iv 1, iv 4, iv 4, iv 2] [.int 2, .int 1, .ref b22])) rfl (hb hby d4_92) rfl (by decide) (cap := 2) (by decide) (by decide) (by decide) (by decide) (ad := "[I") (by decide +kernel)
  obtain ⟨b39, g39⟩ : ∃ z, z = h35.size := ⟨_, rfl⟩
  rw [← g39] at A39 Ex39 st39
  have q40 := (Nat.le_trans (Nat.le_trans q32 E31.1) (Keep.of_wr W35).1)
  have g_b39 : n0 ≤ b39 := Nat.le_trans q40 (Nat.le_of_eq g39.symm)
  have q41 := (Nat.le_trans (Nat.le_trans q33 E31.1) (Keep.of_wr W35).1)
  have sz_b39 : h0.size ≤ b39 := Nat.le_trans q41 (Nat.le_of_eq g39.symm)
  have V_b39 : Arv Z h39 b39 k39 .int (2 : Int32) [(.int (0 : Int32)), (.int (0 : Int32))] (.int (0 : Int32)) := (Arv.new A39 (by decide)).pad (pad_rep [] (.int (0 : Int32)) 2)
  refine own_of st39 ?_
  show own_Out p e below _ (T39.setTop (mkF m 94 #[rv o0, rv o1, rv o2, iv 3, rv b11, iv 1, iv 4, iv 4, iv 2] [.ref b39, .int 1, .ref b22]))
  have q42 := (V35.ext E39)
  refine o_stVR X39 hx hby hZ e39 q42 ⟨by decide, by decide⟩ 1 rfl (Nat.le_of_ble_eq_true rfl) O22 (Ins.self Ex39) d4_94 (q := 95) rfl fun T43 h43 X43 e43 W43 V43 => ?_
  refine o_iinc X43 hx hby d4_95 rfl (l' := #[rv o0, rv o1, rv o2, iv 3, rv b11, iv 2, iv 4, iv 4, iv 2]) rfl (q := 98) rfl ?_
  refine o_goto X43 hx hby d4_98 (by decide) (q := 75) (by decide) ?_
  refine o_iload X43 hx hby d4_75 rfl (q := 77) rfl ?_
  refine o_iloadN X43 hx hby d4_77 rfl (q := 78) rfl ?_
  refine o_icN X43 hx hby d4_78 (tlt (by decide : (2 : Int32) < (3 : Int32))).2.1 (q := 81) rfl ?_
  refine o_aloadN X43 hx hby d4_81 rfl rfl (q := 82) rfl ?_
  have q45 := ((q37.ext E39).other W43 (Or.inl ne_o0_b22))
  refine o_getF X43 hx hZ hown hby (w_ hw 37 rfl) Via.refl e43 q45 d4_82 (q := 85) rfl fun T44 X44 e44 => ?_
  refine o_iload X44 hx hby d4_85 rfl (q := 87) rfl ?_
  refine o_aload X44 hx hby d4_87 rfl rfl (q := 89) rfl ?_
  refine o_iload X44 hx hby d4_89 rfl (q := 91) rfl ?_
  have q46 := ((q38.ext E39).other W43 ne_b11_b22)
  refine o_iaV X44 hx hby hZ e44 q46 ⟨by decide, by decide⟩ (v := .int 1) rfl d4_91 (q := 92) rfl ?_
  obtain ⟨T47, h47, k47, X47, e47, E47, A47, Ex47, st47⟩ := newPE X44 hx hZ (w_ hw 4 rfl) e44 (g := (mkF m 92 #[rv o0, rv o1, rv o2, iv 3, rv b11, iv 2, iv 4, iv 4, iv 2] [.int 1, .int 2, .ref b22])) rfl (hb hby d4_92) rfl (by decide) (cap := 1) (by decide) (by decide) (by decide) (by decide) (ad := "[I") (by decide +kernel)
  obtain ⟨b47, g47⟩ : ∃ z, z = h43.size := ⟨_, rfl⟩
  rw [← g47] at A47 Ex47 st47
  have q48 := (Nat.le_trans (Nat.le_trans q40 E39.1) (Keep.of_wr W43).1)
  have g_b47 : n0 ≤ b47 := Nat.le_trans q48 (Nat.le_of_eq g47.symm)
  have q49 := (Nat.le_trans (Nat.le_trans q41 E39.1) (Keep.of_wr W43).1)
  have sz_b47 : h0.size ≤ b47 := Nat.le_trans q49 (Nat.le_of_eq g47.symm)
  have V_b47 : Arv Z h47 b47 k47 .int (1 : Int32) [(.int (0 : Int32))] (.int (0 : Int32)) := (Arv.new A47 (by decide)).pad (pad_rep [] (.int (0 : Int32)) 1)
  refine own_of st47 ?_
  show own_Out p e below _ (T47.setTop (mkF m 94 #[rv o0, rv o1, rv o2, iv 3, rv b11, iv 2, iv 4, iv 4, iv 2] [.ref b47, .int 2, .ref b22]))
  have q50 := (V43.ext E47)
  refine o_stVR X47 hx hby hZ e47 q50 ⟨by decide, by decide⟩ 2 rfl (Nat.le_of_ble_eq_true rfl) O22 (Ins.self Ex47) d4_94 (q := 95) rfl fun T51 h51 X51 e51 W51 V51 => ?_
  refine o_iinc X51 hx hby d4_95 rfl (l' := #[rv o0, rv o1, rv o2, iv 3, rv b11, iv 3, iv 4, iv 4, iv 2]) rfl (q := 98) rfl ?_
  refine o_goto X51 hx hby d4_98 (by decide) (q := 75) (by decide) ?_
  refine o_iload X51 hx hby d4_75 rfl (q := 77) rfl ?_
  refine o_iloadN X51 hx hby d4_77 rfl (q := 78) rfl ?_
  refine o_icY X51 hx hby d4_78 (flt (by decide : ¬ ((3 : Int32) < (3 : Int32)))).2.1 (by decide) (q := 101) (by decide) ?_
  refine o_iloadN X51 hx hby d4_101 rfl (q := 102) rfl ?_
  obtain ⟨T52, h52, k52, X52, e52, E52, A52, Ex52, st52⟩ := newPE X51 hx hZ (w_ hw 4 rfl) e51 (g := (mkF m 102 #[rv o0, rv o1, rv o2, iv 3, rv b11, iv 3, iv 4, iv 4, iv 2] [.int 3])) rfl (hb hby d4_102) rfl (by decide) (cap := 3) (by decide) (by decide) (by decide) (by decide) (ad := "[I") (by decide +kernel)
  obtain ⟨b52, g52⟩ : ∃ z, z = h51.size := ⟨_, rfl⟩
  rw [← g52] at A52 Ex52 st52
  have q53 := (Nat.le_trans (Nat.le_trans q48 E47.1) (Keep.of_wr W51).1)
  have g_b52 : n0 ≤ b52 := Nat.le_trans q53 (Nat.le_of_eq g52.symm)
  have q54 := (Nat.le_trans (Nat.le_trans q49 E47.1) (Keep.of_wr W51).1)
  have sz_b52 : h0.size ≤ b52 := Nat.le_trans q54 (Nat.le_of_eq g52.symm)
  have V_b52 : Arv Z h52 b52 k52 .int (3 : Int32) [(.int (0 : Int32)), (.int (0 : Int32)), (.int (0 : Int32))] (.int (0 : Int32)) := (Arv.new A52 (by decide)).pad (pad_rep [] (.int (0 : Int32)) 3)
  refine own_of st52 ?_
  show own_Out p e below _ (T52.setTop (mkF m 104 #[rv o0, rv o1, rv o2, iv 3, rv b11, iv 3, iv 4, iv 4, iv 2] [.ref b52]))
  refine o_astore X52 hx hby d4_104 rfl (l' := #[rv o0, rv o1, rv o2, iv 3, rv b11, rv b52, iv 4, iv 4, iv 2]) rfl (q := 106) rfl ?_
  refine o_iconst X52 hx hby d4_106 (z := 0) rfl (q := 107) rfl ?_
  refine o_istore X52 hx hby d4_107 (l' := #[rv o0, rv o1, rv o2, iv 3, rv b11, rv b52, iv 0, iv 4, iv 2]) rfl (q := 109) rfl ?_
  have ne_o2_b22 : o2 ≠ b22 := Nat.ne_of_lt (Nat.lt_of_lt_of_le V.lt sz_b22)
  have q57 := ((((((((((q20.other W21 ne_o2_b11).ext E22).other W25 n2).ext E31).other W35 ne_o2_b22).ext E39).other W43 ne_o2_b22).ext E47).other W51 ne_o2_b22).ext E52)
  have q58 := (((q45.ext E47).other W51 (Or.inl ne_o0_b22)).ext E52)
  have q59 := (V51.ext E52)
  have ne_b22_b31 : b22 ≠ b31 := Nat.ne_of_lt (Nat.lt_of_lt_of_le (Nat.lt_of_lt_of_le A22.lt (Keep.of_wr W25).1) (Nat.le_of_eq g31.symm))
  have q60 := ((((((V_b31.other W35 (Ne.symm ne_b22_b31)).ext E39).other W43 (Ne.symm ne_b22_b31)).ext E47).other W51 (Ne.symm ne_b22_b31)).ext E52)
  have ne_b31_b52 : b31 ≠ b52 := Nat.ne_of_lt (Nat.lt_of_lt_of_le (Nat.lt_of_lt_of_le (Nat.lt_of_lt_of_le (Nat.lt_of_lt_of_le (Nat.lt_of_lt_of_le (Nat.lt_of_lt_of_le A31.lt (Keep.of_wr W35).1) E39.1) (Keep.of_wr W43).1) E47.1) (Keep.of_wr W51).1) (Nat.le_of_eq g52.symm))
  refine t3 X52 hx hby hZ e52 hw hown q57 q58 q59 V_b52 q60 ne_b31_b52 ⟨by decide, by decide⟩ (x := 0) rfl ⟨by decide, by decide⟩ rfl (f := 0) rfl ⟨by decide, by decide⟩ (f' := 1) rfl (i' := 1) rfl (iN := 0) rfl (Nat.le_of_ble_eq_true rfl) (jN := 0) rfl (Nat.le_of_ble_eq_true rfl) fun T56 h55 h56 X56 e56 W55 W56 V55 V56 => ?_
  have ne_o2_b52 : o2 ≠ b52 := Nat.ne_of_lt (Nat.lt_of_lt_of_le V.lt sz_b52)
  have ne_o2_b31 : o2 ≠ b31 := Nat.ne_of_lt (Nat.lt_of_lt_of_le V.lt sz_b31)
  have q63 := ((q57.other W55 ne_o2_b52).other W56 ne_o2_b31)
  have ne_o0_b52 : o0 ≠ b52 := Nat.ne_of_lt (Nat.lt_of_lt_of_le E.lt sz_b52)
  have ne_o0_b31 : o0 ≠ b31 := Nat.ne_of_lt (Nat.lt_of_lt_of_le E.lt sz_b31)
  have q64 := ((q58.other W55 (Or.inl ne_o0_b52)).other W56 (Or.inl ne_o0_b31))
  have ne_b22_b52 : b22 ≠ b52 := Nat.ne_of_lt (Nat.lt_of_lt_of_le (Nat.lt_of_lt_of_le (Nat.lt_of_lt_of_le (Nat.lt_of_lt_of_le (Nat.lt_of_lt_of_le (Nat.lt_of_lt_of_le (Nat.lt_of_lt_of_le (Nat.lt_of_lt_of_le A22.lt (Keep.of_wr W25).1) E31.1) (Keep.of_wr W35).1) E39.1) (Keep.of_wr W43).1) E47.1) (Keep.of_wr W51).1) (Nat.le_of_eq g52.symm))
  have q65 := ((q59.other W55 ne_b22_b52).other W56 ne_b22_b31)
  have q66 := (V55.other W56 (Ne.symm ne_b31_b52))
  have ne_b22_b39 : b22 ≠ b39 := Nat.ne_of_lt (Nat.lt_of_lt_of_le (Nat.lt_of_lt_of_le (Nat.lt_of_lt_of_le (Nat.lt_of_lt_of_le A22.lt (Keep.of_wr W25).1) E31.1) (Keep.of_wr W35).1) (Nat.le_of_eq g39.symm))
  have ne_b39_b52 : b39 ≠ b52 := Nat.ne_of_lt (Nat.lt_of_lt_of_le (Nat.lt_of_lt_of_le (Nat.lt_of_lt_of_le (Nat.lt_of_lt_of_le A39.lt (Keep.of_wr W43).1) E47.1) (Keep.of_wr W51).1) (Nat.le_of_eq g52.symm))
  have ne_b31_b39 : b31 ≠ b39 := Nat.ne_of_lt (Nat.lt_of_lt_of_le (Nat.lt_of_lt_of_le A31.lt (Keep.of_wr W35).1) (Nat.le_of_eq g39.symm))
  have q67 := ((((((V_b39.other W43 (Ne.symm ne_b22_b39)).ext E47).other W51 (Ne.symm ne_b22_b39)).ext E52).other W55 ne_b39_b52).other W56 (Ne.symm ne_b31_b39))
  refine t3 X56 hx hby hZ e56 hw hown q63 q64 q65 q66 q67 ne_b39_b52 ⟨by decide, by decide⟩ (x := 1) rfl ⟨by decide, by decide⟩ rfl (f := 0) rfl ⟨by decide, by decide⟩ (f' := 1) rfl (i' := 2) rfl (iN := 1) rfl (Nat.le_of_ble_eq_true rfl) (jN := 0) rfl (Nat.le_of_ble_eq_true rfl) fun T62 h61 h62 X62 e62 W61 W62 V61 V62 => ?_
  have ne_o2_b39 : o2 ≠ b39 := Nat.ne_of_lt (Nat.lt_of_lt_of_le V.lt sz_b39)
  have q70 := ((q63.other W61 ne_o2_b52).other W62 ne_o2_b39)
  have ne_o0_b39 : o0 ≠ b39 := Nat.ne_of_lt (Nat.lt_of_lt_of_le E.lt sz_b39)
  have q71 := ((q64.other W61 (Or.inl ne_o0_b52)).other W62 (Or.inl ne_o0_b39))
  have q72 := ((q65.other W61 ne_b22_b52).other W62 ne_b22_b39)
  have q73 := (V61.other W62 (Ne.symm ne_b39_b52))
  refine t3 X62 hx hby hZ e62 hw hown q70 q71 q72 q73 V62 ne_b39_b52 ⟨by decide, by decide⟩ (x := 1) rfl ⟨by decide, by decide⟩ rfl (f := 1) rfl ⟨by decide, by decide⟩ (f' := 2) rfl (i' := 3) rfl (iN := 1) rfl (Nat.le_of_ble_eq_true rfl) (jN := 1) rfl (Nat.le_of_ble_eq_true rfl) fun T69 h68 h69 X69 e69 W68 W69 V68 V69 => ?_
  have q76 := ((q70.other W68 ne_o2_b52).other W69 ne_o2_b39)
  have q77 := ((q71.other W68 (Or.inl ne_o0_b52)).other W69 (Or.inl ne_o0_b39))
  have q78 := ((q72.other W68 ne_b22_b52).other W69 ne_b22_b39)
  have q79 := (V68.other W69 (Ne.symm ne_b39_b52))
  have ne_b22_b47 : b22 ≠ b47 := Nat.ne_of_lt (Nat.lt_of_lt_of_le (Nat.lt_of_lt_of_le (Nat.lt_of_lt_of_le (Nat.lt_of_lt_of_le (Nat.lt_of_lt_of_le (Nat.lt_of_lt_of_le A22.lt (Keep.of_wr W25).1) E31.1) (Keep.of_wr W35).1) E39.1) (Keep.of_wr W43).1) (Nat.le_of_eq g47.symm))
  have ne_b47_b52 : b47 ≠ b52 := Nat.ne_of_lt (Nat.lt_of_lt_of_le (Nat.lt_of_lt_of_le A47.lt (Keep.of_wr W51).1) (Nat.le_of_eq g52.symm))
  have ne_b31_b47 : b31 ≠ b47 := Nat.ne_of_lt (Nat.lt_of_lt_of_le (Nat.lt_of_lt_of_le (Nat.lt_of_lt_of_le (Nat.lt_of_lt_of_le A31.lt (Keep.of_wr W35).1) E39.1) (Keep.of_wr W43).1) (Nat.le_of_eq g47.symm))
  have ne_b39_b47 : b39 ≠ b47 := Nat.ne_of_lt (Nat.lt_of_lt_of_le (Nat.lt_of_lt_of_le A39.lt (Keep.of_wr W43).1) (Nat.le_of_eq g47.symm))
  have q80 := ((((((((V_b47.other W51 (Ne.symm ne_b22_b47)).ext E52).other W55 ne_b47_b52).other W56 (Ne.symm ne_b31_b47)).other W61 ne_b47_b52).other W62 (Ne.symm ne_b39_b47)).other W68 ne_b47_b52).other W69 (Ne.symm ne_b39_b47))
  refine t3 X69 hx hby hZ e69 hw hown q76 q77 q78 q79 q80 ne_b47_b52 ⟨by decide, by decide⟩ (x := 2) rfl ⟨by decide, by decide⟩ rfl (f := 0) rfl ⟨by decide, by decide⟩ (f' := 1) rfl (i' := 4) rfl (iN := 2) rfl (Nat.le_of_ble_eq_true rfl) (jN := 0) rfl (Nat.le_of_ble_eq_true rfl) fun T75 h74 h75 X75 e75 W74 W75 V74 V75 => ?_
  refine o_iload X75 hx hby d4_109 rfl (q := 111) rfl ?_
  refine o_aloadN X75 hx hby d4_111 rfl rfl (q := 112) rfl ?_
  have ne_o2_b47 : o2 ≠ b47 := Nat.ne_of_lt (Nat.lt_of_lt_of_le V.lt sz_b47)
  have q81 := ((q76.other W74 ne_o2_b52).other W75 ne_o2_b47)
  refine o_lenV X75 hx hby hZ e75 q81 d4_112 (q := 113) rfl ?_
  refine o_icY X75 hx hby d4_113 (flt (by decide : ¬ ((4 : Int32) < (4 : Int32)))).2.1 (by decide) (q := 146) (by decide) ?_
  have ne_o0_b47 : o0 ≠ b47 := Nat.ne_of_lt (Nat.lt_of_lt_of_le E.lt sz_b47)
  have q82 := ((q77.other W74 (Or.inl ne_o0_b52)).other W75 (Or.inl ne_o0_b47))
  have q83 := ((q78.other W74 ne_b22_b52).other W75 ne_b22_b47)
  have q84 := ((((((V56.other W61 ne_b31_b52).other W62 ne_b31_b39).other W68 ne_b31_b52).other W69 ne_b31_b39).other W74 ne_b31_b52).other W75 ne_b31_b47)
  have q85 := ((V69.other W74 ne_b39_b52).other W75 ne_b39_b47)
  have q86 := ((((((((((((((((((((((((((Keep.refl h0 [o0]).wr W2 (Or.inl (List.mem_of_getElem? (i := 0) rfl))).wr W3 (Or.inl (List.mem_of_getElem? (i := 0) rfl))).wr W7 (Or.inl (List.mem_of_getElem? (i := 0) rfl))).ext E11).wr W15 (Or.inr sz_b11)).wr W17 (Or.inr sz_b11)).wr W19 (Or.inr sz_b11)).wr W21 (Or.inr sz_b11)).ext E22).wr W25 (Or.inl (List.mem_of_getElem? (i := 0) rfl))).ext E31).wr W35 (Or.inr sz_b22)).ext E39).wr W43 (Or.inr sz_b22)).ext E47).wr W51 (Or.inr sz_b22)).ext E52).wr W55 (Or.inr sz_b52)).wr W56 (Or.inr sz_b31)).wr W61 (Or.inr sz_b52)).wr W62 (Or.inr sz_b39)).wr W68 (Or.inr sz_b52)).wr W69 (Or.inr sz_b39)).wr W74 (Or.inr sz_b52)).wr W75 (Or.inr sz_b47))
  have q87 := ((((((((((((((((q27.wr W25).ext E31).wr W35).ext E39).wr W43).ext E47).wr W51).ext E52).wr W55).wr W56).wr W61).wr W62).wr W68).wr W69).wr W74).wr W75)
  have q88 := (((((((((((((((((((((((Fw3.other W7 (Or.inr (slot_ne (Or.inr (w_ hw 32 rfl)) (Or.inr (w_ hw 34 rfl)) (by decide) (t := (.array .int)) (t' := .int) (by decide) (by decide)))).ext E11).other W15 (Or.inl ne_o0_b11)).other W17 (Or.inl ne_o0_b11)).other W19 (Or.inl ne_o0_b11)).other W21 (Or.inl ne_o0_b11)).ext E22).other W25 (Or.inr (slot_ne (Or.inr (w_ hw 32 rfl)) (Or.inr (w_ hw 38 rfl)) (by decide) (t := (.array .int)) (t' := (.array (.array .int))) (by decide) (by decide)))).ext E31).other W35 (Or.inl ne_o0_b22)).ext E39).other W43 (Or.inl ne_o0_b22)).ext E47).other W51 (Or.inl ne_o0_b22)).ext E52).other W55 (Or.inl ne_o0_b52)).other W56 (Or.inl ne_o0_b31)).other W61 (Or.inl ne_o0_b52)).other W62 (Or.inl ne_o0_b39)).other W68 (Or.inl ne_o0_b52)).other W69 (Or.inl ne_o0_b39)).other W74 (Or.inl ne_o0_b52)).other W75 (Or.inl ne_o0_b47))
  have q89 := ((((((((((((((((((((((Fw7.ext E11).other W15 (Or.inl ne_o0_b11)).other W17 (Or.inl ne_o0_b11)).other W19 (Or.inl ne_o0_b11)).other W21 (Or.inl ne_o0_b11)).ext E22).other W25 (Or.inr (slot_ne (Or.inr (w_ hw 34 rfl)) (Or.inr (w_ hw 38 rfl)) (by decide) (t := .int) (t' := (.array (.array .int))) (by decide) (by decide)))).ext E31).other W35 (Or.inl ne_o0_b22)).ext E39).other W43 (Or.inl ne_o0_b22)).ext E47).other W51 (Or.inl ne_o0_b22)).ext E52).other W55 (Or.inl ne_o0_b52)).other W56 (Or.inl ne_o0_b31)).other W61 (Or.inl ne_o0_b52)).other W62 (Or.inl ne_o0_b39)).other W68 (Or.inl ne_o0_b52)).other W69 (Or.inl ne_o0_b39)).other W74 (Or.inl ne_o0_b52)).other W75 (Or.inl ne_o0_b47))
  exact own_outV X75 hx hlk hret (hb hby d4_146) (Q := Q4c0112n3 Z o0 o1 o2 k2 h0 n0) (by rw [e75]; exact ⟨rfl, (Fr.snoc X75 (own_snoc (Fr.snoc X69 (own_snoc (Fr.snoc X62 (own_snoc (Fr.snoc X56 (own_snoc (Fr.snoc X51 (Fr.snoc X43 (Fr.snoc X35 (Fr.snoc X25 (Fr.snoc X21 (Fr.snoc X19 (Fr.snoc X17 (Fr.snoc X15 (Fr.snoc X7 (Fr.snoc X3 (Fr.snoc X2 N0 g_o0) g_o0) g_o0) g_b11) g_b11) g_b11) g_b11) g_o0) g_b22) g_b22) g_b22) g_b52) g_b31) g_b52) g_b39) g_b52) g_b39) g_b52) g_b47), q86, q87, q88, q89, (fun l a0 hw ws h' K o1 oc kc c0 c1 c2 c3 n1 Z1 Fc Vc => rm7r0112 l Z a0 hw ws o0 o1 b22 k22 b31 k31 b39 k39 b47 k47 oc kc c0 c1 c2 c3 h' n1 Z1 (q82.keep K nin0) (q83.keep K nin0) (q84.keep K nin0) (q85.keep K nin0) (V75.keep K nin0) Fc Vc)⟩) (by decide) (by decide)
theorem ef_7r0120 (m : MethodId) (x0 : Addr) (x1 : Addr) : entryFrame m #[(.ref x0), (.ref x1)] 10 = mkF m 0 #[.val (.ref x0), .val (.ref x1), .unset, .unset, .unset, .unset, .unset, .unset, .unset, .unset] [] := by first | (simp [entryFrame, mkF, argsToLocals, Value.category]; done) | rfl
def fr0120 (c0 : Int32) (c1 : Int32) (c2 : Int32) (c3 : Int32) : Int32 := if c3 = c0 then (1 : Int32)
  else (0 : Int32)
def Q7r0120 (Z : State) (o0 : Addr) (o1 : Addr) (cc : Addr) (kcc : ClassId) (d0 : Addr) (kd0 : ClassId) (d1 : Addr) (kd1 : ClassId) (d2 : Addr) (kd2 : ClassId) (oc : Addr) (kc : ClassId) (c0 : Int32) (c1 : Int32) (c2 : Int32) (c3 : Int32) (h0 : Heap) (n0 : Nat) (v : Option Value) (h : Heap) (L : List Loc) : Prop := v = some (.int (fr0120 c0 c1 c2 c3)) ∧ Fr n0 L ∧ h = h0
set_option maxRecDepth 65536 in
set_option maxHeartbeats 40000000 in
theorem rm7r0120 (l : Launch) (Z : State) (a0 : Array Value) (hw : ∀ d ∈ tables_1, d.before a0 Z = true) (ws : List Jvm.Cond) (o0 : Addr) (o1 : Addr) (cc : Addr) (kcc : ClassId) (d0 : Addr) (kd0 : ClassId) (d1 : Addr) (kd1 : ClassId) (d2 : Addr) (kd2 : ClassId) (oc : Addr) (kc : ClassId) (c0 : Int32) (c1 : Int32) (c2 : Int32) (c3 : Int32) (h0 : Heap) (n0 : Nat) (Z0 : n0 ≤ h0.size) (Fs : Fld Z h0 o0 "com/example/slimc/slimc/game/Observation" "classes" "[[I" (.ref cc)) (Vcc : Arv Z h0 cc kcc (.array .int) (3 : Int32) [(.ref d0), (.ref d1), (.ref d2)] .null) (Vd0 : Arv Z h0 d0 kd0 .int (2 : Int32) [(.int (0 : Int32)), (.int (3 : Int32))] (.int (0 : Int32))) (Vd1 : Arv Z h0 d1 kd1 .int (1 : Int32) [(.int (1 : Int32))] (.int (0 : Int32))) (Vd2 : Arv Z h0 d2 kd2 .int (1 : Int32) [(.int (2 : Int32))] (.int (0 : Int32))) (Fc : Fld Z h0 o1 "com/example/slimc/slimc/game/Observation" "classOf" "[I" (.ref oc)) (Vc : Arv Z h0 oc kc .int (4 : Int32) [(.int c0), (.int c1), (.int c2), (.int c3)] (.int (0 : Int32))) :
    MetFree l (⟨"com/example/slimc/slimc/game/Observation", "refines", "(Lcom/example/slimc/slimc/game/Observation;)Z"⟩ : MethodName) (head1 (Jvm.Cond.code (⟨"com/example/slimc/slimc/game/Observation", "refines", "(Lcom/example/slimc/slimc/game/Observation;)Z"⟩ : MethodName) prog_66_method_8_code 10 (some .boolean) :: ws) ({ frames := 0, cells := 0, slots := 0, locals := 0 } : Room)) (fun a U => a = #[(.ref o0), (.ref o1)] ∧ Z.Warmed39 U.vm ∧ U.heap = h0) (fun _ _ _ _ _ => True) (fun _ U o U' => ∃ v L, o = .returned v ∧ Q7r0120 Z o0 o1 cc kcc d0 kd0 d1 kd1 d2 kd2 oc kc c0 c1 c2 c3 h0 n0 v U'.heap L ∧ FrameEnd U o U' L ({ frames := 0, cells := 0, slots := 0, locals := 0 } : Room).cells ({ frames := 0, cells := 0, slots := 0, locals := 0 } : Room).slots) := by
  refine MetFree.of_bodySF (plainFor_of_name pn_1) hisR ?_
  intro p e s m args below meth c s₁ Bd hml0 hP hK
  obtain ⟨rfl, hZ, hh⟩ := hP
  have hx := Bd.exec
  have hby := Bd.bytes
  have hml : c.maxLocals = 10 := hml0
  have hown : s.vm.findClass "com/example/slimc/slimc/game/Observation" = some m.cls := findClass_of_methodNamed Bd.named
  have hnm := (name_of_methodNamed Bd.named Bd.method).1
  have X0 : Stand p l e ({ frames := 0, cells := 0, slots := 0, locals := 0 } : Room) s m #[(.ref o0), (.ref o1)] below meth c s₁ [] 0 0 := Stand.of_body Bd
  have e0 : s₁.heap = h0 := by rw [← hh, Bd.state]; rfl
  have N0 := Fr.nil n0
  have hret := Bd.returns
  have hlk := BodyLoose.notSynchronized Bd
  show own_Out p e below (fun o U' => ∃ v L, o = .returned v ∧ Q7r0120 Z o0 o1 cc kcc d0 kd0 d1 kd1 d2 kd2 oc kc c0 c1 c2 c3 h0 n0 v U'.heap L ∧ FrameEnd s o U' L ({ frames := 0, cells := 0, slots := 0, locals := 0 } : Room).cells ({ frames := 0, cells := 0, slots := 0, locals := 0 } : Room).slots) (s₁.setTop (entryFrame m #[(.ref o0), (.ref o1)] 10))
  refine own_of (fun t k => castTop (ef_7r0120 m o0 o1) k) ?_
  show own_Out p e below _ (s₁.setTop (mkF m 0 #[rv o0, rv o1, .unset, .unset, .unset, .unset, .unset, .unset, .unset, .unset] []))
  refine o_aloadN X0 hx hby d7_0 rfl rfl (q := 1) rfl ?_
  refine o_getF X0 hx hZ hown hby (w_ hw 37 rfl) Via.refl e0 Fs d7_1 (q := 4) rfl fun T1 X1 e1 => ?_
  refine o_astoreN X1 hx hby d7_4 rfl (l' := #[rv o0, rv o1, rv cc, .unset, .unset, .unset, .unset, .unset, .unset, .unset]) rfl (q := 5) rfl ?_
  refine o_aloadN X1 hx hby d7_5 rfl rfl (q := 6) rfl ?_
  refine o_lenV X1 hx hby hZ e1 Vcc d7_6 (q := 7) rfl ?_
  refine o_istoreN X1 hx hby d7_7 (l' := #[rv o0, rv o1, rv cc, iv 3, .unset, .unset, .unset, .unset, .unset, .unset]) rfl (q := 8) rfl ?_
  refine o_iconst X1 hx hby d7_8 (z := 0) rfl (q := 9) rfl ?_
  refine o_istore X1 hx hby d7_9 (l' := #[rv o0, rv o1, rv cc, iv 3, iv 0, .unset, .unset, .unset, .unset, .unset]) rfl (q := 11) rfl ?_
  refine o_iload X1 hx hby d7_11 rfl (q := 13) rfl ?_
  refine o_iloadN X1 hx hby d7_13 rfl (q := 14) rfl ?_
  refine o_icN X1 hx hby d7_14 (tlt (by decide : (0 : Int32) < (3 : Int32))).2.1 (q := 17) rfl ?_
  refine o_aloadN X1 hx hby d7_17 rfl rfl (q := 18) rfl ?_
  refine o_iload X1 hx hby d7_18 rfl (q := 20) rfl ?_
  refine o_aaV X1 hx hby hZ e1 Vcc rfl ⟨by decide, by decide⟩ (v := .ref d0) rfl d7_20 (q := 21) rfl ?_
  refine o_astore X1 hx hby d7_21 rfl (l' := #[rv o0, rv o1, rv cc, iv 3, iv 0, rv d0, .unset, .unset, .unset, .unset]) rfl (q := 23) rfl ?_
  refine o_aload X1 hx hby d7_23 rfl rfl (q := 25) rfl ?_
  refine o_astore X1 hx hby d7_25 rfl (l' := #[rv o0, rv o1, rv cc, iv 3, iv 0, rv d0, rv d0, .unset, .unset, .unset]) rfl (q := 27) rfl ?_
  refine o_aload X1 hx hby d7_27 rfl rfl (q := 29) rfl ?_
  refine o_lenV X1 hx hby hZ e1 Vd0 d7_29 (q := 30) rfl ?_
  refine o_istore X1 hx hby d7_30 (l' := #[rv o0, rv o1, rv cc, iv 3, iv 0, rv d0, rv d0, iv 2, .unset, .unset]) rfl (q := 32) rfl ?_
  refine o_iconst X1 hx hby d7_32 (z := 0) rfl (q := 33) rfl ?_
  refine o_istore X1 hx hby d7_33 (l' := #[rv o0, rv o1, rv cc, iv 3, iv 0, rv d0, rv d0, iv 2, iv 0, .unset]) rfl (q := 35) rfl ?_
  refine o_iload X1 hx hby d7_35 rfl (q := 37) rfl ?_
  refine o_iload X1 hx hby d7_37 rfl (q := 39) rfl ?_
  refine o_icN X1 hx hby d7_39 (tlt (by decide : (0 : Int32) < (2 : Int32))).2.1 (q := 42) rfl ?_
  refine o_aload X1 hx hby d7_42 rfl rfl (q := 44) rfl ?_
  refine o_iload X1 hx hby d7_44 rfl (q := 46) rfl ?_
  refine o_iaV X1 hx hby hZ e1 Vd0 ⟨by decide, by decide⟩ (v := .int 0) rfl d7_46 (q := 47) rfl ?_
  refine o_istore X1 hx hby d7_47 (l' := #[rv o0, rv o1, rv cc, iv 3, iv 0, rv d0, rv d0, iv 2, iv 0, iv 0]) rfl (q := 49) rfl ?_
  refine o_aloadN X1 hx hby d7_49 rfl rfl (q := 50) rfl ?_
  refine o_getF X1 hx hZ hown hby (w_ hw 31 rfl) Via.refl e1 Fc d7_50 (q := 53) rfl fun T2 X2 e2 => ?_
  refine o_iload X2 hx hby d7_53 rfl (q := 55) rfl ?_
  refine o_iaV X2 hx hby hZ e2 Vc ⟨by decide, by decide⟩ (v := .int c0) rfl d7_55 (q := 56) rfl ?_
  refine o_aloadN X2 hx hby d7_56 rfl rfl (q := 57) rfl ?_
  refine o_getF X2 hx hZ hown hby (w_ hw 31 rfl) Via.refl e2 Fc d7_57 (q := 60) rfl fun T3 X3 e3 => ?_
  refine o_aload X3 hx hby d7_60 rfl rfl (q := 62) rfl ?_
  refine o_iconst X3 hx hby d7_62 (z := 0) rfl (q := 63) rfl ?_
  refine o_iaV X3 hx hby hZ e3 Vd0 ⟨by decide, by decide⟩ (v := .int 0) rfl d7_63 (q := 64) rfl ?_
  refine o_iaV X3 hx hby hZ e3 Vc ⟨by decide, by decide⟩ (v := .int c0) rfl d7_64 (q := 65) rfl ?_
  refine o_icY X3 hx hby d7_65 (teq (rfl : c0 = c0)).1 (by decide) (q := 70) (by decide) ?_
  refine o_iinc X3 hx hby d7_70 rfl (l' := #[rv o0, rv o1, rv cc, iv 3, iv 0, rv d0, rv d0, iv 2, iv 1, iv 0]) rfl (q := 73) rfl ?_
  refine o_goto X3 hx hby d7_73 (by decide) (q := 35) (by decide) ?_
  refine o_iload X3 hx hby d7_35 rfl (q := 37) rfl ?_
  refine o_iload X3 hx hby d7_37 rfl (q := 39) rfl ?_
  refine o_icN X3 hx hby d7_39 (tlt (by decide : (1 : Int32) < (2 : Int32))).2.1 (q := 42) rfl ?_
  refine o_aload X3 hx hby d7_42 rfl rfl (q := 44) rfl ?_
  refine o_iload X3 hx hby d7_44 rfl (q := 46) rfl ?_
  refine o_iaV X3 hx hby hZ e3 Vd0 ⟨by decide, by decide⟩ (v := .int 3) rfl d7_46 (q := 47) rfl ?_
  refine o_istore X3 hx hby d7_47 (l' := #[rv o0, rv o1, rv cc, iv 3, iv 0, rv d0, rv d0, iv 2, iv 1, iv 3]) rfl (q := 49) rfl ?_
  refine o_aloadN X3 hx hby d7_49 rfl rfl (q := 50) rfl ?_
  refine o_getF X3 hx hZ hown hby (w_ hw 31 rfl) Via.refl e3 Fc d7_50 (q := 53) rfl fun T4 X4 e4 => ?_
  refine o_iload X4 hx hby d7_53 rfl (q := 55) rfl ?_
  refine o_iaV X4 hx hby hZ e4 Vc ⟨by decide, by decide⟩ (v := .int c3) rfl d7_55 (q := 56) rfl ?_
  refine o_aloadN X4 hx hby d7_56 rfl rfl (q := 57) rfl ?_
  refine o_getF X4 hx hZ hown hby (w_ hw 31 rfl) Via.refl e4 Fc d7_57 (q := 60) rfl fun T5 X5 e5 => ?_
  refine o_aload X5 hx hby d7_60 rfl rfl (q := 62) rfl ?_
  refine o_iconst X5 hx hby d7_62 (z := 0) rfl (q := 63) rfl ?_
  refine o_iaV X5 hx hby hZ e5 Vd0 ⟨by decide, by decide⟩ (v := .int 0) rfl d7_63 (q := 64) rfl ?_
  refine o_iaV X5 hx hby hZ e5 Vc ⟨by decide, by decide⟩ (v := .int c0) rfl d7_64 (q := 65) rfl ?_
  by_cases hc65_6 : c3 = c0
  · skip
    refine o_icY X5 hx hby d7_65 (teq hc65_6).1 (by decide) (q := 70) (by decide) ?_
    refine o_iinc X5 hx hby d7_70 rfl (l' := #[rv o0, rv o1, rv cc, iv 3, iv 0, rv d0, rv d0, iv 2, iv 2, iv 3]) rfl (q := 73) rfl ?_
    refine o_goto X5 hx hby d7_73 (by decide) (q := 35) (by decide) ?_
    refine o_iload X5 hx hby d7_35 rfl (q := 37) rfl ?_
    refine o_iload X5 hx hby d7_37 rfl (q := 39) rfl ?_
    refine o_icY X5 hx hby d7_39 (flt (by decide : ¬ ((2 : Int32) < (2 : Int32)))).2.1 (by decide) (q := 76) (by decide) ?_
    refine o_iinc X5 hx hby d7_76 rfl (l' := #[rv o0, rv o1, rv cc, iv 3, iv 1, rv d0, rv d0, iv 2, iv 2, iv 3]) rfl (q := 79) rfl ?_
    refine o_goto X5 hx hby d7_79 (by decide) (q := 11) (by decide) ?_
    refine o_iload X5 hx hby d7_11 rfl (q := 13) rfl ?_
    refine o_iloadN X5 hx hby d7_13 rfl (q := 14) rfl ?_
    refine o_icN X5 hx hby d7_14 (tlt (by decide : (1 : Int32) < (3 : Int32))).2.1 (q := 17) rfl ?_
    refine o_aloadN X5 hx hby d7_17 rfl rfl (q := 18) rfl ?_
    refine o_iload X5 hx hby d7_18 rfl (q := 20) rfl ?_
    refine o_aaV X5 hx hby hZ e5 Vcc rfl ⟨by decide, by decide⟩ (v := .ref d1) rfl d7_20 (q := 21) rfl ?_
    refine o_astore X5 hx hby d7_21 rfl (l' := #[rv o0, rv o1, rv cc, iv 3, iv 1, rv d1, rv d0, iv 2, iv 2, iv 3]) rfl (q := 23) rfl ?_
    refine o_aload X5 hx hby d7_23 rfl rfl (q := 25) rfl ?_
    refine o_astore X5 hx hby d7_25 rfl (l' := #[rv o0, rv o1, rv cc, iv 3, iv 1, rv d1, rv d1, iv 2, iv 2, iv 3]) rfl (q := 27) rfl ?_
    refine o_aload X5 hx hby d7_27 rfl rfl (q := 29) rfl ?_
    refine o_lenV X5 hx hby hZ e5 Vd1 d7_29 (q := 30) rfl ?_
    refine o_istore X5 hx hby d7_30 (l' := #[rv o0, rv o1, rv cc, iv 3, iv 1, rv d1, rv d1, iv 1, iv 2, iv 3]) rfl (q := 32) rfl ?_
    refine o_iconst X5 hx hby d7_32 (z := 0) rfl (q := 33) rfl ?_
    refine o_istore X5 hx hby d7_33 (l' := #[rv o0, rv o1, rv cc, iv 3, iv 1, rv d1, rv d1, iv 1, iv 0, iv 3]) rfl (q := 35) rfl ?_
    refine o_iload X5 hx hby d7_35 rfl (q := 37) rfl ?_
    refine o_iload X5 hx hby d7_37 rfl (q := 39) rfl ?_
    refine o_icN X5 hx hby d7_39 (tlt (by decide : (0 : Int32) < (1 : Int32))).2.1 (q := 42) rfl ?_
    refine o_aload X5 hx hby d7_42 rfl rfl (q := 44) rfl ?_
    refine o_iload X5 hx hby d7_44 rfl (q := 46) rfl ?_
    refine o_iaV X5 hx hby hZ e5 Vd1 ⟨by decide, by decide⟩ (v := .int 1) rfl d7_46 (q := 47) rfl ?_
    refine o_istore X5 hx hby d7_47 (l' := #[rv o0, rv o1, rv cc, iv 3, iv 1, rv d1, rv d1, iv 1, iv 0, iv 1]) rfl (q := 49) rfl ?_
    refine o_aloadN X5 hx hby d7_49 rfl rfl (q := 50) rfl ?_
    refine o_getF X5 hx hZ hown hby (w_ hw 31 rfl) Via.refl e5 Fc d7_50 (q := 53) rfl fun T7 X7 e7 => ?_
    refine o_iload X7 hx hby d7_53 rfl (q := 55) rfl ?_
    refine o_iaV X7 hx hby hZ e7 Vc ⟨by decide, by decide⟩ (v := .int c1) rfl d7_55 (q := 56) rfl ?_
    refine o_aloadN X7 hx hby d7_56 rfl rfl (q := 57) rfl ?_
    refine o_getF X7 hx hZ hown hby (w_ hw 31 rfl) Via.refl e7 Fc d7_57 (q := 60) rfl fun T8 X8 e8 => ?_
    refine o_aload X8 hx hby d7_60 rfl rfl (q := 62) rfl ?_
    refine o_iconst X8 hx hby d7_62 (z := 0) rfl (q := 63) rfl ?_
    refine o_iaV X8 hx hby hZ e8 Vd1 ⟨by decide, by decide⟩ (v := .int 1) rfl d7_63 (q := 64) rfl ?_
    refine o_iaV X8 hx hby hZ e8 Vc ⟨by decide, by decide⟩ (v := .int c1) rfl d7_64 (q := 65) rfl ?_
    refine o_icY X8 hx hby d7_65 (teq (rfl : c1 = c1)).1 (by decide) (q := 70) (by decide) ?_
    refine o_iinc X8 hx hby d7_70 rfl (l' := #[rv o0, rv o1, rv cc, iv 3, iv 1, rv d1, rv d1, iv 1, iv 1, iv 1]) rfl (q := 73) rfl ?_
    refine o_goto X8 hx hby d7_73 (by decide) (q := 35) (by decide) ?_
    refine o_iload X8 hx hby d7_35 rfl (q := 37) rfl ?_
    refine o_iload X8 hx hby d7_37 rfl (q := 39) rfl ?_
    refine o_icY X8 hx hby d7_39 (flt (by decide : ¬ ((1 : Int32) < (1 : Int32)))).2.1 (by decide) (q := 76) (by decide) ?_
    refine o_iinc X8 hx hby d7_76 rfl (l' := #[rv o0, rv o1, rv cc, iv 3, iv 2, rv d1, rv d1, iv 1, iv 1, iv 1]) rfl (q := 79) rfl ?_
    refine o_goto X8 hx hby d7_79 (by decide) (q := 11) (by decide) ?_
    refine o_iload X8 hx hby d7_11 rfl (q := 13) rfl ?_
    refine o_iloadN X8 hx hby d7_13 rfl (q := 14) rfl ?_
    refine o_icN X8 hx hby d7_14 (tlt (by decide : (2 : Int32) < (3 : Int32))).2.1 (q := 17) rfl ?_
    refine o_aloadN X8 hx hby d7_17 rfl rfl (q := 18) rfl ?_
    refine o_iload X8 hx hby d7_18 rfl (q := 20) rfl ?_
    refine o_aaV X8 hx hby hZ e8 Vcc rfl ⟨by decide, by decide⟩ (v := .ref d2) rfl d7_20 (q := 21) rfl ?_
    refine o_astore X8 hx hby d7_21 rfl (l' := #[rv o0, rv o1, rv cc, iv 3, iv 2, rv d2, rv d1, iv 1, iv 1, iv 1]) rfl (q := 23) rfl ?_
    refine o_aload X8 hx hby d7_23 rfl rfl (q := 25) rfl ?_
    refine o_astore X8 hx hby d7_25 rfl (l' := #[rv o0, rv o1, rv cc, iv 3, iv 2, rv d2, rv d2, iv 1, iv 1, iv 1]) rfl (q := 27) rfl ?_
    refine o_aload X8 hx hby d7_27 rfl rfl (q := 29) rfl ?_
    refine o_lenV X8 hx hby hZ e8 Vd2 d7_29 (q := 30) rfl ?_
    refine o_istore X8 hx hby d7_30 (l' := #[rv o0, rv o1, rv cc, iv 3, iv 2, rv d2, rv d2, iv 1, iv 1, iv 1]) rfl (q := 32) rfl ?_
    refine o_iconst X8 hx hby d7_32 (z := 0) rfl (q := 33) rfl ?_
    refine o_istore X8 hx hby d7_33 (l' := #[rv o0, rv o1, rv cc, iv 3, iv 2, rv d2, rv d2, iv 1, iv 0, iv 1]) rfl (q := 35) rfl ?_
    refine o_iload X8 hx hby d7_35 rfl (q := 37) rfl ?_
    refine o_iload X8 hx hby d7_37 rfl (q := 39) rfl ?_
    refine o_icN X8 hx hby d7_39 (tlt (by decide : (0 : Int32) < (1 : Int32))).2.1 (q := 42) rfl ?_
    refine o_aload X8 hx hby d7_42 rfl rfl (q := 44) rfl ?_
    refine o_iload X8 hx hby d7_44 rfl (q := 46) rfl ?_
    refine o_iaV X8 hx hby hZ e8 Vd2 ⟨by decide, by decide⟩ (v := .int 2) rfl d7_46 (q := 47) rfl ?_
    refine o_istore X8 hx hby d7_47 (l' := #[rv o0, rv o1, rv cc, iv 3, iv 2, rv d2, rv d2, iv 1, iv 0, iv 2]) rfl (q := 49) rfl ?_
    refine o_aloadN X8 hx hby d7_49 rfl rfl (q := 50) rfl ?_
    refine o_getF X8 hx hZ hown hby (w_ hw 31 rfl) Via.refl e8 Fc d7_50 (q := 53) rfl fun T9 X9 e9 => ?_
    refine o_iload X9 hx hby d7_53 rfl (q := 55) rfl ?_
    refine o_iaV X9 hx hby hZ e9 Vc ⟨by decide, by decide⟩ (v := .int c2) rfl d7_55 (q := 56) rfl ?_
    refine o_aloadN X9 hx hby d7_56 rfl rfl (q := 57) rfl ?_
    refine o_getF X9 hx hZ hown hby (w_ hw 31 rfl) Via.refl e9 Fc d7_57 (q := 60) rfl fun T10 X10 e10 => ?_
    refine o_aload X10 hx hby d7_60 rfl rfl (q := 62) rfl ?_
    refine o_iconst X10 hx hby d7_62 (z := 0) rfl (q := 63) rfl ?_
    refine o_iaV X10 hx hby hZ e10 Vd2 ⟨by decide, by decide⟩ (v := .int 2) rfl d7_63 (q := 64) rfl ?_
    refine o_iaV X10 hx hby hZ e10 Vc ⟨by decide, by decide⟩ (v := .int c2) rfl d7_64 (q := 65) rfl ?_
    refine o_icY X10 hx hby d7_65 (teq (rfl : c2 = c2)).1 (by decide) (q := 70) (by decide) ?_
    refine o_iinc X10 hx hby d7_70 rfl (l' := #[rv o0, rv o1, rv cc, iv 3, iv 2, rv d2, rv d2, iv 1, iv 1, iv 2]) rfl (q := 73) rfl ?_
    refine o_goto X10 hx hby d7_73 (by decide) (q := 35) (by decide) ?_
    refine o_iload X10 hx hby d7_35 rfl (q := 37) rfl ?_
    refine o_iload X10 hx hby d7_37 rfl (q := 39) rfl ?_
    refine o_icY X10 hx hby d7_39 (flt (by decide : ¬ ((1 : Int32) < (1 : Int32)))).2.1 (by decide) (q := 76) (by decide) ?_
    refine o_iinc X10 hx hby d7_76 rfl (l' := #[rv o0, rv o1, rv cc, iv 3, iv 3, rv d2, rv d2, iv 1, iv 1, iv 2]) rfl (q := 79) rfl ?_
    refine o_goto X10 hx hby d7_79 (by decide) (q := 11) (by decide) ?_
    refine o_iload X10 hx hby d7_11 rfl (q := 13) rfl ?_
    refine o_iloadN X10 hx hby d7_13 rfl (q := 14) rfl ?_
    refine o_icY X10 hx hby d7_14 (flt (by decide : ¬ ((3 : Int32) < (3 : Int32)))).2.1 (by decide) (q := 82) (by decide) ?_
    refine o_iconst X10 hx hby d7_82 (z := 1) rfl (q := 83) rfl ?_
    exact own_outN X10 hx hlk (t := .boolean) hret (by simp) (hb hby d7_83) (z' := (1 : Int32)) rfl (Q := Q7r0120 Z o0 o1 cc kcc d0 kd0 d1 kd1 d2 kd2 oc kc c0 c1 c2 c3 h0 n0) ⟨by simp only [fr0120, if_pos hc65_6], N0, e10⟩ (by decide) (by decide)
  · skip
    refine o_icN X5 hx hby d7_65 (feq hc65_6).1 (q := 68) rfl ?_
    refine o_iconst X5 hx hby d7_68 (z := 0) rfl (q := 69) rfl ?_
    exact own_outN X5 hx hlk (t := .boolean) hret (by simp) (hb hby d7_69) (z' := (0 : Int32)) rfl (Q := Q7r0120 Z o0 o1 cc kcc d0 kd0 d1 kd1 d2 kd2 oc kc c0 c1 c2 c3 h0 n0) ⟨by simp only [fr0120, if_neg hc65_6], N0, e5⟩ (by decide) (by decide)
theorem ef_4c0120n3 (m : MethodId) (x0 : Addr) (x1 : Addr) (x2 : Addr) : entryFrame m #[(.ref x0), (.ref x1), (.ref x2), (.int (3 : Int32))] 9 = mkF m 0 #[.val (.ref x0), .val (.ref x1), .val (.ref x2), .val (.int (3 : Int32)), .unset, .unset, .unset, .unset, .unset] [] := by first | (simp [entryFrame, mkF, argsToLocals, Value.category]; done) | rfl
def Q4c0120n3 (Z : State) (o0 : Addr) (o1 : Addr) (o2 : Addr) (k2 : ClassId) (h0 : Heap) (n0 : Nat) (v : Option Value) (h : Heap) (L : List Loc) : Prop := v = none ∧ Fr n0 L ∧ Keep h0 h [o0] ∧ Exa Z h o0 "com/example/slimc/slimc/game/Observation" ∧ Fld Z h o0 "com/example/slimc/slimc/game/Observation" "classOf" "[I" (.ref o2) ∧ Fld Z h o0 "com/example/slimc/slimc/game/Observation" "classCount" "I" (.int (3 : Int32)) ∧ RefOk Z h o0 fr0120
set_option maxRecDepth 65536 in
set_option maxHeartbeats 40000000 in
theorem rm4c0120n3 (l : Launch) (Z : State) (a0 : Array Value) (hw : ∀ d ∈ tables_1, d.before a0 Z = true) (ws : List Jvm.Cond) (o0 : Addr) (o1 : Addr) (o2 : Addr) (k2 : ClassId) (h0 : Heap) (n0 : Nat) (Z0 : n0 ≤ h0.size) (E : Exa Z h0 o0 "com/example/slimc/slimc/game/Observation") (F_name : Fld Z h0 o0 "com/example/slimc/slimc/game/Observation" "name" "Ljava/lang/String;" .null) (F_classOf : Fld Z h0 o0 "com/example/slimc/slimc/game/Observation" "classOf" "[I" .null) (F_classCount : Fld Z h0 o0 "com/example/slimc/slimc/game/Observation" "classCount" "I" (.int (0 : Int32))) (F_classes : Fld Z h0 o0 "com/example/slimc/slimc/game/Observation" "classes" "[[I" .null) (g_o0 : n0 ≤ o0) (V : Arv Z h0 o2 k2 .int (4 : Int32) [(.int (0 : Int32)), (.int (1 : Int32)), (.int (2 : Int32)), (.int (0 : Int32))] (.int (0 : Int32))) (n2 : o2 ≠ o0) :
    MetFree l (⟨"com/example/slimc/slimc/game/Observation", "<init>", "(Ljava/lang/String;[II)V"⟩ : MethodName) (head1 (Jvm.Cond.code (⟨"com/example/slimc/slimc/game/Observation", "<init>", "(Ljava/lang/String;[II)V"⟩ : MethodName) prog_66_method_1_code 9 none :: ws) ({ frames := 1, cells := 7, slots := 16, locals := 14 } : Room)) (fun a U => a = #[(.ref o0), (.ref o1), (.ref o2), (.int (3 : Int32))] ∧ Z.Warmed39 U.vm ∧ U.heap = h0) (fun _ _ _ _ _ => True) (fun _ U o U' => ∃ v L, o = .returned v ∧ Q4c0120n3 Z o0 o1 o2 k2 h0 n0 v U'.heap L ∧ FrameEnd U o U' L ({ frames := 1, cells := 7, slots := 16, locals := 14 } : Room).cells ({ frames := 1, cells := 7, slots := 16, locals := 14 } : Room).slots) := by
  refine MetFree.of_bodySF (plainFor_of_name pn_1) hisR ?_
  intro p e s m args below meth c s₁ Bd hml0 hP hK
  obtain ⟨rfl, hZ, hh⟩ := hP
  have hx := Bd.exec
  have hby := Bd.bytes
  have hml : c.maxLocals = 9 := hml0
  have hown : s.vm.findClass "com/example/slimc/slimc/game/Observation" = some m.cls := findClass_of_methodNamed Bd.named
  have hnm := (name_of_methodNamed Bd.named Bd.method).1
  have X0 : Stand p l e ({ frames := 1, cells := 7, slots := 16, locals := 14 } : Room) s m #[(.ref o0), (.ref o1), (.ref o2), (.int (3 : Int32))] below meth c s₁ [] 0 0 := Stand.of_body Bd
  have e0 : s₁.heap = h0 := by rw [← hh, Bd.state]; rfl
  have N0 := Fr.nil n0
  have hret := Bd.returns
  have hlk := BodyLoose.notSynchronized Bd
  show own_Out p e below (fun o U' => ∃ v L, o = .returned v ∧ Q4c0120n3 Z o0 o1 o2 k2 h0 n0 v U'.heap L ∧ FrameEnd s o U' L ({ frames := 1, cells := 7, slots := 16, locals := 14 } : Room).cells ({ frames := 1, cells := 7, slots := 16, locals := 14 } : Room).slots) (s₁.setTop (entryFrame m #[(.ref o0), (.ref o1), (.ref o2), (.int (3 : Int32))] 9))
  refine own_of (fun t k => castTop (ef_4c0120n3 m o0 o1 o2) k) ?_
  show own_Out p e below _ (s₁.setTop (mkF m 0 #[rv o0, rv o1, rv o2, iv 3, .unset, .unset, .unset, .unset, .unset] []))
  refine o_aloadN X0 hx hby d4_0 rfl rfl (q := 1) rfl ?_
  obtain ⟨T1, X1, e1, st1⟩ := initO X0 hx hZ hown (w_ hw 26 rfl) (w_ hw 27 rfl) (w_ hw 28 rfl) e0 (g := (mkF m 1 #[rv o0, rv o1, rv o2, iv 3, .unset, .unset, .unset, .unset, .unset] [.ref o0])) rfl (by rw [hml]; rfl) rfl (hb hby d4_1) (by decide) (W := 0) (by show 2 * 0 + _ ≤ _; exact Nat.le_of_eq rfl) (by decide)
  refine own_of st1 ?_
  show own_Out p e below _ (T1.setTop (mkF m 4 #[rv o0, rv o1, rv o2, iv 3, .unset, .unset, .unset, .unset, .unset] []))
  refine o_aloadN X1 hx hby d4_4 rfl rfl (q := 5) rfl ?_
  refine o_aloadN X1 hx hby d4_5 rfl rfl (q := 6) rfl ?_
  obtain ⟨T2, h2, X2, e2, W2, st2⟩ := putF X1 hx hZ hown (host := "") (Or.inl (w_ hw 29 rfl)) Via.refl e1 F_name E (Or.inr ⟨(w_ hw 30 rfl), rfl, hnm⟩) (w_ hw 10 rfl) (ty := (.object "java/lang/String")) (by decide) rfl rfl (g := (mkF m 6 #[rv o0, rv o1, rv o2, iv 3, .unset, .unset, .unset, .unset, .unset] [.ref o1, .ref o0])) rfl rfl (hb hby d4_6)
  have Fw2 := F_name.same W2
  refine own_of st2 ?_
  show own_Out p e below _ (T2.setTop (mkF m 9 #[rv o0, rv o1, rv o2, iv 3, .unset, .unset, .unset, .unset, .unset] []))
  refine o_aloadN X2 hx hby d4_9 rfl rfl (q := 10) rfl ?_
  refine o_aloadN X2 hx hby d4_10 rfl rfl (q := 11) rfl ?_
  have q4 := (F_classOf.other W2 (Or.inr (slot_ne (Or.inr (w_ hw 32 rfl)) (Or.inr (w_ hw 30 rfl)) (by decide) (t := (.array .int)) (t' := (.object "java/lang/String")) (by decide) (by decide))))
  have q5 := (E.wr W2)
  obtain ⟨T3, h3, X3, e3, W3, st3⟩ := putF X2 hx hZ hown (host := "") (Or.inl (w_ hw 31 rfl)) Via.refl e2 q4 q5 (Or.inr ⟨(w_ hw 32 rfl), rfl, hnm⟩) (w_ hw 10 rfl) (ty := (.array .int)) (by decide) rfl rfl (g := (mkF m 11 #[rv o0, rv o1, rv o2, iv 3, .unset, .unset, .unset, .unset, .unset] [.ref o2, .ref o0])) rfl rfl (hb hby d4_11)
  have q6 := (F_classOf.other W2 (Or.inr (slot_ne (Or.inr (w_ hw 32 rfl)) (Or.inr (w_ hw 30 rfl)) (by decide) (t := (.array .int)) (t' := (.object "java/lang/String")) (by decide) (by decide))))
  have Fw3 := q6.same W3
  refine own_of st3 ?_
  show own_Out p e below _ (T3.setTop (mkF m 14 #[rv o0, rv o1, rv o2, iv 3, .unset, .unset, .unset, .unset, .unset] []))
  refine o_aloadN X3 hx hby d4_14 rfl rfl (q := 15) rfl ?_
  refine o_iloadN X3 hx hby d4_15 rfl (q := 16) rfl ?_
  have q8 := ((F_classCount.other W2 (Or.inr (slot_ne (Or.inr (w_ hw 34 rfl)) (Or.inr (w_ hw 30 rfl)) (by decide) (t := .int) (t' := (.object "java/lang/String")) (by decide) (by decide)))).other W3 (Or.inr (slot_ne (Or.inr (w_ hw 34 rfl)) (Or.inr (w_ hw 32 rfl)) (by decide) (t := .int) (t' := (.array .int)) (by decide) (by decide))))
  have q9 := (q5.wr W3)
  obtain ⟨T7, h7, X7, e7, W7, st7⟩ := putF X3 hx hZ hown (host := "") (Or.inl (w_ hw 33 rfl)) Via.refl e3 q8 q9 (Or.inr ⟨(w_ hw 34 rfl), rfl, hnm⟩) (w_ hw 10 rfl) (ty := .int) (by decide) rfl rfl (g := (mkF m 16 #[rv o0, rv o1, rv o2, iv 3, .unset, .unset, .unset, .unset, .unset] [.int 3, .ref o0])) rfl rfl (hb hby d4_16)
  have q10 := ((F_classCount.other W2 (Or.inr (slot_ne (Or.inr (w_ hw 34 rfl)) (Or.inr (w_ hw 30 rfl)) (by decide) (t := .int) (t' := (.object "java/lang/String")) (by decide) (by decide)))).other W3 (Or.inr (slot_ne (Or.inr (w_ hw 34 rfl)) (Or.inr (w_ hw 32 rfl)) (by decide) (t := .int) (t' := (.array .int)) (by decide) (by decide))))
  have Fw7 := q10.same W7
  refine own_of st7 ?_
  show own_Out p e below _ (T7.setTop (mkF m 19 #[rv o0, rv o1, rv o2, iv 3, .unset, .unset, .unset, .unset, .unset] []))
  refine o_iloadN X7 hx hby d4_19 rfl (q := 20) rfl ?_
  obtain ⟨T11, h11, k11, X11, e11, E11, A11, Ex11, st11⟩ := newPE X7 hx hZ (w_ hw 4 rfl) e7 (g := (mkF m 20 #[rv o0, rv o1, rv o2, iv 3, .unset, .unset, .unset, .unset, .unset] [.int 3])) rfl (hb hby d4_20) rfl (by decide) (cap := 3) (by decide) (by decide) (by decide) (by decide) (ad := "[I") (by decide +kernel)
  obtain ⟨b11, g11⟩ : ∃ z, z = h7.size := ⟨_, rfl⟩
  rw [← g11] at A11 Ex11 st11
  have q12 := (Nat.le_trans (Nat.le_trans (Nat.le_trans Z0 (Keep.of_wr W2).1) (Keep.of_wr W3).1) (Keep.of_wr W7).1)
  have g_b11 : n0 ≤ b11 := Nat.le_trans q12 (Nat.le_of_eq g11.symm)
  have q13 := (Nat.le_trans (Nat.le_trans (Nat.le_trans (Nat.le_refl h0.size) (Keep.of_wr W2).1) (Keep.of_wr W3).1) (Keep.of_wr W7).1)
  have sz_b11 : h0.size ≤ b11 := Nat.le_trans q13 (Nat.le_of_eq g11.symm)
  have V_b11 : Arv Z h11 b11 k11 .int (3 : Int32) [(.int (0 : Int32)), (.int (0 : Int32)), (.int (0 : Int32))] (.int (0 : Int32)) := (Arv.new A11 (by decide)).pad (pad_rep [] (.int (0 : Int32)) 3)
  refine own_of st11 ?_
  show own_Out p e below _ (T11.setTop (mkF m 22 #[rv o0, rv o1, rv o2, iv 3, .unset, .unset, .unset, .unset, .unset] [.ref b11]))
  refine o_astore X11 hx hby d4_22 rfl (l' := #[rv o0, rv o1, rv o2, iv 3, rv b11, .unset, .unset, .unset, .unset]) rfl (q := 24) rfl ?_
  refine o_aloadN X11 hx hby d4_24 rfl rfl (q := 25) rfl ?_
  refine o_astore X11 hx hby d4_25 rfl (l' := #[rv o0, rv o1, rv o2, iv 3, rv b11, rv o2, .unset, .unset, .unset]) rfl (q := 27) rfl ?_
  refine o_aload X11 hx hby d4_27 rfl rfl (q := 29) rfl ?_
  have q14 := ((((V.other W2 n2).other W3 n2).other W7 n2).ext E11)
  refine o_lenV X11 hx hby hZ e11 q14 d4_29 (q := 30) rfl ?_
  refine o_istore X11 hx hby d4_30 (l' := #[rv o0, rv o1, rv o2, iv 3, rv b11, rv o2, iv 4, .unset, .unset]) rfl (q := 32) rfl ?_
  refine o_iconst X11 hx hby d4_32 (z := 0) rfl (q := 33) rfl ?_
  refine o_istore X11 hx hby d4_33 (l' := #[rv o0, rv o1, rv o2, iv 3, rv b11, rv o2, iv 4, iv 0, .unset]) rfl (q := 35) rfl ?_
  refine t1 X11 hx hby hZ e11 q14 V_b11 rfl ⟨by decide, by decide⟩ (cc := 0) rfl ⟨by decide, by decide⟩ (y := 0) rfl (y' := 1) rfl (i' := 1) rfl (iN := 0) rfl (Nat.le_of_ble_eq_true rfl) fun T15 h15 X15 e15 W15 V15 => ?_
  have ne_o2_b11 : o2 ≠ b11 := Nat.ne_of_lt (Nat.lt_of_lt_of_le V.lt sz_b11)
  have q16 := (q14.other W15 ne_o2_b11)
  refine t1 X15 hx hby hZ e15 q16 V15 rfl ⟨by decide, by decide⟩ (cc := 1) rfl ⟨by decide, by decide⟩ (y := 0) rfl (y' := 1) rfl (i' := 2) rfl (iN := 1) rfl (Nat.le_of_ble_eq_true rfl) fun T17 h17 X17 e17 W17 V17 => ?_
  have q18 := (q16.other W17 ne_o2_b11)
  refine t1 X17 hx hby hZ e17 q18 V17 rfl ⟨by decide, by decide⟩ (cc := 2) rfl ⟨by decide, by decide⟩ (y := 0) rfl (y' := 1) rfl (i' := 3) rfl (iN := 2) rfl (Nat.le_of_ble_eq_true rfl) fun T19 h19 X19 e19 W19 V19 => ?_
  have q20 := (q18.other W19 ne_o2_b11)
  refine t1 X19 hx hby hZ e19 q20 V19 rfl ⟨by decide, by decide⟩ (cc := 0) rfl ⟨by decide, by decide⟩ (y := 1) rfl (y' := 2) rfl (i' := 4) rfl (iN := 0) rfl (Nat.le_of_ble_eq_true rfl) fun T21 h21 X21 e21 W21 V21 => ?_
  refine o_iload X21 hx hby d4_35 rfl (q := 37) rfl ?_
  refine o_iload X21 hx hby d4_37 rfl (q := 39) rfl ?_
  refine o_icY X21 hx hby d4_39 (flt (by decide : ¬ ((4 : Int32) < (4 : Int32)))).2.1 (by decide) (q := 64) (by decide) ?_
  refine o_aloadN X21 hx hby d4_64 rfl rfl (q := 65) rfl ?_
  refine o_iloadN X21 hx hby d4_65 rfl (q := 66) rfl ?_
  obtain ⟨T22, h22, k22, X22, e22, E22, A22, Ex22, O22, st22⟩ := newRA X21 hx hZ hown (ty := .int) (by decide +kernel) (w_ hw 35 rfl) (w_ hw 36 rfl) e21 (g := (mkF m 66 #[rv o0, rv o1, rv o2, iv 3, rv b11, rv o2, iv 4, iv 4, iv 0] [.int 3, .ref o0])) rfl (hb hby d4_66) rfl (by decide) (cap := 3) (by decide) (by decide) (by decide) (by decide) (ad := "[[I") (by decide +kernel)
  obtain ⟨b22, g22⟩ : ∃ z, z = h21.size := ⟨_, rfl⟩
  rw [← g22] at A22 Ex22 st22
  have q23 := (Nat.le_trans (Nat.le_trans (Nat.le_trans (Nat.le_trans (Nat.le_trans q12 E11.1) (Keep.of_wr W15).1) (Keep.of_wr W17).1) (Keep.of_wr W19).1) (Keep.of_wr W21).1)
  have g_b22 : n0 ≤ b22 := Nat.le_trans q23 (Nat.le_of_eq g22.symm)
  have q24 := (Nat.le_trans (Nat.le_trans (Nat.le_trans (Nat.le_trans (Nat.le_trans q13 E11.1) (Keep.of_wr W15).1) (Keep.of_wr W17).1) (Keep.of_wr W19).1) (Keep.of_wr W21).1)
  have sz_b22 : h0.size ≤ b22 := Nat.le_trans q24 (Nat.le_of_eq g22.symm)
  have V_b22 : Arv Z h22 b22 k22 (.array .int) (3 : Int32) [.null, .null, .null] .null := (Arv.new A22 (by decide)).pad (pad_rep [] .null 3)
  refine own_of st22 ?_
  show own_Out p e below _ (T22.setTop (mkF m 69 #[rv o0, rv o1, rv o2, iv 3, rv b11, rv o2, iv 4, iv 4, iv 0] [.ref b22, .ref o0]))
  have ne_o0_b11 : o0 ≠ b11 := Nat.ne_of_lt (Nat.lt_of_lt_of_le E.lt sz_b11)
  have q26 := (((((((((F_classes.other W2 (Or.inr (slot_ne (Or.inr (w_ hw 38 rfl)) (Or.inr (w_ hw 30 rfl)) (by decide) (t := (.array (.array .int))) (t' := (.object "java/lang/String")) (by decide) (by decide)))).other W3 (Or.inr (slot_ne (Or.inr (w_ hw 38 rfl)) (Or.inr (w_ hw 32 rfl)) (by decide) (t := (.array (.array .int))) (t' := (.array .int)) (by decide) (by decide)))).other W7 (Or.inr (slot_ne (Or.inr (w_ hw 38 rfl)) (Or.inr (w_ hw 34 rfl)) (by decide) (t := (.array (.array .int))) (t' := .int) (by decide) (by decide)))).ext E11).other W15 (Or.inl ne_o0_b11)).other W17 (Or.inl ne_o0_b11)).other W19 (Or.inl ne_o0_b11)).other W21 (Or.inl ne_o0_b11)).ext E22)
  have q27 := (((((((q9.wr W7).ext E11).wr W15).wr W17).wr W19).wr W21).ext E22)
  obtain ⟨T25, h25, X25, e25, W25, st25⟩ := putF X22 hx hZ hown (host := "") (Or.inl (w_ hw 37 rfl)) Via.refl e22 q26 q27 (Or.inr ⟨(w_ hw 38 rfl), rfl, hnm⟩) (w_ hw 10 rfl) (ty := (.array (.array .int))) (by decide) rfl rfl (g := (mkF m 69 #[rv o0, rv o1, rv o2, iv 3, rv b11, rv o2, iv 4, iv 4, iv 0] [.ref b22, .ref o0])) rfl rfl (hb hby d4_69)
  have q28 := (((((((((F_classes.other W2 (Or.inr (slot_ne (Or.inr (w_ hw 38 rfl)) (Or.inr (w_ hw 30 rfl)) (by decide) (t := (.array (.array .int))) (t' := (.object "java/lang/String")) (by decide) (by decide)))).other W3 (Or.inr (slot_ne (Or.inr (w_ hw 38 rfl)) (Or.inr (w_ hw 32 rfl)) (by decide) (t := (.array (.array .int))) (t' := (.array .int)) (by decide) (by decide)))).other W7 (Or.inr (slot_ne (Or.inr (w_ hw 38 rfl)) (Or.inr (w_ hw 34 rfl)) (by decide) (t := (.array (.array .int))) (t' := .int) (by decide) (by decide)))).ext E11).other W15 (Or.inl ne_o0_b11)).other W17 (Or.inl ne_o0_b11)).other W19 (Or.inl ne_o0_b11)).other W21 (Or.inl ne_o0_b11)).ext E22)
  have Fw25 := q28.same W25
  refine own_of st25 ?_
  show own_Out p e below _ (T25.setTop (mkF m 72 #[rv o0, rv o1, rv o2, iv 3, rv b11, rv o2, iv 4, iv 4, iv 0] []))
  refine o_iconst X25 hx hby d4_72 (z := 0) rfl (q := 73) rfl ?_
  refine o_istore X25 hx hby d4_73 (l' := #[rv o0, rv o1, rv o2, iv 3, rv b11, iv 0, iv 4, iv 4, iv 0]) rfl (q := 75) rfl ?_
  refine o_iload X25 hx hby d4_75 rfl (q := 77) rfl ?_
  refine o_iloadN X25 hx hby d4_77 rfl (q := 78) rfl ?_
  refine o_icN X25 hx hby d4_78 (tlt (by decide : (0 : Int32) < (3 : Int32))).2.1 (q := 81) rfl ?_
  refine o_aloadN X25 hx hby d4_81 rfl rfl (q := 82) rfl ?_
  refine o_getF X25 hx hZ hown hby (w_ hw 37 rfl) Via.refl e25 Fw25 d4_82 (q := 85) rfl fun T29 X29 e29 => ?_
  refine o_iload X29 hx hby d4_85 rfl (q := 87) rfl ?_
  refine o_aload X29 hx hby d4_87 rfl rfl (q := 89) rfl ?_
  refine o_iload X29 hx hby d4_89 rfl (q := 91) rfl ?_
  have q30 := ((V21.ext E22).other W25 (Ne.symm ne_o0_b11))
  refine o_iaV X29 hx hby hZ e29 q30 ⟨by decide, by decide⟩ (v := .int 2) rfl d4_91 (q := 92) rfl ?_
  obtain ⟨T31, h31, k31, X31, e31, E31, A31, Ex31, st31⟩ := newPE X29 hx hZ (w_ hw 4 rfl) e29 (g := (mkF m 92 #[rv o0, rv o1, rv o2, iv 3, rv b11, iv 0, iv 4, iv 4, iv 0] [.int 2, .int 0, .ref b22])) rfl (hb hby d4_92) rfl (by decide) (cap := 2) (by decide) (by decide) (by decide) (by decide) (ad := "[I") (by decide +kernel)
  obtain ⟨b31, g31⟩ : ∃ z, z = h25.size := ⟨_, rfl⟩
  rw [← g31] at A31 Ex31 st31
  have q32 := (Nat.le_trans (Nat.le_trans q23 E22.1) (Keep.of_wr W25).1)
  have g_b31 : n0 ≤ b31 := Nat.le_trans q32 (Nat.le_of_eq g31.symm)
  have q33 := (Nat.le_trans (Nat.le_trans q24 E22.1) (Keep.of_wr W25).1)
  have sz_b31 : h0.size ≤ b31 := Nat.le_trans q33 (Nat.le_of_eq g31.symm)
  have V_b31 : Arv Z h31 b31 k31 .int (2 : Int32) [(.int (0 : Int32)), (.int (0 : Int32))] (.int (0 : Int32)) := (Arv.new A31 (by decide)).pad (pad_rep [] (.int (0 : Int32)) 2)
  refine own_of st31 ?_
  show own_Out p e below _ (T31.setTop (mkF m 94 #[rv o0, rv o1, rv o2, iv 3, rv b11, iv 0, iv 4, iv 4, iv 0] [.ref b31, .int 0, .ref b22]))
  have ne_o0_b22 : o0 ≠ b22 := Nat.ne_of_lt (Nat.lt_of_lt_of_le E.lt sz_b22)
  have q34 := ((V_b22.other W25 (Ne.symm ne_o0_b22)).ext E31)
  refine o_stVR X31 hx hby hZ e31 q34 ⟨by decide, by decide⟩ 0 rfl (Nat.le_of_ble_eq_true rfl) O22 (Ins.self Ex31) d4_94 (q := 95) rfl fun T35 h35 X35 e35 W35 V35 => ?_
  refine o_iinc X35 hx hby d4_95 rfl (l' := #[rv o0, rv o1, rv o2, iv 3, rv b11, iv 1, iv 4, iv 4, iv 0]) rfl (q := 98) rfl ?_
  refine o_goto X35 hx hby d4_98 (by decide) (q := 75) (by decide) ?_
  refine o_iload X35 hx hby d4_75 rfl (q := 77) rfl ?_
  refine o_iloadN X35 hx hby d4_77 rfl (q := 78) rfl ?_
  refine o_icN X35 hx hby d4_78 (tlt (by decide : (1 : Int32) < (3 : Int32))).2.1 (q := 81) rfl ?_
  refine o_aloadN X35 hx hby d4_81 rfl rfl (q := 82) rfl ?_
  have q37 := ((Fw25.ext E31).other W35 (Or.inl ne_o0_b22))
  refine o_getF X35 hx hZ hown hby (w_ hw 37 rfl) Via.refl e35 q37 d4_82 (q := 85) rfl fun T36 X36 e36 => ?_
  refine o_iload X36 hx hby d4_85 rfl (q := 87) rfl ?_
  refine o_aload X36 hx hby d4_87 rfl rfl (q := 89) rfl ?_
  refine o_iload X36 hx hby d4_89 rfl (q := 91) rfl ?_
  have ne_b11_b22 : b11 ≠ b22 := Nat.ne_of_lt (Nat.lt_of_lt_of_le (Nat.lt_of_lt_of_le (Nat.lt_of_lt_of_le (Nat.lt_of_lt_of_le (Nat.lt_of_lt_of_le A11.lt (Keep.of_wr W15).1) (Keep.of_wr W17).1) (Keep.of_wr W19).1) (Keep.of_wr W21).1) (Nat.le_of_eq g22.symm))
  have q38 := ((q30.ext E31).other W35 ne_b11_b22)
  refine o_iaV X36 hx hby hZ e36 q38 ⟨by decide, by decide⟩ (v := .int 1) rfl d4_91 (q := 92) rfl ?_
  obtain ⟨T39, h39, k39, X39, e39, E39, A39, Ex39, st39⟩ := newPE X36 hx hZ (w_ hw 4 rfl) e36 (g := (mkF m 92 #[rv o0, rv o1, rv o2, iv 3, rv b11, iv 1, iv 4, iv 4, iv 0] [.int 1, .int 1, .ref b22])) rfl (hb hby d4_92) rfl (by decide) (cap := 1) (by decide) (by decide) (by decide) (by decide) (ad := "[I") (by decide +kernel)
  obtain ⟨b39, g39⟩ : ∃ z, z = h35.size := ⟨_, rfl⟩
  rw [← g39] at A39 Ex39 st39
  have q40 := (Nat.le_trans (Nat.le_trans q32 E31.1) (Keep.of_wr W35).1)
  have g_b39 : n0 ≤ b39 := Nat.le_trans q40 (Nat.le_of_eq g39.symm)
  have q41 := (Nat.le_trans (Nat.le_trans q33 E31.1) (Keep.of_wr W35).1)
  have sz_b39 : h0.size ≤ b39 := Nat.le_trans q41 (Nat.le_of_eq g39.symm)
  have V_b39 : Arv Z h39 b39 k39 .int (1 : Int32) [(.int (0 : Int32))] (.int (0 : Int32)) := (Arv.new A39 (by decide)).pad (pad_rep [] (.int (0 : Int32)) 1)
  refine own_of st39 ?_
  show own_Out p e below _ (T39.setTop (mkF m 94 #[rv o0, rv o1, rv o2, iv 3, rv b11, iv 1, iv 4, iv 4, iv 0] [.ref b39, .int 1, .ref b22]))
  have q42 := (V35.ext E39)
  refine o_stVR X39 hx hby hZ e39 q42 ⟨by decide, by decide⟩ 1 rfl (Nat.le_of_ble_eq_true rfl) O22 (Ins.self Ex39) d4_94 (q := 95) rfl fun T43 h43 X43 e43 W43 V43 => ?_
  refine o_iinc X43 hx hby d4_95 rfl (l' := #[rv o0, rv o1, rv o2, iv 3, rv b11, iv 2, iv 4, iv 4, iv 0]) rfl (q := 98) rfl ?_
  refine o_goto X43 hx hby d4_98 (by decide) (q := 75) (by decide) ?_
  refine o_iload X43 hx hby d4_75 rfl (q := 77) rfl ?_
  refine o_iloadN X43 hx hby d4_77 rfl (q := 78) rfl ?_
  refine o_icN X43 hx hby d4_78 (tlt (by decide : (2 : Int32) < (3 : Int32))).2.1 (q := 81) rfl ?_
  refine o_aloadN X43 hx hby d4_81 rfl rfl (q := 82) rfl ?_
  have q45 := ((q37.ext E39).other W43 (Or.inl ne_o0_b22))
  refine o_getF X43 hx hZ hown hby (w_ hw 37 rfl) Via.refl e43 q45 d4_82 (q := 85) rfl fun T44 X44 e44 => ?_
  refine o_iload X44 hx hby d4_85 rfl (q := 87) rfl ?_
  refine o_aload X44 hx hby d4_87 rfl rfl (q := 89) rfl ?_
  refine o_iload X44 hx hby d4_89 rfl (q := 91) rfl ?_
  have q46 := ((q38.ext E39).other W43 ne_b11_b22)
  refine o_iaV X44 hx hby hZ e44 q46 ⟨by decide, by decide⟩ (v := .int 1) rfl d4_91 (q := 92) rfl ?_
  obtain ⟨T47, h47, k47, X47, e47, E47, A47, Ex47, st47⟩ := newPE X44 hx hZ (w_ hw 4 rfl) e44 (g := (mkF m 92 #[rv o0, rv o1, rv o2, iv 3, rv b11, iv 2, iv 4, iv 4, iv 0] [.int 1, .int 2, .ref b22])) rfl (hb hby d4_92) rfl (by decide) (cap := 1) (by decide) (by decide) (by decide) (by decide) (ad := "[I") (by decide +kernel)
  obtain ⟨b47, g47⟩ : ∃ z, z = h43.size := ⟨_, rfl⟩
  rw [← g47] at A47 Ex47 st47
  have q48 := (Nat.le_trans (Nat.le_trans q40 E39.1) (Keep.of_wr W43).1)
  have g_b47 : n0 ≤ b47 := Nat.le_trans q48 (Nat.le_of_eq g47.symm)
  have q49 := (Nat.le_trans (Nat.le_trans q41 E39.1) (Keep.of_wr W43).1)
  have sz_b47 : h0.size ≤ b47 := Nat.le_trans q49 (Nat.le_of_eq g47.symm)
  have V_b47 : Arv Z h47 b47 k47 .int (1 : Int32) [(.int (0 : Int32))] (.int (0 : Int32)) := (Arv.new A47 (by decide)).pad (pad_rep [] (.int (0 : Int32)) 1)
  refine own_of st47 ?_
  show own_Out p e below _ (T47.setTop (mkF m 94 #[rv o0, rv o1, rv o2, iv 3, rv b11, iv 2, iv 4, iv 4, iv 0] [.ref b47, .int 2, .ref b22]))
  have q50 := (V43.ext E47)
  refine o_stVR X47 hx hby hZ e47 q50 ⟨by decide, by decide⟩ 2 rfl (Nat.le_of_ble_eq_true rfl) O22 (Ins.self Ex47) d4_94 (q := 95) rfl fun T51 h51 X51 e51 W51 V51 => ?_
  refine o_iinc X51 hx hby d4_95 rfl (l' := #[rv o0, rv o1, rv o2, iv 3, rv b11, iv 3, iv 4, iv 4, iv 0]) rfl (q := 98) rfl ?_
  refine o_goto X51 hx hby d4_98 (by decide) (q := 75) (by decide) ?_
  refine o_iload X51 hx hby d4_75 rfl (q := 77) rfl ?_
  refine o_iloadN X51 hx hby d4_77 rfl (q := 78) rfl ?_
  refine o_icY X51 hx hby d4_78 (flt (by decide : ¬ ((3 : Int32) < (3 : Int32)))).2.1 (by decide) (q := 101) (by decide) ?_
  refine o_iloadN X51 hx hby d4_101 rfl (q := 102) rfl ?_
  obtain ⟨T52, h52, k52, X52, e52, E52, A52, Ex52, st52⟩ := newPE X51 hx hZ (w_ hw 4 rfl) e51 (g := (mkF m 102 #[rv o0, rv o1, rv o2, iv 3, rv b11, iv 3, iv 4, iv 4, iv 0] [.int 3])) rfl (hb hby d4_102) rfl (by decide) (cap := 3) (by decide) (by decide) (by decide) (by decide) (ad := "[I") (by decide +kernel)
  obtain ⟨b52, g52⟩ : ∃ z, z = h51.size := ⟨_, rfl⟩
  rw [← g52] at A52 Ex52 st52
  have q53 := (Nat.le_trans (Nat.le_trans q48 E47.1) (Keep.of_wr W51).1)
  have g_b52 : n0 ≤ b52 := Nat.le_trans q53 (Nat.le_of_eq g52.symm)
  have q54 := (Nat.le_trans (Nat.le_trans q49 E47.1) (Keep.of_wr W51).1)
  have sz_b52 : h0.size ≤ b52 := Nat.le_trans q54 (Nat.le_of_eq g52.symm)
  have V_b52 : Arv Z h52 b52 k52 .int (3 : Int32) [(.int (0 : Int32)), (.int (0 : Int32)), (.int (0 : Int32))] (.int (0 : Int32)) := (Arv.new A52 (by decide)).pad (pad_rep [] (.int (0 : Int32)) 3)
  refine own_of st52 ?_
  show own_Out p e below _ (T52.setTop (mkF m 104 #[rv o0, rv o1, rv o2, iv 3, rv b11, iv 3, iv 4, iv 4, iv 0] [.ref b52]))
  refine o_astore X52 hx hby d4_104 rfl (l' := #[rv o0, rv o1, rv o2, iv 3, rv b11, rv b52, iv 4, iv 4, iv 0]) rfl (q := 106) rfl ?_
  refine o_iconst X52 hx hby d4_106 (z := 0) rfl (q := 107) rfl ?_
  refine o_istore X52 hx hby d4_107 (l' := #[rv o0, rv o1, rv o2, iv 3, rv b11, rv b52, iv 0, iv 4, iv 0]) rfl (q := 109) rfl ?_
  have ne_o2_b22 : o2 ≠ b22 := Nat.ne_of_lt (Nat.lt_of_lt_of_le V.lt sz_b22)
  have q57 := ((((((((((q20.other W21 ne_o2_b11).ext E22).other W25 n2).ext E31).other W35 ne_o2_b22).ext E39).other W43 ne_o2_b22).ext E47).other W51 ne_o2_b22).ext E52)
  have q58 := (((q45.ext E47).other W51 (Or.inl ne_o0_b22)).ext E52)
  have q59 := (V51.ext E52)
  have ne_b22_b31 : b22 ≠ b31 := Nat.ne_of_lt (Nat.lt_of_lt_of_le (Nat.lt_of_lt_of_le A22.lt (Keep.of_wr W25).1) (Nat.le_of_eq g31.symm))
  have q60 := ((((((V_b31.other W35 (Ne.symm ne_b22_b31)).ext E39).other W43 (Ne.symm ne_b22_b31)).ext E47).other W51 (Ne.symm ne_b22_b31)).ext E52)
  have ne_b31_b52 : b31 ≠ b52 := Nat.ne_of_lt (Nat.lt_of_lt_of_le (Nat.lt_of_lt_of_le (Nat.lt_of_lt_of_le (Nat.lt_of_lt_of_le (Nat.lt_of_lt_of_le (Nat.lt_of_lt_of_le A31.lt (Keep.of_wr W35).1) E39.1) (Keep.of_wr W43).1) E47.1) (Keep.of_wr W51).1) (Nat.le_of_eq g52.symm))
  refine t3 X52 hx hby hZ e52 hw hown q57 q58 q59 V_b52 q60 ne_b31_b52 ⟨by decide, by decide⟩ (x := 0) rfl ⟨by decide, by decide⟩ rfl (f := 0) rfl ⟨by decide, by decide⟩ (f' := 1) rfl (i' := 1) rfl (iN := 0) rfl (Nat.le_of_ble_eq_true rfl) (jN := 0) rfl (Nat.le_of_ble_eq_true rfl) fun T56 h55 h56 X56 e56 W55 W56 V55 V56 => ?_
  have ne_o2_b52 : o2 ≠ b52 := Nat.ne_of_lt (Nat.lt_of_lt_of_le V.lt sz_b52)
  have ne_o2_b31 : o2 ≠ b31 := Nat.ne_of_lt (Nat.lt_of_lt_of_le V.lt sz_b31)
  have q63 := ((q57.other W55 ne_o2_b52).other W56 ne_o2_b31)
  have ne_o0_b52 : o0 ≠ b52 := Nat.ne_of_lt (Nat.lt_of_lt_of_le E.lt sz_b52)
  have ne_o0_b31 : o0 ≠ b31 := Nat.ne_of_lt (Nat.lt_of_lt_of_le E.lt sz_b31)
  have q64 := ((q58.other W55 (Or.inl ne_o0_b52)).other W56 (Or.inl ne_o0_b31))
  have ne_b22_b52 : b22 ≠ b52 := Nat.ne_of_lt (Nat.lt_of_lt_of_le (Nat.lt_of_lt_of_le (Nat.lt_of_lt_of_le (Nat.lt_of_lt_of_le (Nat.lt_of_lt_of_le (Nat.lt_of_lt_of_le (Nat.lt_of_lt_of_le (Nat.lt_of_lt_of_le A22.lt (Keep.of_wr W25).1) E31.1) (Keep.of_wr W35).1) E39.1) (Keep.of_wr W43).1) E47.1) (Keep.of_wr W51).1) (Nat.le_of_eq g52.symm))
  have q65 := ((q59.other W55 ne_b22_b52).other W56 ne_b22_b31)
  have q66 := (V55.other W56 (Ne.symm ne_b31_b52))
  have ne_b22_b39 : b22 ≠ b39 := Nat.ne_of_lt (Nat.lt_of_lt_of_le (Nat.lt_of_lt_of_le (Nat.lt_of_lt_of_le (Nat.lt_of_lt_of_le A22.lt (Keep.of_wr W25).1) E31.1) (Keep.of_wr W35).1) (Nat.le_of_eq g39.symm))
  have ne_b39_b52 : b39 ≠ b52 := Nat.ne_of_lt (Nat.lt_of_lt_of_le (Nat.lt_of_lt_of_le (Nat.lt_of_lt_of_le (Nat.lt_of_lt_of_le A39.lt (Keep.of_wr W43).1) E47.1) (Keep.of_wr W51).1) (Nat.le_of_eq g52.symm))
  have ne_b31_b39 : b31 ≠ b39 := Nat.ne_of_lt (Nat.lt_of_lt_of_le (Nat.lt_of_lt_of_le A31.lt (Keep.of_wr W35).1) (Nat.le_of_eq g39.symm))
  have q67 := ((((((V_b39.other W43 (Ne.symm ne_b22_b39)).ext E47).other W51 (Ne.symm ne_b22_b39)).ext E52).other W55 ne_b39_b52).other W56 (Ne.symm ne_b31_b39))
  refine t3 X56 hx hby hZ e56 hw hown q63 q64 q65 q66 q67 ne_b39_b52 ⟨by decide, by decide⟩ (x := 1) rfl ⟨by decide, by decide⟩ rfl (f := 0) rfl ⟨by decide, by decide⟩ (f' := 1) rfl (i' := 2) rfl (iN := 1) rfl (Nat.le_of_ble_eq_true rfl) (jN := 0) rfl (Nat.le_of_ble_eq_true rfl) fun T62 h61 h62 X62 e62 W61 W62 V61 V62 => ?_
  have ne_o2_b39 : o2 ≠ b39 := Nat.ne_of_lt (Nat.lt_of_lt_of_le V.lt sz_b39)
  have q70 := ((q63.other W61 ne_o2_b52).other W62 ne_o2_b39)
  have ne_o0_b39 : o0 ≠ b39 := Nat.ne_of_lt (Nat.lt_of_lt_of_le E.lt sz_b39)
  have q71 := ((q64.other W61 (Or.inl ne_o0_b52)).other W62 (Or.inl ne_o0_b39))
  have q72 := ((q65.other W61 ne_b22_b52).other W62 ne_b22_b39)
  have q73 := (V61.other W62 (Ne.symm ne_b39_b52))
  have ne_b22_b47 : b22 ≠ b47 := Nat.ne_of_lt (Nat.lt_of_lt_of_le (Nat.lt_of_lt_of_le (Nat.lt_of_lt_of_le (Nat.lt_of_lt_of_le (Nat.lt_of_lt_of_le (Nat.lt_of_lt_of_le A22.lt (Keep.of_wr W25).1) E31.1) (Keep.of_wr W35).1) E39.1) (Keep.of_wr W43).1) (Nat.le_of_eq g47.symm))
  have ne_b47_b52 : b47 ≠ b52 := Nat.ne_of_lt (Nat.lt_of_lt_of_le (Nat.lt_of_lt_of_le A47.lt (Keep.of_wr W51).1) (Nat.le_of_eq g52.symm))
  have ne_b31_b47 : b31 ≠ b47 := Nat.ne_of_lt (Nat.lt_of_lt_of_le (Nat.lt_of_lt_of_le (Nat.lt_of_lt_of_le (Nat.lt_of_lt_of_le A31.lt (Keep.of_wr W35).1) E39.1) (Keep.of_wr W43).1) (Nat.le_of_eq g47.symm))
  have ne_b39_b47 : b39 ≠ b47 := Nat.ne_of_lt (Nat.lt_of_lt_of_le (Nat.lt_of_lt_of_le A39.lt (Keep.of_wr W43).1) (Nat.le_of_eq g47.symm))
  have q74 := ((((((V_b47.other W51 (Ne.symm ne_b22_b47)).ext E52).other W55 ne_b47_b52).other W56 (Ne.symm ne_b31_b47)).other W61 ne_b47_b52).other W62 (Ne.symm ne_b39_b47))
  refine t3 X62 hx hby hZ e62 hw hown q70 q71 q72 q73 q74 ne_b47_b52 ⟨by decide, by decide⟩ (x := 2) rfl ⟨by decide, by decide⟩ rfl (f := 0) rfl ⟨by decide, by decide⟩ (f' := 1) rfl (i' := 3) rfl (iN := 2) rfl (Nat.le_of_ble_eq_true rfl) (jN := 0) rfl (Nat.le_of_ble_eq_true rfl) fun T69 h68 h69 X69 e69 W68 W69 V68 V69 => ?_
  have ne_o2_b47 : o2 ≠ b47 := Nat.ne_of_lt (Nat.lt_of_lt_of_le V.lt sz_b47)
  have q77 := ((q70.other W68 ne_o2_b52).other W69 ne_o2_b47)
  have ne_o0_b47 : o0 ≠ b47 := Nat.ne_of_lt (Nat.lt_of_lt_of_le E.lt sz_b47)
  have q78 := ((q71.other W68 (Or.inl ne_o0_b52)).other W69 (Or.inl ne_o0_b47))
  have q79 := ((q72.other W68 ne_b22_b52).other W69 ne_b22_b47)
  have q80 := (V68.other W69 (Ne.symm ne_b47_b52))
  have q81 := ((((V56.other W61 ne_b31_b52).other W62 ne_b31_b39).other W68 ne_b31_b52).other W69 ne_b31_b47)
  refine t3 X69 hx hby hZ e69 hw hown q77 q78 q79 q80 q81 ne_b31_b52 ⟨by decide, by decide⟩ (x := 0) rfl ⟨by decide, by decide⟩ rfl (f := 1) rfl ⟨by decide, by decide⟩ (f' := 2) rfl (i' := 4) rfl (iN := 0) rfl (Nat.le_of_ble_eq_true rfl) (jN := 1) rfl (Nat.le_of_ble_eq_true rfl) fun T76 h75 h76 X76 e76 W75 W76 V75 V76 => ?_
  refine o_iload X76 hx hby d4_109 rfl (q := 111) rfl ?_
  refine o_aloadN X76 hx hby d4_111 rfl rfl (q := 112) rfl ?_
  have q82 := ((q77.other W75 ne_o2_b52).other W76 ne_o2_b31)
  refine o_lenV X76 hx hby hZ e76 q82 d4_112 (q := 113) rfl ?_
  refine o_icY X76 hx hby d4_113 (flt (by decide : ¬ ((4 : Int32) < (4 : Int32)))).2.1 (by decide) (q := 146) (by decide) ?_
  have q83 := ((q78.other W75 (Or.inl ne_o0_b52)).other W76 (Or.inl ne_o0_b31))
  have q84 := ((q79.other W75 ne_b22_b52).other W76 ne_b22_b31)
  have q85 := ((((V62.other W68 ne_b39_b52).other W69 ne_b39_b47).other W75 ne_b39_b52).other W76 (Ne.symm ne_b31_b39))
  have q86 := ((V69.other W75 ne_b47_b52).other W76 (Ne.symm ne_b31_b47))
  have q87 := ((((((((((((((((((((((((((Keep.refl h0 [o0]).wr W2 (Or.inl (List.mem_of_getElem? (i := 0) rfl))).wr W3 (Or.inl (List.mem_of_getElem? (i := 0) rfl))).wr W7 (Or.inl (List.mem_of_getElem? (i := 0) rfl))).ext E11).wr W15 (Or.inr sz_b11)).wr W17 (Or.inr sz_b11)).wr W19 (Or.inr sz_b11)).wr W21 (Or.inr sz_b11)).ext E22).wr W25 (Or.inl (List.mem_of_getElem? (i := 0) rfl))).ext E31).wr W35 (Or.inr sz_b22)).ext E39).wr W43 (Or.inr sz_b22)).ext E47).wr W51 (Or.inr sz_b22)).ext E52).wr W55 (Or.inr sz_b52)).wr W56 (Or.inr sz_b31)).wr W61 (Or.inr sz_b52)).wr W62 (Or.inr sz_b39)).wr W68 (Or.inr sz_b52)).wr W69 (Or.inr sz_b47)).wr W75 (Or.inr sz_b52)).wr W76 (Or.inr sz_b31))
  have q88 := ((((((((((((((((q27.wr W25).ext E31).wr W35).ext E39).wr W43).ext E47).wr W51).ext E52).wr W55).wr W56).wr W61).wr W62).wr W68).wr W69).wr W75).wr W76)
  have q89 := (((((((((((((((((((((((Fw3.other W7 (Or.inr (slot_ne (Or.inr (w_ hw 32 rfl)) (Or.inr (w_ hw 34 rfl)) (by decide) (t := (.array .int)) (t' := .int) (by decide) (by decide)))).ext E11).other W15 (Or.inl ne_o0_b11)).other W17 (Or.inl ne_o0_b11)).other W19 (Or.inl ne_o0_b11)).other W21 (Or.inl ne_o0_b11)).ext E22).other W25 (Or.inr (slot_ne (Or.inr (w_ hw 32 rfl)) (Or.inr (w_ hw 38 rfl)) (by decide) (t := (.array .int)) (t' := (.array (.array .int))) (by decide) (by decide)))).ext E31).other W35 (Or.inl ne_o0_b22)).ext E39).other W43 (Or.inl ne_o0_b22)).ext E47).other W51 (Or.inl ne_o0_b22)).ext E52).other W55 (Or.inl ne_o0_b52)).other W56 (Or.inl ne_o0_b31)).other W61 (Or.inl ne_o0_b52)).other W62 (Or.inl ne_o0_b39)).other W68 (Or.inl ne_o0_b52)).other W69 (Or.inl ne_o0_b47)).other W75 (Or.inl ne_o0_b52)).other W76 (Or.inl ne_o0_b31))
  have q90 := ((((((((((((((((((((((Fw7.ext E11).other W15 (Or.inl ne_o0_b11)).other W17 (Or.inl ne_o0_b11)).other W19 (Or.inl ne_o0_b11)).other W21 (Or.inl ne_o0_b11)).ext E22).other W25 (Or.inr (slot_ne (Or.inr (w_ hw 34 rfl)) (Or.inr (w_ hw 38 rfl)) (by decide) (t := .int) (t' := (.array (.array .int))) (by decide) (by decide)))).ext E31).other W35 (Or.inl ne_o0_b22)).ext E39).other W43 (Or.inl ne_o0_b22)).ext E47).other W51 (Or.inl ne_o0_b22)).ext E52).other W55 (Or.inl ne_o0_b52)).other W56 (Or.inl ne_o0_b31)).other W61 (Or.inl ne_o0_b52)).other W62 (Or.inl ne_o0_b39)).other W68 (Or.inl ne_o0_b52)).other W69 (Or.inl ne_o0_b47)).other W75 (Or.inl ne_o0_b52)).other W76 (Or.inl ne_o0_b31))
  exact own_outV X76 hx hlk hret (hb hby d4_146) (Q := Q4c0120n3 Z o0 o1 o2 k2 h0 n0) (by rw [e76]; exact ⟨rfl, (Fr.snoc X76 (own_snoc (Fr.snoc X69 (own_snoc (Fr.snoc X62 (own_snoc (Fr.snoc X56 (own_snoc (Fr.snoc X51 (Fr.snoc X43 (Fr.snoc X35 (Fr.snoc X25 (Fr.snoc X21 (Fr.snoc X19 (Fr.snoc X17 (Fr.snoc X15 (Fr.snoc X7 (Fr.snoc X3 (Fr.snoc X2 N0 g_o0) g_o0) g_o0) g_b11) g_b11) g_b11) g_b11) g_o0) g_b22) g_b22) g_b22) g_b52) g_b31) g_b52) g_b39) g_b52) g_b47) g_b52) g_b31), q87, q88, q89, q90, (fun l a0 hw ws h' K o1 oc kc c0 c1 c2 c3 n1 Z1 Fc Vc => rm7r0120 l Z a0 hw ws o0 o1 b22 k22 b31 k31 b39 k39 b47 k47 oc kc c0 c1 c2 c3 h' n1 Z1 (q83.keep K nin0) (q84.keep K nin0) (V76.keep K nin0) (q85.keep K nin0) (q86.keep K nin0) Fc Vc)⟩) (by decide) (by decide)
theorem ef_7r0121 (m : MethodId) (x0 : Addr) (x1 : Addr) : entryFrame m #[(.ref x0), (.ref x1)] 10 = mkF m 0 #[.val (.ref x0), .val (.ref x1), .unset, .unset, .unset, .unset, .unset, .unset, .unset, .unset] [] := by first | (simp [entryFrame, mkF, argsToLocals, Value.category]; done) | rfl
def fr0121 (c0 : Int32) (c1 : Int32) (c2 : Int32) (c3 : Int32) : Int32 := if c3 = c1 then (1 : Int32)
  else (0 : Int32)
def Q7r0121 (Z : State) (o0 : Addr) (o1 : Addr) (cc : Addr) (kcc : ClassId) (d0 : Addr) (kd0 : ClassId) (d1 : Addr) (kd1 : ClassId) (d2 : Addr) (kd2 : ClassId) (oc : Addr) (kc : ClassId) (c0 : Int32) (c1 : Int32) (c2 : Int32) (c3 : Int32) (h0 : Heap) (n0 : Nat) (v : Option Value) (h : Heap) (L : List Loc) : Prop := v = some (.int (fr0121 c0 c1 c2 c3)) ∧ Fr n0 L ∧ h = h0
set_option maxRecDepth 65536 in
set_option maxHeartbeats 40000000 in
theorem rm7r0121 (l : Launch) (Z : State) (a0 : Array Value) (hw : ∀ d ∈ tables_1, d.before a0 Z = true) (ws : List Jvm.Cond) (o0 : Addr) (o1 : Addr) (cc : Addr) (kcc : ClassId) (d0 : Addr) (kd0 : ClassId) (d1 : Addr) (kd1 : ClassId) (d2 : Addr) (kd2 : ClassId) (oc : Addr) (kc : ClassId) (c0 : Int32) (c1 : Int32) (c2 : Int32) (c3 : Int32) (h0 : Heap) (n0 : Nat) (Z0 : n0 ≤ h0.size) (Fs : Fld Z h0 o0 "com/example/slimc/slimc/game/Observation" "classes" "[[I" (.ref cc)) (Vcc : Arv Z h0 cc kcc (.array .int) (3 : Int32) [(.ref d0), (.ref d1), (.ref d2)] .null) (Vd0 : Arv Z h0 d0 kd0 .int (1 : Int32) [(.int (0 : Int32))] (.int (0 : Int32))) (Vd1 : Arv Z h0 d1 kd1 .int (2 : Int32) [(.int (1 : Int32)), (.int (3 : Int32))] (.int (0 : Int32))) (Vd2 : Arv Z h0 d2 kd2 .int (1 : Int32) [(.int (2 : Int32))] (.int (0 : Int32))) (Fc : Fld Z h0 o1 "com/example/slimc/slimc/game/Observation" "classOf" "[I" (.ref oc)) (Vc : Arv Z h0 oc kc .int (4 : Int32) [(.int c0), (.int c1), (.int c2), (.int c3)] (.int (0 : Int32))) :
    MetFree l (⟨"com/example/slimc/slimc/game/Observation", "refines", "(Lcom/example/slimc/slimc/game/Observation;)Z"⟩ : MethodName) (head1 (Jvm.Cond.code (⟨"com/example/slimc/slimc/game/Observation", "refines", "(Lcom/example/slimc/slimc/game/Observation;)Z"⟩ : MethodName) prog_66_method_8_code 10 (some .boolean) :: ws) ({ frames := 0, cells := 0, slots := 0, locals := 0 } : Room)) (fun a U => a = #[(.ref o0), (.ref o1)] ∧ Z.Warmed39 U.vm ∧ U.heap = h0) (fun _ _ _ _ _ => True) (fun _ U o U' => ∃ v L, o = .returned v ∧ Q7r0121 Z o0 o1 cc kcc d0 kd0 d1 kd1 d2 kd2 oc kc c0 c1 c2 c3 h0 n0 v U'.heap L ∧ FrameEnd U o U' L ({ frames := 0, cells := 0, slots := 0, locals := 0 } : Room).cells ({ frames := 0, cells := 0, slots := 0, locals := 0 } : Room).slots) := by
  refine MetFree.of_bodySF (plainFor_of_name pn_1) hisR ?_
  intro p e s m args below meth c s₁ Bd hml0 hP hK
  obtain ⟨rfl, hZ, hh⟩ := hP
  have hx := Bd.exec
  have hby := Bd.bytes
  have hml : c.maxLocals = 10 := hml0
  have hown : s.vm.findClass "com/example/slimc/slimc/game/Observation" = some m.cls := findClass_of_methodNamed Bd.named
  have hnm := (name_of_methodNamed Bd.named Bd.method).1
  have X0 : Stand p l e ({ frames := 0, cells := 0, slots := 0, locals := 0 } : Room) s m #[(.ref o0), (.ref o1)] below meth c s₁ [] 0 0 := Stand.of_body Bd
  have e0 : s₁.heap = h0 := by rw [← hh, Bd.state]; rfl
  have N0 := Fr.nil n0
  have hret := Bd.returns
  have hlk := BodyLoose.notSynchronized Bd
  show own_Out p e below (fun o U' => ∃ v L, o = .returned v ∧ Q7r0121 Z o0 o1 cc kcc d0 kd0 d1 kd1 d2 kd2 oc kc c0 c1 c2 c3 h0 n0 v U'.heap L ∧ FrameEnd s o U' L ({ frames := 0, cells := 0, slots := 0, locals := 0 } : Room).cells ({ frames := 0, cells := 0, slots := 0, locals := 0 } : Room).slots) (s₁.setTop (entryFrame m #[(.ref o0), (.ref o1)] 10))
  refine own_of (fun t k => castTop (ef_7r0121 m o0 o1) k) ?_
  show own_Out p e below _ (s₁.setTop (mkF m 0 #[rv o0, rv o1, .unset, .unset, .unset, .unset, .unset, .unset, .unset, .unset] []))
  refine o_aloadN X0 hx hby d7_0 rfl rfl (q := 1) rfl ?_
  refine o_getF X0 hx hZ hown hby (w_ hw 37 rfl) Via.refl e0 Fs d7_1 (q := 4) rfl fun T1 X1 e1 => ?_
  refine o_astoreN X1 hx hby d7_4 rfl (l' := #[rv o0, rv o1, rv cc, .unset, .unset, .unset, .unset, .unset, .unset, .unset]) rfl (q := 5) rfl ?_
  refine o_aloadN X1 hx hby d7_5 rfl rfl (q := 6) rfl ?_
  refine o_lenV X1 hx hby hZ e1 Vcc d7_6 (q := 7) rfl ?_
  refine o_istoreN X1 hx hby d7_7 (l' := #[rv o0, rv o1, rv cc, iv 3, .unset, .unset, .unset, .unset, .unset, .unset]) rfl (q := 8) rfl ?_
  refine o_iconst X1 hx hby d7_8 (z := 0) rfl (q := 9) rfl ?_
  refine o_istore X1 hx hby d7_9 (l' := #[rv o0, rv o1, rv cc, iv 3, iv 0, .unset, .unset, .unset, .unset, .unset]) rfl (q := 11) rfl ?_
  refine o_iload X1 hx hby d7_11 rfl (q := 13) rfl ?_
  refine o_iloadN X1 hx hby d7_13 rfl (q := 14) rfl ?_
  refine o_icN X1 hx hby d7_14 (tlt (by decide : (0 : Int32) < (3 : Int32))).2.1 (q := 17) rfl ?_
  refine o_aloadN X1 hx hby d7_17 rfl rfl (q := 18) rfl ?_
  refine o_iload X1 hx hby d7_18 rfl (q := 20) rfl ?_
  refine o_aaV X1 hx hby hZ e1 Vcc rfl ⟨by decide, by decide⟩ (v := .ref d0) rfl d7_20 (q := 21) rfl ?_
  refine o_astore X1 hx hby d7_21 rfl (l' := #[rv o0, rv o1, rv cc, iv 3, iv 0, rv d0, .unset, .unset, .unset, .unset]) rfl (q := 23) rfl ?_
  refine o_aload X1 hx hby d7_23 rfl rfl (q := 25) rfl ?_
  refine o_astore X1 hx hby d7_25 rfl (l' := #[rv o0, rv o1, rv cc, iv 3, iv 0, rv d0, rv d0, .unset, .unset, .unset]) rfl (q := 27) rfl ?_
  refine o_aload X1 hx hby d7_27 rfl rfl (q := 29) rfl ?_
  refine o_lenV X1 hx hby hZ e1 Vd0 d7_29 (q := 30) rfl ?_
  refine o_istore X1 hx hby d7_30 (l' := #[rv o0, rv o1, rv cc, iv 3, iv 0, rv d0, rv d0, iv 1, .unset, .unset]) rfl (q := 32) rfl ?_
  refine o_iconst X1 hx hby d7_32 (z := 0) rfl (q := 33) rfl ?_
  refine o_istore X1 hx hby d7_33 (l' := #[rv o0, rv o1, rv cc, iv 3, iv 0, rv d0, rv d0, iv 1, iv 0, .unset]) rfl (q := 35) rfl ?_
  refine o_iload X1 hx hby d7_35 rfl (q := 37) rfl ?_
  refine o_iload X1 hx hby d7_37 rfl (q := 39) rfl ?_
  refine o_icN X1 hx hby d7_39 (tlt (by decide : (0 : Int32) < (1 : Int32))).2.1 (q := 42) rfl ?_
  refine o_aload X1 hx hby d7_42 rfl rfl (q := 44) rfl ?_
  refine o_iload X1 hx hby d7_44 rfl (q := 46) rfl ?_
  refine o_iaV X1 hx hby hZ e1 Vd0 ⟨by decide, by decide⟩ (v := .int 0) rfl d7_46 (q := 47) rfl ?_
  refine o_istore X1 hx hby d7_47 (l' := #[rv o0, rv o1, rv cc, iv 3, iv 0, rv d0, rv d0, iv 1, iv 0, iv 0]) rfl (q := 49) rfl ?_
  refine o_aloadN X1 hx hby d7_49 rfl rfl (q := 50) rfl ?_
  refine o_getF X1 hx hZ hown hby (w_ hw 31 rfl) Via.refl e1 Fc d7_50 (q := 53) rfl fun T2 X2 e2 => ?_
  refine o_iload X2 hx hby d7_53 rfl (q := 55) rfl ?_
  refine o_iaV X2 hx hby hZ e2 Vc ⟨by decide, by decide⟩ (v := .int c0) rfl d7_55 (q := 56) rfl ?_
  refine o_aloadN X2 hx hby d7_56 rfl rfl (q := 57) rfl ?_
  refine o_getF X2 hx hZ hown hby (w_ hw 31 rfl) Via.refl e2 Fc d7_57 (q := 60) rfl fun T3 X3 e3 => ?_
  refine o_aload X3 hx hby d7_60 rfl rfl (q := 62) rfl ?_
  refine o_iconst X3 hx hby d7_62 (z := 0) rfl (q := 63) rfl ?_
  refine o_iaV X3 hx hby hZ e3 Vd0 ⟨by decide, by decide⟩ (v := .int 0) rfl d7_63 (q := 64) rfl ?_
  refine o_iaV X3 hx hby hZ e3 Vc ⟨by decide, by decide⟩ (v := .int c0) rfl d7_64 (q := 65) rfl ?_
  refine o_icY X3 hx hby d7_65 (teq (rfl : c0 = c0)).1 (by decide) (q := 70) (by decide) ?_
  refine o_iinc X3 hx hby d7_70 rfl (l' := #[rv o0, rv o1, rv cc, iv 3, iv 0, rv d0, rv d0, iv 1, iv 1, iv 0]) rfl (q := 73) rfl ?_
  refine o_goto X3 hx hby d7_73 (by decide) (q := 35) (by decide) ?_
  refine o_iload X3 hx hby d7_35 rfl (q := 37) rfl ?_
  refine o_iload X3 hx hby d7_37 rfl (q := 39) rfl ?_
  refine o_icY X3 hx hby d7_39 (flt (by decide : ¬ ((1 : Int32) < (1 : Int32)))).2.1 (by decide) (q := 76) (by decide) ?_
  refine o_iinc X3 hx hby d7_76 rfl (l' := #[rv o0, rv o1, rv cc, iv 3, iv 1, rv d0, rv d0, iv 1, iv 1, iv 0]) rfl (q := 79) rfl ?_
  refine o_goto X3 hx hby d7_79 (by decide) (q := 11) (by decide) ?_
  refine o_iload X3 hx hby d7_11 rfl (q := 13) rfl ?_
  refine o_iloadN X3 hx hby d7_13 rfl (q := 14) rfl ?_
  refine o_icN X3 hx hby d7_14 (tlt (by decide : (1 : Int32) < (3 : Int32))).2.1 (q := 17) rfl ?_
  refine o_aloadN X3 hx hby d7_17 rfl rfl (q := 18) rfl ?_
  refine o_iload X3 hx hby d7_18 rfl (q := 20) rfl ?_
  refine o_aaV X3 hx hby hZ e3 Vcc rfl ⟨by decide, by decide⟩ (v := .ref d1) rfl d7_20 (q := 21) rfl ?_
  refine o_astore X3 hx hby d7_21 rfl (l' := #[rv o0, rv o1, rv cc, iv 3, iv 1, rv d1, rv d0, iv 1, iv 1, iv 0]) rfl (q := 23) rfl ?_
  refine o_aload X3 hx hby d7_23 rfl rfl (q := 25) rfl ?_
  refine o_astore X3 hx hby d7_25 rfl (l' := #[rv o0, rv o1, rv cc, iv 3, iv 1, rv d1, rv d1, iv 1, iv 1, iv 0]) rfl (q := 27) rfl ?_
  refine o_aload X3 hx hby d7_27 rfl rfl (q := 29) rfl ?_
  refine o_lenV X3 hx hby hZ e3 Vd1 d7_29 (q := 30) rfl ?_
  refine o_istore X3 hx hby d7_30 (l' := #[rv o0, rv o1, rv cc, iv 3, iv 1, rv d1, rv d1, iv 2, iv 1, iv 0]) rfl (q := 32) rfl ?_
  refine o_iconst X3 hx hby d7_32 (z := 0) rfl (q := 33) rfl ?_
  refine o_istore X3 hx hby d7_33 (l' := #[rv o0, rv o1, rv cc, iv 3, iv 1, rv d1, rv d1, iv 2, iv 0, iv 0]) rfl (q := 35) rfl ?_
  refine o_iload X3 hx hby d7_35 rfl (q := 37) rfl ?_
  refine o_iload X3 hx hby d7_37 rfl (q := 39) rfl ?_
  refine o_icN X3 hx hby d7_39 (tlt (by decide : (0 : Int32) < (2 : Int32))).2.1 (q := 42) rfl ?_
  refine o_aload X3 hx hby d7_42 rfl rfl (q := 44) rfl ?_
  refine o_iload X3 hx hby d7_44 rfl (q := 46) rfl ?_
  refine o_iaV X3 hx hby hZ e3 Vd1 ⟨by decide, by decide⟩ (v := .int 1) rfl d7_46 (q := 47) rfl ?_
  refine o_istore X3 hx hby d7_47 (l' := #[rv o0, rv o1, rv cc, iv 3, iv 1, rv d1, rv d1, iv 2, iv 0, iv 1]) rfl (q := 49) rfl ?_
  refine o_aloadN X3 hx hby d7_49 rfl rfl (q := 50) rfl ?_
  refine o_getF X3 hx hZ hown hby (w_ hw 31 rfl) Via.refl e3 Fc d7_50 (q := 53) rfl fun T4 X4 e4 => ?_
  refine o_iload X4 hx hby d7_53 rfl (q := 55) rfl ?_
  refine o_iaV X4 hx hby hZ e4 Vc ⟨by decide, by decide⟩ (v := .int c1) rfl d7_55 (q := 56) rfl ?_
  refine o_aloadN X4 hx hby d7_56 rfl rfl (q := 57) rfl ?_
  refine o_getF X4 hx hZ hown hby (w_ hw 31 rfl) Via.refl e4 Fc d7_57 (q := 60) rfl fun T5 X5 e5 => ?_
  refine o_aload X5 hx hby d7_60 rfl rfl (q := 62) rfl ?_
  refine o_iconst X5 hx hby d7_62 (z := 0) rfl (q := 63) rfl ?_
  refine o_iaV X5 hx hby hZ e5 Vd1 ⟨by decide, by decide⟩ (v := .int 1) rfl d7_63 (q := 64) rfl ?_
  refine o_iaV X5 hx hby hZ e5 Vc ⟨by decide, by decide⟩ (v := .int c1) rfl d7_64 (q := 65) rfl ?_
  refine o_icY X5 hx hby d7_65 (teq (rfl : c1 = c1)).1 (by decide) (q := 70) (by decide) ?_
  refine o_iinc X5 hx hby d7_70 rfl (l' := #[rv o0, rv o1, rv cc, iv 3, iv 1, rv d1, rv d1, iv 2, iv 1, iv 1]) rfl (q := 73) rfl ?_
  refine o_goto X5 hx hby d7_73 (by decide) (q := 35) (by decide) ?_
  refine o_iload X5 hx hby d7_35 rfl (q := 37) rfl ?_
  refine o_iload X5 hx hby d7_37 rfl (q := 39) rfl ?_
  refine o_icN X5 hx hby d7_39 (tlt (by decide : (1 : Int32) < (2 : Int32))).2.1 (q := 42) rfl ?_
  refine o_aload X5 hx hby d7_42 rfl rfl (q := 44) rfl ?_
  refine o_iload X5 hx hby d7_44 rfl (q := 46) rfl ?_
  refine o_iaV X5 hx hby hZ e5 Vd1 ⟨by decide, by decide⟩ (v := .int 3) rfl d7_46 (q := 47) rfl ?_
  refine o_istore X5 hx hby d7_47 (l' := #[rv o0, rv o1, rv cc, iv 3, iv 1, rv d1, rv d1, iv 2, iv 1, iv 3]) rfl (q := 49) rfl ?_
  refine o_aloadN X5 hx hby d7_49 rfl rfl (q := 50) rfl ?_
  refine o_getF X5 hx hZ hown hby (w_ hw 31 rfl) Via.refl e5 Fc d7_50 (q := 53) rfl fun T6 X6 e6 => ?_
  refine o_iload X6 hx hby d7_53 rfl (q := 55) rfl ?_
  refine o_iaV X6 hx hby hZ e6 Vc ⟨by decide, by decide⟩ (v := .int c3) rfl d7_55 (q := 56) rfl ?_
  refine o_aloadN X6 hx hby d7_56 rfl rfl (q := 57) rfl ?_
  refine o_getF X6 hx hZ hown hby (w_ hw 31 rfl) Via.refl e6 Fc d7_57 (q := 60) rfl fun T7 X7 e7 => ?_
  refine o_aload X7 hx hby d7_60 rfl rfl (q := 62) rfl ?_
  refine o_iconst X7 hx hby d7_62 (z := 0) rfl (q := 63) rfl ?_
  refine o_iaV X7 hx hby hZ e7 Vd1 ⟨by decide, by decide⟩ (v := .int 1) rfl d7_63 (q := 64) rfl ?_
  refine o_iaV X7 hx hby hZ e7 Vc ⟨by decide, by decide⟩ (v := .int c1) rfl d7_64 (q := 65) rfl ?_
  by_cases hc65_8 : c3 = c1
  · skip
    refine o_icY X7 hx hby d7_65 (teq hc65_8).1 (by decide) (q := 70) (by decide) ?_
    refine o_iinc X7 hx hby d7_70 rfl (l' := #[rv o0, rv o1, rv cc, iv 3, iv 1, rv d1, rv d1, iv 2, iv 2, iv 3]) rfl (q := 73) rfl ?_
    refine o_goto X7 hx hby d7_73 (by decide) (q := 35) (by decide) ?_
    refine o_iload X7 hx hby d7_35 rfl (q := 37) rfl ?_
    refine o_iload X7 hx hby d7_37 rfl (q := 39) rfl ?_
    refine o_icY X7 hx hby d7_39 (flt (by decide : ¬ ((2 : Int32) < (2 : Int32)))).2.1 (by decide) (q := 76) (by decide) ?_
    refine o_iinc X7 hx hby d7_76 rfl (l' := #[rv o0, rv o1, rv cc, iv 3, iv 2, rv d1, rv d1, iv 2, iv 2, iv 3]) rfl (q := 79) rfl ?_
    refine o_goto X7 hx hby d7_79 (by decide) (q := 11) (by decide) ?_
    refine o_iload X7 hx hby d7_11 rfl (q := 13) rfl ?_
    refine o_iloadN X7 hx hby d7_13 rfl (q := 14) rfl ?_
    refine o_icN X7 hx hby d7_14 (tlt (by decide : (2 : Int32) < (3 : Int32))).2.1 (q := 17) rfl ?_
    refine o_aloadN X7 hx hby d7_17 rfl rfl (q := 18) rfl ?_
    refine o_iload X7 hx hby d7_18 rfl (q := 20) rfl ?_
    refine o_aaV X7 hx hby hZ e7 Vcc rfl ⟨by decide, by decide⟩ (v := .ref d2) rfl d7_20 (q := 21) rfl ?_
    refine o_astore X7 hx hby d7_21 rfl (l' := #[rv o0, rv o1, rv cc, iv 3, iv 2, rv d2, rv d1, iv 2, iv 2, iv 3]) rfl (q := 23) rfl ?_
    refine o_aload X7 hx hby d7_23 rfl rfl (q := 25) rfl ?_
    refine o_astore X7 hx hby d7_25 rfl (l' := #[rv o0, rv o1, rv cc, iv 3, iv 2, rv d2, rv d2, iv 2, iv 2, iv 3]) rfl (q := 27) rfl ?_
    refine o_aload X7 hx hby d7_27 rfl rfl (q := 29) rfl ?_
    refine o_lenV X7 hx hby hZ e7 Vd2 d7_29 (q := 30) rfl ?_
    refine o_istore X7 hx hby d7_30 (l' := #[rv o0, rv o1, rv cc, iv 3, iv 2, rv d2, rv d2, iv 1, iv 2, iv 3]) rfl (q := 32) rfl ?_
    refine o_iconst X7 hx hby d7_32 (z := 0) rfl (q := 33) rfl ?_
    refine o_istore X7 hx hby d7_33 (l' := #[rv o0, rv o1, rv cc, iv 3, iv 2, rv d2, rv d2, iv 1, iv 0, iv 3]) rfl (q := 35) rfl ?_
    refine o_iload X7 hx hby d7_35 rfl (q := 37) rfl ?_
    refine o_iload X7 hx hby d7_37 rfl (q := 39) rfl ?_
    refine o_icN X7 hx hby d7_39 (tlt (by decide : (0 : Int32) < (1 : Int32))).2.1 (q := 42) rfl ?_
    refine o_aload X7 hx hby d7_42 rfl rfl (q := 44) rfl ?_
    refine o_iload X7 hx hby d7_44 rfl (q := 46) rfl ?_
    refine o_iaV X7 hx hby hZ e7 Vd2 ⟨by decide, by decide⟩ (v := .int 2) rfl d7_46 (q := 47) rfl ?_
    refine o_istore X7 hx hby d7_47 (l' := #[rv o0, rv o1, rv cc, iv 3, iv 2, rv d2, rv d2, iv 1, iv 0, iv 2]) rfl (q := 49) rfl ?_
    refine o_aloadN X7 hx hby d7_49 rfl rfl (q := 50) rfl ?_
    refine o_getF X7 hx hZ hown hby (w_ hw 31 rfl) Via.refl e7 Fc d7_50 (q := 53) rfl fun T9 X9 e9 => ?_
    refine o_iload X9 hx hby d7_53 rfl (q := 55) rfl ?_
    refine o_iaV X9 hx hby hZ e9 Vc ⟨by decide, by decide⟩ (v := .int c2) rfl d7_55 (q := 56) rfl ?_
    refine o_aloadN X9 hx hby d7_56 rfl rfl (q := 57) rfl ?_
    refine o_getF X9 hx hZ hown hby (w_ hw 31 rfl) Via.refl e9 Fc d7_57 (q := 60) rfl fun T10 X10 e10 => ?_
    refine o_aload X10 hx hby d7_60 rfl rfl (q := 62) rfl ?_
    refine o_iconst X10 hx hby d7_62 (z := 0) rfl (q := 63) rfl ?_
    refine o_iaV X10 hx hby hZ e10 Vd2 ⟨by decide, by decide⟩ (v := .int 2) rfl d7_63 (q := 64) rfl ?_
    refine o_iaV X10 hx hby hZ e10 Vc ⟨by decide, by decide⟩ (v := .int c2) rfl d7_64 (q := 65) rfl ?_
    refine o_icY X10 hx hby d7_65 (teq (rfl : c2 = c2)).1 (by decide) (q := 70) (by decide) ?_
    refine o_iinc X10 hx hby d7_70 rfl (l' := #[rv o0, rv o1, rv cc, iv 3, iv 2, rv d2, rv d2, iv 1, iv 1, iv 2]) rfl (q := 73) rfl ?_
    refine o_goto X10 hx hby d7_73 (by decide) (q := 35) (by decide) ?_
    refine o_iload X10 hx hby d7_35 rfl (q := 37) rfl ?_
    refine o_iload X10 hx hby d7_37 rfl (q := 39) rfl ?_
    refine o_icY X10 hx hby d7_39 (flt (by decide : ¬ ((1 : Int32) < (1 : Int32)))).2.1 (by decide) (q := 76) (by decide) ?_
    refine o_iinc X10 hx hby d7_76 rfl (l' := #[rv o0, rv o1, rv cc, iv 3, iv 3, rv d2, rv d2, iv 1, iv 1, iv 2]) rfl (q := 79) rfl ?_
    refine o_goto X10 hx hby d7_79 (by decide) (q := 11) (by decide) ?_
    refine o_iload X10 hx hby d7_11 rfl (q := 13) rfl ?_
    refine o_iloadN X10 hx hby d7_13 rfl (q := 14) rfl ?_
    refine o_icY X10 hx hby d7_14 (flt (by decide : ¬ ((3 : Int32) < (3 : Int32)))).2.1 (by decide) (q := 82) (by decide) ?_
    refine o_iconst X10 hx hby d7_82 (z := 1) rfl (q := 83) rfl ?_
    exact own_outN X10 hx hlk (t := .boolean) hret (by simp) (hb hby d7_83) (z' := (1 : Int32)) rfl (Q := Q7r0121 Z o0 o1 cc kcc d0 kd0 d1 kd1 d2 kd2 oc kc c0 c1 c2 c3 h0 n0) ⟨by simp only [fr0121, if_pos hc65_8], N0, e10⟩ (by decide) (by decide)
  · skip
    refine o_icN X7 hx hby d7_65 (feq hc65_8).1 (q := 68) rfl ?_
    refine o_iconst X7 hx hby d7_68 (z := 0) rfl (q := 69) rfl ?_
    exact own_outN X7 hx hlk (t := .boolean) hret (by simp) (hb hby d7_69) (z' := (0 : Int32)) rfl (Q := Q7r0121 Z o0 o1 cc kcc d0 kd0 d1 kd1 d2 kd2 oc kc c0 c1 c2 c3 h0 n0) ⟨by simp only [fr0121, if_neg hc65_8], N0, e7⟩ (by decide) (by decide)
theorem ef_4c0121n3 (m : MethodId) (x0 : Addr) (x1 : Addr) (x2 : Addr) : entryFrame m #[(.ref x0), (.ref x1), (.ref x2), (.int (3 : Int32))] 9 = mkF m 0 #[.val (.ref x0), .val (.ref x1), .val (.ref x2), .val (.int (3 : Int32)), .unset, .unset, .unset, .unset, .unset] [] := by first | (simp [entryFrame, mkF, argsToLocals, Value.category]; done) | rfl
def Q4c0121n3 (Z : State) (o0 : Addr) (o1 : Addr) (o2 : Addr) (k2 : ClassId) (h0 : Heap) (n0 : Nat) (v : Option Value) (h : Heap) (L : List Loc) : Prop := v = none ∧ Fr n0 L ∧ Keep h0 h [o0] ∧ Exa Z h o0 "com/example/slimc/slimc/game/Observation" ∧ Fld Z h o0 "com/example/slimc/slimc/game/Observation" "classOf" "[I" (.ref o2) ∧ Fld Z h o0 "com/example/slimc/slimc/game/Observation" "classCount" "I" (.int (3 : Int32)) ∧ RefOk Z h o0 fr0121
set_option maxRecDepth 65536 in
set_option maxHeartbeats 40000000 in
theorem rm4c0121n3 (l : Launch) (Z : State) (a0 : Array Value) (hw : ∀ d ∈ tables_1, d.before a0 Z = true) (ws : List Jvm.Cond) (o0 : Addr) (o1 : Addr) (o2 : Addr) (k2 : ClassId) (h0 : Heap) (n0 : Nat) (Z0 : n0 ≤ h0.size) (E : Exa Z h0 o0 "com/example/slimc/slimc/game/Observation") (F_name : Fld Z h0 o0 "com/example/slimc/slimc/game/Observation" "name" "Ljava/lang/String;" .null) (F_classOf : Fld Z h0 o0 "com/example/slimc/slimc/game/Observation" "classOf" "[I" .null) (F_classCount : Fld Z h0 o0 "com/example/slimc/slimc/game/Observation" "classCount" "I" (.int (0 : Int32))) (F_classes : Fld Z h0 o0 "com/example/slimc/slimc/game/Observation" "classes" "[[I" .null) (g_o0 : n0 ≤ o0) (V : Arv Z h0 o2 k2 .int (4 : Int32) [(.int (0 : Int32)), (.int (1 : Int32)), (.int (2 : Int32)), (.int (1 : Int32))] (.int (0 : Int32))) (n2 : o2 ≠ o0) :
    MetFree l (⟨"com/example/slimc/slimc/game/Observation", "<init>", "(Ljava/lang/String;[II)V"⟩ : MethodName) (head1 (Jvm.Cond.code (⟨"com/example/slimc/slimc/game/Observation", "<init>", "(Ljava/lang/String;[II)V"⟩ : MethodName) prog_66_method_1_code 9 none :: ws) ({ frames := 1, cells := 7, slots := 16, locals := 14 } : Room)) (fun a U => a = #[(.ref o0), (.ref o1), (.ref o2), (.int (3 : Int32))] ∧ Z.Warmed39 U.vm ∧ U.heap = h0) (fun _ _ _ _ _ => True) (fun _ U o U' => ∃ v L, o = .returned v ∧ Q4c0121n3 Z o0 o1 o2 k2 h0 n0 v U'.heap L ∧ FrameEnd U o U' L ({ frames := 1, cells := 7, slots := 16, locals := 14 } : Room).cells ({ frames := 1, cells := 7, slots := 16, locals := 14 } : Room).slots) := by
  refine MetFree.of_bodySF (plainFor_of_name pn_1) hisR ?_
  intro p e s m args below meth c s₁ Bd hml0 hP hK
  obtain ⟨rfl, hZ, hh⟩ := hP
  have hx := Bd.exec
  have hby := Bd.bytes
  have hml : c.maxLocals = 9 := hml0
  have hown : s.vm.findClass "com/example/slimc/slimc/game/Observation" = some m.cls := findClass_of_methodNamed Bd.named
  have hnm := (name_of_methodNamed Bd.named Bd.method).1
  have X0 : Stand p l e ({ frames := 1, cells := 7, slots := 16, locals := 14 } : Room) s m #[(.ref o0), (.ref o1), (.ref o2), (.int (3 : Int32))] below meth c s₁ [] 0 0 := Stand.of_body Bd
  have e0 : s₁.heap = h0 := by rw [← hh, Bd.state]; rfl
  have N0 := Fr.nil n0
  have hret := Bd.returns
  have hlk := BodyLoose.notSynchronized Bd
  show own_Out p e below (fun o U' => ∃ v L, o = .returned v ∧ Q4c0121n3 Z o0 o1 o2 k2 h0 n0 v U'.heap L ∧ FrameEnd s o U' L ({ frames := 1, cells := 7, slots := 16, locals := 14 } : Room).cells ({ frames := 1, cells := 7, slots := 16, locals := 14 } : Room).slots) (s₁.setTop (entryFrame m #[(.ref o0), (.ref o1), (.ref o2), (.int (3 : Int32))] 9))
  refine own_of (fun t k => castTop (ef_4c0121n3 m o0 o1 o2) k) ?_
  show own_Out p e below _ (s₁.setTop (mkF m 0 #[rv o0, rv o1, rv o2, iv 3, .unset, .unset, .unset, .unset, .unset] []))
  refine o_aloadN X0 hx hby d4_0 rfl rfl (q := 1) rfl ?_
  obtain ⟨T1, X1, e1, st1⟩ := initO X0 hx hZ hown (w_ hw 26 rfl) (w_ hw 27 rfl) (w_ hw 28 rfl) e0 (g := (mkF m 1 #[rv o0, rv o1, rv o2, iv 3, .unset, .unset, .unset, .unset, .unset] [.ref o0])) rfl (by rw [hml]; rfl) rfl (hb hby d4_1) (by decide) (W := 0) (by show 2 * 0 + _ ≤ _; exact Nat.le_of_eq rfl) (by decide)
  refine own_of st1 ?_
  show own_Out p e below _ (T1.setTop (mkF m 4 #[rv o0, rv o1, rv o2, iv 3, .unset, .unset, .unset, .unset, .unset] []))
  refine o_aloadN X1 hx hby d4_4 rfl rfl (q := 5) rfl ?_
  refine o_aloadN X1 hx hby d4_5 rfl rfl (q := 6) rfl ?_
  obtain ⟨T2, h2, X2, e2, W2, st2⟩ := putF X1 hx hZ hown (host := "") (Or.inl (w_ hw 29 rfl)) Via.refl e1 F_name E (Or.inr ⟨(w_ hw 30 rfl), rfl, hnm⟩) (w_ hw 10 rfl) (ty := (.object "java/lang/String")) (by decide) rfl rfl (g := (mkF m 6 #[rv o0, rv o1, rv o2, iv 3, .unset, .unset, .unset, .unset, .unset] [.ref o1, .ref o0])) rfl rfl (hb hby d4_6)
  have Fw2 := F_name.same W2
  refine own_of st2 ?_
  show own_Out p e below _ (T2.setTop (mkF m 9 #[rv o0, rv o1, rv o2, iv 3, .unset, .unset, .unset, .unset, .unset] []))
  refine o_aloadN X2 hx hby d4_9 rfl rfl (q := 10) rfl ?_
  refine o_aloadN X2 hx hby d4_10 rfl rfl (q := 11) rfl ?_
  have q4 := (F_classOf.other W2 (Or.inr (slot_ne (Or.inr (w_ hw 32 rfl)) (Or.inr (w_ hw 30 rfl)) (by decide) (t := (.array .int)) (t' := (.object "java/lang/String")) (by decide) (by decide))))
  have q5 := (E.wr W2)
  obtain ⟨T3, h3, X3, e3, W3, st3⟩ := putF X2 hx hZ hown (host := "") (Or.inl (w_ hw 31 rfl)) Via.refl e2 q4 q5 (Or.inr ⟨(w_ hw 32 rfl), rfl, hnm⟩) (w_ hw 10 rfl) (ty := (.array .int)) (by decide) rfl rfl (g := (mkF m 11 #[rv o0, rv o1, rv o2, iv 3, .unset, .unset, .unset, .unset, .unset] [.ref o2, .ref o0])) rfl rfl (hb hby d4_11)
  have q6 := (F_classOf.other W2 (Or.inr (slot_ne (Or.inr (w_ hw 32 rfl)) (Or.inr (w_ hw 30 rfl)) (by decide) (t := (.array .int)) (t' := (.object "java/lang/String")) (by decide) (by decide))))
  have Fw3 := q6.same W3
  refine own_of st3 ?_
  show own_Out p e below _ (T3.setTop (mkF m 14 #[rv o0, rv o1, rv o2, iv 3, .unset, .unset, .unset, .unset, .unset] []))
  refine o_aloadN X3 hx hby d4_14 rfl rfl (q := 15) rfl ?_
  refine o_iloadN X3 hx hby d4_15 rfl (q := 16) rfl ?_
  have q8 := ((F_classCount.other W2 (Or.inr (slot_ne (Or.inr (w_ hw 34 rfl)) (Or.inr (w_ hw 30 rfl)) (by decide) (t := .int) (t' := (.object "java/lang/String")) (by decide) (by decide)))).other W3 (Or.inr (slot_ne (Or.inr (w_ hw 34 rfl)) (Or.inr (w_ hw 32 rfl)) (by decide) (t := .int) (t' := (.array .int)) (by decide) (by decide))))
  have q9 := (q5.wr W3)
  obtain ⟨T7, h7, X7, e7, W7, st7⟩ := putF X3 hx hZ hown (host := "") (Or.inl (w_ hw 33 rfl)) Via.refl e3 q8 q9 (Or.inr ⟨(w_ hw 34 rfl), rfl, hnm⟩) (w_ hw 10 rfl) (ty := .int) (by decide) rfl rfl (g := (mkF m 16 #[rv o0, rv o1, rv o2, iv 3, .unset, .unset, .unset, .unset, .unset] [.int 3, .ref o0])) rfl rfl (hb hby d4_16)
  have q10 := ((F_classCount.other W2 (Or.inr (slot_ne (Or.inr (w_ hw 34 rfl)) (Or.inr (w_ hw 30 rfl)) (by decide) (t := .int) (t' := (.object "java/lang/String")) (by decide) (by decide)))).other W3 (Or.inr (slot_ne (Or.inr (w_ hw 34 rfl)) (Or.inr (w_ hw 32 rfl)) (by decide) (t := .int) (t' := (.array .int)) (by decide) (by decide))))
  have Fw7 := q10.same W7
  refine own_of st7 ?_
  show own_Out p e below _ (T7.setTop (mkF m 19 #[rv o0, rv o1, rv o2, iv 3, .unset, .unset, .unset, .unset, .unset] []))
  refine o_iloadN X7 hx hby d4_19 rfl (q := 20) rfl ?_
  obtain ⟨T11, h11, k11, X11, e11, E11, A11, Ex11, st11⟩ := newPE X7 hx hZ (w_ hw 4 rfl) e7 (g := (mkF m 20 #[rv o0, rv o1, rv o2, iv 3, .unset, .unset, .unset, .unset, .unset] [.int 3])) rfl (hb hby d4_20) rfl (by decide) (cap := 3) (by decide) (by decide) (by decide) (by decide) (ad := "[I") (by decide +kernel)
  obtain ⟨b11, g11⟩ : ∃ z, z = h7.size := ⟨_, rfl⟩
  rw [← g11] at A11 Ex11 st11
  have q12 := (Nat.le_trans (Nat.le_trans (Nat.le_trans Z0 (Keep.of_wr W2).1) (Keep.of_wr W3).1) (Keep.of_wr W7).1)
  have g_b11 : n0 ≤ b11 := Nat.le_trans q12 (Nat.le_of_eq g11.symm)
  have q13 := (Nat.le_trans (Nat.le_trans (Nat.le_trans (Nat.le_refl h0.size) (Keep.of_wr W2).1) (Keep.of_wr W3).1) (Keep.of_wr W7).1)
  have sz_b11 : h0.size ≤ b11 := Nat.le_trans q13 (Nat.le_of_eq g11.symm)
  have V_b11 : Arv Z h11 b11 k11 .int (3 : Int32) [(.int (0 : Int32)), (.int (0 : Int32)), (.int (0 : Int32))] (.int (0 : Int32)) := (Arv.new A11 (by decide)).pad (pad_rep [] (.int (0 : Int32)) 3)
  refine own_of st11 ?_
  show own_Out p e below _ (T11.setTop (mkF m 22 #[rv o0, rv o1, rv o2, iv 3, .unset, .unset, .unset, .unset, .unset] [.ref b11]))
  refine o_astore X11 hx hby d4_22 rfl (l' := #[rv o0, rv o1, rv o2, iv 3, rv b11, .unset, .unset, .unset, .unset]) rfl (q := 24) rfl ?_
  refine o_aloadN X11 hx hby d4_24 rfl rfl (q := 25) rfl ?_
  refine o_astore X11 hx hby d4_25 rfl (l' := #[rv o0, rv o1, rv o2, iv 3, rv b11, rv o2, .unset, .unset, .unset]) rfl (q := 27) rfl ?_
  refine o_aload X11 hx hby d4_27 rfl rfl (q := 29) rfl ?_
  have q14 := ((((V.other W2 n2).other W3 n2).other W7 n2).ext E11)
  refine o_lenV X11 hx hby hZ e11 q14 d4_29 (q := 30) rfl ?_
  refine o_istore X11 hx hby d4_30 (l' := #[rv o0, rv o1, rv o2, iv 3, rv b11, rv o2, iv 4, .unset, .unset]) rfl (q := 32) rfl ?_
  refine o_iconst X11 hx hby d4_32 (z := 0) rfl (q := 33) rfl ?_
  refine o_istore X11 hx hby d4_33 (l' := #[rv o0, rv o1, rv o2, iv 3, rv b11, rv o2, iv 4, iv 0, .unset]) rfl (q := 35) rfl ?_
  refine t1 X11 hx hby hZ e11 q14 V_b11 rfl ⟨by decide, by decide⟩ (cc := 0) rfl ⟨by decide, by decide⟩ (y := 0) rfl (y' := 1) rfl (i' := 1) rfl (iN := 0) rfl (Nat.le_of_ble_eq_true rfl) fun T15 h15 X15 e15 W15 V15 => ?_
  have ne_o2_b11 : o2 ≠ b11 := Nat.ne_of_lt (Nat.lt_of_lt_of_le V.lt sz_b11)
  have q16 := (q14.other W15 ne_o2_b11)
  refine t1 X15 hx hby hZ e15 q16 V15 rfl ⟨by decide, by decide⟩ (cc := 1) rfl ⟨by decide, by decide⟩ (y := 0) rfl (y' := 1) rfl (i' := 2) rfl (iN := 1) rfl (Nat.le_of_ble_eq_true rfl) fun T17 h17 X17 e17 W17 V17 => ?_
  have q18 := (q16.other W17 ne_o2_b11)
  refine t1 X17 hx hby hZ e17 q18 V17 rfl ⟨by decide, by decide⟩ (cc := 2) rfl ⟨by decide, by decide⟩ (y := 0) rfl (y' := 1) rfl (i' := 3) rfl (iN := 2) rfl (Nat.le_of_ble_eq_true rfl) fun T19 h19 X19 e19 W19 V19 => ?_
  have q20 := (q18.other W19 ne_o2_b11)
  refine t1 X19 hx hby hZ e19 q20 V19 rfl ⟨by decide, by decide⟩ (cc := 1) rfl ⟨by decide, by decide⟩ (y := 1) rfl (y' := 2) rfl (i' := 4) rfl (iN := 1) rfl (Nat.le_of_ble_eq_true rfl) fun T21 h21 X21 e21 W21 V21 => ?_
  refine o_iload X21 hx hby d4_35 rfl (q := 37) rfl ?_
  refine o_iload X21 hx hby d4_37 rfl (q := 39) rfl ?_
  refine o_icY X21 hx hby d4_39 (flt (by decide : ¬ ((4 : Int32) < (4 : Int32)))).2.1 (by decide) (q := 64) (by decide) ?_
  refine o_aloadN X21 hx hby d4_64 rfl rfl (q := 65) rfl ?_
  refine o_iloadN X21 hx hby d4_65 rfl (q := 66) rfl ?_
  obtain ⟨T22, h22, k22, X22, e22, E22, A22, Ex22, O22, st22⟩ := newRA X21 hx hZ hown (ty := .int) (by decide +kernel) (w_ hw 35 rfl) (w_ hw 36 rfl) e21 (g := (mkF m 66 #[rv o0, rv o1, rv o2, iv 3, rv b11, rv o2, iv 4, iv 4, iv 1] [.int 3, .ref o0])) rfl (hb hby d4_66) rfl (by decide) (cap := 3) (by decide) (by decide) (by decide) (by decide) (ad := "[[I") (by decide +kernel)
  obtain ⟨b22, g22⟩ : ∃ z, z = h21.size := ⟨_, rfl⟩
  rw [← g22] at A22 Ex22 st22
  have q23 := (Nat.le_trans (Nat.le_trans (Nat.le_trans (Nat.le_trans (Nat.le_trans q12 E11.1) (Keep.of_wr W15).1) (Keep.of_wr W17).1) (Keep.of_wr W19).1) (Keep.of_wr W21).1)
  have g_b22 : n0 ≤ b22 := Nat.le_trans q23 (Nat.le_of_eq g22.symm)
  have q24 := (Nat.le_trans (Nat.le_trans (Nat.le_trans (Nat.le_trans (Nat.le_trans q13 E11.1) (Keep.of_wr W15).1) (Keep.of_wr W17).1) (Keep.of_wr W19).1) (Keep.of_wr W21).1)
  have sz_b22 : h0.size ≤ b22 := Nat.le_trans q24 (Nat.le_of_eq g22.symm)
  have V_b22 : Arv Z h22 b22 k22 (.array .int) (3 : Int32) [.null, .null, .null] .null := (Arv.new A22 (by decide)).pad (pad_rep [] .null 3)
  refine own_of st22 ?_
  show own_Out p e below _ (T22.setTop (mkF m 69 #[rv o0, rv o1, rv o2, iv 3, rv b11, rv o2, iv 4, iv 4, iv 1] [.ref b22, .ref o0]))
  have ne_o0_b11 : o0 ≠ b11 := Nat.ne_of_lt (Nat.lt_of_lt_of_le E.lt sz_b11)
  have q26 := (((((((((F_classes.other W2 (Or.inr (slot_ne (Or.inr (w_ hw 38 rfl)) (Or.inr (w_ hw 30 rfl)) (by decide) (t := (.array (.array .int))) (t' := (.object "java/lang/String")) (by decide) (by decide)))).other W3 (Or.inr (slot_ne (Or.inr (w_ hw 38 rfl)) (Or.inr (w_ hw 32 rfl)) (by decide) (t := (.array (.array .int))) (t' := (.array .int)) (by decide) (by decide)))).other W7 (Or.inr (slot_ne (Or.inr (w_ hw 38 rfl)) (Or.inr (w_ hw 34 rfl)) (by decide) (t := (.array (.array .int))) (t' := .int) (by decide) (by decide)))).ext E11).other W15 (Or.inl ne_o0_b11)).other W17 (Or.inl ne_o0_b11)).other W19 (Or.inl ne_o0_b11)).other W21 (Or.inl ne_o0_b11)).ext E22)
  have q27 := (((((((q9.wr W7).ext E11).wr W15).wr W17).wr W19).wr W21).ext E22)
  obtain ⟨T25, h25, X25, e25, W25, st25⟩ := putF X22 hx hZ hown (host := "") (Or.inl (w_ hw 37 rfl)) Via.refl e22 q26 q27 (Or.inr ⟨(w_ hw 38 rfl), rfl, hnm⟩) (w_ hw 10 rfl) (ty := (.array (.array .int))) (by decide) rfl rfl (g := (mkF m 69 #[rv o0, rv o1, rv o2, iv 3, rv b11, rv o2, iv 4, iv 4, iv 1] [.ref b22, .ref o0])) rfl rfl (hb hby d4_69)
  have q28 := (((((((((F_classes.other W2 (Or.inr (slot_ne (Or.inr (w_ hw 38 rfl)) (Or.inr (w_ hw 30 rfl)) (by decide) (t := (.array (.array .int))) (t' := (.object "java/lang/String")) (by decide) (by decide)))).other W3 (Or.inr (slot_ne (Or.inr (w_ hw 38 rfl)) (Or.inr (w_ hw 32 rfl)) (by decide) (t := (.array (.array .int))) (t' := (.array .int)) (by decide) (by decide)))).other W7 (Or.inr (slot_ne (Or.inr (w_ hw 38 rfl)) (Or.inr (w_ hw 34 rfl)) (by decide) (t := (.array (.array .int))) (t' := .int) (by decide) (by decide)))).ext E11).other W15 (Or.inl ne_o0_b11)).other W17 (Or.inl ne_o0_b11)).other W19 (Or.inl ne_o0_b11)).other W21 (Or.inl ne_o0_b11)).ext E22)
  have Fw25 := q28.same W25
  refine own_of st25 ?_
  show own_Out p e below _ (T25.setTop (mkF m 72 #[rv o0, rv o1, rv o2, iv 3, rv b11, rv o2, iv 4, iv 4, iv 1] []))
  refine o_iconst X25 hx hby d4_72 (z := 0) rfl (q := 73) rfl ?_
  refine o_istore X25 hx hby d4_73 (l' := #[rv o0, rv o1, rv o2, iv 3, rv b11, iv 0, iv 4, iv 4, iv 1]) rfl (q := 75) rfl ?_
  refine o_iload X25 hx hby d4_75 rfl (q := 77) rfl ?_
  refine o_iloadN X25 hx hby d4_77 rfl (q := 78) rfl ?_
  refine o_icN X25 hx hby d4_78 (tlt (by decide : (0 : Int32) < (3 : Int32))).2.1 (q := 81) rfl ?_
  refine o_aloadN X25 hx hby d4_81 rfl rfl (q := 82) rfl ?_
  refine o_getF X25 hx hZ hown hby (w_ hw 37 rfl) Via.refl e25 Fw25 d4_82 (q := 85) rfl fun T29 X29 e29 => ?_
  refine o_iload X29 hx hby d4_85 rfl (q := 87) rfl ?_
  refine o_aload X29 hx hby d4_87 rfl rfl (q := 89) rfl ?_
  refine o_iload X29 hx hby d4_89 rfl (q := 91) rfl ?_
  have q30 := ((V21.ext E22).other W25 (Ne.symm ne_o0_b11))
  refine o_iaV X29 hx hby hZ e29 q30 ⟨by decide, by decide⟩ (v := .int 1) rfl d4_91 (q := 92) rfl ?_
  obtain ⟨T31, h31, k31, X31, e31, E31, A31, Ex31, st31⟩ := newPE X29 hx hZ (w_ hw 4 rfl) e29 (g := (mkF m 92 #[rv o0, rv o1, rv o2, iv 3, rv b11, iv 0, iv 4, iv 4, iv 1] [.int 1, .int 0, .ref b22])) rfl (hb hby d4_92) rfl (by decide) (cap := 1) (by decide) (by decide) (by decide) (by decide) (ad := "[I") (by decide +kernel)
  obtain ⟨b31, g31⟩ : ∃ z, z = h25.size := ⟨_, rfl⟩
  rw [← g31] at A31 Ex31 st31
  have q32 := (Nat.le_trans (Nat.le_trans q23 E22.1) (Keep.of_wr W25).1)
  have g_b31 : n0 ≤ b31 := Nat.le_trans q32 (Nat.le_of_eq g31.symm)
  have q33 := (Nat.le_trans (Nat.le_trans q24 E22.1) (Keep.of_wr W25).1)
  have sz_b31 : h0.size ≤ b31 := Nat.le_trans q33 (Nat.le_of_eq g31.symm)
  have V_b31 : Arv Z h31 b31 k31 .int (1 : Int32) [(.int (0 : Int32))] (.int (0 : Int32)) := (Arv.new A31 (by decide)).pad (pad_rep [] (.int (0 : Int32)) 1)
  refine own_of st31 ?_
  show own_Out p e below _ (T31.setTop (mkF m 94 #[rv o0, rv o1, rv o2, iv 3, rv b11, iv 0, iv 4, iv 4, iv 1] [.ref b31, .int 0, .ref b22]))
  have ne_o0_b22 : o0 ≠ b22 := Nat.ne_of_lt (Nat.lt_of_lt_of_le E.lt sz_b22)
  have q34 := ((V_b22.other W25 (Ne.symm ne_o0_b22)).ext E31)
  refine o_stVR X31 hx hby hZ e31 q34 ⟨by decide, by decide⟩ 0 rfl (Nat.le_of_ble_eq_true rfl) O22 (Ins.self Ex31) d4_94 (q := 95) rfl fun T35 h35 X35 e35 W35 V35 => ?_
  refine o_iinc X35 hx hby d4_95 rfl (l' := #[rv o0, rv o1, rv o2, iv 3, rv b11, iv 1, iv 4, iv 4, iv 1]) rfl (q := 98) rfl ?_
  refine o_goto X35 hx hby d4_98 (by decide) (q := 75) (by decide) ?_
  refine o_iload X35 hx hby d4_75 rfl (q := 77) rfl ?_
  refine o_iloadN X35 hx hby d4_77 rfl (q := 78) rfl ?_
  refine o_icN X35 hx hby d4_78 (tlt (by decide : (1 : Int32) < (3 : Int32))).2.1 (q := 81) rfl ?_
  refine o_aloadN X35 hx hby d4_81 rfl rfl (q := 82) rfl ?_
  have q37 := ((Fw25.ext E31).other W35 (Or.inl ne_o0_b22))
  refine o_getF X35 hx hZ hown hby (w_ hw 37 rfl) Via.refl e35 q37 d4_82 (q := 85) rfl fun T36 X36 e36 => ?_
  refine o_iload X36 hx hby d4_85 rfl (q := 87) rfl ?_
  refine o_aload X36 hx hby d4_87 rfl rfl (q := 89) rfl ?_
  refine o_iload X36 hx hby d4_89 rfl (q := 91) rfl ?_
  have ne_b11_b22 : b11 ≠ b22 := Nat.ne_of_lt (Nat.lt_of_lt_of_le (Nat.lt_of_lt_of_le (Nat.lt_of_lt_of_le (Nat.lt_of_lt_of_le (Nat.lt_of_lt_of_le A11.lt (Keep.of_wr W15).1) (Keep.of_wr W17).1) (Keep.of_wr W19).1) (Keep.of_wr W21).1) (Nat.le_of_eq g22.symm))
  have q38 := ((q30.ext E31).other W35 ne_b11_b22)
  refine o_iaV X36 hx hby hZ e36 q38 ⟨by decide, by decide⟩ (v := .int 2) rfl d4_91 (q := 92) rfl ?_
  obtain ⟨T39, h39, k39, X39, e39, E39, A39, Ex39, st39⟩ := newPE X36 hx hZ (w_ hw 4 rfl) e36 (g := (mkF m 92 #[rv o0, rv o1, rv o2, iv 3, rv b11, iv 1, iv 4, iv 4, iv 1] [.int 2, .int 1, .ref b22])) rfl (hb hby d4_92) rfl (by decide) (cap := 2) (by decide) (by decide) (by decide) (by decide) (ad := "[I") (by decide +kernel)
  obtain ⟨b39, g39⟩ : ∃ z, z = h35.size := ⟨_, rfl⟩
  rw [← g39] at A39 Ex39 st39
  have q40 := (Nat.le_trans (Nat.le_trans q32 E31.1) (Keep.of_wr W35).1)
  have g_b39 : n0 ≤ b39 := Nat.le_trans q40 (Nat.le_of_eq g39.symm)
  have q41 := (Nat.le_trans (Nat.le_trans q33 E31.1) (Keep.of_wr W35).1)
  have sz_b39 : h0.size ≤ b39 := Nat.le_trans q41 (Nat.le_of_eq g39.symm)
  have V_b39 : Arv Z h39 b39 k39 .int (2 : Int32) [(.int (0 : Int32)), (.int (0 : Int32))] (.int (0 : Int32)) := (Arv.new A39 (by decide)).pad (pad_rep [] (.int (0 : Int32)) 2)
  refine own_of st39 ?_
  show own_Out p e below _ (T39.setTop (mkF m 94 #[rv o0, rv o1, rv o2, iv 3, rv b11, iv 1, iv 4, iv 4, iv 1] [.ref b39, .int 1, .ref b22]))
  have q42 := (V35.ext E39)
  refine o_stVR X39 hx hby hZ e39 q42 ⟨by decide, by decide⟩ 1 rfl (Nat.le_of_ble_eq_true rfl) O22 (Ins.self Ex39) d4_94 (q := 95) rfl fun T43 h43 X43 e43 W43 V43 => ?_
  refine o_iinc X43 hx hby d4_95 rfl (l' := #[rv o0, rv o1, rv o2, iv 3, rv b11, iv 2, iv 4, iv 4, iv 1]) rfl (q := 98) rfl ?_
  refine o_goto X43 hx hby d4_98 (by decide) (q := 75) (by decide) ?_
  refine o_iload X43 hx hby d4_75 rfl (q := 77) rfl ?_
  refine o_iloadN X43 hx hby d4_77 rfl (q := 78) rfl ?_
  refine o_icN X43 hx hby d4_78 (tlt (by decide : (2 : Int32) < (3 : Int32))).2.1 (q := 81) rfl ?_
  refine o_aloadN X43 hx hby d4_81 rfl rfl (q := 82) rfl ?_
  have q45 := ((q37.ext E39).other W43 (Or.inl ne_o0_b22))
  refine o_getF X43 hx hZ hown hby (w_ hw 37 rfl) Via.refl e43 q45 d4_82 (q := 85) rfl fun T44 X44 e44 => ?_
  refine o_iload X44 hx hby d4_85 rfl (q := 87) rfl ?_
  refine o_aload X44 hx hby d4_87 rfl rfl (q := 89) rfl ?_
  refine o_iload X44 hx hby d4_89 rfl (q := 91) rfl ?_
  have q46 := ((q38.ext E39).other W43 ne_b11_b22)
  refine o_iaV X44 hx hby hZ e44 q46 ⟨by decide, by decide⟩ (v := .int 1) rfl d4_91 (q := 92) rfl ?_
  obtain ⟨T47, h47, k47, X47, e47, E47, A47, Ex47, st47⟩ := newPE X44 hx hZ (w_ hw 4 rfl) e44 (g := (mkF m 92 #[rv o0, rv o1, rv o2, iv 3, rv b11, iv 2, iv 4, iv 4, iv 1] [.int 1, .int 2, .ref b22])) rfl (hb hby d4_92) rfl (by decide) (cap := 1) (by decide) (by decide) (by decide) (by decide) (ad := "[I") (by decide +kernel)
  obtain ⟨b47, g47⟩ : ∃ z, z = h43.size := ⟨_, rfl⟩
  rw [← g47] at A47 Ex47 st47
  have q48 := (Nat.le_trans (Nat.le_trans q40 E39.1) (Keep.of_wr W43).1)
  have g_b47 : n0 ≤ b47 := Nat.le_trans q48 (Nat.le_of_eq g47.symm)
  have q49 := (Nat.le_trans (Nat.le_trans q41 E39.1) (Keep.of_wr W43).1)
  have sz_b47 : h0.size ≤ b47 := Nat.le_trans q49 (Nat.le_of_eq g47.symm)
  have V_b47 : Arv Z h47 b47 k47 .int (1 : Int32) [(.int (0 : Int32))] (.int (0 : Int32)) := (Arv.new A47 (by decide)).pad (pad_rep [] (.int (0 : Int32)) 1)
  refine own_of st47 ?_
  show own_Out p e below _ (T47.setTop (mkF m 94 #[rv o0, rv o1, rv o2, iv 3, rv b11, iv 2, iv 4, iv 4, iv 1] [.ref b47, .int 2, .ref b22]))
  have q50 := (V43.ext E47)
  refine o_stVR X47 hx hby hZ e47 q50 ⟨by decide, by decide⟩ 2 rfl (Nat.le_of_ble_eq_true rfl) O22 (Ins.self Ex47) d4_94 (q := 95) rfl fun T51 h51 X51 e51 W51 V51 => ?_
  refine o_iinc X51 hx hby d4_95 rfl (l' := #[rv o0, rv o1, rv o2, iv 3, rv b11, iv 3, iv 4, iv 4, iv 1]) rfl (q := 98) rfl ?_
  refine o_goto X51 hx hby d4_98 (by decide) (q := 75) (by decide) ?_
  refine o_iload X51 hx hby d4_75 rfl (q := 77) rfl ?_
  refine o_iloadN X51 hx hby d4_77 rfl (q := 78) rfl ?_
  refine o_icY X51 hx hby d4_78 (flt (by decide : ¬ ((3 : Int32) < (3 : Int32)))).2.1 (by decide) (q := 101) (by decide) ?_
  refine o_iloadN X51 hx hby d4_101 rfl (q := 102) rfl ?_
  obtain ⟨T52, h52, k52, X52, e52, E52, A52, Ex52, st52⟩ := newPE X51 hx hZ (w_ hw 4 rfl) e51 (g := (mkF m 102 #[rv o0, rv o1, rv o2, iv 3, rv b11, iv 3, iv 4, iv 4, iv 1] [.int 3])) rfl (hb hby d4_102) rfl (by decide) (cap := 3) (by decide) (by decide) (by decide) (by decide) (ad := "[I") (by decide +kernel)
  obtain ⟨b52, g52⟩ : ∃ z, z = h51.size := ⟨_, rfl⟩
  rw [← g52] at A52 Ex52 st52
  have q53 := (Nat.le_trans (Nat.le_trans q48 E47.1) (Keep.of_wr W51).1)
  have g_b52 : n0 ≤ b52 := Nat.le_trans q53 (Nat.le_of_eq g52.symm)
  have q54 := (Nat.le_trans (Nat.le_trans q49 E47.1) (Keep.of_wr W51).1)
  have sz_b52 : h0.size ≤ b52 := Nat.le_trans q54 (Nat.le_of_eq g52.symm)
  have V_b52 : Arv Z h52 b52 k52 .int (3 : Int32) [(.int (0 : Int32)), (.int (0 : Int32)), (.int (0 : Int32))] (.int (0 : Int32)) := (Arv.new A52 (by decide)).pad (pad_rep [] (.int (0 : Int32)) 3)
  refine own_of st52 ?_
  show own_Out p e below _ (T52.setTop (mkF m 104 #[rv o0, rv o1, rv o2, iv 3, rv b11, iv 3, iv 4, iv 4, iv 1] [.ref b52]))
  refine o_astore X52 hx hby d4_104 rfl (l' := #[rv o0, rv o1, rv o2, iv 3, rv b11, rv b52, iv 4, iv 4, iv 1]) rfl (q := 106) rfl ?_
  refine o_iconst X52 hx hby d4_106 (z := 0) rfl (q := 107) rfl ?_
  refine o_istore X52 hx hby d4_107 (l' := #[rv o0, rv o1, rv o2, iv 3, rv b11, rv b52, iv 0, iv 4, iv 1]) rfl (q := 109) rfl ?_
  have ne_o2_b22 : o2 ≠ b22 := Nat.ne_of_lt (Nat.lt_of_lt_of_le V.lt sz_b22)
  have q57 := ((((((((((q20.other W21 ne_o2_b11).ext E22).other W25 n2).ext E31).other W35 ne_o2_b22).ext E39).other W43 ne_o2_b22).ext E47).other W51 ne_o2_b22).ext E52)
  have q58 := (((q45.ext E47).other W51 (Or.inl ne_o0_b22)).ext E52)
  have q59 := (V51.ext E52)
  have ne_b22_b31 : b22 ≠ b31 := Nat.ne_of_lt (Nat.lt_of_lt_of_le (Nat.lt_of_lt_of_le A22.lt (Keep.of_wr W25).1) (Nat.le_of_eq g31.symm))
  have q60 := ((((((V_b31.other W35 (Ne.symm ne_b22_b31)).ext E39).other W43 (Ne.symm ne_b22_b31)).ext E47).other W51 (Ne.symm ne_b22_b31)).ext E52)
  have ne_b31_b52 : b31 ≠ b52 := Nat.ne_of_lt (Nat.lt_of_lt_of_le (Nat.lt_of_lt_of_le (Nat.lt_of_lt_of_le (Nat.lt_of_lt_of_le (Nat.lt_of_lt_of_le (Nat.lt_of_lt_of_le A31.lt (Keep.of_wr W35).1) E39.1) (Keep.of_wr W43).1) E47.1) (Keep.of_wr W51).1) (Nat.le_of_eq g52.symm))
  refine t3 X52 hx hby hZ e52 hw hown q57 q58 q59 V_b52 q60 ne_b31_b52 ⟨by decide, by decide⟩ (x := 0) rfl ⟨by decide, by decide⟩ rfl (f := 0) rfl ⟨by decide, by decide⟩ (f' := 1) rfl (i' := 1) rfl (iN := 0) rfl (Nat.le_of_ble_eq_true rfl) (jN := 0) rfl (Nat.le_of_ble_eq_true rfl) fun T56 h55 h56 X56 e56 W55 W56 V55 V56 => ?_
  have ne_o2_b52 : o2 ≠ b52 := Nat.ne_of_lt (Nat.lt_of_lt_of_le V.lt sz_b52)
  have ne_o2_b31 : o2 ≠ b31 := Nat.ne_of_lt (Nat.lt_of_lt_of_le V.lt sz_b31)
  have q63 := ((q57.other W55 ne_o2_b52).other W56 ne_o2_b31)
  have ne_o0_b52 : o0 ≠ b52 := Nat.ne_of_lt (Nat.lt_of_lt_of_le E.lt sz_b52)
  have ne_o0_b31 : o0 ≠ b31 := Nat.ne_of_lt (Nat.lt_of_lt_of_le E.lt sz_b31)
  have q64 := ((q58.other W55 (Or.inl ne_o0_b52)).other W56 (Or.inl ne_o0_b31))
  have ne_b22_b52 : b22 ≠ b52 := Nat.ne_of_lt (Nat.lt_of_lt_of_le (Nat.lt_of_lt_of_le (Nat.lt_of_lt_of_le (Nat.lt_of_lt_of_le (Nat.lt_of_lt_of_le (Nat.lt_of_lt_of_le (Nat.lt_of_lt_of_le (Nat.lt_of_lt_of_le A22.lt (Keep.of_wr W25).1) E31.1) (Keep.of_wr W35).1) E39.1) (Keep.of_wr W43).1) E47.1) (Keep.of_wr W51).1) (Nat.le_of_eq g52.symm))
  have q65 := ((q59.other W55 ne_b22_b52).other W56 ne_b22_b31)
  have q66 := (V55.other W56 (Ne.symm ne_b31_b52))
  have ne_b22_b39 : b22 ≠ b39 := Nat.ne_of_lt (Nat.lt_of_lt_of_le (Nat.lt_of_lt_of_le (Nat.lt_of_lt_of_le (Nat.lt_of_lt_of_le A22.lt (Keep.of_wr W25).1) E31.1) (Keep.of_wr W35).1) (Nat.le_of_eq g39.symm))
  have ne_b39_b52 : b39 ≠ b52 := Nat.ne_of_lt (Nat.lt_of_lt_of_le (Nat.lt_of_lt_of_le (Nat.lt_of_lt_of_le (Nat.lt_of_lt_of_le A39.lt (Keep.of_wr W43).1) E47.1) (Keep.of_wr W51).1) (Nat.le_of_eq g52.symm))
  have ne_b31_b39 : b31 ≠ b39 := Nat.ne_of_lt (Nat.lt_of_lt_of_le (Nat.lt_of_lt_of_le A31.lt (Keep.of_wr W35).1) (Nat.le_of_eq g39.symm))
  have q67 := ((((((V_b39.other W43 (Ne.symm ne_b22_b39)).ext E47).other W51 (Ne.symm ne_b22_b39)).ext E52).other W55 ne_b39_b52).other W56 (Ne.symm ne_b31_b39))
  refine t3 X56 hx hby hZ e56 hw hown q63 q64 q65 q66 q67 ne_b39_b52 ⟨by decide, by decide⟩ (x := 1) rfl ⟨by decide, by decide⟩ rfl (f := 0) rfl ⟨by decide, by decide⟩ (f' := 1) rfl (i' := 2) rfl (iN := 1) rfl (Nat.le_of_ble_eq_true rfl) (jN := 0) rfl (Nat.le_of_ble_eq_true rfl) fun T62 h61 h62 X62 e62 W61 W62 V61 V62 => ?_
  have ne_o2_b39 : o2 ≠ b39 := Nat.ne_of_lt (Nat.lt_of_lt_of_le V.lt sz_b39)
  have q70 := ((q63.other W61 ne_o2_b52).other W62 ne_o2_b39)
  have ne_o0_b39 : o0 ≠ b39 := Nat.ne_of_lt (Nat.lt_of_lt_of_le E.lt sz_b39)
  have q71 := ((q64.other W61 (Or.inl ne_o0_b52)).other W62 (Or.inl ne_o0_b39))
  have q72 := ((q65.other W61 ne_b22_b52).other W62 ne_b22_b39)
  have q73 := (V61.other W62 (Ne.symm ne_b39_b52))
  have ne_b22_b47 : b22 ≠ b47 := Nat.ne_of_lt (Nat.lt_of_lt_of_le (Nat.lt_of_lt_of_le (Nat.lt_of_lt_of_le (Nat.lt_of_lt_of_le (Nat.lt_of_lt_of_le (Nat.lt_of_lt_of_le A22.lt (Keep.of_wr W25).1) E31.1) (Keep.of_wr W35).1) E39.1) (Keep.of_wr W43).1) (Nat.le_of_eq g47.symm))
  have ne_b47_b52 : b47 ≠ b52 := Nat.ne_of_lt (Nat.lt_of_lt_of_le (Nat.lt_of_lt_of_le A47.lt (Keep.of_wr W51).1) (Nat.le_of_eq g52.symm))
  have ne_b31_b47 : b31 ≠ b47 := Nat.ne_of_lt (Nat.lt_of_lt_of_le (Nat.lt_of_lt_of_le (Nat.lt_of_lt_of_le (Nat.lt_of_lt_of_le A31.lt (Keep.of_wr W35).1) E39.1) (Keep.of_wr W43).1) (Nat.le_of_eq g47.symm))
  have ne_b39_b47 : b39 ≠ b47 := Nat.ne_of_lt (Nat.lt_of_lt_of_le (Nat.lt_of_lt_of_le A39.lt (Keep.of_wr W43).1) (Nat.le_of_eq g47.symm))
  have q74 := ((((((V_b47.other W51 (Ne.symm ne_b22_b47)).ext E52).other W55 ne_b47_b52).other W56 (Ne.symm ne_b31_b47)).other W61 ne_b47_b52).other W62 (Ne.symm ne_b39_b47))
  refine t3 X62 hx hby hZ e62 hw hown q70 q71 q72 q73 q74 ne_b47_b52 ⟨by decide, by decide⟩ (x := 2) rfl ⟨by decide, by decide⟩ rfl (f := 0) rfl ⟨by decide, by decide⟩ (f' := 1) rfl (i' := 3) rfl (iN := 2) rfl (Nat.le_of_ble_eq_true rfl) (jN := 0) rfl (Nat.le_of_ble_eq_true rfl) fun T69 h68 h69 X69 e69 W68 W69 V68 V69 => ?_
  have ne_o2_b47 : o2 ≠ b47 := Nat.ne_of_lt (Nat.lt_of_lt_of_le V.lt sz_b47)
  have q77 := ((q70.other W68 ne_o2_b52).other W69 ne_o2_b47)
  have ne_o0_b47 : o0 ≠ b47 := Nat.ne_of_lt (Nat.lt_of_lt_of_le E.lt sz_b47)
  have q78 := ((q71.other W68 (Or.inl ne_o0_b52)).other W69 (Or.inl ne_o0_b47))
  have q79 := ((q72.other W68 ne_b22_b52).other W69 ne_b22_b47)
  have q80 := (V68.other W69 (Ne.symm ne_b47_b52))
  have q81 := ((V62.other W68 ne_b39_b52).other W69 ne_b39_b47)
  refine t3 X69 hx hby hZ e69 hw hown q77 q78 q79 q80 q81 ne_b39_b52 ⟨by decide, by decide⟩ (x := 1) rfl ⟨by decide, by decide⟩ rfl (f := 1) rfl ⟨by decide, by decide⟩ (f' := 2) rfl (i' := 4) rfl (iN := 1) rfl (Nat.le_of_ble_eq_true rfl) (jN := 1) rfl (Nat.le_of_ble_eq_true rfl) fun T76 h75 h76 X76 e76 W75 W76 V75 V76 => ?_
  refine o_iload X76 hx hby d4_109 rfl (q := 111) rfl ?_
  refine o_aloadN X76 hx hby d4_111 rfl rfl (q := 112) rfl ?_
  have q82 := ((q77.other W75 ne_o2_b52).other W76 ne_o2_b39)
  refine o_lenV X76 hx hby hZ e76 q82 d4_112 (q := 113) rfl ?_
  refine o_icY X76 hx hby d4_113 (flt (by decide : ¬ ((4 : Int32) < (4 : Int32)))).2.1 (by decide) (q := 146) (by decide) ?_
  have q83 := ((q78.other W75 (Or.inl ne_o0_b52)).other W76 (Or.inl ne_o0_b39))
  have q84 := ((q79.other W75 ne_b22_b52).other W76 ne_b22_b39)
  have q85 := ((((((V56.other W61 ne_b31_b52).other W62 ne_b31_b39).other W68 ne_b31_b52).other W69 ne_b31_b47).other W75 ne_b31_b52).other W76 ne_b31_b39)
  have q86 := ((V69.other W75 ne_b47_b52).other W76 (Ne.symm ne_b39_b47))
  have q87 := ((((((((((((((((((((((((((Keep.refl h0 [o0]).wr W2 (Or.inl (List.mem_of_getElem? (i := 0) rfl))).wr W3 (Or.inl (List.mem_of_getElem? (i := 0) rfl))).wr W7 (Or.inl (List.mem_of_getElem? (i := 0) rfl))).ext E11).wr W15 (Or.inr sz_b11)).wr W17 (Or.inr sz_b11)).wr W19 (Or.inr sz_b11)).wr W21 (Or.inr sz_b11)).ext E22).wr W25 (Or.inl (List.mem_of_getElem? (i := 0) rfl))).ext E31).wr W35 (Or.inr sz_b22)).ext E39).wr W43 (Or.inr sz_b22)).ext E47).wr W51 (Or.inr sz_b22)).ext E52).wr W55 (Or.inr sz_b52)).wr W56 (Or.inr sz_b31)).wr W61 (Or.inr sz_b52)).wr W62 (Or.inr sz_b39)).wr W68 (Or.inr sz_b52)).wr W69 (Or.inr sz_b47)).wr W75 (Or.inr sz_b52)).wr W76 (Or.inr sz_b39))
  have q88 := ((((((((((((((((q27.wr W25).ext E31).wr W35).ext E39).wr W43).ext E47).wr W51).ext E52).wr W55).wr W56).wr W61).wr W62).wr W68).wr W69).wr W75).wr W76)
  have q89 := (((((((((((((((((((((((Fw3.other W7 (Or.inr (slot_ne (Or.inr (w_ hw 32 rfl)) (Or.inr (w_ hw 34 rfl)) (by decide) (t := (.array .int)) (t' := .int) (by decide) (by decide)))).ext E11).other W15 (Or.inl ne_o0_b11)).other W17 (Or.inl ne_o0_b11)).other W19 (Or.inl ne_o0_b11)).other W21 (Or.inl ne_o0_b11)).ext E22).other W25 (Or.inr (slot_ne (Or.inr (w_ hw 32 rfl)) (Or.inr (w_ hw 38 rfl)) (by decide) (t := (.array .int)) (t' := (.array (.array .int))) (by decide) (by decide)))).ext E31).other W35 (Or.inl ne_o0_b22)).ext E39).other W43 (Or.inl ne_o0_b22)).ext E47).other W51 (Or.inl ne_o0_b22)).ext E52).other W55 (Or.inl ne_o0_b52)).other W56 (Or.inl ne_o0_b31)).other W61 (Or.inl ne_o0_b52)).other W62 (Or.inl ne_o0_b39)).other W68 (Or.inl ne_o0_b52)).other W69 (Or.inl ne_o0_b47)).other W75 (Or.inl ne_o0_b52)).other W76 (Or.inl ne_o0_b39))
  have q90 := ((((((((((((((((((((((Fw7.ext E11).other W15 (Or.inl ne_o0_b11)).other W17 (Or.inl ne_o0_b11)).other W19 (Or.inl ne_o0_b11)).other W21 (Or.inl ne_o0_b11)).ext E22).other W25 (Or.inr (slot_ne (Or.inr (w_ hw 34 rfl)) (Or.inr (w_ hw 38 rfl)) (by decide) (t := .int) (t' := (.array (.array .int))) (by decide) (by decide)))).ext E31).other W35 (Or.inl ne_o0_b22)).ext E39).other W43 (Or.inl ne_o0_b22)).ext E47).other W51 (Or.inl ne_o0_b22)).ext E52).other W55 (Or.inl ne_o0_b52)).other W56 (Or.inl ne_o0_b31)).other W61 (Or.inl ne_o0_b52)).other W62 (Or.inl ne_o0_b39)).other W68 (Or.inl ne_o0_b52)).other W69 (Or.inl ne_o0_b47)).other W75 (Or.inl ne_o0_b52)).other W76 (Or.inl ne_o0_b39))
  exact own_outV X76 hx hlk hret (hb hby d4_146) (Q := Q4c0121n3 Z o0 o1 o2 k2 h0 n0) (by rw [e76]; exact ⟨rfl, (Fr.snoc X76 (own_snoc (Fr.snoc X69 (own_snoc (Fr.snoc X62 (own_snoc (Fr.snoc X56 (own_snoc (Fr.snoc X51 (Fr.snoc X43 (Fr.snoc X35 (Fr.snoc X25 (Fr.snoc X21 (Fr.snoc X19 (Fr.snoc X17 (Fr.snoc X15 (Fr.snoc X7 (Fr.snoc X3 (Fr.snoc X2 N0 g_o0) g_o0) g_o0) g_b11) g_b11) g_b11) g_b11) g_o0) g_b22) g_b22) g_b22) g_b52) g_b31) g_b52) g_b39) g_b52) g_b47) g_b52) g_b39), q87, q88, q89, q90, (fun l a0 hw ws h' K o1 oc kc c0 c1 c2 c3 n1 Z1 Fc Vc => rm7r0121 l Z a0 hw ws o0 o1 b22 k22 b31 k31 b39 k39 b47 k47 oc kc c0 c1 c2 c3 h' n1 Z1 (q83.keep K nin0) (q84.keep K nin0) (q85.keep K nin0) (V76.keep K nin0) (q86.keep K nin0) Fc Vc)⟩) (by decide) (by decide)
theorem ef_7r0122 (m : MethodId) (x0 : Addr) (x1 : Addr) : entryFrame m #[(.ref x0), (.ref x1)] 10 = mkF m 0 #[.val (.ref x0), .val (.ref x1), .unset, .unset, .unset, .unset, .unset, .unset, .unset, .unset] [] := by first | (simp [entryFrame, mkF, argsToLocals, Value.category]; done) | rfl
def fr0122 (c0 : Int32) (c1 : Int32) (c2 : Int32) (c3 : Int32) : Int32 := if c3 = c2 then (1 : Int32)
  else (0 : Int32)
def Q7r0122 (Z : State) (o0 : Addr) (o1 : Addr) (cc : Addr) (kcc : ClassId) (d0 : Addr) (kd0 : ClassId) (d1 : Addr) (kd1 : ClassId) (d2 : Addr) (kd2 : ClassId) (oc : Addr) (kc : ClassId) (c0 : Int32) (c1 : Int32) (c2 : Int32) (c3 : Int32) (h0 : Heap) (n0 : Nat) (v : Option Value) (h : Heap) (L : List Loc) : Prop := v = some (.int (fr0122 c0 c1 c2 c3)) ∧ Fr n0 L ∧ h = h0
set_option maxRecDepth 65536 in
set_option maxHeartbeats 40000000 in
theorem rm7r0122 (l : Launch) (Z : State) (a0 : Array Value) (hw : ∀ d ∈ tables_1, d.before a0 Z = true) (ws : List Jvm.Cond) (o0 : Addr) (o1 : Addr) (cc : Addr) (kcc : ClassId) (d0 : Addr) (kd0 : ClassId) (d1 : Addr) (kd1 : ClassId) (d2 : Addr) (kd2 : ClassId) (oc : Addr) (kc : ClassId) (c0 : Int32) (c1 : Int32) (c2 : Int32) (c3 : Int32) (h0 : Heap) (n0 : Nat) (Z0 : n0 ≤ h0.size) (Fs : Fld Z h0 o0 "com/example/slimc/slimc/game/Observation" "classes" "[[I" (.ref cc)) (Vcc : Arv Z h0 cc kcc (.array .int) (3 : Int32) [(.ref d0), (.ref d1), (.ref d2)] .null) (Vd0 : Arv Z h0 d0 kd0 .int (1 : Int32) [(.int (0 : Int32))] (.int (0 : Int32))) (Vd1 : Arv Z h0 d1 kd1 .int (1 : Int32) [(.int (1 : Int32))] (.int (0 : Int32))) (Vd2 : Arv Z h0 d2 kd2 .int (2 : Int32) [(.int (2 : Int32)), (.int (3 : Int32))] (.int (0 : Int32))) (Fc : Fld Z h0 o1 "com/example/slimc/slimc/game/Observation" "classOf" "[I" (.ref oc)) (Vc : Arv Z h0 oc kc .int (4 : Int32) [(.int c0), (.int c1), (.int c2), (.int c3)] (.int (0 : Int32))) :
    MetFree l (⟨"com/example/slimc/slimc/game/Observation", "refines", "(Lcom/example/slimc/slimc/game/Observation;)Z"⟩ : MethodName) (head1 (Jvm.Cond.code (⟨"com/example/slimc/slimc/game/Observation", "refines", "(Lcom/example/slimc/slimc/game/Observation;)Z"⟩ : MethodName) prog_66_method_8_code 10 (some .boolean) :: ws) ({ frames := 0, cells := 0, slots := 0, locals := 0 } : Room)) (fun a U => a = #[(.ref o0), (.ref o1)] ∧ Z.Warmed39 U.vm ∧ U.heap = h0) (fun _ _ _ _ _ => True) (fun _ U o U' => ∃ v L, o = .returned v ∧ Q7r0122 Z o0 o1 cc kcc d0 kd0 d1 kd1 d2 kd2 oc kc c0 c1 c2 c3 h0 n0 v U'.heap L ∧ FrameEnd U o U' L ({ frames := 0, cells := 0, slots := 0, locals := 0 } : Room).cells ({ frames := 0, cells := 0, slots := 0, locals := 0 } : Room).slots) := by
  refine MetFree.of_bodySF (plainFor_of_name pn_1) hisR ?_
  intro p e s m args below meth c s₁ Bd hml0 hP hK
  obtain ⟨rfl, hZ, hh⟩ := hP
  have hx := Bd.exec
  have hby := Bd.bytes
  have hml : c.maxLocals = 10 := hml0
  have hown : s.vm.findClass "com/example/slimc/slimc/game/Observation" = some m.cls := findClass_of_methodNamed Bd.named
  have hnm := (name_of_methodNamed Bd.named Bd.method).1
  have X0 : Stand p l e ({ frames := 0, cells := 0, slots := 0, locals := 0 } : Room) s m #[(.ref o0), (.ref o1)] below meth c s₁ [] 0 0 := Stand.of_body Bd
  have e0 : s₁.heap = h0 := by rw [← hh, Bd.state]; rfl
  have N0 := Fr.nil n0
  have hret := Bd.returns
  have hlk := BodyLoose.notSynchronized Bd
  show own_Out p e below (fun o U' => ∃ v L, o = .returned v ∧ Q7r0122 Z o0 o1 cc kcc d0 kd0 d1 kd1 d2 kd2 oc kc c0 c1 c2 c3 h0 n0 v U'.heap L ∧ FrameEnd s o U' L ({ frames := 0, cells := 0, slots := 0, locals := 0 } : Room).cells ({ frames := 0, cells := 0, slots := 0, locals := 0 } : Room).slots) (s₁.setTop (entryFrame m #[(.ref o0), (.ref o1)] 10))
  refine own_of (fun t k => castTop (ef_7r0122 m o0 o1) k) ?_
  show own_Out p e below _ (s₁.setTop (mkF m 0 #[rv o0, rv o1, .unset, .unset, .unset, .unset, .unset, .unset, .unset, .unset] []))
  refine o_aloadN X0 hx hby d7_0 rfl rfl (q := 1) rfl ?_
  refine o_getF X0 hx hZ hown hby (w_ hw 37 rfl) Via.refl e0 Fs d7_1 (q := 4) rfl fun T1 X1 e1 => ?_
  refine o_astoreN X1 hx hby d7_4 rfl (l' := #[rv o0, rv o1, rv cc, .unset, .unset, .unset, .unset, .unset, .unset, .unset]) rfl (q := 5) rfl ?_
  refine o_aloadN X1 hx hby d7_5 rfl rfl (q := 6) rfl ?_
  refine o_lenV X1 hx hby hZ e1 Vcc d7_6 (q := 7) rfl ?_
  refine o_istoreN X1 hx hby d7_7 (l' := #[rv o0, rv o1, rv cc, iv 3, .unset, .unset, .unset, .unset, .unset, .unset]) rfl (q := 8) rfl ?_
  refine o_iconst X1 hx hby d7_8 (z := 0) rfl (q := 9) rfl ?_
  refine o_istore X1 hx hby d7_9 (l' := #[rv o0, rv o1, rv cc, iv 3, iv 0, .unset, .unset, .unset, .unset, .unset]) rfl (q := 11) rfl ?_
  refine o_iload X1 hx hby d7_11 rfl (q := 13) rfl ?_
  refine o_iloadN X1 hx hby d7_13 rfl (q := 14) rfl ?_
  refine o_icN X1 hx hby d7_14 (tlt (by decide : (0 : Int32) < (3 : Int32))).2.1 (q := 17) rfl ?_
  refine o_aloadN X1 hx hby d7_17 rfl rfl (q := 18) rfl ?_
  refine o_iload X1 hx hby d7_18 rfl (q := 20) rfl ?_
  refine o_aaV X1 hx hby hZ e1 Vcc rfl ⟨by decide, by decide⟩ (v := .ref d0) rfl d7_20 (q := 21) rfl ?_
  refine o_astore X1 hx hby d7_21 rfl (l' := #[rv o0, rv o1, rv cc, iv 3, iv 0, rv d0, .unset, .unset, .unset, .unset]) rfl (q := 23) rfl ?_
  refine o_aload X1 hx hby d7_23 rfl rfl (q := 25) rfl ?_
  refine o_astore X1 hx hby d7_25 rfl (l' := #[rv o0, rv o1, rv cc, iv 3, iv 0, rv d0, rv d0, .unset, .unset, .unset]) rfl (q := 27) rfl ?_
  refine o_aload X1 hx hby d7_27 rfl rfl (q := 29) rfl ?_
  refine o_lenV X1 hx hby hZ e1 Vd0 d7_29 (q := 30) rfl ?_
  refine o_istore X1 hx hby d7_30 (l' := #[rv o0, rv o1, rv cc, iv 3, iv 0, rv d0, rv d0, iv 1, .unset, .unset]) rfl (q := 32) rfl ?_
  refine o_iconst X1 hx hby d7_32 (z := 0) rfl (q := 33) rfl ?_
  refine o_istore X1 hx hby d7_33 (l' := #[rv o0, rv o1, rv cc, iv 3, iv 0, rv d0, rv d0, iv 1, iv 0, .unset]) rfl (q := 35) rfl ?_
  refine o_iload X1 hx hby d7_35 rfl (q := 37) rfl ?_
  refine o_iload X1 hx hby d7_37 rfl (q := 39) rfl ?_
  refine o_icN X1 hx hby d7_39 (tlt (by decide : (0 : Int32) < (1 : Int32))).2.1 (q := 42) rfl ?_
  refine o_aload X1 hx hby d7_42 rfl rfl (q := 44) rfl ?_
  refine o_iload X1 hx hby d7_44 rfl (q := 46) rfl ?_
  refine o_iaV X1 hx hby hZ e1 Vd0 ⟨by decide, by decide⟩ (v := .int 0) rfl d7_46 (q := 47) rfl ?_
  refine o_istore X1 hx hby d7_47 (l' := #[rv o0, rv o1, rv cc, iv 3, iv 0, rv d0, rv d0, iv 1, iv 0, iv 0]) rfl (q := 49) rfl ?_
  refine o_aloadN X1 hx hby d7_49 rfl rfl (q := 50) rfl ?_
  refine o_getF X1 hx hZ hown hby (w_ hw 31 rfl) Via.refl e1 Fc d7_50 (q := 53) rfl fun T2 X2 e2 => ?_
  refine o_iload X2 hx hby d7_53 rfl (q := 55) rfl ?_
  refine o_iaV X2 hx hby hZ e2 Vc ⟨by decide, by decide⟩ (v := .int c0) rfl d7_55 (q := 56) rfl ?_
  refine o_aloadN X2 hx hby d7_56 rfl rfl (q := 57) rfl ?_
  refine o_getF X2 hx hZ hown hby (w_ hw 31 rfl) Via.refl e2 Fc d7_57 (q := 60) rfl fun T3 X3 e3 => ?_
  refine o_aload X3 hx hby d7_60 rfl rfl (q := 62) rfl ?_
  refine o_iconst X3 hx hby d7_62 (z := 0) rfl (q := 63) rfl ?_
  refine o_iaV X3 hx hby hZ e3 Vd0 ⟨by decide, by decide⟩ (v := .int 0) rfl d7_63 (q := 64) rfl ?_
  refine o_iaV X3 hx hby hZ e3 Vc ⟨by decide, by decide⟩ (v := .int c0) rfl d7_64 (q := 65) rfl ?_
  refine o_icY X3 hx hby d7_65 (teq (rfl : c0 = c0)).1 (by decide) (q := 70) (by decide) ?_
  refine o_iinc X3 hx hby d7_70 rfl (l' := #[rv o0, rv o1, rv cc, iv 3, iv 0, rv d0, rv d0, iv 1, iv 1, iv 0]) rfl (q := 73) rfl ?_
  refine o_goto X3 hx hby d7_73 (by decide) (q := 35) (by decide) ?_
  refine o_iload X3 hx hby d7_35 rfl (q := 37) rfl ?_
  refine o_iload X3 hx hby d7_37 rfl (q := 39) rfl ?_
  refine o_icY X3 hx hby d7_39 (flt (by decide : ¬ ((1 : Int32) < (1 : Int32)))).2.1 (by decide) (q := 76) (by decide) ?_
  refine o_iinc X3 hx hby d7_76 rfl (l' := #[rv o0, rv o1, rv cc, iv 3, iv 1, rv d0, rv d0, iv 1, iv 1, iv 0]) rfl (q := 79) rfl ?_
  refine o_goto X3 hx hby d7_79 (by decide) (q := 11) (by decide) ?_
  refine o_iload X3 hx hby d7_11 rfl (q := 13) rfl ?_
  refine o_iloadN X3 hx hby d7_13 rfl (q := 14) rfl ?_
  refine o_icN X3 hx hby d7_14 (tlt (by decide : (1 : Int32) < (3 : Int32))).2.1 (q := 17) rfl ?_
  refine o_aloadN X3 hx hby d7_17 rfl rfl (q := 18) rfl ?_
  refine o_iload X3 hx hby d7_18 rfl (q := 20) rfl ?_
  refine o_aaV X3 hx hby hZ e3 Vcc rfl ⟨by decide, by decide⟩ (v := .ref d1) rfl d7_20 (q := 21) rfl ?_
  refine o_astore X3 hx hby d7_21 rfl (l' := #[rv o0, rv o1, rv cc, iv 3, iv 1, rv d1, rv d0, iv 1, iv 1, iv 0]) rfl (q := 23) rfl ?_
  refine o_aload X3 hx hby d7_23 rfl rfl (q := 25) rfl ?_
  refine o_astore X3 hx hby d7_25 rfl (l' := #[rv o0, rv o1, rv cc, iv 3, iv 1, rv d1, rv d1, iv 1, iv 1, iv 0]) rfl (q := 27) rfl ?_
  refine o_aload X3 hx hby d7_27 rfl rfl (q := 29) rfl ?_
  refine o_lenV X3 hx hby hZ e3 Vd1 d7_29 (q := 30) rfl ?_
  refine o_istore X3 hx hby d7_30 (l' := #[rv o0, rv o1, rv cc, iv 3, iv 1, rv d1, rv d1, iv 1, iv 1, iv 0]) rfl (q := 32) rfl ?_
  refine o_iconst X3 hx hby d7_32 (z := 0) rfl (q := 33) rfl ?_
  refine o_istore X3 hx hby d7_33 (l' := #[rv o0, rv o1, rv cc, iv 3, iv 1, rv d1, rv d1, iv 1, iv 0, iv 0]) rfl (q := 35) rfl ?_
  refine o_iload X3 hx hby d7_35 rfl (q := 37) rfl ?_
  refine o_iload X3 hx hby d7_37 rfl (q := 39) rfl ?_
  refine o_icN X3 hx hby d7_39 (tlt (by decide : (0 : Int32) < (1 : Int32))).2.1 (q := 42) rfl ?_
  refine o_aload X3 hx hby d7_42 rfl rfl (q := 44) rfl ?_
  refine o_iload X3 hx hby d7_44 rfl (q := 46) rfl ?_
  refine o_iaV X3 hx hby hZ e3 Vd1 ⟨by decide, by decide⟩ (v := .int 1) rfl d7_46 (q := 47) rfl ?_
  refine o_istore X3 hx hby d7_47 (l' := #[rv o0, rv o1, rv cc, iv 3, iv 1, rv d1, rv d1, iv 1, iv 0, iv 1]) rfl (q := 49) rfl ?_
  refine o_aloadN X3 hx hby d7_49 rfl rfl (q := 50) rfl ?_
  refine o_getF X3 hx hZ hown hby (w_ hw 31 rfl) Via.refl e3 Fc d7_50 (q := 53) rfl fun T4 X4 e4 => ?_
  refine o_iload X4 hx hby d7_53 rfl (q := 55) rfl ?_
  refine o_iaV X4 hx hby hZ e4 Vc ⟨by decide, by decide⟩ (v := .int c1) rfl d7_55 (q := 56) rfl ?_
  refine o_aloadN X4 hx hby d7_56 rfl rfl (q := 57) rfl ?_
  refine o_getF X4 hx hZ hown hby (w_ hw 31 rfl) Via.refl e4 Fc d7_57 (q := 60) rfl fun T5 X5 e5 => ?_
  refine o_aload X5 hx hby d7_60 rfl rfl (q := 62) rfl ?_
  refine o_iconst X5 hx hby d7_62 (z := 0) rfl (q := 63) rfl ?_
  refine o_iaV X5 hx hby hZ e5 Vd1 ⟨by decide, by decide⟩ (v := .int 1) rfl d7_63 (q := 64) rfl ?_
  refine o_iaV X5 hx hby hZ e5 Vc ⟨by decide, by decide⟩ (v := .int c1) rfl d7_64 (q := 65) rfl ?_
  refine o_icY X5 hx hby d7_65 (teq (rfl : c1 = c1)).1 (by decide) (q := 70) (by decide) ?_
  refine o_iinc X5 hx hby d7_70 rfl (l' := #[rv o0, rv o1, rv cc, iv 3, iv 1, rv d1, rv d1, iv 1, iv 1, iv 1]) rfl (q := 73) rfl ?_
  refine o_goto X5 hx hby d7_73 (by decide) (q := 35) (by decide) ?_
  refine o_iload X5 hx hby d7_35 rfl (q := 37) rfl ?_
  refine o_iload X5 hx hby d7_37 rfl (q := 39) rfl ?_
  refine o_icY X5 hx hby d7_39 (flt (by decide : ¬ ((1 : Int32) < (1 : Int32)))).2.1 (by decide) (q := 76) (by decide) ?_
  refine o_iinc X5 hx hby d7_76 rfl (l' := #[rv o0, rv o1, rv cc, iv 3, iv 2, rv d1, rv d1, iv 1, iv 1, iv 1]) rfl (q := 79) rfl ?_
  refine o_goto X5 hx hby d7_79 (by decide) (q := 11) (by decide) ?_
  refine o_iload X5 hx hby d7_11 rfl (q := 13) rfl ?_
  refine o_iloadN X5 hx hby d7_13 rfl (q := 14) rfl ?_
  refine o_icN X5 hx hby d7_14 (tlt (by decide : (2 : Int32) < (3 : Int32))).2.1 (q := 17) rfl ?_
  refine o_aloadN X5 hx hby d7_17 rfl rfl (q := 18) rfl ?_
  refine o_iload X5 hx hby d7_18 rfl (q := 20) rfl ?_
  refine o_aaV X5 hx hby hZ e5 Vcc rfl ⟨by decide, by decide⟩ (v := .ref d2) rfl d7_20 (q := 21) rfl ?_
  refine o_astore X5 hx hby d7_21 rfl (l' := #[rv o0, rv o1, rv cc, iv 3, iv 2, rv d2, rv d1, iv 1, iv 1, iv 1]) rfl (q := 23) rfl ?_
  refine o_aload X5 hx hby d7_23 rfl rfl (q := 25) rfl ?_
  refine o_astore X5 hx hby d7_25 rfl (l' := #[rv o0, rv o1, rv cc, iv 3, iv 2, rv d2, rv d2, iv 1, iv 1, iv 1]) rfl (q := 27) rfl ?_
  refine o_aload X5 hx hby d7_27 rfl rfl (q := 29) rfl ?_
  refine o_lenV X5 hx hby hZ e5 Vd2 d7_29 (q := 30) rfl ?_
  refine o_istore X5 hx hby d7_30 (l' := #[rv o0, rv o1, rv cc, iv 3, iv 2, rv d2, rv d2, iv 2, iv 1, iv 1]) rfl (q := 32) rfl ?_
  refine o_iconst X5 hx hby d7_32 (z := 0) rfl (q := 33) rfl ?_
  refine o_istore X5 hx hby d7_33 (l' := #[rv o0, rv o1, rv cc, iv 3, iv 2, rv d2, rv d2, iv 2, iv 0, iv 1]) rfl (q := 35) rfl ?_
  refine o_iload X5 hx hby d7_35 rfl (q := 37) rfl ?_
  refine o_iload X5 hx hby d7_37 rfl (q := 39) rfl ?_
  refine o_icN X5 hx hby d7_39 (tlt (by decide : (0 : Int32) < (2 : Int32))).2.1 (q := 42) rfl ?_
  refine o_aload X5 hx hby d7_42 rfl rfl (q := 44) rfl ?_
  refine o_iload X5 hx hby d7_44 rfl (q := 46) rfl ?_
  refine o_iaV X5 hx hby hZ e5 Vd2 ⟨by decide, by decide⟩ (v := .int 2) rfl d7_46 (q := 47) rfl ?_
  refine o_istore X5 hx hby d7_47 (l' := #[rv o0, rv o1, rv cc, iv 3, iv 2, rv d2, rv d2, iv 2, iv 0, iv 2]) rfl (q := 49) rfl ?_
  refine o_aloadN X5 hx hby d7_49 rfl rfl (q := 50) rfl ?_
  refine o_getF X5 hx hZ hown hby (w_ hw 31 rfl) Via.refl e5 Fc d7_50 (q := 53) rfl fun T6 X6 e6 => ?_
  refine o_iload X6 hx hby d7_53 rfl (q := 55) rfl ?_
  refine o_iaV X6 hx hby hZ e6 Vc ⟨by decide, by decide⟩ (v := .int c2) rfl d7_55 (q := 56) rfl ?_
  refine o_aloadN X6 hx hby d7_56 rfl rfl (q := 57) rfl ?_
  refine o_getF X6 hx hZ hown hby (w_ hw 31 rfl) Via.refl e6 Fc d7_57 (q := 60) rfl fun T7 X7 e7 => ?_
  refine o_aload X7 hx hby d7_60 rfl rfl (q := 62) rfl ?_
  refine o_iconst X7 hx hby d7_62 (z := 0) rfl (q := 63) rfl ?_
  refine o_iaV X7 hx hby hZ e7 Vd2 ⟨by decide, by decide⟩ (v := .int 2) rfl d7_63 (q := 64) rfl ?_
  refine o_iaV X7 hx hby hZ e7 Vc ⟨by decide, by decide⟩ (v := .int c2) rfl d7_64 (q := 65) rfl ?_
  refine o_icY X7 hx hby d7_65 (teq (rfl : c2 = c2)).1 (by decide) (q := 70) (by decide) ?_
  refine o_iinc X7 hx hby d7_70 rfl (l' := #[rv o0, rv o1, rv cc, iv 3, iv 2, rv d2, rv d2, iv 2, iv 1, iv 2]) rfl (q := 73) rfl ?_
  refine o_goto X7 hx hby d7_73 (by decide) (q := 35) (by decide) ?_
  refine o_iload X7 hx hby d7_35 rfl (q := 37) rfl ?_
  refine o_iload X7 hx hby d7_37 rfl (q := 39) rfl ?_
  refine o_icN X7 hx hby d7_39 (tlt (by decide : (1 : Int32) < (2 : Int32))).2.1 (q := 42) rfl ?_
  refine o_aload X7 hx hby d7_42 rfl rfl (q := 44) rfl ?_
  refine o_iload X7 hx hby d7_44 rfl (q := 46) rfl ?_
  refine o_iaV X7 hx hby hZ e7 Vd2 ⟨by decide, by decide⟩ (v := .int 3) rfl d7_46 (q := 47) rfl ?_
  refine o_istore X7 hx hby d7_47 (l' := #[rv o0, rv o1, rv cc, iv 3, iv 2, rv d2, rv d2, iv 2, iv 1, iv 3]) rfl (q := 49) rfl ?_
  refine o_aloadN X7 hx hby d7_49 rfl rfl (q := 50) rfl ?_
  refine o_getF X7 hx hZ hown hby (w_ hw 31 rfl) Via.refl e7 Fc d7_50 (q := 53) rfl fun T8 X8 e8 => ?_
  refine o_iload X8 hx hby d7_53 rfl (q := 55) rfl ?_
  refine o_iaV X8 hx hby hZ e8 Vc ⟨by decide, by decide⟩ (v := .int c3) rfl d7_55 (q := 56) rfl ?_
  refine o_aloadN X8 hx hby d7_56 rfl rfl (q := 57) rfl ?_
  refine o_getF X8 hx hZ hown hby (w_ hw 31 rfl) Via.refl e8 Fc d7_57 (q := 60) rfl fun T9 X9 e9 => ?_
  refine o_aload X9 hx hby d7_60 rfl rfl (q := 62) rfl ?_
  refine o_iconst X9 hx hby d7_62 (z := 0) rfl (q := 63) rfl ?_
  refine o_iaV X9 hx hby hZ e9 Vd2 ⟨by decide, by decide⟩ (v := .int 2) rfl d7_63 (q := 64) rfl ?_
  refine o_iaV X9 hx hby hZ e9 Vc ⟨by decide, by decide⟩ (v := .int c2) rfl d7_64 (q := 65) rfl ?_
  by_cases hc65_10 : c3 = c2
  · skip
    refine o_icY X9 hx hby d7_65 (teq hc65_10).1 (by decide) (q := 70) (by decide) ?_
    refine o_iinc X9 hx hby d7_70 rfl (l' := #[rv o0, rv o1, rv cc, iv 3, iv 2, rv d2, rv d2, iv 2, iv 2, iv 3]) rfl (q := 73) rfl ?_
    refine o_goto X9 hx hby d7_73 (by decide) (q := 35) (by decide) ?_
    refine o_iload X9 hx hby d7_35 rfl (q := 37) rfl ?_
    refine o_iload X9 hx hby d7_37 rfl (q := 39) rfl ?_
    refine o_icY X9 hx hby d7_39 (flt (by decide : ¬ ((2 : Int32) < (2 : Int32)))).2.1 (by decide) (q := 76) (by decide) ?_
    refine o_iinc X9 hx hby d7_76 rfl (l' := #[rv o0, rv o1, rv cc, iv 3, iv 3, rv d2, rv d2, iv 2, iv 2, iv 3]) rfl (q := 79) rfl ?_
    refine o_goto X9 hx hby d7_79 (by decide) (q := 11) (by decide) ?_
    refine o_iload X9 hx hby d7_11 rfl (q := 13) rfl ?_
    refine o_iloadN X9 hx hby d7_13 rfl (q := 14) rfl ?_
    refine o_icY X9 hx hby d7_14 (flt (by decide : ¬ ((3 : Int32) < (3 : Int32)))).2.1 (by decide) (q := 82) (by decide) ?_
    refine o_iconst X9 hx hby d7_82 (z := 1) rfl (q := 83) rfl ?_
    exact own_outN X9 hx hlk (t := .boolean) hret (by simp) (hb hby d7_83) (z' := (1 : Int32)) rfl (Q := Q7r0122 Z o0 o1 cc kcc d0 kd0 d1 kd1 d2 kd2 oc kc c0 c1 c2 c3 h0 n0) ⟨by simp only [fr0122, if_pos hc65_10], N0, e9⟩ (by decide) (by decide)
  · skip
    refine o_icN X9 hx hby d7_65 (feq hc65_10).1 (q := 68) rfl ?_
    refine o_iconst X9 hx hby d7_68 (z := 0) rfl (q := 69) rfl ?_
    exact own_outN X9 hx hlk (t := .boolean) hret (by simp) (hb hby d7_69) (z' := (0 : Int32)) rfl (Q := Q7r0122 Z o0 o1 cc kcc d0 kd0 d1 kd1 d2 kd2 oc kc c0 c1 c2 c3 h0 n0) ⟨by simp only [fr0122, if_neg hc65_10], N0, e9⟩ (by decide) (by decide)
theorem ef_4c0122n3 (m : MethodId) (x0 : Addr) (x1 : Addr) (x2 : Addr) : entryFrame m #[(.ref x0), (.ref x1), (.ref x2), (.int (3 : Int32))] 9 = mkF m 0 #[.val (.ref x0), .val (.ref x1), .val (.ref x2), .val (.int (3 : Int32)), .unset, .unset, .unset, .unset, .unset] [] := by first | (simp [entryFrame, mkF, argsToLocals, Value.category]; done) | rfl
def Q4c0122n3 (Z : State) (o0 : Addr) (o1 : Addr) (o2 : Addr) (k2 : ClassId) (h0 : Heap) (n0 : Nat) (v : Option Value) (h : Heap) (L : List Loc) : Prop := v = none ∧ Fr n0 L ∧ Keep h0 h [o0] ∧ Exa Z h o0 "com/example/slimc/slimc/game/Observation" ∧ Fld Z h o0 "com/example/slimc/slimc/game/Observation" "classOf" "[I" (.ref o2) ∧ Fld Z h o0 "com/example/slimc/slimc/game/Observation" "classCount" "I" (.int (3 : Int32)) ∧ RefOk Z h o0 fr0122
set_option maxRecDepth 65536 in
set_option maxHeartbeats 40000000 in
theorem rm4c0122n3 (l : Launch) (Z : State) (a0 : Array Value) (hw : ∀ d ∈ tables_1, d.before a0 Z = true) (ws : List Jvm.Cond) (o0 : Addr) (o1 : Addr) (o2 : Addr) (k2 : ClassId) (h0 : Heap) (n0 : Nat) (Z0 : n0 ≤ h0.size) (E : Exa Z h0 o0 "com/example/slimc/slimc/game/Observation") (F_name : Fld Z h0 o0 "com/example/slimc/slimc/game/Observation" "name" "Ljava/lang/String;" .null) (F_classOf : Fld Z h0 o0 "com/example/slimc/slimc/game/Observation" "classOf" "[I" .null) (F_classCount : Fld Z h0 o0 "com/example/slimc/slimc/game/Observation" "classCount" "I" (.int (0 : Int32))) (F_classes : Fld Z h0 o0 "com/example/slimc/slimc/game/Observation" "classes" "[[I" .null) (g_o0 : n0 ≤ o0) (V : Arv Z h0 o2 k2 .int (4 : Int32) [(.int (0 : Int32)), (.int (1 : Int32)), (.int (2 : Int32)), (.int (2 : Int32))] (.int (0 : Int32))) (n2 : o2 ≠ o0) :
    MetFree l (⟨"com/example/slimc/slimc/game/Observation", "<init>", "(Ljava/lang/String;[II)V"⟩ : MethodName) (head1 (Jvm.Cond.code (⟨"com/example/slimc/slimc/game/Observation", "<init>", "(Ljava/lang/String;[II)V"⟩ : MethodName) prog_66_method_1_code 9 none :: ws) ({ frames := 1, cells := 7, slots := 16, locals := 14 } : Room)) (fun a U => a = #[(.ref o0), (.ref o1), (.ref o2), (.int (3 : Int32))] ∧ Z.Warmed39 U.vm ∧ U.heap = h0) (fun _ _ _ _ _ => True) (fun _ U o U' => ∃ v L, o = .returned v ∧ Q4c0122n3 Z o0 o1 o2 k2 h0 n0 v U'.heap L ∧ FrameEnd U o U' L ({ frames := 1, cells := 7, slots := 16, locals := 14 } : Room).cells ({ frames := 1, cells := 7, slots := 16, locals := 14 } : Room).slots) := by
  refine MetFree.of_bodySF (plainFor_of_name pn_1) hisR ?_
  intro p e s m args below meth c s₁ Bd hml0 hP hK
  obtain ⟨rfl, hZ, hh⟩ := hP
  have hx := Bd.exec
  have hby := Bd.bytes
  have hml : c.maxLocals = 9 := hml0
  have hown : s.vm.findClass "com/example/slimc/slimc/game/Observation" = some m.cls := findClass_of_methodNamed Bd.named
  have hnm := (name_of_methodNamed Bd.named Bd.method).1
  have X0 : Stand p l e ({ frames := 1, cells := 7, slots := 16, locals := 14 } : Room) s m #[(.ref o0), (.ref o1), (.ref o2), (.int (3 : Int32))] below meth c s₁ [] 0 0 := Stand.of_body Bd
  have e0 : s₁.heap = h0 := by rw [← hh, Bd.state]; rfl
  have N0 := Fr.nil n0
  have hret := Bd.returns
  have hlk := BodyLoose.notSynchronized Bd
  show own_Out p e below (fun o U' => ∃ v L, o = .returned v ∧ Q4c0122n3 Z o0 o1 o2 k2 h0 n0 v U'.heap L ∧ FrameEnd s o U' L ({ frames := 1, cells := 7, slots := 16, locals := 14 } : Room).cells ({ frames := 1, cells := 7, slots := 16, locals := 14 } : Room).slots) (s₁.setTop (entryFrame m #[(.ref o0), (.ref o1), (.ref o2), (.int (3 : Int32))] 9))
  refine own_of (fun t k => castTop (ef_4c0122n3 m o0 o1 o2) k) ?_
  show own_Out p e below _ (s₁.setTop (mkF m 0 #[rv o0, rv o1, rv o2, iv 3, .unset, .unset, .unset, .unset, .unset] []))
  refine o_aloadN X0 hx hby d4_0 rfl rfl (q := 1) rfl ?_
  obtain ⟨T1, X1, e1, st1⟩ := initO X0 hx hZ hown (w_ hw 26 rfl) (w_ hw 27 rfl) (w_ hw 28 rfl) e0 (g := (mkF m 1 #[rv o0, rv o1, rv o2, iv 3, .unset, .unset, .unset, .unset, .unset] [.ref o0])) rfl (by rw [hml]; rfl) rfl (hb hby d4_1) (by decide) (W := 0) (by show 2 * 0 + _ ≤ _; exact Nat.le_of_eq rfl) (by decide)
  refine own_of st1 ?_
  show own_Out p e below _ (T1.setTop (mkF m 4 #[rv o0, rv o1, rv o2, iv 3, .unset, .unset, .unset, .unset, .unset] []))
  refine o_aloadN X1 hx hby d4_4 rfl rfl (q := 5) rfl ?_
  refine o_aloadN X1 hx hby d4_5 rfl rfl (q := 6) rfl ?_
  obtain ⟨T2, h2, X2, e2, W2, st2⟩ := putF X1 hx hZ hown (host := "") (Or.inl (w_ hw 29 rfl)) Via.refl e1 F_name E (Or.inr ⟨(w_ hw 30 rfl), rfl, hnm⟩) (w_ hw 10 rfl) (ty := (.object "java/lang/String")) (by decide) rfl rfl (g := (mkF m 6 #[rv o0, rv o1, rv o2, iv 3, .unset, .unset, .unset, .unset, .unset] [.ref o1, .ref o0])) rfl rfl (hb hby d4_6)
  have Fw2 := F_name.same W2
  refine own_of st2 ?_
  show own_Out p e below _ (T2.setTop (mkF m 9 #[rv o0, rv o1, rv o2, iv 3, .unset, .unset, .unset, .unset, .unset] []))
  refine o_aloadN X2 hx hby d4_9 rfl rfl (q := 10) rfl ?_
  refine o_aloadN X2 hx hby d4_10 rfl rfl (q := 11) rfl ?_
  have q4 := (F_classOf.other W2 (Or.inr (slot_ne (Or.inr (w_ hw 32 rfl)) (Or.inr (w_ hw 30 rfl)) (by decide) (t := (.array .int)) (t' := (.object "java/lang/String")) (by decide) (by decide))))
  have q5 := (E.wr W2)
  obtain ⟨T3, h3, X3, e3, W3, st3⟩ := putF X2 hx hZ hown (host := "") (Or.inl (w_ hw 31 rfl)) Via.refl e2 q4 q5 (Or.inr ⟨(w_ hw 32 rfl), rfl, hnm⟩) (w_ hw 10 rfl) (ty := (.array .int)) (by decide) rfl rfl (g := (mkF m 11 #[rv o0, rv o1, rv o2, iv 3, .unset, .unset, .unset, .unset, .unset] [.ref o2, .ref o0])) rfl rfl (hb hby d4_11)
  have q6 := (F_classOf.other W2 (Or.inr (slot_ne (Or.inr (w_ hw 32 rfl)) (Or.inr (w_ hw 30 rfl)) (by decide) (t := (.array .int)) (t' := (.object "java/lang/String")) (by decide) (by decide))))
  have Fw3 := q6.same W3
  refine own_of st3 ?_
  show own_Out p e below _ (T3.setTop (mkF m 14 #[rv o0, rv o1, rv o2, iv 3, .unset, .unset, .unset, .unset, .unset] []))
  refine o_aloadN X3 hx hby d4_14 rfl rfl (q := 15) rfl ?_
  refine o_iloadN X3 hx hby d4_15 rfl (q := 16) rfl ?_
  have q8 := ((F_classCount.other W2 (Or.inr (slot_ne (Or.inr (w_ hw 34 rfl)) (Or.inr (w_ hw 30 rfl)) (by decide) (t := .int) (t' := (.object "java/lang/String")) (by decide) (by decide)))).other W3 (Or.inr (slot_ne (Or.inr (w_ hw 34 rfl)) (Or.inr (w_ hw 32 rfl)) (by decide) (t := .int) (t' := (.array .int)) (by decide) (by decide))))
  have q9 := (q5.wr W3)
  obtain ⟨T7, h7, X7, e7, W7, st7⟩ := putF X3 hx hZ hown (host := "") (Or.inl (w_ hw 33 rfl)) Via.refl e3 q8 q9 (Or.inr ⟨(w_ hw 34 rfl), rfl, hnm⟩) (w_ hw 10 rfl) (ty := .int) (by decide) rfl rfl (g := (mkF m 16 #[rv o0, rv o1, rv o2, iv 3, .unset, .unset, .unset, .unset, .unset] [.int 3, .ref o0])) rfl rfl (hb hby d4_16)
  have q10 := ((F_classCount.other W2 (Or.inr (slot_ne (Or.inr (w_ hw 34 rfl)) (Or.inr (w_ hw 30 rfl)) (by decide) (t := .int) (t' := (.object "java/lang/String")) (by decide) (by decide)))).other W3 (Or.inr (slot_ne (Or.inr (w_ hw 34 rfl)) (Or.inr (w_ hw 32 rfl)) (by decide) (t := .int) (t' := (.array .int)) (by decide) (by decide))))
  have Fw7 := q10.same W7
  refine own_of st7 ?_
  show own_Out p e below _ (T7.setTop (mkF m 19 #[rv o0, rv o1, rv o2, iv 3, .unset, .unset, .unset, .unset, .unset] []))
  refine o_iloadN X7 hx hby d4_19 rfl (q := 20) rfl ?_
  obtain ⟨T11, h11, k11, X11, e11, E11, A11, Ex11, st11⟩ := newPE X7 hx hZ (w_ hw 4 rfl) e7 (g := (mkF m 20 #[rv o0, rv o1, rv o2, iv 3, .unset, .unset, .unset, .unset, .unset] [.int 3])) rfl (hb hby d4_20) rfl (by decide) (cap := 3) (by decide) (by decide) (by decide) (by decide) (ad := "[I") (by decide +kernel)
  obtain ⟨b11, g11⟩ : ∃ z, z = h7.size := ⟨_, rfl⟩
  rw [← g11] at A11 Ex11 st11
  have q12 := (Nat.le_trans (Nat.le_trans (Nat.le_trans Z0 (Keep.of_wr W2).1) (Keep.of_wr W3).1) (Keep.of_wr W7).1)
  have g_b11 : n0 ≤ b11 := Nat.le_trans q12 (Nat.le_of_eq g11.symm)
  have q13 := (Nat.le_trans (Nat.le_trans (Nat.le_trans (Nat.le_refl h0.size) (Keep.of_wr W2).1) (Keep.of_wr W3).1) (Keep.of_wr W7).1)
  have sz_b11 : h0.size ≤ b11 := Nat.le_trans q13 (Nat.le_of_eq g11.symm)
  have V_b11 : Arv Z h11 b11 k11 .int (3 : Int32) [(.int (0 : Int32)), (.int (0 : Int32)), (.int (0 : Int32))] (.int (0 : Int32)) := (Arv.new A11 (by decide)).pad (pad_rep [] (.int (0 : Int32)) 3)
  refine own_of st11 ?_
  show own_Out p e below _ (T11.setTop (mkF m 22 #[rv o0, rv o1, rv o2, iv 3, .unset, .unset, .unset, .unset, .unset] [.ref b11]))
  refine o_astore X11 hx hby d4_22 rfl (l' := #[rv o0, rv o1, rv o2, iv 3, rv b11, .unset, .unset, .unset, .unset]) rfl (q := 24) rfl ?_
  refine o_aloadN X11 hx hby d4_24 rfl rfl (q := 25) rfl ?_
  refine o_astore X11 hx hby d4_25 rfl (l' := #[rv o0, rv o1, rv o2, iv 3, rv b11, rv o2, .unset, .unset, .unset]) rfl (q := 27) rfl ?_
  refine o_aload X11 hx hby d4_27 rfl rfl (q := 29) rfl ?_
  have q14 := ((((V.other W2 n2).other W3 n2).other W7 n2).ext E11)
  refine o_lenV X11 hx hby hZ e11 q14 d4_29 (q := 30) rfl ?_
  refine o_istore X11 hx hby d4_30 (l' := #[rv o0, rv o1, rv o2, iv 3, rv b11, rv o2, iv 4, .unset, .unset]) rfl (q := 32) rfl ?_
  refine o_iconst X11 hx hby d4_32 (z := 0) rfl (q := 33) rfl ?_
  refine o_istore X11 hx hby d4_33 (l' := #[rv o0, rv o1, rv o2, iv 3, rv b11, rv o2, iv 4, iv 0, .unset]) rfl (q := 35) rfl ?_
  refine t1 X11 hx hby hZ e11 q14 V_b11 rfl ⟨by decide, by decide⟩ (cc := 0) rfl ⟨by decide, by decide⟩ (y := 0) rfl (y' := 1) rfl (i' := 1) rfl (iN := 0) rfl (Nat.le_of_ble_eq_true rfl) fun T15 h15 X15 e15 W15 V15 => ?_
  have ne_o2_b11 : o2 ≠ b11 := Nat.ne_of_lt (Nat.lt_of_lt_of_le V.lt sz_b11)
  have q16 := (q14.other W15 ne_o2_b11)
  refine t1 X15 hx hby hZ e15 q16 V15 rfl ⟨by decide, by decide⟩ (cc := 1) rfl ⟨by decide, by decide⟩ (y := 0) rfl (y' := 1) rfl (i' := 2) rfl (iN := 1) rfl (Nat.le_of_ble_eq_true rfl) fun T17 h17 X17 e17 W17 V17 => ?_
  have q18 := (q16.other W17 ne_o2_b11)
  refine t1 X17 hx hby hZ e17 q18 V17 rfl ⟨by decide, by decide⟩ (cc := 2) rfl ⟨by decide, by decide⟩ (y := 0) rfl (y' := 1) rfl (i' := 3) rfl (iN := 2) rfl (Nat.le_of_ble_eq_true rfl) fun T19 h19 X19 e19 W19 V19 => ?_
  have q20 := (q18.other W19 ne_o2_b11)
  refine t1 X19 hx hby hZ e19 q20 V19 rfl ⟨by decide, by decide⟩ (cc := 2) rfl ⟨by decide, by decide⟩ (y := 1) rfl (y' := 2) rfl (i' := 4) rfl (iN := 2) rfl (Nat.le_of_ble_eq_true rfl) fun T21 h21 X21 e21 W21 V21 => ?_
  refine o_iload X21 hx hby d4_35 rfl (q := 37) rfl ?_
  refine o_iload X21 hx hby d4_37 rfl (q := 39) rfl ?_
  refine o_icY X21 hx hby d4_39 (flt (by decide : ¬ ((4 : Int32) < (4 : Int32)))).2.1 (by decide) (q := 64) (by decide) ?_
  refine o_aloadN X21 hx hby d4_64 rfl rfl (q := 65) rfl ?_
  refine o_iloadN X21 hx hby d4_65 rfl (q := 66) rfl ?_
  obtain ⟨T22, h22, k22, X22, e22, E22, A22, Ex22, O22, st22⟩ := newRA X21 hx hZ hown (ty := .int) (by decide +kernel) (w_ hw 35 rfl) (w_ hw 36 rfl) e21 (g := (mkF m 66 #[rv o0, rv o1, rv o2, iv 3, rv b11, rv o2, iv 4, iv 4, iv 2] [.int 3, .ref o0])) rfl (hb hby d4_66) rfl (by decide) (cap := 3) (by decide) (by decide) (by decide) (by decide) (ad := "[[I") (by decide +kernel)
  obtain ⟨b22, g22⟩ : ∃ z, z = h21.size := ⟨_, rfl⟩
  rw [← g22] at A22 Ex22 st22
  have q23 := (Nat.le_trans (Nat.le_trans (Nat.le_trans (Nat.le_trans (Nat.le_trans q12 E11.1) (Keep.of_wr W15).1) (Keep.of_wr W17).1) (Keep.of_wr W19).1) (Keep.of_wr W21).1)
  have g_b22 : n0 ≤ b22 := Nat.le_trans q23 (Nat.le_of_eq g22.symm)
  have q24 := (Nat.le_trans (Nat.le_trans (Nat.le_trans (Nat.le_trans (Nat.le_trans q13 E11.1) (Keep.of_wr W15).1) (Keep.of_wr W17).1) (Keep.of_wr W19).1) (Keep.of_wr W21).1)
  have sz_b22 : h0.size ≤ b22 := Nat.le_trans q24 (Nat.le_of_eq g22.symm)
  have V_b22 : Arv Z h22 b22 k22 (.array .int) (3 : Int32) [.null, .null, .null] .null := (Arv.new A22 (by decide)).pad (pad_rep [] .null 3)
  refine own_of st22 ?_
  show own_Out p e below _ (T22.setTop (mkF m 69 #[rv o0, rv o1, rv o2, iv 3, rv b11, rv o2, iv 4, iv 4, iv 2] [.ref b22, .ref o0]))
  have ne_o0_b11 : o0 ≠ b11 := Nat.ne_of_lt (Nat.lt_of_lt_of_le E.lt sz_b11)
  have q26 := (((((((((F_classes.other W2 (Or.inr (slot_ne (Or.inr (w_ hw 38 rfl)) (Or.inr (w_ hw 30 rfl)) (by decide) (t := (.array (.array .int))) (t' := (.object "java/lang/String")) (by decide) (by decide)))).other W3 (Or.inr (slot_ne (Or.inr (w_ hw 38 rfl)) (Or.inr (w_ hw 32 rfl)) (by decide) (t := (.array (.array .int))) (t' := (.array .int)) (by decide) (by decide)))).other W7 (Or.inr (slot_ne (Or.inr (w_ hw 38 rfl)) (Or.inr (w_ hw 34 rfl)) (by decide) (t := (.array (.array .int))) (t' := .int) (by decide) (by decide)))).ext E11).other W15 (Or.inl ne_o0_b11)).other W17 (Or.inl ne_o0_b11)).other W19 (Or.inl ne_o0_b11)).other W21 (Or.inl ne_o0_b11)).ext E22)
  have q27 := (((((((q9.wr W7).ext E11).wr W15).wr W17).wr W19).wr W21).ext E22)
  obtain ⟨T25, h25, X25, e25, W25, st25⟩ := putF X22 hx hZ hown (host := "") (Or.inl (w_ hw 37 rfl)) Via.refl e22 q26 q27 (Or.inr ⟨(w_ hw 38 rfl), rfl, hnm⟩) (w_ hw 10 rfl) (ty := (.array (.array .int))) (by decide) rfl rfl (g := (mkF m 69 #[rv o0, rv o1, rv o2, iv 3, rv b11, rv o2, iv 4, iv 4, iv 2] [.ref b22, .ref o0])) rfl rfl (hb hby d4_69)
  have q28 := (((((((((F_classes.other W2 (Or.inr (slot_ne (Or.inr (w_ hw 38 rfl)) (Or.inr (w_ hw 30 rfl)) (by decide) (t := (.array (.array .int))) (t' := (.object "java/lang/String")) (by decide) (by decide)))).other W3 (Or.inr (slot_ne (Or.inr (w_ hw 38 rfl)) (Or.inr (w_ hw 32 rfl)) (by decide) (t := (.array (.array .int))) (t' := (.array .int)) (by decide) (by decide)))).other W7 (Or.inr (slot_ne (Or.inr (w_ hw 38 rfl)) (Or.inr (w_ hw 34 rfl)) (by decide) (t := (.array (.array .int))) (t' := .int) (by decide) (by decide)))).ext E11).other W15 (Or.inl ne_o0_b11)).other W17 (Or.inl ne_o0_b11)).other W19 (Or.inl ne_o0_b11)).other W21 (Or.inl ne_o0_b11)).ext E22)
  have Fw25 := q28.same W25
  refine own_of st25 ?_
  show own_Out p e below _ (T25.setTop (mkF m 72 #[rv o0, rv o1, rv o2, iv 3, rv b11, rv o2, iv 4, iv 4, iv 2] []))
  refine o_iconst X25 hx hby d4_72 (z := 0) rfl (q := 73) rfl ?_
  refine o_istore X25 hx hby d4_73 (l' := #[rv o0, rv o1, rv o2, iv 3, rv b11, iv 0, iv 4, iv 4, iv 2]) rfl (q := 75) rfl ?_
  refine o_iload X25 hx hby d4_75 rfl (q := 77) rfl ?_
  refine o_iloadN X25 hx hby d4_77 rfl (q := 78) rfl ?_
  refine o_icN X25 hx hby d4_78 (tlt (by decide : (0 : Int32) < (3 : Int32))).2.1 (q := 81) rfl ?_
  refine o_aloadN X25 hx hby d4_81 rfl rfl (q := 82) rfl ?_
  refine o_getF X25 hx hZ hown hby (w_ hw 37 rfl) Via.refl e25 Fw25 d4_82 (q := 85) rfl fun T29 X29 e29 => ?_
  refine o_iload X29 hx hby d4_85 rfl (q := 87) rfl ?_
  refine o_aload X29 hx hby d4_87 rfl rfl (q := 89) rfl ?_
  refine o_iload X29 hx hby d4_89 rfl (q := 91) rfl ?_
  have q30 := ((V21.ext E22).other W25 (Ne.symm ne_o0_b11))
  refine o_iaV X29 hx hby hZ e29 q30 ⟨by decide, by decide⟩ (v := .int 1) rfl d4_91 (q := 92) rfl ?_
  obtain ⟨T31, h31, k31, X31, e31, E31, A31, Ex31, st31⟩ := newPE X29 hx hZ (w_ hw 4 rfl) e29 (g := (mkF m 92 #[rv o0, rv o1, rv o2, iv 3, rv b11, iv 0, iv 4, iv 4, iv 2] [.int 1, .int 0, .ref b22])) rfl (hb hby d4_92) rfl (by decide) (cap := 1) (by decide) (by decide) (by decide) (by decide) (ad := "[I") (by decide +kernel)
  obtain ⟨b31, g31⟩ : ∃ z, z = h25.size := ⟨_, rfl⟩
  rw [← g31] at A31 Ex31 st31
  have q32 := (Nat.le_trans (Nat.le_trans q23 E22.1) (Keep.of_wr W25).1)
  have g_b31 : n0 ≤ b31 := Nat.le_trans q32 (Nat.le_of_eq g31.symm)
  have q33 := (Nat.le_trans (Nat.le_trans q24 E22.1) (Keep.of_wr W25).1)
  have sz_b31 : h0.size ≤ b31 := Nat.le_trans q33 (Nat.le_of_eq g31.symm)
  have V_b31 : Arv Z h31 b31 k31 .int (1 : Int32) [(.int (0 : Int32))] (.int (0 : Int32)) := (Arv.new A31 (by decide)).pad (pad_rep [] (.int (0 : Int32)) 1)
  refine own_of st31 ?_
  show own_Out p e below _ (T31.setTop (mkF m 94 #[rv o0, rv o1, rv o2, iv 3, rv b11, iv 0, iv 4, iv 4, iv 2] [.ref b31, .int 0, .ref b22]))
  have ne_o0_b22 : o0 ≠ b22 := Nat.ne_of_lt (Nat.lt_of_lt_of_le E.lt sz_b22)
  have q34 := ((V_b22.other W25 (Ne.symm ne_o0_b22)).ext E31)
  refine o_stVR X31 hx hby hZ e31 q34 ⟨by decide, by decide⟩ 0 rfl (Nat.le_of_ble_eq_true rfl) O22 (Ins.self Ex31) d4_94 (q := 95) rfl fun T35 h35 X35 e35 W35 V35 => ?_
  refine o_iinc X35 hx hby d4_95 rfl (l' := #[rv o0, rv o1, rv o2, iv 3, rv b11, iv 1, iv 4, iv 4, iv 2]) rfl (q := 98) rfl ?_
  refine o_goto X35 hx hby d4_98 (by decide) (q := 75) (by decide) ?_
  refine o_iload X35 hx hby d4_75 rfl (q := 77) rfl ?_
  refine o_iloadN X35 hx hby d4_77 rfl (q := 78) rfl ?_
  refine o_icN X35 hx hby d4_78 (tlt (by decide : (1 : Int32) < (3 : Int32))).2.1 (q := 81) rfl ?_
  refine o_aloadN X35 hx hby d4_81 rfl rfl (q := 82) rfl ?_
  have q37 := ((Fw25.ext E31).other W35 (Or.inl ne_o0_b22))
  refine o_getF X35 hx hZ hown hby (w_ hw 37 rfl) Via.refl e35 q37 d4_82 (q := 85) rfl fun T36 X36 e36 => ?_
  refine o_iload X36 hx hby d4_85 rfl (q := 87) rfl ?_
  refine o_aload X36 hx hby d4_87 rfl rfl (q := 89) rfl ?_
  refine o_iload X36 hx hby d4_89 rfl (q := 91) rfl ?_
  have ne_b11_b22 : b11 ≠ b22 := Nat.ne_of_lt (Nat.lt_of_lt_of_le (Nat.lt_of_lt_of_le (Nat.lt_of_lt_of_le (Nat.lt_of_lt_of_le (Nat.lt_of_lt_of_le A11.lt (Keep.of_wr W15).1) (Keep.of_wr W17).1) (Keep.of_wr W19).1) (Keep.of_wr W21).1) (Nat.le_of_eq g22.symm))
  have q38 := ((q30.ext E31).other W35 ne_b11_b22)
  refine o_iaV X36 hx hby hZ e36 q38 ⟨by decide, by decide⟩ (v := .int 1) rfl d4_91 (q := 92) rfl ?_
  obtain ⟨T39, h39, k39, X39, e39, E39, A39, Ex39, st39⟩ := newPE X36 hx hZ (w_ hw 4 rfl) e36 (g := (mkF m 92 #[rv o0, rv o1, rv o2, iv 3, rv b11, iv 1, iv 4, iv 4, iv 2] [.int 1, .int 1, .ref b22])) rfl (hb hby d4_92) rfl (by decide) (cap := 1) (by decide) (by decide) (by decide) (by decide) (ad := "[I") (by decide +kernel)
  obtain ⟨b39, g39⟩ : ∃ z, z = h35.size := ⟨_, rfl⟩
  rw [← g39] at A39 Ex39 st39
  have q40 := (Nat.le_trans (Nat.le_trans q32 E31.1) (Keep.of_wr W35).1)
  have g_b39 : n0 ≤ b39 := Nat.le_trans q40 (Nat.le_of_eq g39.symm)
  have q41 := (Nat.le_trans (Nat.le_trans q33 E31.1) (Keep.of_wr W35).1)
  have sz_b39 : h0.size ≤ b39 := Nat.le_trans q41 (Nat.le_of_eq g39.symm)
  have V_b39 : Arv Z h39 b39 k39 .int (1 : Int32) [(.int (0 : Int32))] (.int (0 : Int32)) := (Arv.new A39 (by decide)).pad (pad_rep [] (.int (0 : Int32)) 1)
  refine own_of st39 ?_
  show own_Out p e below _ (T39.setTop (mkF m 94 #[rv o0, rv o1, rv o2, iv 3, rv b11, iv 1, iv 4, iv 4, iv 2] [.ref b39, .int 1, .ref b22]))
  have q42 := (V35.ext E39)
  refine o_stVR X39 hx hby hZ e39 q42 ⟨by decide, by decide⟩ 1 rfl (Nat.le_of_ble_eq_true rfl) O22 (Ins.self Ex39) d4_94 (q := 95) rfl fun T43 h43 X43 e43 W43 V43 => ?_
  refine o_iinc X43 hx hby d4_95 rfl (l' := #[rv o0, rv o1, rv o2, iv 3, rv b11, iv 2, iv 4, iv 4, iv 2]) rfl (q := 98) rfl ?_
  refine o_goto X43 hx hby d4_98 (by decide) (q := 75) (by decide) ?_
  refine o_iload X43 hx hby d4_75 rfl (q := 77) rfl ?_
  refine o_iloadN X43 hx hby d4_77 rfl (q := 78) rfl ?_
  refine o_icN X43 hx hby d4_78 (tlt (by decide : (2 : Int32) < (3 : Int32))).2.1 (q := 81) rfl ?_
  refine o_aloadN X43 hx hby d4_81 rfl rfl (q := 82) rfl ?_
  have q45 := ((q37.ext E39).other W43 (Or.inl ne_o0_b22))
  refine o_getF X43 hx hZ hown hby (w_ hw 37 rfl) Via.refl e43 q45 d4_82 (q := 85) rfl fun T44 X44 e44 => ?_
  refine o_iload X44 hx hby d4_85 rfl (q := 87) rfl ?_
  refine o_aload X44 hx hby d4_87 rfl rfl (q := 89) rfl ?_
  refine o_iload X44 hx hby d4_89 rfl (q := 91) rfl ?_
  have q46 := ((q38.ext E39).other W43 ne_b11_b22)
  refine o_iaV X44 hx hby hZ e44 q46 ⟨by decide, by decide⟩ (v := .int 2) rfl d4_91 (q := 92) rfl ?_
  obtain ⟨T47, h47, k47, X47, e47, E47, A47, Ex47, st47⟩ := newPE X44 hx hZ (w_ hw 4 rfl) e44 (g := (mkF m 92 #[rv o0, rv o1, rv o2, iv 3, rv b11, iv 2, iv 4, iv 4, iv 2] [.int 2, .int 2, .ref b22])) rfl (hb hby d4_92) rfl (by decide) (cap := 2) (by decide) (by decide) (by decide) (by decide) (ad := "[I") (by decide +kernel)
  obtain ⟨b47, g47⟩ : ∃ z, z = h43.size := ⟨_, rfl⟩
  rw [← g47] at A47 Ex47 st47
  have q48 := (Nat.le_trans (Nat.le_trans q40 E39.1) (Keep.of_wr W43).1)
  have g_b47 : n0 ≤ b47 := Nat.le_trans q48 (Nat.le_of_eq g47.symm)
  have q49 := (Nat.le_trans (Nat.le_trans q41 E39.1) (Keep.of_wr W43).1)
  have sz_b47 : h0.size ≤ b47 := Nat.le_trans q49 (Nat.le_of_eq g47.symm)
  have V_b47 : Arv Z h47 b47 k47 .int (2 : Int32) [(.int (0 : Int32)), (.int (0 : Int32))] (.int (0 : Int32)) := (Arv.new A47 (by decide)).pad (pad_rep [] (.int (0 : Int32)) 2)
  refine own_of st47 ?_
  show own_Out p e below _ (T47.setTop (mkF m 94 #[rv o0, rv o1, rv o2, iv 3, rv b11, iv 2, iv 4, iv 4, iv 2] [.ref b47, .int 2, .ref b22]))
  have q50 := (V43.ext E47)
  refine o_stVR X47 hx hby hZ e47 q50 ⟨by decide, by decide⟩ 2 rfl (Nat.le_of_ble_eq_true rfl) O22 (Ins.self Ex47) d4_94 (q := 95) rfl fun T51 h51 X51 e51 W51 V51 => ?_
  refine o_iinc X51 hx hby d4_95 rfl (l' := #[rv o0, rv o1, rv o2, iv 3, rv b11, iv 3, iv 4, iv 4, iv 2]) rfl (q := 98) rfl ?_
  refine o_goto X51 hx hby d4_98 (by decide) (q := 75) (by decide) ?_
  refine o_iload X51 hx hby d4_75 rfl (q := 77) rfl ?_
  refine o_iloadN X51 hx hby d4_77 rfl (q := 78) rfl ?_
  refine o_icY X51 hx hby d4_78 (flt (by decide : ¬ ((3 : Int32) < (3 : Int32)))).2.1 (by decide) (q := 101) (by decide) ?_
  refine o_iloadN X51 hx hby d4_101 rfl (q := 102) rfl ?_
  obtain ⟨T52, h52, k52, X52, e52, E52, A52, Ex52, st52⟩ := newPE X51 hx hZ (w_ hw 4 rfl) e51 (g := (mkF m 102 #[rv o0, rv o1, rv o2, iv 3, rv b11, iv 3, iv 4, iv 4, iv 2] [.int 3])) rfl (hb hby d4_102) rfl (by decide) (cap := 3) (by decide) (by decide) (by decide) (by decide) (ad := "[I") (by decide +kernel)
  obtain ⟨b52, g52⟩ : ∃ z, z = h51.size := ⟨_, rfl⟩
  rw [← g52] at A52 Ex52 st52
  have q53 := (Nat.le_trans (Nat.le_trans q48 E47.1) (Keep.of_wr W51).1)
  have g_b52 : n0 ≤ b52 := Nat.le_trans q53 (Nat.le_of_eq g52.symm)
  have q54 := (Nat.le_trans (Nat.le_trans q49 E47.1) (Keep.of_wr W51).1)
  have sz_b52 : h0.size ≤ b52 := Nat.le_trans q54 (Nat.le_of_eq g52.symm)
  have V_b52 : Arv Z h52 b52 k52 .int (3 : Int32) [(.int (0 : Int32)), (.int (0 : Int32)), (.int (0 : Int32))] (.int (0 : Int32)) := (Arv.new A52 (by decide)).pad (pad_rep [] (.int (0 : Int32)) 3)
  refine own_of st52 ?_
  show own_Out p e below _ (T52.setTop (mkF m 104 #[rv o0, rv o1, rv o2, iv 3, rv b11, iv 3, iv 4, iv 4, iv 2] [.ref b52]))
  refine o_astore X52 hx hby d4_104 rfl (l' := #[rv o0, rv o1, rv o2, iv 3, rv b11, rv b52, iv 4, iv 4, iv 2]) rfl (q := 106) rfl ?_
  refine o_iconst X52 hx hby d4_106 (z := 0) rfl (q := 107) rfl ?_
  refine o_istore X52 hx hby d4_107 (l' := #[rv o0, rv o1, rv o2, iv 3, rv b11, rv b52, iv 0, iv 4, iv 2]) rfl (q := 109) rfl ?_
  have ne_o2_b22 : o2 ≠ b22 := Nat.ne_of_lt (Nat.lt_of_lt_of_le V.lt sz_b22)
  have q57 := ((((((((((q20.other W21 ne_o2_b11).ext E22).other W25 n2).ext E31).other W35 ne_o2_b22).ext E39).other W43 ne_o2_b22).ext E47).other W51 ne_o2_b22).ext E52)
  have q58 := (((q45.ext E47).other W51 (Or.inl ne_o0_b22)).ext E52)
  have q59 := (V51.ext E52)
  have ne_b22_b31 : b22 ≠ b31 := Nat.ne_of_lt (Nat.lt_of_lt_of_le (Nat.lt_of_lt_of_le A22.lt (Keep.of_wr W25).1) (Nat.le_of_eq g31.symm))
  have q60 := ((((((V_b31.other W35 (Ne.symm ne_b22_b31)).ext E39).other W43 (Ne.symm ne_b22_b31)).ext E47).other W51 (Ne.symm ne_b22_b31)).ext E52)
  have ne_b31_b52 : b31 ≠ b52 := Nat.ne_of_lt (Nat.lt_of_lt_of_le (Nat.lt_of_lt_of_le (Nat.lt_of_lt_of_le (Nat.lt_of_lt_of_le (Nat.lt_of_lt_of_le (Nat.lt_of_lt_of_le A31.lt (Keep.of_wr W35).1) E39.1) (Keep.of_wr W43).1) E47.1) (Keep.of_wr W51).1) (Nat.le_of_eq g52.symm))
  refine t3 X52 hx hby hZ e52 hw hown q57 q58 q59 V_b52 q60 ne_b31_b52 ⟨by decide, by decide⟩ (x := 0) rfl ⟨by decide, by decide⟩ rfl (f := 0) rfl ⟨by decide, by decide⟩ (f' := 1) rfl (i' := 1) rfl (iN := 0) rfl (Nat.le_of_ble_eq_true rfl) (jN := 0) rfl (Nat.le_of_ble_eq_true rfl) fun T56 h55 h56 X56 e56 W55 W56 V55 V56 => ?_
  have ne_o2_b52 : o2 ≠ b52 := Nat.ne_of_lt (Nat.lt_of_lt_of_le V.lt sz_b52)
  have ne_o2_b31 : o2 ≠ b31 := Nat.ne_of_lt (Nat.lt_of_lt_of_le V.lt sz_b31)
  have q63 := ((q57.other W55 ne_o2_b52).other W56 ne_o2_b31)
  have ne_o0_b52 : o0 ≠ b52 := Nat.ne_of_lt (Nat.lt_of_lt_of_le E.lt sz_b52)
  have ne_o0_b31 : o0 ≠ b31 := Nat.ne_of_lt (Nat.lt_of_lt_of_le E.lt sz_b31)
  have q64 := ((q58.other W55 (Or.inl ne_o0_b52)).other W56 (Or.inl ne_o0_b31))
  have ne_b22_b52 : b22 ≠ b52 := Nat.ne_of_lt (Nat.lt_of_lt_of_le (Nat.lt_of_lt_of_le (Nat.lt_of_lt_of_le (Nat.lt_of_lt_of_le (Nat.lt_of_lt_of_le (Nat.lt_of_lt_of_le (Nat.lt_of_lt_of_le (Nat.lt_of_lt_of_le A22.lt (Keep.of_wr W25).1) E31.1) (Keep.of_wr W35).1) E39.1) (Keep.of_wr W43).1) E47.1) (Keep.of_wr W51).1) (Nat.le_of_eq g52.symm))
  have q65 := ((q59.other W55 ne_b22_b52).other W56 ne_b22_b31)
  have q66 := (V55.other W56 (Ne.symm ne_b31_b52))
  have ne_b22_b39 : b22 ≠ b39 := Nat.ne_of_lt (Nat.lt_of_lt_of_le (Nat.lt_of_lt_of_le (Nat.lt_of_lt_of_le (Nat.lt_of_lt_of_le A22.lt (Keep.of_wr W25).1) E31.1) (Keep.of_wr W35).1) (Nat.le_of_eq g39.symm))
  have ne_b39_b52 : b39 ≠ b52 := Nat.ne_of_lt (Nat.lt_of_lt_of_le (Nat.lt_of_lt_of_le (Nat.lt_of_lt_of_le (Nat.lt_of_lt_of_le A39.lt (Keep.of_wr W43).1) E47.1) (Keep.of_wr W51).1) (Nat.le_of_eq g52.symm))
  have ne_b31_b39 : b31 ≠ b39 := Nat.ne_of_lt (Nat.lt_of_lt_of_le (Nat.lt_of_lt_of_le A31.lt (Keep.of_wr W35).1) (Nat.le_of_eq g39.symm))
  have q67 := ((((((V_b39.other W43 (Ne.symm ne_b22_b39)).ext E47).other W51 (Ne.symm ne_b22_b39)).ext E52).other W55 ne_b39_b52).other W56 (Ne.symm ne_b31_b39))
  refine t3 X56 hx hby hZ e56 hw hown q63 q64 q65 q66 q67 ne_b39_b52 ⟨by decide, by decide⟩ (x := 1) rfl ⟨by decide, by decide⟩ rfl (f := 0) rfl ⟨by decide, by decide⟩ (f' := 1) rfl (i' := 2) rfl (iN := 1) rfl (Nat.le_of_ble_eq_true rfl) (jN := 0) rfl (Nat.le_of_ble_eq_true rfl) fun T62 h61 h62 X62 e62 W61 W62 V61 V62 => ?_
  have ne_o2_b39 : o2 ≠ b39 := Nat.ne_of_lt (Nat.lt_of_lt_of_le V.lt sz_b39)
  have q70 := ((q63.other W61 ne_o2_b52).other W62 ne_o2_b39)
  have ne_o0_b39 : o0 ≠ b39 := Nat.ne_of_lt (Nat.lt_of_lt_of_le E.lt sz_b39)
  have q71 := ((q64.other W61 (Or.inl ne_o0_b52)).other W62 (Or.inl ne_o0_b39))
  have q72 := ((q65.other W61 ne_b22_b52).other W62 ne_b22_b39)
  have q73 := (V61.other W62 (Ne.symm ne_b39_b52))
  have ne_b22_b47 : b22 ≠ b47 := Nat.ne_of_lt (Nat.lt_of_lt_of_le (Nat.lt_of_lt_of_le (Nat.lt_of_lt_of_le (Nat.lt_of_lt_of_le (Nat.lt_of_lt_of_le (Nat.lt_of_lt_of_le A22.lt (Keep.of_wr W25).1) E31.1) (Keep.of_wr W35).1) E39.1) (Keep.of_wr W43).1) (Nat.le_of_eq g47.symm))
  have ne_b47_b52 : b47 ≠ b52 := Nat.ne_of_lt (Nat.lt_of_lt_of_le (Nat.lt_of_lt_of_le A47.lt (Keep.of_wr W51).1) (Nat.le_of_eq g52.symm))
  have ne_b31_b47 : b31 ≠ b47 := Nat.ne_of_lt (Nat.lt_of_lt_of_le (Nat.lt_of_lt_of_le (Nat.lt_of_lt_of_le (Nat.lt_of_lt_of_le A31.lt (Keep.of_wr W35).1) E39.1) (Keep.of_wr W43).1) (Nat.le_of_eq g47.symm))
  have ne_b39_b47 : b39 ≠ b47 := Nat.ne_of_lt (Nat.lt_of_lt_of_le (Nat.lt_of_lt_of_le A39.lt (Keep.of_wr W43).1) (Nat.le_of_eq g47.symm))
  have q74 := ((((((V_b47.other W51 (Ne.symm ne_b22_b47)).ext E52).other W55 ne_b47_b52).other W56 (Ne.symm ne_b31_b47)).other W61 ne_b47_b52).other W62 (Ne.symm ne_b39_b47))
  refine t3 X62 hx hby hZ e62 hw hown q70 q71 q72 q73 q74 ne_b47_b52 ⟨by decide, by decide⟩ (x := 2) rfl ⟨by decide, by decide⟩ rfl (f := 0) rfl ⟨by decide, by decide⟩ (f' := 1) rfl (i' := 3) rfl (iN := 2) rfl (Nat.le_of_ble_eq_true rfl) (jN := 0) rfl (Nat.le_of_ble_eq_true rfl) fun T69 h68 h69 X69 e69 W68 W69 V68 V69 => ?_
  have ne_o2_b47 : o2 ≠ b47 := Nat.ne_of_lt (Nat.lt_of_lt_of_le V.lt sz_b47)
  have q77 := ((q70.other W68 ne_o2_b52).other W69 ne_o2_b47)
  have ne_o0_b47 : o0 ≠ b47 := Nat.ne_of_lt (Nat.lt_of_lt_of_le E.lt sz_b47)
  have q78 := ((q71.other W68 (Or.inl ne_o0_b52)).other W69 (Or.inl ne_o0_b47))
  have q79 := ((q72.other W68 ne_b22_b52).other W69 ne_b22_b47)
  have q80 := (V68.other W69 (Ne.symm ne_b47_b52))
  refine t3 X69 hx hby hZ e69 hw hown q77 q78 q79 q80 V69 ne_b47_b52 ⟨by decide, by decide⟩ (x := 2) rfl ⟨by decide, by decide⟩ rfl (f := 1) rfl ⟨by decide, by decide⟩ (f' := 2) rfl (i' := 4) rfl (iN := 2) rfl (Nat.le_of_ble_eq_true rfl) (jN := 1) rfl (Nat.le_of_ble_eq_true rfl) fun T76 h75 h76 X76 e76 W75 W76 V75 V76 => ?_
  refine o_iload X76 hx hby d4_109 rfl (q := 111) rfl ?_
  refine o_aloadN X76 hx hby d4_111 rfl rfl (q := 112) rfl ?_
  have q81 := ((q77.other W75 ne_o2_b52).other W76 ne_o2_b47)
  refine o_lenV X76 hx hby hZ e76 q81 d4_112 (q := 113) rfl ?_
  refine o_icY X76 hx hby d4_113 (flt (by decide : ¬ ((4 : Int32) < (4 : Int32)))).2.1 (by decide) (q := 146) (by decide) ?_
  have q82 := ((q78.other W75 (Or.inl ne_o0_b52)).other W76 (Or.inl ne_o0_b47))
  have q83 := ((q79.other W75 ne_b22_b52).other W76 ne_b22_b47)
  have q84 := ((((((V56.other W61 ne_b31_b52).other W62 ne_b31_b39).other W68 ne_b31_b52).other W69 ne_b31_b47).other W75 ne_b31_b52).other W76 ne_b31_b47)
  have q85 := ((((V62.other W68 ne_b39_b52).other W69 ne_b39_b47).other W75 ne_b39_b52).other W76 ne_b39_b47)
  have q86 := ((((((((((((((((((((((((((Keep.refl h0 [o0]).wr W2 (Or.inl (List.mem_of_getElem? (i := 0) rfl))).wr W3 (Or.inl (List.mem_of_getElem? (i := 0) rfl))).wr W7 (Or.inl (List.mem_of_getElem? (i := 0) rfl))).ext E11).wr W15 (Or.inr sz_b11)).wr W17 (Or.inr sz_b11)).wr W19 (Or.inr sz_b11)).wr W21 (Or.inr sz_b11)).ext E22).wr W25 (Or.inl (List.mem_of_getElem? (i := 0) rfl))).ext E31).wr W35 (Or.inr sz_b22)).ext E39).wr W43 (Or.inr sz_b22)).ext E47).wr W51 (Or.inr sz_b22)).ext E52).wr W55 (Or.inr sz_b52)).wr W56 (Or.inr sz_b31)).wr W61 (Or.inr sz_b52)).wr W62 (Or.inr sz_b39)).wr W68 (Or.inr sz_b52)).wr W69 (Or.inr sz_b47)).wr W75 (Or.inr sz_b52)).wr W76 (Or.inr sz_b47))
  have q87 := ((((((((((((((((q27.wr W25).ext E31).wr W35).ext E39).wr W43).ext E47).wr W51).ext E52).wr W55).wr W56).wr W61).wr W62).wr W68).wr W69).wr W75).wr W76)
  have q88 := (((((((((((((((((((((((Fw3.other W7 (Or.inr (slot_ne (Or.inr (w_ hw 32 rfl)) (Or.inr (w_ hw 34 rfl)) (by decide) (t := (.array .int)) (t' := .int) (by decide) (by decide)))).ext E11).other W15 (Or.inl ne_o0_b11)).other W17 (Or.inl ne_o0_b11)).other W19 (Or.inl ne_o0_b11)).other W21 (Or.inl ne_o0_b11)).ext E22).other W25 (Or.inr (slot_ne (Or.inr (w_ hw 32 rfl)) (Or.inr (w_ hw 38 rfl)) (by decide) (t := (.array .int)) (t' := (.array (.array .int))) (by decide) (by decide)))).ext E31).other W35 (Or.inl ne_o0_b22)).ext E39).other W43 (Or.inl ne_o0_b22)).ext E47).other W51 (Or.inl ne_o0_b22)).ext E52).other W55 (Or.inl ne_o0_b52)).other W56 (Or.inl ne_o0_b31)).other W61 (Or.inl ne_o0_b52)).other W62 (Or.inl ne_o0_b39)).other W68 (Or.inl ne_o0_b52)).other W69 (Or.inl ne_o0_b47)).other W75 (Or.inl ne_o0_b52)).other W76 (Or.inl ne_o0_b47))
  have q89 := ((((((((((((((((((((((Fw7.ext E11).other W15 (Or.inl ne_o0_b11)).other W17 (Or.inl ne_o0_b11)).other W19 (Or.inl ne_o0_b11)).other W21 (Or.inl ne_o0_b11)).ext E22).other W25 (Or.inr (slot_ne (Or.inr (w_ hw 34 rfl)) (Or.inr (w_ hw 38 rfl)) (by decide) (t := .int) (t' := (.array (.array .int))) (by decide) (by decide)))).ext E31).other W35 (Or.inl ne_o0_b22)).ext E39).other W43 (Or.inl ne_o0_b22)).ext E47).other W51 (Or.inl ne_o0_b22)).ext E52).other W55 (Or.inl ne_o0_b52)).other W56 (Or.inl ne_o0_b31)).other W61 (Or.inl ne_o0_b52)).other W62 (Or.inl ne_o0_b39)).other W68 (Or.inl ne_o0_b52)).other W69 (Or.inl ne_o0_b47)).other W75 (Or.inl ne_o0_b52)).other W76 (Or.inl ne_o0_b47))
  exact own_outV X76 hx hlk hret (hb hby d4_146) (Q := Q4c0122n3 Z o0 o1 o2 k2 h0 n0) (by rw [e76]; exact ⟨rfl, (Fr.snoc X76 (own_snoc (Fr.snoc X69 (own_snoc (Fr.snoc X62 (own_snoc (Fr.snoc X56 (own_snoc (Fr.snoc X51 (Fr.snoc X43 (Fr.snoc X35 (Fr.snoc X25 (Fr.snoc X21 (Fr.snoc X19 (Fr.snoc X17 (Fr.snoc X15 (Fr.snoc X7 (Fr.snoc X3 (Fr.snoc X2 N0 g_o0) g_o0) g_o0) g_b11) g_b11) g_b11) g_b11) g_o0) g_b22) g_b22) g_b22) g_b52) g_b31) g_b52) g_b39) g_b52) g_b47) g_b52) g_b47), q86, q87, q88, q89, (fun l a0 hw ws h' K o1 oc kc c0 c1 c2 c3 n1 Z1 Fc Vc => rm7r0122 l Z a0 hw ws o0 o1 b22 k22 b31 k31 b39 k39 b47 k47 oc kc c0 c1 c2 c3 h' n1 Z1 (q82.keep K nin0) (q83.keep K nin0) (q84.keep K nin0) (q85.keep K nin0) (V76.keep K nin0) Fc Vc)⟩) (by decide) (by decide)
theorem ef_7r0123 (m : MethodId) (x0 : Addr) (x1 : Addr) : entryFrame m #[(.ref x0), (.ref x1)] 10 = mkF m 0 #[.val (.ref x0), .val (.ref x1), .unset, .unset, .unset, .unset, .unset, .unset, .unset, .unset] [] := by first | (simp [entryFrame, mkF, argsToLocals, Value.category]; done) | rfl
def fr0123 (c0 : Int32) (c1 : Int32) (c2 : Int32) (c3 : Int32) : Int32 := (1 : Int32)
def Q7r0123 (Z : State) (o0 : Addr) (o1 : Addr) (cc : Addr) (kcc : ClassId) (d0 : Addr) (kd0 : ClassId) (d1 : Addr) (kd1 : ClassId) (d2 : Addr) (kd2 : ClassId) (d3 : Addr) (kd3 : ClassId) (oc : Addr) (kc : ClassId) (c0 : Int32) (c1 : Int32) (c2 : Int32) (c3 : Int32) (h0 : Heap) (n0 : Nat) (v : Option Value) (h : Heap) (L : List Loc) : Prop := v = some (.int (fr0123 c0 c1 c2 c3)) ∧ Fr n0 L ∧ h = h0
set_option maxRecDepth 65536 in
set_option maxHeartbeats 40000000 in
theorem rm7r0123 (l : Launch) (Z : State) (a0 : Array Value) (hw : ∀ d ∈ tables_1, d.before a0 Z = true) (ws : List Jvm.Cond) (o0 : Addr) (o1 : Addr) (cc : Addr) (kcc : ClassId) (d0 : Addr) (kd0 : ClassId) (d1 : Addr) (kd1 : ClassId) (d2 : Addr) (kd2 : ClassId) (d3 : Addr) (kd3 : ClassId) (oc : Addr) (kc : ClassId) (c0 : Int32) (c1 : Int32) (c2 : Int32) (c3 : Int32) (h0 : Heap) (n0 : Nat) (Z0 : n0 ≤ h0.size) (Fs : Fld Z h0 o0 "com/example/slimc/slimc/game/Observation" "classes" "[[I" (.ref cc)) (Vcc : Arv Z h0 cc kcc (.array .int) (4 : Int32) [(.ref d0), (.ref d1), (.ref d2), (.ref d3)] .null) (Vd0 : Arv Z h0 d0 kd0 .int (1 : Int32) [(.int (0 : Int32))] (.int (0 : Int32))) (Vd1 : Arv Z h0 d1 kd1 .int (1 : Int32) [(.int (1 : Int32))] (.int (0 : Int32))) (Vd2 : Arv Z h0 d2 kd2 .int (1 : Int32) [(.int (2 : Int32))] (.int (0 : Int32))) (Vd3 : Arv Z h0 d3 kd3 .int (1 : Int32) [(.int (3 : Int32))] (.int (0 : Int32))) (Fc : Fld Z h0 o1 "com/example/slimc/slimc/game/Observation" "classOf" "[I" (.ref oc)) (Vc : Arv Z h0 oc kc .int (4 : Int32) [(.int c0), (.int c1), (.int c2), (.int c3)] (.int (0 : Int32))) :
    MetFree l (⟨"com/example/slimc/slimc/game/Observation", "refines", "(Lcom/example/slimc/slimc/game/Observation;)Z"⟩ : MethodName) (head1 (Jvm.Cond.code (⟨"com/example/slimc/slimc/game/Observation", "refines", "(Lcom/example/slimc/slimc/game/Observation;)Z"⟩ : MethodName) prog_66_method_8_code 10 (some .boolean) :: ws) ({ frames := 0, cells := 0, slots := 0, locals := 0 } : Room)) (fun a U => a = #[(.ref o0), (.ref o1)] ∧ Z.Warmed39 U.vm ∧ U.heap = h0) (fun _ _ _ _ _ => True) (fun _ U o U' => ∃ v L, o = .returned v ∧ Q7r0123 Z o0 o1 cc kcc d0 kd0 d1 kd1 d2 kd2 d3 kd3 oc kc c0 c1 c2 c3 h0 n0 v U'.heap L ∧ FrameEnd U o U' L ({ frames := 0, cells := 0, slots := 0, locals := 0 } : Room).cells ({ frames := 0, cells := 0, slots := 0, locals := 0 } : Room).slots) := by
  refine MetFree.of_bodySF (plainFor_of_name pn_1) hisR ?_
  intro p e s m args below meth c s₁ Bd hml0 hP hK
  obtain ⟨rfl, hZ, hh⟩ := hP
  have hx := Bd.exec
  have hby := Bd.bytes
  have hml : c.maxLocals = 10 := hml0
  have hown : s.vm.findClass "com/example/slimc/slimc/game/Observation" = some m.cls := findClass_of_methodNamed Bd.named
  have hnm := (name_of_methodNamed Bd.named Bd.method).1
  have X0 : Stand p l e ({ frames := 0, cells := 0, slots := 0, locals := 0 } : Room) s m #[(.ref o0), (.ref o1)] below meth c s₁ [] 0 0 := Stand.of_body Bd
  have e0 : s₁.heap = h0 := by rw [← hh, Bd.state]; rfl
  have N0 := Fr.nil n0
  have hret := Bd.returns
  have hlk := BodyLoose.notSynchronized Bd
  show own_Out p e below (fun o U' => ∃ v L, o = .returned v ∧ Q7r0123 Z o0 o1 cc kcc d0 kd0 d1 kd1 d2 kd2 d3 kd3 oc kc c0 c1 c2 c3 h0 n0 v U'.heap L ∧ FrameEnd s o U' L ({ frames := 0, cells := 0, slots := 0, locals := 0 } : Room).cells ({ frames := 0, cells := 0, slots := 0, locals := 0 } : Room).slots) (s₁.setTop (entryFrame m #[(.ref o0), (.ref o1)] 10))
  refine own_of (fun t k => castTop (ef_7r0123 m o0 o1) k) ?_
  show own_Out p e below _ (s₁.setTop (mkF m 0 #[rv o0, rv o1, .unset, .unset, .unset, .unset, .unset, .unset, .unset, .unset] []))
  refine o_aloadN X0 hx hby d7_0 rfl rfl (q := 1) rfl ?_
  refine o_getF X0 hx hZ hown hby (w_ hw 37 rfl) Via.refl e0 Fs d7_1 (q := 4) rfl fun T1 X1 e1 => ?_
  refine o_astoreN X1 hx hby d7_4 rfl (l' := #[rv o0, rv o1, rv cc, .unset, .unset, .unset, .unset, .unset, .unset, .unset]) rfl (q := 5) rfl ?_
  refine o_aloadN X1 hx hby d7_5 rfl rfl (q := 6) rfl ?_
  refine o_lenV X1 hx hby hZ e1 Vcc d7_6 (q := 7) rfl ?_
  refine o_istoreN X1 hx hby d7_7 (l' := #[rv o0, rv o1, rv cc, iv 4, .unset, .unset, .unset, .unset, .unset, .unset]) rfl (q := 8) rfl ?_
  refine o_iconst X1 hx hby d7_8 (z := 0) rfl (q := 9) rfl ?_
  refine o_istore X1 hx hby d7_9 (l' := #[rv o0, rv o1, rv cc, iv 4, iv 0, .unset, .unset, .unset, .unset, .unset]) rfl (q := 11) rfl ?_
  refine o_iload X1 hx hby d7_11 rfl (q := 13) rfl ?_
  refine o_iloadN X1 hx hby d7_13 rfl (q := 14) rfl ?_
  refine o_icN X1 hx hby d7_14 (tlt (by decide : (0 : Int32) < (4 : Int32))).2.1 (q := 17) rfl ?_
  refine o_aloadN X1 hx hby d7_17 rfl rfl (q := 18) rfl ?_
  refine o_iload X1 hx hby d7_18 rfl (q := 20) rfl ?_
  refine o_aaV X1 hx hby hZ e1 Vcc rfl ⟨by decide, by decide⟩ (v := .ref d0) rfl d7_20 (q := 21) rfl ?_
  refine o_astore X1 hx hby d7_21 rfl (l' := #[rv o0, rv o1, rv cc, iv 4, iv 0, rv d0, .unset, .unset, .unset, .unset]) rfl (q := 23) rfl ?_
  refine o_aload X1 hx hby d7_23 rfl rfl (q := 25) rfl ?_
  refine o_astore X1 hx hby d7_25 rfl (l' := #[rv o0, rv o1, rv cc, iv 4, iv 0, rv d0, rv d0, .unset, .unset, .unset]) rfl (q := 27) rfl ?_
  refine o_aload X1 hx hby d7_27 rfl rfl (q := 29) rfl ?_
  refine o_lenV X1 hx hby hZ e1 Vd0 d7_29 (q := 30) rfl ?_
  refine o_istore X1 hx hby d7_30 (l' := #[rv o0, rv o1, rv cc, iv 4, iv 0, rv d0, rv d0, iv 1, .unset, .unset]) rfl (q := 32) rfl ?_
  refine o_iconst X1 hx hby d7_32 (z := 0) rfl (q := 33) rfl ?_
  refine o_istore X1 hx hby d7_33 (l' := #[rv o0, rv o1, rv cc, iv 4, iv 0, rv d0, rv d0, iv 1, iv 0, .unset]) rfl (q := 35) rfl ?_
  refine o_iload X1 hx hby d7_35 rfl (q := 37) rfl ?_
  refine o_iload X1 hx hby d7_37 rfl (q := 39) rfl ?_
  refine o_icN X1 hx hby d7_39 (tlt (by decide : (0 : Int32) < (1 : Int32))).2.1 (q := 42) rfl ?_
  refine o_aload X1 hx hby d7_42 rfl rfl (q := 44) rfl ?_
  refine o_iload X1 hx hby d7_44 rfl (q := 46) rfl ?_
  refine o_iaV X1 hx hby hZ e1 Vd0 ⟨by decide, by decide⟩ (v := .int 0) rfl d7_46 (q := 47) rfl ?_
  refine o_istore X1 hx hby d7_47 (l' := #[rv o0, rv o1, rv cc, iv 4, iv 0, rv d0, rv d0, iv 1, iv 0, iv 0]) rfl (q := 49) rfl ?_
  refine o_aloadN X1 hx hby d7_49 rfl rfl (q := 50) rfl ?_
  refine o_getF X1 hx hZ hown hby (w_ hw 31 rfl) Via.refl e1 Fc d7_50 (q := 53) rfl fun T2 X2 e2 => ?_
  refine o_iload X2 hx hby d7_53 rfl (q := 55) rfl ?_
  refine o_iaV X2 hx hby hZ e2 Vc ⟨by decide, by decide⟩ (v := .int c0) rfl d7_55 (q := 56) rfl ?_
  refine o_aloadN X2 hx hby d7_56 rfl rfl (q := 57) rfl ?_
  refine o_getF X2 hx hZ hown hby (w_ hw 31 rfl) Via.refl e2 Fc d7_57 (q := 60) rfl fun T3 X3 e3 => ?_
  refine o_aload X3 hx hby d7_60 rfl rfl (q := 62) rfl ?_
  refine o_iconst X3 hx hby d7_62 (z := 0) rfl (q := 63) rfl ?_
  refine o_iaV X3 hx hby hZ e3 Vd0 ⟨by decide, by decide⟩ (v := .int 0) rfl d7_63 (q := 64) rfl ?_
  refine o_iaV X3 hx hby hZ e3 Vc ⟨by decide, by decide⟩ (v := .int c0) rfl d7_64 (q := 65) rfl ?_
  refine o_icY X3 hx hby d7_65 (teq (rfl : c0 = c0)).1 (by decide) (q := 70) (by decide) ?_
  refine o_iinc X3 hx hby d7_70 rfl (l' := #[rv o0, rv o1, rv cc, iv 4, iv 0, rv d0, rv d0, iv 1, iv 1, iv 0]) rfl (q := 73) rfl ?_
  refine o_goto X3 hx hby d7_73 (by decide) (q := 35) (by decide) ?_
  refine o_iload X3 hx hby d7_35 rfl (q := 37) rfl ?_
  refine o_iload X3 hx hby d7_37 rfl (q := 39) rfl ?_
  refine o_icY X3 hx hby d7_39 (flt (by decide : ¬ ((1 : Int32) < (1 : Int32)))).2.1 (by decide) (q := 76) (by decide) ?_
  refine o_iinc X3 hx hby d7_76 rfl (l' := #[rv o0, rv o1, rv cc, iv 4, iv 1, rv d0, rv d0, iv 1, iv 1, iv 0]) rfl (q := 79) rfl ?_
  refine o_goto X3 hx hby d7_79 (by decide) (q := 11) (by decide) ?_
  refine o_iload X3 hx hby d7_11 rfl (q := 13) rfl ?_
  refine o_iloadN X3 hx hby d7_13 rfl (q := 14) rfl ?_
  refine o_icN X3 hx hby d7_14 (tlt (by decide : (1 : Int32) < (4 : Int32))).2.1 (q := 17) rfl ?_
  refine o_aloadN X3 hx hby d7_17 rfl rfl (q := 18) rfl ?_
  refine o_iload X3 hx hby d7_18 rfl (q := 20) rfl ?_
  refine o_aaV X3 hx hby hZ e3 Vcc rfl ⟨by decide, by decide⟩ (v := .ref d1) rfl d7_20 (q := 21) rfl ?_
  refine o_astore X3 hx hby d7_21 rfl (l' := #[rv o0, rv o1, rv cc, iv 4, iv 1, rv d1, rv d0, iv 1, iv 1, iv 0]) rfl (q := 23) rfl ?_
  refine o_aload X3 hx hby d7_23 rfl rfl (q := 25) rfl ?_
  refine o_astore X3 hx hby d7_25 rfl (l' := #[rv o0, rv o1, rv cc, iv 4, iv 1, rv d1, rv d1, iv 1, iv 1, iv 0]) rfl (q := 27) rfl ?_
  refine o_aload X3 hx hby d7_27 rfl rfl (q := 29) rfl ?_
  refine o_lenV X3 hx hby hZ e3 Vd1 d7_29 (q := 30) rfl ?_
  refine o_istore X3 hx hby d7_30 (l' := #[rv o0, rv o1, rv cc, iv 4, iv 1, rv d1, rv d1, iv 1, iv 1, iv 0]) rfl (q := 32) rfl ?_
  refine o_iconst X3 hx hby d7_32 (z := 0) rfl (q := 33) rfl ?_
  refine o_istore X3 hx hby d7_33 (l' := #[rv o0, rv o1, rv cc, iv 4, iv 1, rv d1, rv d1, iv 1, iv 0, iv 0]) rfl (q := 35) rfl ?_
  refine o_iload X3 hx hby d7_35 rfl (q := 37) rfl ?_
  refine o_iload X3 hx hby d7_37 rfl (q := 39) rfl ?_
  refine o_icN X3 hx hby d7_39 (tlt (by decide : (0 : Int32) < (1 : Int32))).2.1 (q := 42) rfl ?_
  refine o_aload X3 hx hby d7_42 rfl rfl (q := 44) rfl ?_
  refine o_iload X3 hx hby d7_44 rfl (q := 46) rfl ?_
  refine o_iaV X3 hx hby hZ e3 Vd1 ⟨by decide, by decide⟩ (v := .int 1) rfl d7_46 (q := 47) rfl ?_
  refine o_istore X3 hx hby d7_47 (l' := #[rv o0, rv o1, rv cc, iv 4, iv 1, rv d1, rv d1, iv 1, iv 0, iv 1]) rfl (q := 49) rfl ?_
  refine o_aloadN X3 hx hby d7_49 rfl rfl (q := 50) rfl ?_
  refine o_getF X3 hx hZ hown hby (w_ hw 31 rfl) Via.refl e3 Fc d7_50 (q := 53) rfl fun T4 X4 e4 => ?_
  refine o_iload X4 hx hby d7_53 rfl (q := 55) rfl ?_
  refine o_iaV X4 hx hby hZ e4 Vc ⟨by decide, by decide⟩ (v := .int c1) rfl d7_55 (q := 56) rfl ?_
  refine o_aloadN X4 hx hby d7_56 rfl rfl (q := 57) rfl ?_
  refine o_getF X4 hx hZ hown hby (w_ hw 31 rfl) Via.refl e4 Fc d7_57 (q := 60) rfl fun T5 X5 e5 => ?_
  refine o_aload X5 hx hby d7_60 rfl rfl (q := 62) rfl ?_
  refine o_iconst X5 hx hby d7_62 (z := 0) rfl (q := 63) rfl ?_
  refine o_iaV X5 hx hby hZ e5 Vd1 ⟨by decide, by decide⟩ (v := .int 1) rfl d7_63 (q := 64) rfl ?_
  refine o_iaV X5 hx hby hZ e5 Vc ⟨by decide, by decide⟩ (v := .int c1) rfl d7_64 (q := 65) rfl ?_
  refine o_icY X5 hx hby d7_65 (teq (rfl : c1 = c1)).1 (by decide) (q := 70) (by decide) ?_
  refine o_iinc X5 hx hby d7_70 rfl (l' := #[rv o0, rv o1, rv cc, iv 4, iv 1, rv d1, rv d1, iv 1, iv 1, iv 1]) rfl (q := 73) rfl ?_
  refine o_goto X5 hx hby d7_73 (by decide) (q := 35) (by decide) ?_
  refine o_iload X5 hx hby d7_35 rfl (q := 37) rfl ?_
  refine o_iload X5 hx hby d7_37 rfl (q := 39) rfl ?_
  refine o_icY X5 hx hby d7_39 (flt (by decide : ¬ ((1 : Int32) < (1 : Int32)))).2.1 (by decide) (q := 76) (by decide) ?_
  refine o_iinc X5 hx hby d7_76 rfl (l' := #[rv o0, rv o1, rv cc, iv 4, iv 2, rv d1, rv d1, iv 1, iv 1, iv 1]) rfl (q := 79) rfl ?_
  refine o_goto X5 hx hby d7_79 (by decide) (q := 11) (by decide) ?_
  refine o_iload X5 hx hby d7_11 rfl (q := 13) rfl ?_
  refine o_iloadN X5 hx hby d7_13 rfl (q := 14) rfl ?_
  refine o_icN X5 hx hby d7_14 (tlt (by decide : (2 : Int32) < (4 : Int32))).2.1 (q := 17) rfl ?_
  refine o_aloadN X5 hx hby d7_17 rfl rfl (q := 18) rfl ?_
  refine o_iload X5 hx hby d7_18 rfl (q := 20) rfl ?_
  refine o_aaV X5 hx hby hZ e5 Vcc rfl ⟨by decide, by decide⟩ (v := .ref d2) rfl d7_20 (q := 21) rfl ?_
  refine o_astore X5 hx hby d7_21 rfl (l' := #[rv o0, rv o1, rv cc, iv 4, iv 2, rv d2, rv d1, iv 1, iv 1, iv 1]) rfl (q := 23) rfl ?_
  refine o_aload X5 hx hby d7_23 rfl rfl (q := 25) rfl ?_
  refine o_astore X5 hx hby d7_25 rfl (l' := #[rv o0, rv o1, rv cc, iv 4, iv 2, rv d2, rv d2, iv 1, iv 1, iv 1]) rfl (q := 27) rfl ?_
  refine o_aload X5 hx hby d7_27 rfl rfl (q := 29) rfl ?_
  refine o_lenV X5 hx hby hZ e5 Vd2 d7_29 (q := 30) rfl ?_
  refine o_istore X5 hx hby d7_30 (l' := #[rv o0, rv o1, rv cc, iv 4, iv 2, rv d2, rv d2, iv 1, iv 1, iv 1]) rfl (q := 32) rfl ?_
  refine o_iconst X5 hx hby d7_32 (z := 0) rfl (q := 33) rfl ?_
  refine o_istore X5 hx hby d7_33 (l' := #[rv o0, rv o1, rv cc, iv 4, iv 2, rv d2, rv d2, iv 1, iv 0, iv 1]) rfl (q := 35) rfl ?_
  refine o_iload X5 hx hby d7_35 rfl (q := 37) rfl ?_
  refine o_iload X5 hx hby d7_37 rfl (q := 39) rfl ?_
  refine o_icN X5 hx hby d7_39 (tlt (by decide : (0 : Int32) < (1 : Int32))).2.1 (q := 42) rfl ?_
  refine o_aload X5 hx hby d7_42 rfl rfl (q := 44) rfl ?_
  refine o_iload X5 hx hby d7_44 rfl (q := 46) rfl ?_
  refine o_iaV X5 hx hby hZ e5 Vd2 ⟨by decide, by decide⟩ (v := .int 2) rfl d7_46 (q := 47) rfl ?_
  refine o_istore X5 hx hby d7_47 (l' := #[rv o0, rv o1, rv cc, iv 4, iv 2, rv d2, rv d2, iv 1, iv 0, iv 2]) rfl (q := 49) rfl ?_
  refine o_aloadN X5 hx hby d7_49 rfl rfl (q := 50) rfl ?_
  refine o_getF X5 hx hZ hown hby (w_ hw 31 rfl) Via.refl e5 Fc d7_50 (q := 53) rfl fun T6 X6 e6 => ?_
  refine o_iload X6 hx hby d7_53 rfl (q := 55) rfl ?_
  refine o_iaV X6 hx hby hZ e6 Vc ⟨by decide, by decide⟩ (v := .int c2) rfl d7_55 (q := 56) rfl ?_
  refine o_aloadN X6 hx hby d7_56 rfl rfl (q := 57) rfl ?_
  refine o_getF X6 hx hZ hown hby (w_ hw 31 rfl) Via.refl e6 Fc d7_57 (q := 60) rfl fun T7 X7 e7 => ?_
  refine o_aload X7 hx hby d7_60 rfl rfl (q := 62) rfl ?_
  refine o_iconst X7 hx hby d7_62 (z := 0) rfl (q := 63) rfl ?_
  refine o_iaV X7 hx hby hZ e7 Vd2 ⟨by decide, by decide⟩ (v := .int 2) rfl d7_63 (q := 64) rfl ?_
  refine o_iaV X7 hx hby hZ e7 Vc ⟨by decide, by decide⟩ (v := .int c2) rfl d7_64 (q := 65) rfl ?_
  refine o_icY X7 hx hby d7_65 (teq (rfl : c2 = c2)).1 (by decide) (q := 70) (by decide) ?_
  refine o_iinc X7 hx hby d7_70 rfl (l' := #[rv o0, rv o1, rv cc, iv 4, iv 2, rv d2, rv d2, iv 1, iv 1, iv 2]) rfl (q := 73) rfl ?_
  refine o_goto X7 hx hby d7_73 (by decide) (q := 35) (by decide) ?_
  refine o_iload X7 hx hby d7_35 rfl (q := 37) rfl ?_
  refine o_iload X7 hx hby d7_37 rfl (q := 39) rfl ?_
  refine o_icY X7 hx hby d7_39 (flt (by decide : ¬ ((1 : Int32) < (1 : Int32)))).2.1 (by decide) (q := 76) (by decide) ?_
  refine o_iinc X7 hx hby d7_76 rfl (l' := #[rv o0, rv o1, rv cc, iv 4, iv 3, rv d2, rv d2, iv 1, iv 1, iv 2]) rfl (q := 79) rfl ?_
  refine o_goto X7 hx hby d7_79 (by decide) (q := 11) (by decide) ?_
  refine o_iload X7 hx hby d7_11 rfl (q := 13) rfl ?_
  refine o_iloadN X7 hx hby d7_13 rfl (q := 14) rfl ?_
  refine o_icN X7 hx hby d7_14 (tlt (by decide : (3 : Int32) < (4 : Int32))).2.1 (q := 17) rfl ?_
  refine o_aloadN X7 hx hby d7_17 rfl rfl (q := 18) rfl ?_
  refine o_iload X7 hx hby d7_18 rfl (q := 20) rfl ?_
  refine o_aaV X7 hx hby hZ e7 Vcc rfl ⟨by decide, by decide⟩ (v := .ref d3) rfl d7_20 (q := 21) rfl ?_
  refine o_astore X7 hx hby d7_21 rfl (l' := #[rv o0, rv o1, rv cc, iv 4, iv 3, rv d3, rv d2, iv 1, iv 1, iv 2]) rfl (q := 23) rfl ?_
  refine o_aload X7 hx hby d7_23 rfl rfl (q := 25) rfl ?_
  refine o_astore X7 hx hby d7_25 rfl (l' := #[rv o0, rv o1, rv cc, iv 4, iv 3, rv d3, rv d3, iv 1, iv 1, iv 2]) rfl (q := 27) rfl ?_
  refine o_aload X7 hx hby d7_27 rfl rfl (q := 29) rfl ?_
  refine o_lenV X7 hx hby hZ e7 Vd3 d7_29 (q := 30) rfl ?_
  refine o_istore X7 hx hby d7_30 (l' := #[rv o0, rv o1, rv cc, iv 4, iv 3, rv d3, rv d3, iv 1, iv 1, iv 2]) rfl (q := 32) rfl ?_
  refine o_iconst X7 hx hby d7_32 (z := 0) rfl (q := 33) rfl ?_
  refine o_istore X7 hx hby d7_33 (l' := #[rv o0, rv o1, rv cc, iv 4, iv 3, rv d3, rv d3, iv 1, iv 0, iv 2]) rfl (q := 35) rfl ?_
  refine o_iload X7 hx hby d7_35 rfl (q := 37) rfl ?_
  refine o_iload X7 hx hby d7_37 rfl (q := 39) rfl ?_
  refine o_icN X7 hx hby d7_39 (tlt (by decide : (0 : Int32) < (1 : Int32))).2.1 (q := 42) rfl ?_
  refine o_aload X7 hx hby d7_42 rfl rfl (q := 44) rfl ?_
  refine o_iload X7 hx hby d7_44 rfl (q := 46) rfl ?_
  refine o_iaV X7 hx hby hZ e7 Vd3 ⟨by decide, by decide⟩ (v := .int 3) rfl d7_46 (q := 47) rfl ?_
  refine o_istore X7 hx hby d7_47 (l' := #[rv o0, rv o1, rv cc, iv 4, iv 3, rv d3, rv d3, iv 1, iv 0, iv 3]) rfl (q := 49) rfl ?_
  refine o_aloadN X7 hx hby d7_49 rfl rfl (q := 50) rfl ?_
  refine o_getF X7 hx hZ hown hby (w_ hw 31 rfl) Via.refl e7 Fc d7_50 (q := 53) rfl fun T8 X8 e8 => ?_
  refine o_iload X8 hx hby d7_53 rfl (q := 55) rfl ?_
  refine o_iaV X8 hx hby hZ e8 Vc ⟨by decide, by decide⟩ (v := .int c3) rfl d7_55 (q := 56) rfl ?_
  refine o_aloadN X8 hx hby d7_56 rfl rfl (q := 57) rfl ?_
  refine o_getF X8 hx hZ hown hby (w_ hw 31 rfl) Via.refl e8 Fc d7_57 (q := 60) rfl fun T9 X9 e9 => ?_
  refine o_aload X9 hx hby d7_60 rfl rfl (q := 62) rfl ?_
  refine o_iconst X9 hx hby d7_62 (z := 0) rfl (q := 63) rfl ?_
  refine o_iaV X9 hx hby hZ e9 Vd3 ⟨by decide, by decide⟩ (v := .int 3) rfl d7_63 (q := 64) rfl ?_
  refine o_iaV X9 hx hby hZ e9 Vc ⟨by decide, by decide⟩ (v := .int c3) rfl d7_64 (q := 65) rfl ?_
  refine o_icY X9 hx hby d7_65 (teq (rfl : c3 = c3)).1 (by decide) (q := 70) (by decide) ?_
  refine o_iinc X9 hx hby d7_70 rfl (l' := #[rv o0, rv o1, rv cc, iv 4, iv 3, rv d3, rv d3, iv 1, iv 1, iv 3]) rfl (q := 73) rfl ?_
  refine o_goto X9 hx hby d7_73 (by decide) (q := 35) (by decide) ?_
  refine o_iload X9 hx hby d7_35 rfl (q := 37) rfl ?_
  refine o_iload X9 hx hby d7_37 rfl (q := 39) rfl ?_
  refine o_icY X9 hx hby d7_39 (flt (by decide : ¬ ((1 : Int32) < (1 : Int32)))).2.1 (by decide) (q := 76) (by decide) ?_
  refine o_iinc X9 hx hby d7_76 rfl (l' := #[rv o0, rv o1, rv cc, iv 4, iv 4, rv d3, rv d3, iv 1, iv 1, iv 3]) rfl (q := 79) rfl ?_
  refine o_goto X9 hx hby d7_79 (by decide) (q := 11) (by decide) ?_
  refine o_iload X9 hx hby d7_11 rfl (q := 13) rfl ?_
  refine o_iloadN X9 hx hby d7_13 rfl (q := 14) rfl ?_
  refine o_icY X9 hx hby d7_14 (flt (by decide : ¬ ((4 : Int32) < (4 : Int32)))).2.1 (by decide) (q := 82) (by decide) ?_
  refine o_iconst X9 hx hby d7_82 (z := 1) rfl (q := 83) rfl ?_
  exact own_outN X9 hx hlk (t := .boolean) hret (by simp) (hb hby d7_83) (z' := (1 : Int32)) rfl (Q := Q7r0123 Z o0 o1 cc kcc d0 kd0 d1 kd1 d2 kd2 d3 kd3 oc kc c0 c1 c2 c3 h0 n0) ⟨by simp only [fr0123], N0, e9⟩ (by decide) (by decide)
theorem ef_4c0123n4 (m : MethodId) (x0 : Addr) (x1 : Addr) (x2 : Addr) : entryFrame m #[(.ref x0), (.ref x1), (.ref x2), (.int (4 : Int32))] 9 = mkF m 0 #[.val (.ref x0), .val (.ref x1), .val (.ref x2), .val (.int (4 : Int32)), .unset, .unset, .unset, .unset, .unset] [] := by first | (simp [entryFrame, mkF, argsToLocals, Value.category]; done) | rfl
def Q4c0123n4 (Z : State) (o0 : Addr) (o1 : Addr) (o2 : Addr) (k2 : ClassId) (h0 : Heap) (n0 : Nat) (v : Option Value) (h : Heap) (L : List Loc) : Prop := v = none ∧ Fr n0 L ∧ Keep h0 h [o0] ∧ Exa Z h o0 "com/example/slimc/slimc/game/Observation" ∧ Fld Z h o0 "com/example/slimc/slimc/game/Observation" "classOf" "[I" (.ref o2) ∧ Fld Z h o0 "com/example/slimc/slimc/game/Observation" "classCount" "I" (.int (4 : Int32)) ∧ RefOk Z h o0 fr0123
set_option maxRecDepth 65536 in
set_option maxHeartbeats 40000000 in
theorem rm4c0123n4 (l : Launch) (Z : State) (a0 : Array Value) (hw : ∀ d ∈ tables_1, d.before a0 Z = true) (ws : List Jvm.Cond) (o0 : Addr) (o1 : Addr) (o2 : Addr) (k2 : ClassId) (h0 : Heap) (n0 : Nat) (Z0 : n0 ≤ h0.size) (E : Exa Z h0 o0 "com/example/slimc/slimc/game/Observation") (F_name : Fld Z h0 o0 "com/example/slimc/slimc/game/Observation" "name" "Ljava/lang/String;" .null) (F_classOf : Fld Z h0 o0 "com/example/slimc/slimc/game/Observation" "classOf" "[I" .null) (F_classCount : Fld Z h0 o0 "com/example/slimc/slimc/game/Observation" "classCount" "I" (.int (0 : Int32))) (F_classes : Fld Z h0 o0 "com/example/slimc/slimc/game/Observation" "classes" "[[I" .null) (g_o0 : n0 ≤ o0) (V : Arv Z h0 o2 k2 .int (4 : Int32) [(.int (0 : Int32)), (.int (1 : Int32)), (.int (2 : Int32)), (.int (3 : Int32))] (.int (0 : Int32))) (n2 : o2 ≠ o0) :
    MetFree l (⟨"com/example/slimc/slimc/game/Observation", "<init>", "(Ljava/lang/String;[II)V"⟩ : MethodName) (head1 (Jvm.Cond.code (⟨"com/example/slimc/slimc/game/Observation", "<init>", "(Ljava/lang/String;[II)V"⟩ : MethodName) prog_66_method_1_code 9 none :: ws) ({ frames := 1, cells := 7, slots := 16, locals := 14 } : Room)) (fun a U => a = #[(.ref o0), (.ref o1), (.ref o2), (.int (4 : Int32))] ∧ Z.Warmed39 U.vm ∧ U.heap = h0) (fun _ _ _ _ _ => True) (fun _ U o U' => ∃ v L, o = .returned v ∧ Q4c0123n4 Z o0 o1 o2 k2 h0 n0 v U'.heap L ∧ FrameEnd U o U' L ({ frames := 1, cells := 7, slots := 16, locals := 14 } : Room).cells ({ frames := 1, cells := 7, slots := 16, locals := 14 } : Room).slots) := by
  refine MetFree.of_bodySF (plainFor_of_name pn_1) hisR ?_
  intro p e s m args below meth c s₁ Bd hml0 hP hK
  obtain ⟨rfl, hZ, hh⟩ := hP
  have hx := Bd.exec
  have hby := Bd.bytes
  have hml : c.maxLocals = 9 := hml0
  have hown : s.vm.findClass "com/example/slimc/slimc/game/Observation" = some m.cls := findClass_of_methodNamed Bd.named
  have hnm := (name_of_methodNamed Bd.named Bd.method).1
  have X0 : Stand p l e ({ frames := 1, cells := 7, slots := 16, locals := 14 } : Room) s m #[(.ref o0), (.ref o1), (.ref o2), (.int (4 : Int32))] below meth c s₁ [] 0 0 := Stand.of_body Bd
  have e0 : s₁.heap = h0 := by rw [← hh, Bd.state]; rfl
  have N0 := Fr.nil n0
  have hret := Bd.returns
  have hlk := BodyLoose.notSynchronized Bd
  show own_Out p e below (fun o U' => ∃ v L, o = .returned v ∧ Q4c0123n4 Z o0 o1 o2 k2 h0 n0 v U'.heap L ∧ FrameEnd s o U' L ({ frames := 1, cells := 7, slots := 16, locals := 14 } : Room).cells ({ frames := 1, cells := 7, slots := 16, locals := 14 } : Room).slots) (s₁.setTop (entryFrame m #[(.ref o0), (.ref o1), (.ref o2), (.int (4 : Int32))] 9))
  refine own_of (fun t k => castTop (ef_4c0123n4 m o0 o1 o2) k) ?_
  show own_Out p e below _ (s₁.setTop (mkF m 0 #[rv o0, rv o1, rv o2, iv 4, .unset, .unset, .unset, .unset, .unset] []))
  refine o_aloadN X0 hx hby d4_0 rfl rfl (q := 1) rfl ?_
  obtain ⟨T1, X1, e1, st1⟩ := initO X0 hx hZ hown (w_ hw 26 rfl) (w_ hw 27 rfl) (w_ hw 28 rfl) e0 (g := (mkF m 1 #[rv o0, rv o1, rv o2, iv 4, .unset, .unset, .unset, .unset, .unset] [.ref o0])) rfl (by rw [hml]; rfl) rfl (hb hby d4_1) (by decide) (W := 0) (by show 2 * 0 + _ ≤ _; exact Nat.le_of_eq rfl) (by decide)
  refine own_of st1 ?_
  show own_Out p e below _ (T1.setTop (mkF m 4 #[rv o0, rv o1, rv o2, iv 4, .unset, .unset, .unset, .unset, .unset] []))
  refine o_aloadN X1 hx hby d4_4 rfl rfl (q := 5) rfl ?_
  refine o_aloadN X1 hx hby d4_5 rfl rfl (q := 6) rfl ?_
  obtain ⟨T2, h2, X2, e2, W2, st2⟩ := putF X1 hx hZ hown (host := "") (Or.inl (w_ hw 29 rfl)) Via.refl e1 F_name E (Or.inr ⟨(w_ hw 30 rfl), rfl, hnm⟩) (w_ hw 10 rfl) (ty := (.object "java/lang/String")) (by decide) rfl rfl (g := (mkF m 6 #[rv o0, rv o1, rv o2, iv 4, .unset, .unset, .unset, .unset, .unset] [.ref o1, .ref o0])) rfl rfl (hb hby d4_6)
  have Fw2 := F_name.same W2
  refine own_of st2 ?_
  show own_Out p e below _ (T2.setTop (mkF m 9 #[rv o0, rv o1, rv o2, iv 4, .unset, .unset, .unset, .unset, .unset] []))
  refine o_aloadN X2 hx hby d4_9 rfl rfl (q := 10) rfl ?_
  refine o_aloadN X2 hx hby d4_10 rfl rfl (q := 11) rfl ?_
  have q4 := (F_classOf.other W2 (Or.inr (slot_ne (Or.inr (w_ hw 32 rfl)) (Or.inr (w_ hw 30 rfl)) (by decide) (t := (.array .int)) (t' := (.object "java/lang/String")) (by decide) (by decide))))
  have q5 := (E.wr W2)
  obtain ⟨T3, h3, X3, e3, W3, st3⟩ := putF X2 hx hZ hown (host := "") (Or.inl (w_ hw 31 rfl)) Via.refl e2 q4 q5 (Or.inr ⟨(w_ hw 32 rfl), rfl, hnm⟩) (w_ hw 10 rfl) (ty := (.array .int)) (by decide) rfl rfl (g := (mkF m 11 #[rv o0, rv o1, rv o2, iv 4, .unset, .unset, .unset, .unset, .unset] [.ref o2, .ref o0])) rfl rfl (hb hby d4_11)
  have q6 := (F_classOf.other W2 (Or.inr (slot_ne (Or.inr (w_ hw 32 rfl)) (Or.inr (w_ hw 30 rfl)) (by decide) (t := (.array .int)) (t' := (.object "java/lang/String")) (by decide) (by decide))))
  have Fw3 := q6.same W3
  refine own_of st3 ?_
  show own_Out p e below _ (T3.setTop (mkF m 14 #[rv o0, rv o1, rv o2, iv 4, .unset, .unset, .unset, .unset, .unset] []))
  refine o_aloadN X3 hx hby d4_14 rfl rfl (q := 15) rfl ?_
  refine o_iloadN X3 hx hby d4_15 rfl (q := 16) rfl ?_
  have q8 := ((F_classCount.other W2 (Or.inr (slot_ne (Or.inr (w_ hw 34 rfl)) (Or.inr (w_ hw 30 rfl)) (by decide) (t := .int) (t' := (.object "java/lang/String")) (by decide) (by decide)))).other W3 (Or.inr (slot_ne (Or.inr (w_ hw 34 rfl)) (Or.inr (w_ hw 32 rfl)) (by decide) (t := .int) (t' := (.array .int)) (by decide) (by decide))))
  have q9 := (q5.wr W3)
  obtain ⟨T7, h7, X7, e7, W7, st7⟩ := putF X3 hx hZ hown (host := "") (Or.inl (w_ hw 33 rfl)) Via.refl e3 q8 q9 (Or.inr ⟨(w_ hw 34 rfl), rfl, hnm⟩) (w_ hw 10 rfl) (ty := .int) (by decide) rfl rfl (g := (mkF m 16 #[rv o0, rv o1, rv o2, iv 4, .unset, .unset, .unset, .unset, .unset] [.int 4, .ref o0])) rfl rfl (hb hby d4_16)
  have q10 := ((F_classCount.other W2 (Or.inr (slot_ne (Or.inr (w_ hw 34 rfl)) (Or.inr (w_ hw 30 rfl)) (by decide) (t := .int) (t' := (.object "java/lang/String")) (by decide) (by decide)))).other W3 (Or.inr (slot_ne (Or.inr (w_ hw 34 rfl)) (Or.inr (w_ hw 32 rfl)) (by decide) (t := .int) (t' := (.array .int)) (by decide) (by decide))))
  have Fw7 := q10.same W7
  refine own_of st7 ?_
  show own_Out p e below _ (T7.setTop (mkF m 19 #[rv o0, rv o1, rv o2, iv 4, .unset, .unset, .unset, .unset, .unset] []))
  refine o_iloadN X7 hx hby d4_19 rfl (q := 20) rfl ?_
  obtain ⟨T11, h11, k11, X11, e11, E11, A11, Ex11, st11⟩ := newPE X7 hx hZ (w_ hw 4 rfl) e7 (g := (mkF m 20 #[rv o0, rv o1, rv o2, iv 4, .unset, .unset, .unset, .unset, .unset] [.int 4])) rfl (hb hby d4_20) rfl (by decide) (cap := 4) (by decide) (by decide) (by decide) (by decide) (ad := "[I") (by decide +kernel)
  obtain ⟨b11, g11⟩ : ∃ z, z = h7.size := ⟨_, rfl⟩
  rw [← g11] at A11 Ex11 st11
  have q12 := (Nat.le_trans (Nat.le_trans (Nat.le_trans Z0 (Keep.of_wr W2).1) (Keep.of_wr W3).1) (Keep.of_wr W7).1)
  have g_b11 : n0 ≤ b11 := Nat.le_trans q12 (Nat.le_of_eq g11.symm)
  have q13 := (Nat.le_trans (Nat.le_trans (Nat.le_trans (Nat.le_refl h0.size) (Keep.of_wr W2).1) (Keep.of_wr W3).1) (Keep.of_wr W7).1)
  have sz_b11 : h0.size ≤ b11 := Nat.le_trans q13 (Nat.le_of_eq g11.symm)
  have V_b11 : Arv Z h11 b11 k11 .int (4 : Int32) [(.int (0 : Int32)), (.int (0 : Int32)), (.int (0 : Int32)), (.int (0 : Int32))] (.int (0 : Int32)) := (Arv.new A11 (by decide)).pad (pad_rep [] (.int (0 : Int32)) 4)
  refine own_of st11 ?_
  show own_Out p e below _ (T11.setTop (mkF m 22 #[rv o0, rv o1, rv o2, iv 4, .unset, .unset, .unset, .unset, .unset] [.ref b11]))
  refine o_astore X11 hx hby d4_22 rfl (l' := #[rv o0, rv o1, rv o2, iv 4, rv b11, .unset, .unset, .unset, .unset]) rfl (q := 24) rfl ?_
  refine o_aloadN X11 hx hby d4_24 rfl rfl (q := 25) rfl ?_
  refine o_astore X11 hx hby d4_25 rfl (l' := #[rv o0, rv o1, rv o2, iv 4, rv b11, rv o2, .unset, .unset, .unset]) rfl (q := 27) rfl ?_
  refine o_aload X11 hx hby d4_27 rfl rfl (q := 29) rfl ?_
  have q14 := ((((V.other W2 n2).other W3 n2).other W7 n2).ext E11)
  refine o_lenV X11 hx hby hZ e11 q14 d4_29 (q := 30) rfl ?_
  refine o_istore X11 hx hby d4_30 (l' := #[rv o0, rv o1, rv o2, iv 4, rv b11, rv o2, iv 4, .unset, .unset]) rfl (q := 32) rfl ?_
  refine o_iconst X11 hx hby d4_32 (z := 0) rfl (q := 33) rfl ?_
  refine o_istore X11 hx hby d4_33 (l' := #[rv o0, rv o1, rv o2, iv 4, rv b11, rv o2, iv 4, iv 0, .unset]) rfl (q := 35) rfl ?_
  refine t1 X11 hx hby hZ e11 q14 V_b11 rfl ⟨by decide, by decide⟩ (cc := 0) rfl ⟨by decide, by decide⟩ (y := 0) rfl (y' := 1) rfl (i' := 1) rfl (iN := 0) rfl (Nat.le_of_ble_eq_true rfl) fun T15 h15 X15 e15 W15 V15 => ?_
  have ne_o2_b11 : o2 ≠ b11 := Nat.ne_of_lt (Nat.lt_of_lt_of_le V.lt sz_b11)
  have q16 := (q14.other W15 ne_o2_b11)
  refine t1 X15 hx hby hZ e15 q16 V15 rfl ⟨by decide, by decide⟩ (cc := 1) rfl ⟨by decide, by decide⟩ (y := 0) rfl (y' := 1) rfl (i' := 2) rfl (iN := 1) rfl (Nat.le_of_ble_eq_true rfl) fun T17 h17 X17 e17 W17 V17 => ?_
  have q18 := (q16.other W17 ne_o2_b11)
  refine t1 X17 hx hby hZ e17 q18 V17 rfl ⟨by decide, by decide⟩ (cc := 2) rfl ⟨by decide, by decide⟩ (y := 0) rfl (y' := 1) rfl (i' := 3) rfl (iN := 2) rfl (Nat.le_of_ble_eq_true rfl) fun T19 h19 X19 e19 W19 V19 => ?_
  have q20 := (q18.other W19 ne_o2_b11)
  refine t1 X19 hx hby hZ e19 q20 V19 rfl ⟨by decide, by decide⟩ (cc := 3) rfl ⟨by decide, by decide⟩ (y := 0) rfl (y' := 1) rfl (i' := 4) rfl (iN := 3) rfl (Nat.le_of_ble_eq_true rfl) fun T21 h21 X21 e21 W21 V21 => ?_
  refine o_iload X21 hx hby d4_35 rfl (q := 37) rfl ?_
  refine o_iload X21 hx hby d4_37 rfl (q := 39) rfl ?_
  refine o_icY X21 hx hby d4_39 (flt (by decide : ¬ ((4 : Int32) < (4 : Int32)))).2.1 (by decide) (q := 64) (by decide) ?_
  refine o_aloadN X21 hx hby d4_64 rfl rfl (q := 65) rfl ?_
  refine o_iloadN X21 hx hby d4_65 rfl (q := 66) rfl ?_
  obtain ⟨T22, h22, k22, X22, e22, E22, A22, Ex22, O22, st22⟩ := newRA X21 hx hZ hown (ty := .int) (by decide +kernel) (w_ hw 35 rfl) (w_ hw 36 rfl) e21 (g := (mkF m 66 #[rv o0, rv o1, rv o2, iv 4, rv b11, rv o2, iv 4, iv 4, iv 3] [.int 4, .ref o0])) rfl (hb hby d4_66) rfl (by decide) (cap := 4) (by decide) (by decide) (by decide) (by decide) (ad := "[[I") (by decide +kernel)
  obtain ⟨b22, g22⟩ : ∃ z, z = h21.size := ⟨_, rfl⟩
  rw [← g22] at A22 Ex22 st22
  have q23 := (Nat.le_trans (Nat.le_trans (Nat.le_trans (Nat.le_trans (Nat.le_trans q12 E11.1) (Keep.of_wr W15).1) (Keep.of_wr W17).1) (Keep.of_wr W19).1) (Keep.of_wr W21).1)
  have g_b22 : n0 ≤ b22 := Nat.le_trans q23 (Nat.le_of_eq g22.symm)
  have q24 := (Nat.le_trans (Nat.le_trans (Nat.le_trans (Nat.le_trans (Nat.le_trans q13 E11.1) (Keep.of_wr W15).1) (Keep.of_wr W17).1) (Keep.of_wr W19).1) (Keep.of_wr W21).1)
  have sz_b22 : h0.size ≤ b22 := Nat.le_trans q24 (Nat.le_of_eq g22.symm)
  have V_b22 : Arv Z h22 b22 k22 (.array .int) (4 : Int32) [.null, .null, .null, .null] .null := (Arv.new A22 (by decide)).pad (pad_rep [] .null 4)
  refine own_of st22 ?_
  show own_Out p e below _ (T22.setTop (mkF m 69 #[rv o0, rv o1, rv o2, iv 4, rv b11, rv o2, iv 4, iv 4, iv 3] [.ref b22, .ref o0]))
  have ne_o0_b11 : o0 ≠ b11 := Nat.ne_of_lt (Nat.lt_of_lt_of_le E.lt sz_b11)
  have q26 := (((((((((F_classes.other W2 (Or.inr (slot_ne (Or.inr (w_ hw 38 rfl)) (Or.inr (w_ hw 30 rfl)) (by decide) (t := (.array (.array .int))) (t' := (.object "java/lang/String")) (by decide) (by decide)))).other W3 (Or.inr (slot_ne (Or.inr (w_ hw 38 rfl)) (Or.inr (w_ hw 32 rfl)) (by decide) (t := (.array (.array .int))) (t' := (.array .int)) (by decide) (by decide)))).other W7 (Or.inr (slot_ne (Or.inr (w_ hw 38 rfl)) (Or.inr (w_ hw 34 rfl)) (by decide) (t := (.array (.array .int))) (t' := .int) (by decide) (by decide)))).ext E11).other W15 (Or.inl ne_o0_b11)).other W17 (Or.inl ne_o0_b11)).other W19 (Or.inl ne_o0_b11)).other W21 (Or.inl ne_o0_b11)).ext E22)
  have q27 := (((((((q9.wr W7).ext E11).wr W15).wr W17).wr W19).wr W21).ext E22)
  obtain ⟨T25, h25, X25, e25, W25, st25⟩ := putF X22 hx hZ hown (host := "") (Or.inl (w_ hw 37 rfl)) Via.refl e22 q26 q27 (Or.inr ⟨(w_ hw 38 rfl), rfl, hnm⟩) (w_ hw 10 rfl) (ty := (.array (.array .int))) (by decide) rfl rfl (g := (mkF m 69 #[rv o0, rv o1, rv o2, iv 4, rv b11, rv o2, iv 4, iv 4, iv 3] [.ref b22, .ref o0])) rfl rfl (hb hby d4_69)
  have q28 := (((((((((F_classes.other W2 (Or.inr (slot_ne (Or.inr (w_ hw 38 rfl)) (Or.inr (w_ hw 30 rfl)) (by decide) (t := (.array (.array .int))) (t' := (.object "java/lang/String")) (by decide) (by decide)))).other W3 (Or.inr (slot_ne (Or.inr (w_ hw 38 rfl)) (Or.inr (w_ hw 32 rfl)) (by decide) (t := (.array (.array .int))) (t' := (.array .int)) (by decide) (by decide)))).other W7 (Or.inr (slot_ne (Or.inr (w_ hw 38 rfl)) (Or.inr (w_ hw 34 rfl)) (by decide) (t := (.array (.array .int))) (t' := .int) (by decide) (by decide)))).ext E11).other W15 (Or.inl ne_o0_b11)).other W17 (Or.inl ne_o0_b11)).other W19 (Or.inl ne_o0_b11)).other W21 (Or.inl ne_o0_b11)).ext E22)
  have Fw25 := q28.same W25
  refine own_of st25 ?_
  show own_Out p e below _ (T25.setTop (mkF m 72 #[rv o0, rv o1, rv o2, iv 4, rv b11, rv o2, iv 4, iv 4, iv 3] []))
  refine o_iconst X25 hx hby d4_72 (z := 0) rfl (q := 73) rfl ?_
  refine o_istore X25 hx hby d4_73 (l' := #[rv o0, rv o1, rv o2, iv 4, rv b11, iv 0, iv 4, iv 4, iv 3]) rfl (q := 75) rfl ?_
  refine o_iload X25 hx hby d4_75 rfl (q := 77) rfl ?_
  refine o_iloadN X25 hx hby d4_77 rfl (q := 78) rfl ?_
  refine o_icN X25 hx hby d4_78 (tlt (by decide : (0 : Int32) < (4 : Int32))).2.1 (q := 81) rfl ?_
  refine o_aloadN X25 hx hby d4_81 rfl rfl (q := 82) rfl ?_
  refine o_getF X25 hx hZ hown hby (w_ hw 37 rfl) Via.refl e25 Fw25 d4_82 (q := 85) rfl fun T29 X29 e29 => ?_
  refine o_iload X29 hx hby d4_85 rfl (q := 87) rfl ?_
  refine o_aload X29 hx hby d4_87 rfl rfl (q := 89) rfl ?_
  refine o_iload X29 hx hby d4_89 rfl (q := 91) rfl ?_
  have q30 := ((V21.ext E22).other W25 (Ne.symm ne_o0_b11))
  refine o_iaV X29 hx hby hZ e29 q30 ⟨by decide, by decide⟩ (v := .int 1) rfl d4_91 (q := 92) rfl ?_
  obtain ⟨T31, h31, k31, X31, e31, E31, A31, Ex31, st31⟩ := newPE X29 hx hZ (w_ hw 4 rfl) e29 (g := (mkF m 92 #[rv o0, rv o1, rv o2, iv 4, rv b11, iv 0, iv 4, iv 4, iv 3] [.int 1, .int 0, .ref b22])) rfl (hb hby d4_92) rfl (by decide) (cap := 1) (by decide) (by decide) (by decide) (by decide) (ad := "[I") (by decide +kernel)
  obtain ⟨b31, g31⟩ : ∃ z, z = h25.size := ⟨_, rfl⟩
  rw [← g31] at A31 Ex31 st31
  have q32 := (Nat.le_trans (Nat.le_trans q23 E22.1) (Keep.of_wr W25).1)
  have g_b31 : n0 ≤ b31 := Nat.le_trans q32 (Nat.le_of_eq g31.symm)
  have q33 := (Nat.le_trans (Nat.le_trans q24 E22.1) (Keep.of_wr W25).1)
  have sz_b31 : h0.size ≤ b31 := Nat.le_trans q33 (Nat.le_of_eq g31.symm)
  have V_b31 : Arv Z h31 b31 k31 .int (1 : Int32) [(.int (0 : Int32))] (.int (0 : Int32)) := (Arv.new A31 (by decide)).pad (pad_rep [] (.int (0 : Int32)) 1)
  refine own_of st31 ?_
  show own_Out p e below _ (T31.setTop (mkF m 94 #[rv o0, rv o1, rv o2, iv 4, rv b11, iv 0, iv 4, iv 4, iv 3] [.ref b31, .int 0, .ref b22]))
  have ne_o0_b22 : o0 ≠ b22 := Nat.ne_of_lt (Nat.lt_of_lt_of_le E.lt sz_b22)
  have q34 := ((V_b22.other W25 (Ne.symm ne_o0_b22)).ext E31)
  refine o_stVR X31 hx hby hZ e31 q34 ⟨by decide, by decide⟩ 0 rfl (Nat.le_of_ble_eq_true rfl) O22 (Ins.self Ex31) d4_94 (q := 95) rfl fun T35 h35 X35 e35 W35 V35 => ?_
  refine o_iinc X35 hx hby d4_95 rfl (l' := #[rv o0, rv o1, rv o2, iv 4, rv b11, iv 1, iv 4, iv 4, iv 3]) rfl (q := 98) rfl ?_
  refine o_goto X35 hx hby d4_98 (by decide) (q := 75) (by decide) ?_
  refine o_iload X35 hx hby d4_75 rfl (q := 77) rfl ?_
  refine o_iloadN X35 hx hby d4_77 rfl (q := 78) rfl ?_
  refine o_icN X35 hx hby d4_78 (tlt (by decide : (1 : Int32) < (4 : Int32))).2.1 (q := 81) rfl ?_
  refine o_aloadN X35 hx hby d4_81 rfl rfl (q := 82) rfl ?_
  have q37 := ((Fw25.ext E31).other W35 (Or.inl ne_o0_b22))
  refine o_getF X35 hx hZ hown hby (w_ hw 37 rfl) Via.refl e35 q37 d4_82 (q := 85) rfl fun T36 X36 e36 => ?_
  refine o_iload X36 hx hby d4_85 rfl (q := 87) rfl ?_
  refine o_aload X36 hx hby d4_87 rfl rfl (q := 89) rfl ?_
  refine o_iload X36 hx hby d4_89 rfl (q := 91) rfl ?_
  have ne_b11_b22 : b11 ≠ b22 := Nat.ne_of_lt (Nat.lt_of_lt_of_le (Nat.lt_of_lt_of_le (Nat.lt_of_lt_of_le (Nat.lt_of_lt_of_le (Nat.lt_of_lt_of_le A11.lt (Keep.of_wr W15).1) (Keep.of_wr W17).1) (Keep.of_wr W19).1) (Keep.of_wr W21).1) (Nat.le_of_eq g22.symm))
  have q38 := ((q30.ext E31).other W35 ne_b11_b22)
  refine o_iaV X36 hx hby hZ e36 q38 ⟨by decide, by decide⟩ (v := .int 1) rfl d4_91 (q := 92) rfl ?_
  obtain ⟨T39, h39, k39, X39, e39, E39, A39, Ex39, st39⟩ := newPE X36 hx hZ (w_ hw 4 rfl) e36 (g := (mkF m 92 #[rv o0, rv o1, rv o2, iv 4, rv b11, iv 1, iv 4, iv 4, iv 3] [.int 1, .int 1, .ref b22])) rfl (hb hby d4_92) rfl (by decide) (cap := 1) (by decide) (by decide) (by decide) (by decide) (ad := "[I") (by decide +kernel)
  obtain ⟨b39, g39⟩ : ∃ z, z = h35.size := ⟨_, rfl⟩
  rw [← g39] at A39 Ex39 st39
  have q40 := (Nat.le_trans (Nat.le_trans q32 E31.1) (Keep.of_wr W35).1)
  have g_b39 : n0 ≤ b39 := Nat.le_trans q40 (Nat.le_of_eq g39.symm)
  have q41 := (Nat.le_trans (Nat.le_trans q33 E31.1) (Keep.of_wr W35).1)
  have sz_b39 : h0.size ≤ b39 := Nat.le_trans q41 (Nat.le_of_eq g39.symm)
  have V_b39 : Arv Z h39 b39 k39 .int (1 : Int32) [(.int (0 : Int32))] (.int (0 : Int32)) := (Arv.new A39 (by decide)).pad (pad_rep [] (.int (0 : Int32)) 1)
  refine own_of st39 ?_
  show own_Out p e below _ (T39.setTop (mkF m 94 #[rv o0, rv o1, rv o2, iv 4, rv b11, iv 1, iv 4, iv 4, iv 3] [.ref b39, .int 1, .ref b22]))
  have q42 := (V35.ext E39)
  refine o_stVR X39 hx hby hZ e39 q42 ⟨by decide, by decide⟩ 1 rfl (Nat.le_of_ble_eq_true rfl) O22 (Ins.self Ex39) d4_94 (q := 95) rfl fun T43 h43 X43 e43 W43 V43 => ?_
  refine o_iinc X43 hx hby d4_95 rfl (l' := #[rv o0, rv o1, rv o2, iv 4, rv b11, iv 2, iv 4, iv 4, iv 3]) rfl (q := 98) rfl ?_
  refine o_goto X43 hx hby d4_98 (by decide) (q := 75) (by decide) ?_
  refine o_iload X43 hx hby d4_75 rfl (q := 77) rfl ?_
  refine o_iloadN X43 hx hby d4_77 rfl (q := 78) rfl ?_
  refine o_icN X43 hx hby d4_78 (tlt (by decide : (2 : Int32) < (4 : Int32))).2.1 (q := 81) rfl ?_
  refine o_aloadN X43 hx hby d4_81 rfl rfl (q := 82) rfl ?_
  have q45 := ((q37.ext E39).other W43 (Or.inl ne_o0_b22))
  refine o_getF X43 hx hZ hown hby (w_ hw 37 rfl) Via.refl e43 q45 d4_82 (q := 85) rfl fun T44 X44 e44 => ?_
  refine o_iload X44 hx hby d4_85 rfl (q := 87) rfl ?_
  refine o_aload X44 hx hby d4_87 rfl rfl (q := 89) rfl ?_
  refine o_iload X44 hx hby d4_89 rfl (q := 91) rfl ?_
  have q46 := ((q38.ext E39).other W43 ne_b11_b22)
  refine o_iaV X44 hx hby hZ e44 q46 ⟨by decide, by decide⟩ (v := .int 1) rfl d4_91 (q := 92) rfl ?_
  obtain ⟨T47, h47, k47, X47, e47, E47, A47, Ex47, st47⟩ := newPE X44 hx hZ (w_ hw 4 rfl) e44 (g := (mkF m 92 #[rv o0, rv o1, rv o2, iv 4, rv b11, iv 2, iv 4, iv 4, iv 3] [.int 1, .int 2, .ref b22])) rfl (hb hby d4_92) rfl (by decide) (cap := 1) (by decide) (by decide) (by decide) (by decide) (ad := "[I") (by decide +kernel)
  obtain ⟨b47, g47⟩ : ∃ z, z = h43.size := ⟨_, rfl⟩
  rw [← g47] at A47 Ex47 st47
  have q48 := (Nat.le_trans (Nat.le_trans q40 E39.1) (Keep.of_wr W43).1)
  have g_b47 : n0 ≤ b47 := Nat.le_trans q48 (Nat.le_of_eq g47.symm)
  have q49 := (Nat.le_trans (Nat.le_trans q41 E39.1) (Keep.of_wr W43).1)
  have sz_b47 : h0.size ≤ b47 := Nat.le_trans q49 (Nat.le_of_eq g47.symm)
  have V_b47 : Arv Z h47 b47 k47 .int (1 : Int32) [(.int (0 : Int32))] (.int (0 : Int32)) := (Arv.new A47 (by decide)).pad (pad_rep [] (.int (0 : Int32)) 1)
  refine own_of st47 ?_
  show own_Out p e below _ (T47.setTop (mkF m 94 #[rv o0, rv o1, rv o2, iv 4, rv b11, iv 2, iv 4, iv 4, iv 3] [.ref b47, .int 2, .ref b22]))
  have q50 := (V43.ext E47)
  refine o_stVR X47 hx hby hZ e47 q50 ⟨by decide, by decide⟩ 2 rfl (Nat.le_of_ble_eq_true rfl) O22 (Ins.self Ex47) d4_94 (q := 95) rfl fun T51 h51 X51 e51 W51 V51 => ?_
  refine o_iinc X51 hx hby d4_95 rfl (l' := #[rv o0, rv o1, rv o2, iv 4, rv b11, iv 3, iv 4, iv 4, iv 3]) rfl (q := 98) rfl ?_
  refine o_goto X51 hx hby d4_98 (by decide) (q := 75) (by decide) ?_
  refine o_iload X51 hx hby d4_75 rfl (q := 77) rfl ?_
  refine o_iloadN X51 hx hby d4_77 rfl (q := 78) rfl ?_
  refine o_icN X51 hx hby d4_78 (tlt (by decide : (3 : Int32) < (4 : Int32))).2.1 (q := 81) rfl ?_
  refine o_aloadN X51 hx hby d4_81 rfl rfl (q := 82) rfl ?_
  have q53 := ((q45.ext E47).other W51 (Or.inl ne_o0_b22))
  refine o_getF X51 hx hZ hown hby (w_ hw 37 rfl) Via.refl e51 q53 d4_82 (q := 85) rfl fun T52 X52 e52 => ?_
  refine o_iload X52 hx hby d4_85 rfl (q := 87) rfl ?_
  refine o_aload X52 hx hby d4_87 rfl rfl (q := 89) rfl ?_
  refine o_iload X52 hx hby d4_89 rfl (q := 91) rfl ?_
  have q54 := ((q46.ext E47).other W51 ne_b11_b22)
  refine o_iaV X52 hx hby hZ e52 q54 ⟨by decide, by decide⟩ (v := .int 1) rfl d4_91 (q := 92) rfl ?_
  obtain ⟨T55, h55, k55, X55, e55, E55, A55, Ex55, st55⟩ := newPE X52 hx hZ (w_ hw 4 rfl) e52 (g := (mkF m 92 #[rv o0, rv o1, rv o2, iv 4, rv b11, iv 3, iv 4, iv 4, iv 3] [.int 1, .int 3, .ref b22])) rfl (hb hby d4_92) rfl (by decide) (cap := 1) (by decide) (by decide) (by decide) (by decide) (ad := "[I") (by decide +kernel)
  obtain ⟨b55, g55⟩ : ∃ z, z = h51.size := ⟨_, rfl⟩
  rw [← g55] at A55 Ex55 st55
  have q56 := (Nat.le_trans (Nat.le_trans q48 E47.1) (Keep.of_wr W51).1)
  have g_b55 : n0 ≤ b55 := Nat.le_trans q56 (Nat.le_of_eq g55.symm)
  have q57 := (Nat.le_trans (Nat.le_trans q49 E47.1) (Keep.of_wr W51).1)
  have sz_b55 : h0.size ≤ b55 := Nat.le_trans q57 (Nat.le_of_eq g55.symm)
  have V_b55 : Arv Z h55 b55 k55 .int (1 : Int32) [(.int (0 : Int32))] (.int (0 : Int32)) := (Arv.new A55 (by decide)).pad (pad_rep [] (.int (0 : Int32)) 1)
  refine own_of st55 ?_
  show own_Out p e below _ (T55.setTop (mkF m 94 #[rv o0, rv o1, rv o2, iv 4, rv b11, iv 3, iv 4, iv 4, iv 3] [.ref b55, .int 3, .ref b22]))
  have q58 := (V51.ext E55)
  refine o_stVR X55 hx hby hZ e55 q58 ⟨by decide, by decide⟩ 3 rfl (Nat.le_of_ble_eq_true rfl) O22 (Ins.self Ex55) d4_94 (q := 95) rfl fun T59 h59 X59 e59 W59 V59 => ?_
  refine o_iinc X59 hx hby d4_95 rfl (l' := #[rv o0, rv o1, rv o2, iv 4, rv b11, iv 4, iv 4, iv 4, iv 3]) rfl (q := 98) rfl ?_
  refine o_goto X59 hx hby d4_98 (by decide) (q := 75) (by decide) ?_
  refine o_iload X59 hx hby d4_75 rfl (q := 77) rfl ?_
  refine o_iloadN X59 hx hby d4_77 rfl (q := 78) rfl ?_
  refine o_icY X59 hx hby d4_78 (flt (by decide : ¬ ((4 : Int32) < (4 : Int32)))).2.1 (by decide) (q := 101) (by decide) ?_
  refine o_iloadN X59 hx hby d4_101 rfl (q := 102) rfl ?_
  obtain ⟨T60, h60, k60, X60, e60, E60, A60, Ex60, st60⟩ := newPE X59 hx hZ (w_ hw 4 rfl) e59 (g := (mkF m 102 #[rv o0, rv o1, rv o2, iv 4, rv b11, iv 4, iv 4, iv 4, iv 3] [.int 4])) rfl (hb hby d4_102) rfl (by decide) (cap := 4) (by decide) (by decide) (by decide) (by decide) (ad := "[I") (by decide +kernel)
  obtain ⟨b60, g60⟩ : ∃ z, z = h59.size := ⟨_, rfl⟩
  rw [← g60] at A60 Ex60 st60
  have q61 := (Nat.le_trans (Nat.le_trans q56 E55.1) (Keep.of_wr W59).1)
  have g_b60 : n0 ≤ b60 := Nat.le_trans q61 (Nat.le_of_eq g60.symm)
  have q62 := (Nat.le_trans (Nat.le_trans q57 E55.1) (Keep.of_wr W59).1)
  have sz_b60 : h0.size ≤ b60 := Nat.le_trans q62 (Nat.le_of_eq g60.symm)
  have V_b60 : Arv Z h60 b60 k60 .int (4 : Int32) [(.int (0 : Int32)), (.int (0 : Int32)), (.int (0 : Int32)), (.int (0 : Int32))] (.int (0 : Int32)) := (Arv.new A60 (by decide)).pad (pad_rep [] (.int (0 : Int32)) 4)
  refine own_of st60 ?_
  show own_Out p e below _ (T60.setTop (mkF m 104 #[rv o0, rv o1, rv o2, iv 4, rv b11, iv 4, iv 4, iv 4, iv 3] [.ref b60]))
  refine o_astore X60 hx hby d4_104 rfl (l' := #[rv o0, rv o1, rv o2, iv 4, rv b11, rv b60, iv 4, iv 4, iv 3]) rfl (q := 106) rfl ?_
  refine o_iconst X60 hx hby d4_106 (z := 0) rfl (q := 107) rfl ?_
  refine o_istore X60 hx hby d4_107 (l' := #[rv o0, rv o1, rv o2, iv 4, rv b11, rv b60, iv 0, iv 4, iv 3]) rfl (q := 109) rfl ?_
  have ne_o2_b22 : o2 ≠ b22 := Nat.ne_of_lt (Nat.lt_of_lt_of_le V.lt sz_b22)
  have q65 := ((((((((((((q20.other W21 ne_o2_b11).ext E22).other W25 n2).ext E31).other W35 ne_o2_b22).ext E39).other W43 ne_o2_b22).ext E47).other W51 ne_o2_b22).ext E55).other W59 ne_o2_b22).ext E60)
  have q66 := (((q53.ext E55).other W59 (Or.inl ne_o0_b22)).ext E60)
  have q67 := (V59.ext E60)
  have ne_b22_b31 : b22 ≠ b31 := Nat.ne_of_lt (Nat.lt_of_lt_of_le (Nat.lt_of_lt_of_le A22.lt (Keep.of_wr W25).1) (Nat.le_of_eq g31.symm))
  have q68 := ((((((((V_b31.other W35 (Ne.symm ne_b22_b31)).ext E39).other W43 (Ne.symm ne_b22_b31)).ext E47).other W51 (Ne.symm ne_b22_b31)).ext E55).other W59 (Ne.symm ne_b22_b31)).ext E60)
  have ne_b31_b60 : b31 ≠ b60 := Nat.ne_of_lt (Nat.lt_of_lt_of_le (Nat.lt_of_lt_of_le (Nat.lt_of_lt_of_le (Nat.lt_of_lt_of_le (Nat.lt_of_lt_of_le (Nat.lt_of_lt_of_le (Nat.lt_of_lt_of_le (Nat.lt_of_lt_of_le A31.lt (Keep.of_wr W35).1) E39.1) (Keep.of_wr W43).1) E47.1) (Keep.of_wr W51).1) E55.1) (Keep.of_wr W59).1) (Nat.le_of_eq g60.symm))
  refine t3 X60 hx hby hZ e60 hw hown q65 q66 q67 V_b60 q68 ne_b31_b60 ⟨by decide, by decide⟩ (x := 0) rfl ⟨by decide, by decide⟩ rfl (f := 0) rfl ⟨by decide, by decide⟩ (f' := 1) rfl (i' := 1) rfl (iN := 0) rfl (Nat.le_of_ble_eq_true rfl) (jN := 0) rfl (Nat.le_of_ble_eq_true rfl) fun T64 h63 h64 X64 e64 W63 W64 V63 V64 => ?_
  have ne_o2_b60 : o2 ≠ b60 := Nat.ne_of_lt (Nat.lt_of_lt_of_le V.lt sz_b60)
  have ne_o2_b31 : o2 ≠ b31 := Nat.ne_of_lt (Nat.lt_of_lt_of_le V.lt sz_b31)
  have q71 := ((q65.other W63 ne_o2_b60).other W64 ne_o2_b31)
  have ne_o0_b60 : o0 ≠ b60 := Nat.ne_of_lt (Nat.lt_of_lt_of_le E.lt sz_b60)
  have ne_o0_b31 : o0 ≠ b31 := Nat.ne_of_lt (Nat.lt_of_lt_of_le E.lt sz_b31)
  have q72 := ((q66.other W63 (Or.inl ne_o0_b60)).other W64 (Or.inl ne_o0_b31))
  have ne_b22_b60 : b22 ≠ b60 := Nat.ne_of_lt (Nat.lt_of_lt_of_le (Nat.lt_of_lt_of_le (Nat.lt_of_lt_of_le (Nat.lt_of_lt_of_le (Nat.lt_of_lt_of_le (Nat.lt_of_lt_of_le (Nat.lt_of_lt_of_le (Nat.lt_of_lt_of_le (Nat.lt_of_lt_of_le (Nat.lt_of_lt_of_le A22.lt (Keep.of_wr W25).1) E31.1) (Keep.of_wr W35).1) E39.1) (Keep.of_wr W43).1) E47.1) (Keep.of_wr W51).1) E55.1) (Keep.of_wr W59).1) (Nat.le_of_eq g60.symm))
  have q73 := ((q67.other W63 ne_b22_b60).other W64 ne_b22_b31)
  have q74 := (V63.other W64 (Ne.symm ne_b31_b60))
  have ne_b22_b39 : b22 ≠ b39 := Nat.ne_of_lt (Nat.lt_of_lt_of_le (Nat.lt_of_lt_of_le (Nat.lt_of_lt_of_le (Nat.lt_of_lt_of_le A22.lt (Keep.of_wr W25).1) E31.1) (Keep.of_wr W35).1) (Nat.le_of_eq g39.symm))
  have ne_b39_b60 : b39 ≠ b60 := Nat.ne_of_lt (Nat.lt_of_lt_of_le (Nat.lt_of_lt_of_le (Nat.lt_of_lt_of_le (Nat.lt_of_lt_of_le (Nat.lt_of_lt_of_le (Nat.lt_of_lt_of_le A39.lt (Keep.of_wr W43).1) E47.1) (Keep.of_wr W51).1) E55.1) (Keep.of_wr W59).1) (Nat.le_of_eq g60.symm))
  have ne_b31_b39 : b31 ≠ b39 := Nat.ne_of_lt (Nat.lt_of_lt_of_le (Nat.lt_of_lt_of_le A31.lt (Keep.of_wr W35).1) (Nat.le_of_eq g39.symm))
  have q75 := ((((((((V_b39.other W43 (Ne.symm ne_b22_b39)).ext E47).other W51 (Ne.symm ne_b22_b39)).ext E55).other W59 (Ne.symm ne_b22_b39)).ext E60).other W63 ne_b39_b60).other W64 (Ne.symm ne_b31_b39))
  refine t3 X64 hx hby hZ e64 hw hown q71 q72 q73 q74 q75 ne_b39_b60 ⟨by decide, by decide⟩ (x := 1) rfl ⟨by decide, by decide⟩ rfl (f := 0) rfl ⟨by decide, by decide⟩ (f' := 1) rfl (i' := 2) rfl (iN := 1) rfl (Nat.le_of_ble_eq_true rfl) (jN := 0) rfl (Nat.le_of_ble_eq_true rfl) fun T70 h69 h70 X70 e70 W69 W70 V69 V70 => ?_
  have ne_o2_b39 : o2 ≠ b39 := Nat.ne_of_lt (Nat.lt_of_lt_of_le V.lt sz_b39)
  have q78 := ((q71.other W69 ne_o2_b60).other W70 ne_o2_b39)
  have ne_o0_b39 : o0 ≠ b39 := Nat.ne_of_lt (Nat.lt_of_lt_of_le E.lt sz_b39)
  have q79 := ((q72.other W69 (Or.inl ne_o0_b60)).other W70 (Or.inl ne_o0_b39))
  have q80 := ((q73.other W69 ne_b22_b60).other W70 ne_b22_b39)
  have q81 := (V69.other W70 (Ne.symm ne_b39_b60))
  have ne_b22_b47 : b22 ≠ b47 := Nat.ne_of_lt (Nat.lt_of_lt_of_le (Nat.lt_of_lt_of_le (Nat.lt_of_lt_of_le (Nat.lt_of_lt_of_le (Nat.lt_of_lt_of_le (Nat.lt_of_lt_of_le A22.lt (Keep.of_wr W25).1) E31.1) (Keep.of_wr W35).1) E39.1) (Keep.of_wr W43).1) (Nat.le_of_eq g47.symm))
  have ne_b47_b60 : b47 ≠ b60 := Nat.ne_of_lt (Nat.lt_of_lt_of_le (Nat.lt_of_lt_of_le (Nat.lt_of_lt_of_le (Nat.lt_of_lt_of_le A47.lt (Keep.of_wr W51).1) E55.1) (Keep.of_wr W59).1) (Nat.le_of_eq g60.symm))
  have ne_b31_b47 : b31 ≠ b47 := Nat.ne_of_lt (Nat.lt_of_lt_of_le (Nat.lt_of_lt_of_le (Nat.lt_of_lt_of_le (Nat.lt_of_lt_of_le A31.lt (Keep.of_wr W35).1) E39.1) (Keep.of_wr W43).1) (Nat.le_of_eq g47.symm))
  have ne_b39_b47 : b39 ≠ b47 := Nat.ne_of_lt (Nat.lt_of_lt_of_le (Nat.lt_of_lt_of_le A39.lt (Keep.of_wr W43).1) (Nat.le_of_eq g47.symm))
  have q82 := ((((((((V_b47.other W51 (Ne.symm ne_b22_b47)).ext E55).other W59 (Ne.symm ne_b22_b47)).ext E60).other W63 ne_b47_b60).other W64 (Ne.symm ne_b31_b47)).other W69 ne_b47_b60).other W70 (Ne.symm ne_b39_b47))
  refine t3 X70 hx hby hZ e70 hw hown q78 q79 q80 q81 q82 ne_b47_b60 ⟨by decide, by decide⟩ (x := 2) rfl ⟨by decide, by decide⟩ rfl (f := 0) rfl ⟨by decide, by decide⟩ (f' := 1) rfl (i' := 3) rfl (iN := 2) rfl (Nat.le_of_ble_eq_true rfl) (jN := 0) rfl (Nat.le_of_ble_eq_true rfl) fun T77 h76 h77 X77 e77 W76 W77 V76 V77 => ?_
  have ne_o2_b47 : o2 ≠ b47 := Nat.ne_of_lt (Nat.lt_of_lt_of_le V.lt sz_b47)
  have q85 := ((q78.other W76 ne_o2_b60).other W77 ne_o2_b47)
  have ne_o0_b47 : o0 ≠ b47 := Nat.ne_of_lt (Nat.lt_of_lt_of_le E.lt sz_b47)
  have q86 := ((q79.other W76 (Or.inl ne_o0_b60)).other W77 (Or.inl ne_o0_b47))
  have q87 := ((q80.other W76 ne_b22_b60).other W77 ne_b22_b47)
  have q88 := (V76.other W77 (Ne.symm ne_b47_b60))
  have ne_b22_b55 : b22 ≠ b55 := Nat.ne_of_lt (Nat.lt_of_lt_of_le (Nat.lt_of_lt_of_le (Nat.lt_of_lt_of_le (Nat.lt_of_lt_of_le (Nat.lt_of_lt_of_le (Nat.lt_of_lt_of_le (Nat.lt_of_lt_of_le (Nat.lt_of_lt_of_le A22.lt (Keep.of_wr W25).1) E31.1) (Keep.of_wr W35).1) E39.1) (Keep.of_wr W43).1) E47.1) (Keep.of_wr W51).1) (Nat.le_of_eq g55.symm))
  have ne_b55_b60 : b55 ≠ b60 := Nat.ne_of_lt (Nat.lt_of_lt_of_le (Nat.lt_of_lt_of_le A55.lt (Keep.of_wr W59).1) (Nat.le_of_eq g60.symm))
  have ne_b31_b55 : b31 ≠ b55 := Nat.ne_of_lt (Nat.lt_of_lt_of_le (Nat.lt_of_lt_of_le (Nat.lt_of_lt_of_le (Nat.lt_of_lt_of_le (Nat.lt_of_lt_of_le (Nat.lt_of_lt_of_le A31.lt (Keep.of_wr W35).1) E39.1) (Keep.of_wr W43).1) E47.1) (Keep.of_wr W51).1) (Nat.le_of_eq g55.symm))
  have ne_b39_b55 : b39 ≠ b55 := Nat.ne_of_lt (Nat.lt_of_lt_of_le (Nat.lt_of_lt_of_le (Nat.lt_of_lt_of_le (Nat.lt_of_lt_of_le A39.lt (Keep.of_wr W43).1) E47.1) (Keep.of_wr W51).1) (Nat.le_of_eq g55.symm))
  have ne_b47_b55 : b47 ≠ b55 := Nat.ne_of_lt (Nat.lt_of_lt_of_le (Nat.lt_of_lt_of_le A47.lt (Keep.of_wr W51).1) (Nat.le_of_eq g55.symm))
  have q89 := ((((((((V_b55.other W59 (Ne.symm ne_b22_b55)).ext E60).other W63 ne_b55_b60).other W64 (Ne.symm ne_b31_b55)).other W69 ne_b55_b60).other W70 (Ne.symm ne_b39_b55)).other W76 ne_b55_b60).other W77 (Ne.symm ne_b47_b55))
  refine t3 X77 hx hby hZ e77 hw hown q85 q86 q87 q88 q89 ne_b55_b60 ⟨by decide, by decide⟩ (x := 3) rfl ⟨by decide, by decide⟩ rfl (f := 0) rfl ⟨by decide, by decide⟩ (f' := 1) rfl (i' := 4) rfl (iN := 3) rfl (Nat.le_of_ble_eq_true rfl) (jN := 0) rfl (Nat.le_of_ble_eq_true rfl) fun T84 h83 h84 X84 e84 W83 W84 V83 V84 => ?_
  refine o_iload X84 hx hby d4_109 rfl (q := 111) rfl ?_
  refine o_aloadN X84 hx hby d4_111 rfl rfl (q := 112) rfl ?_
  have ne_o2_b55 : o2 ≠ b55 := Nat.ne_of_lt (Nat.lt_of_lt_of_le V.lt sz_b55)
  have q90 := ((q85.other W83 ne_o2_b60).other W84 ne_o2_b55)
  refine o_lenV X84 hx hby hZ e84 q90 d4_112 (q := 113) rfl ?_
  refine o_icY X84 hx hby d4_113 (flt (by decide : ¬ ((4 : Int32) < (4 : Int32)))).2.1 (by decide) (q := 146) (by decide) ?_
  have ne_o0_b55 : o0 ≠ b55 := Nat.ne_of_lt (Nat.lt_of_lt_of_le E.lt sz_b55)
  have q91 := ((q86.other W83 (Or.inl ne_o0_b60)).other W84 (Or.inl ne_o0_b55))
  have q92 := ((q87.other W83 ne_b22_b60).other W84 ne_b22_b55)
  have q93 := ((((((V64.other W69 ne_b31_b60).other W70 ne_b31_b39).other W76 ne_b31_b60).other W77 ne_b31_b47).other W83 ne_b31_b60).other W84 ne_b31_b55)
  have q94 := ((((V70.other W76 ne_b39_b60).other W77 ne_b39_b47).other W83 ne_b39_b60).other W84 ne_b39_b55)
  have q95 := ((V77.other W83 ne_b47_b60).other W84 ne_b47_b55)
  have q96 := ((((((((((((((((((((((((((((Keep.refl h0 [o0]).wr W2 (Or.inl (List.mem_of_getElem? (i := 0) rfl))).wr W3 (Or.inl (List.mem_of_getElem? (i := 0) rfl))).wr W7 (Or.inl (List.mem_of_getElem? (i := 0) rfl))).ext E11).wr W15 (Or.inr sz_b11)).wr W17 (Or.inr sz_b11)).wr W19 (Or.inr sz_b11)).wr W21 (Or.inr sz_b11)).ext E22).wr W25 (Or.inl (List.mem_of_getElem? (i := 0) rfl))).ext E31).wr W35 (Or.inr sz_b22)).ext E39).wr W43 (Or.inr sz_b22)).ext E47).wr W51 (Or.inr sz_b22)).ext E55).wr W59 (Or.inr sz_b22)).ext E60).wr W63 (Or.inr sz_b60)).wr W64 (Or.inr sz_b31)).wr W69 (Or.inr sz_b60)).wr W70 (Or.inr sz_b39)).wr W76 (Or.inr sz_b60)).wr W77 (Or.inr sz_b47)).wr W83 (Or.inr sz_b60)).wr W84 (Or.inr sz_b55))
  have q97 := ((((((((((((((((((q27.wr W25).ext E31).wr W35).ext E39).wr W43).ext E47).wr W51).ext E55).wr W59).ext E60).wr W63).wr W64).wr W69).wr W70).wr W76).wr W77).wr W83).wr W84)
  have q98 := (((((((((((((((((((((((((Fw3.other W7 (Or.inr (slot_ne (Or.inr (w_ hw 32 rfl)) (Or.inr (w_ hw 34 rfl)) (by decide) (t := (.array .int)) (t' := .int) (by decide) (by decide)))).ext E11).other W15 (Or.inl ne_o0_b11)).other W17 (Or.inl ne_o0_b11)).other W19 (Or.inl ne_o0_b11)).other W21 (Or.inl ne_o0_b11)).ext E22).other W25 (Or.inr (slot_ne (Or.inr (w_ hw 32 rfl)) (Or.inr (w_ hw 38 rfl)) (by decide) (t := (.array .int)) (t' := (.array (.array .int))) (by decide) (by decide)))).ext E31).other W35 (Or.inl ne_o0_b22)).ext E39).other W43 (Or.inl ne_o0_b22)).ext E47).other W51 (Or.inl ne_o0_b22)).ext E55).other W59 (Or.inl ne_o0_b22)).ext E60).other W63 (Or.inl ne_o0_b60)).other W64 (Or.inl ne_o0_b31)).other W69 (Or.inl ne_o0_b60)).other W70 (Or.inl ne_o0_b39)).other W76 (Or.inl ne_o0_b60)).other W77 (Or.inl ne_o0_b47)).other W83 (Or.inl ne_o0_b60)).other W84 (Or.inl ne_o0_b55))
  have q99 := ((((((((((((((((((((((((Fw7.ext E11).other W15 (Or.inl ne_o0_b11)).other W17 (Or.inl ne_o0_b11)).other W19 (Or.inl ne_o0_b11)).other W21 (Or.inl ne_o0_b11)).ext E22).other W25 (Or.inr (slot_ne (Or.inr (w_ hw 34 rfl)) (Or.inr (w_ hw 38 rfl)) (by decide) (t := .int) (t' := (.array (.array .int))) (by decide) (by decide)))).ext E31).other W35 (Or.inl ne_o0_b22)).ext E39).other W43 (Or.inl ne_o0_b22)).ext E47).other W51 (Or.inl ne_o0_b22)).ext E55).other W59 (Or.inl ne_o0_b22)).ext E60).other W63 (Or.inl ne_o0_b60)).other W64 (Or.inl ne_o0_b31)).other W69 (Or.inl ne_o0_b60)).other W70 (Or.inl ne_o0_b39)).other W76 (Or.inl ne_o0_b60)).other W77 (Or.inl ne_o0_b47)).other W83 (Or.inl ne_o0_b60)).other W84 (Or.inl ne_o0_b55))
  exact own_outV X84 hx hlk hret (hb hby d4_146) (Q := Q4c0123n4 Z o0 o1 o2 k2 h0 n0) (by rw [e84]; exact ⟨rfl, (Fr.snoc X84 (own_snoc (Fr.snoc X77 (own_snoc (Fr.snoc X70 (own_snoc (Fr.snoc X64 (own_snoc (Fr.snoc X59 (Fr.snoc X51 (Fr.snoc X43 (Fr.snoc X35 (Fr.snoc X25 (Fr.snoc X21 (Fr.snoc X19 (Fr.snoc X17 (Fr.snoc X15 (Fr.snoc X7 (Fr.snoc X3 (Fr.snoc X2 N0 g_o0) g_o0) g_o0) g_b11) g_b11) g_b11) g_b11) g_o0) g_b22) g_b22) g_b22) g_b22) g_b60) g_b31) g_b60) g_b39) g_b60) g_b47) g_b60) g_b55), q96, q97, q98, q99, (fun l a0 hw ws h' K o1 oc kc c0 c1 c2 c3 n1 Z1 Fc Vc => rm7r0123 l Z a0 hw ws o0 o1 b22 k22 b31 k31 b39 k39 b47 k47 b55 k55 oc kc c0 c1 c2 c3 h' n1 Z1 (q91.keep K nin0) (q92.keep K nin0) (q93.keep K nin0) (q94.keep K nin0) (q95.keep K nin0) (V84.keep K nin0) Fc Vc)⟩) (by decide) (by decide)
def QG (Z : State) (o0 o2 : Addr) (cnt : Int32) (rf : Int32 → Int32 → Int32 → Int32 → Int32) (h0 : Heap) (n0 : Nat) (v : Option Value) (h : Heap) (L : List Loc) : Prop := v = none ∧ Fr n0 L ∧ Keep h0 h [o0] ∧ Exa Z h o0 "com/example/slimc/slimc/game/Observation" ∧ Fld Z h o0 "com/example/slimc/slimc/game/Observation" "classOf" "[I" (.ref o2) ∧ Fld Z h o0 "com/example/slimc/slimc/game/Observation" "classCount" "I" (.int cnt) ∧ RefOk Z h o0 rf
def CtorOk (vs : List Value) (cnt : Int32) (rf : Int32 → Int32 → Int32 → Int32 → Int32) : Prop := ∀ (l : Launch) (Z : State) (a0 : Array Value) (hw : ∀ d ∈ tables_1, d.before a0 Z = true) (ws : List Jvm.Cond) (o0 o1 o2 : Addr) (k2 : ClassId) (h0 : Heap) (n0 : Nat) (Z0 : n0 ≤ h0.size) (E : Exa Z h0 o0 "com/example/slimc/slimc/game/Observation") (F_name : Fld Z h0 o0 "com/example/slimc/slimc/game/Observation" "name" "Ljava/lang/String;" .null) (F_classOf : Fld Z h0 o0 "com/example/slimc/slimc/game/Observation" "classOf" "[I" .null) (F_classCount : Fld Z h0 o0 "com/example/slimc/slimc/game/Observation" "classCount" "I" (.int (0 : Int32))) (F_classes : Fld Z h0 o0 "com/example/slimc/slimc/game/Observation" "classes" "[[I" .null) (g_o0 : n0 ≤ o0) (V : Arv Z h0 o2 k2 .int (4 : Int32) vs (.int (0 : Int32))) (n2 : o2 ≠ o0),
    MetFree l (⟨"com/example/slimc/slimc/game/Observation", "<init>", "(Ljava/lang/String;[II)V"⟩ : MethodName) (head1 (Jvm.Cond.code (⟨"com/example/slimc/slimc/game/Observation", "<init>", "(Ljava/lang/String;[II)V"⟩ : MethodName) prog_66_method_1_code 9 none :: ws) ({ frames := 1, cells := 7, slots := 16, locals := 14 } : Room)) (fun a U => a = #[(.ref o0), (.ref o1), (.ref o2), (.int cnt)] ∧ Z.Warmed39 U.vm ∧ U.heap = h0) (fun _ _ _ _ _ => True) (fun _ U o U' => ∃ v L, o = .returned v ∧ QG Z o0 o2 cnt rf h0 n0 v U'.heap L ∧ FrameEnd U o U' L ({ frames := 1, cells := 7, slots := 16, locals := 14 } : Room).cells ({ frames := 1, cells := 7, slots := 16, locals := 14 } : Room).slots)
theorem ct_use {vs : List Value} {cnt : Int32} {rf : Int32 → Int32 → Int32 → Int32 → Int32} (hct : CtorOk vs cnt rf) (l : Launch) (Z : State) (a0 : Array Value) (hw : ∀ d ∈ tables_1, d.before a0 Z = true) (ws : List Jvm.Cond) (o0 o1 o2 : Addr) (k2 : ClassId) (h0 : Heap) (n0 : Nat) (Z0 : n0 ≤ h0.size) (E : Exa Z h0 o0 "com/example/slimc/slimc/game/Observation") (F_name : Fld Z h0 o0 "com/example/slimc/slimc/game/Observation" "name" "Ljava/lang/String;" .null) (F_classOf : Fld Z h0 o0 "com/example/slimc/slimc/game/Observation" "classOf" "[I" .null) (F_classCount : Fld Z h0 o0 "com/example/slimc/slimc/game/Observation" "classCount" "I" (.int (0 : Int32))) (F_classes : Fld Z h0 o0 "com/example/slimc/slimc/game/Observation" "classes" "[[I" .null) (g_o0 : n0 ≤ o0) (V : Arv Z h0 o2 k2 .int (4 : Int32) vs (.int (0 : Int32))) (n2 : o2 ≠ o0) :
    MetFree l (⟨"com/example/slimc/slimc/game/Observation", "<init>", "(Ljava/lang/String;[II)V"⟩ : MethodName) (head1 (Jvm.Cond.code (⟨"com/example/slimc/slimc/game/Observation", "<init>", "(Ljava/lang/String;[II)V"⟩ : MethodName) prog_66_method_1_code 9 none :: ws) ({ frames := 1, cells := 7, slots := 16, locals := 14 } : Room)) (fun a U => a = #[(.ref o0), (.ref o1), (.ref o2), (.int cnt)] ∧ Z.Warmed39 U.vm ∧ U.heap = h0) (fun _ _ _ _ _ => True) (fun _ U o U' => ∃ v L, o = .returned v ∧ QG Z o0 o2 cnt rf h0 n0 v U'.heap L ∧ FrameEnd U o U' L ({ frames := 1, cells := 7, slots := 16, locals := 14 } : Room).cells ({ frames := 1, cells := 7, slots := 16, locals := 14 } : Room).slots) := hct l Z a0 hw ws o0 o1 o2 k2 h0 n0 Z0 E F_name F_classOf F_classCount F_classes g_o0 V n2
theorem pl0000 (c0 c1 c2 c3 : Int32) : fr0000 c0 c1 c2 c3 = (if (fp01 (0 : Int32) (0 : Int32) (0 : Int32) (0 : Int32) c0 c1 c2 c3) = (0 : Int32) then (0 : Int32) else if (fp02 (0 : Int32) (0 : Int32) (0 : Int32) (0 : Int32) c0 c1 c2 c3) = (0 : Int32) then (0 : Int32) else if (fp03 (0 : Int32) (0 : Int32) (0 : Int32) (0 : Int32) c0 c1 c2 c3) = (0 : Int32) then (0 : Int32) else if (fp12 (0 : Int32) (0 : Int32) (0 : Int32) (0 : Int32) c0 c1 c2 c3) = (0 : Int32) then (0 : Int32) else if (fp13 (0 : Int32) (0 : Int32) (0 : Int32) (0 : Int32) c0 c1 c2 c3) = (0 : Int32) then (0 : Int32) else if (fp23 (0 : Int32) (0 : Int32) (0 : Int32) (0 : Int32) c0 c1 c2 c3) = (0 : Int32) then (0 : Int32) else (1 : Int32)) := by
  simp [fr0000, fp01, fp02, fp03, fp12, fp13, fp23]
  try grind
theorem pl0001 (c0 c1 c2 c3 : Int32) : fr0001 c0 c1 c2 c3 = (if (fp01 (0 : Int32) (0 : Int32) (0 : Int32) (1 : Int32) c0 c1 c2 c3) = (0 : Int32) then (0 : Int32) else if (fp02 (0 : Int32) (0 : Int32) (0 : Int32) (1 : Int32) c0 c1 c2 c3) = (0 : Int32) then (0 : Int32) else if (fp03 (0 : Int32) (0 : Int32) (0 : Int32) (1 : Int32) c0 c1 c2 c3) = (0 : Int32) then (0 : Int32) else if (fp12 (0 : Int32) (0 : Int32) (0 : Int32) (1 : Int32) c0 c1 c2 c3) = (0 : Int32) then (0 : Int32) else if (fp13 (0 : Int32) (0 : Int32) (0 : Int32) (1 : Int32) c0 c1 c2 c3) = (0 : Int32) then (0 : Int32) else if (fp23 (0 : Int32) (0 : Int32) (0 : Int32) (1 : Int32) c0 c1 c2 c3) = (0 : Int32) then (0 : Int32) else (1 : Int32)) := by
  simp [fr0001, fp01, fp02, fp03, fp12, fp13, fp23]
  try grind
theorem pl0010 (c0 c1 c2 c3 : Int32) : fr0010 c0 c1 c2 c3 = (if (fp01 (0 : Int32) (0 : Int32) (1 : Int32) (0 : Int32) c0 c1 c2 c3) = (0 : Int32) then (0 : Int32) else if (fp02 (0 : Int32) (0 : Int32) (1 : Int32) (0 : Int32) c0 c1 c2 c3) = (0 : Int32) then (0 : Int32) else if (fp03 (0 : Int32) (0 : Int32) (1 : Int32) (0 : Int32) c0 c1 c2 c3) = (0 : Int32) then (0 : Int32) else if (fp12 (0 : Int32) (0 : Int32) (1 : Int32) (0 : Int32) c0 c1 c2 c3) = (0 : Int32) then (0 : Int32) else if (fp13 (0 : Int32) (0 : Int32) (1 : Int32) (0 : Int32) c0 c1 c2 c3) = (0 : Int32) then (0 : Int32) else if (fp23 (0 : Int32) (0 : Int32) (1 : Int32) (0 : Int32) c0 c1 c2 c3) = (0 : Int32) then (0 : Int32) else (1 : Int32)) := by
  simp [fr0010, fp01, fp02, fp03, fp12, fp13, fp23]
  try grind
theorem pl0011 (c0 c1 c2 c3 : Int32) : fr0011 c0 c1 c2 c3 = (if (fp01 (0 : Int32) (0 : Int32) (1 : Int32) (1 : Int32) c0 c1 c2 c3) = (0 : Int32) then (0 : Int32) else if (fp02 (0 : Int32) (0 : Int32) (1 : Int32) (1 : Int32) c0 c1 c2 c3) = (0 : Int32) then (0 : Int32) else if (fp03 (0 : Int32) (0 : Int32) (1 : Int32) (1 : Int32) c0 c1 c2 c3) = (0 : Int32) then (0 : Int32) else if (fp12 (0 : Int32) (0 : Int32) (1 : Int32) (1 : Int32) c0 c1 c2 c3) = (0 : Int32) then (0 : Int32) else if (fp13 (0 : Int32) (0 : Int32) (1 : Int32) (1 : Int32) c0 c1 c2 c3) = (0 : Int32) then (0 : Int32) else if (fp23 (0 : Int32) (0 : Int32) (1 : Int32) (1 : Int32) c0 c1 c2 c3) = (0 : Int32) then (0 : Int32) else (1 : Int32)) := by
  simp [fr0011, fp01, fp02, fp03, fp12, fp13, fp23]
  try grind
theorem pl0012 (c0 c1 c2 c3 : Int32) : fr0012 c0 c1 c2 c3 = (if (fp01 (0 : Int32) (0 : Int32) (1 : Int32) (2 : Int32) c0 c1 c2 c3) = (0 : Int32) then (0 : Int32) else if (fp02 (0 : Int32) (0 : Int32) (1 : Int32) (2 : Int32) c0 c1 c2 c3) = (0 : Int32) then (0 : Int32) else if (fp03 (0 : Int32) (0 : Int32) (1 : Int32) (2 : Int32) c0 c1 c2 c3) = (0 : Int32) then (0 : Int32) else if (fp12 (0 : Int32) (0 : Int32) (1 : Int32) (2 : Int32) c0 c1 c2 c3) = (0 : Int32) then (0 : Int32) else if (fp13 (0 : Int32) (0 : Int32) (1 : Int32) (2 : Int32) c0 c1 c2 c3) = (0 : Int32) then (0 : Int32) else if (fp23 (0 : Int32) (0 : Int32) (1 : Int32) (2 : Int32) c0 c1 c2 c3) = (0 : Int32) then (0 : Int32) else (1 : Int32)) := by
  simp [fr0012, fp01, fp02, fp03, fp12, fp13, fp23]
  try grind
theorem pl0100 (c0 c1 c2 c3 : Int32) : fr0100 c0 c1 c2 c3 = (if (fp01 (0 : Int32) (1 : Int32) (0 : Int32) (0 : Int32) c0 c1 c2 c3) = (0 : Int32) then (0 : Int32) else if (fp02 (0 : Int32) (1 : Int32) (0 : Int32) (0 : Int32) c0 c1 c2 c3) = (0 : Int32) then (0 : Int32) else if (fp03 (0 : Int32) (1 : Int32) (0 : Int32) (0 : Int32) c0 c1 c2 c3) = (0 : Int32) then (0 : Int32) else if (fp12 (0 : Int32) (1 : Int32) (0 : Int32) (0 : Int32) c0 c1 c2 c3) = (0 : Int32) then (0 : Int32) else if (fp13 (0 : Int32) (1 : Int32) (0 : Int32) (0 : Int32) c0 c1 c2 c3) = (0 : Int32) then (0 : Int32) else if (fp23 (0 : Int32) (1 : Int32) (0 : Int32) (0 : Int32) c0 c1 c2 c3) = (0 : Int32) then (0 : Int32) else (1 : Int32)) := by
  simp [fr0100, fp01, fp02, fp03, fp12, fp13, fp23]
  try grind
theorem pl0101 (c0 c1 c2 c3 : Int32) : fr0101 c0 c1 c2 c3 = (if (fp01 (0 : Int32) (1 : Int32) (0 : Int32) (1 : Int32) c0 c1 c2 c3) = (0 : Int32) then (0 : Int32) else if (fp02 (0 : Int32) (1 : Int32) (0 : Int32) (1 : Int32) c0 c1 c2 c3) = (0 : Int32) then (0 : Int32) else if (fp03 (0 : Int32) (1 : Int32) (0 : Int32) (1 : Int32) c0 c1 c2 c3) = (0 : Int32) then (0 : Int32) else if (fp12 (0 : Int32) (1 : Int32) (0 : Int32) (1 : Int32) c0 c1 c2 c3) = (0 : Int32) then (0 : Int32) else if (fp13 (0 : Int32) (1 : Int32) (0 : Int32) (1 : Int32) c0 c1 c2 c3) = (0 : Int32) then (0 : Int32) else if (fp23 (0 : Int32) (1 : Int32) (0 : Int32) (1 : Int32) c0 c1 c2 c3) = (0 : Int32) then (0 : Int32) else (1 : Int32)) := by
  simp [fr0101, fp01, fp02, fp03, fp12, fp13, fp23]
  try grind
theorem pl0102 (c0 c1 c2 c3 : Int32) : fr0102 c0 c1 c2 c3 = (if (fp01 (0 : Int32) (1 : Int32) (0 : Int32) (2 : Int32) c0 c1 c2 c3) = (0 : Int32) then (0 : Int32) else if (fp02 (0 : Int32) (1 : Int32) (0 : Int32) (2 : Int32) c0 c1 c2 c3) = (0 : Int32) then (0 : Int32) else if (fp03 (0 : Int32) (1 : Int32) (0 : Int32) (2 : Int32) c0 c1 c2 c3) = (0 : Int32) then (0 : Int32) else if (fp12 (0 : Int32) (1 : Int32) (0 : Int32) (2 : Int32) c0 c1 c2 c3) = (0 : Int32) then (0 : Int32) else if (fp13 (0 : Int32) (1 : Int32) (0 : Int32) (2 : Int32) c0 c1 c2 c3) = (0 : Int32) then (0 : Int32) else if (fp23 (0 : Int32) (1 : Int32) (0 : Int32) (2 : Int32) c0 c1 c2 c3) = (0 : Int32) then (0 : Int32) else (1 : Int32)) := by
  simp [fr0102, fp01, fp02, fp03, fp12, fp13, fp23]
  try grind
theorem pl0110 (c0 c1 c2 c3 : Int32) : fr0110 c0 c1 c2 c3 = (if (fp01 (0 : Int32) (1 : Int32) (1 : Int32) (0 : Int32) c0 c1 c2 c3) = (0 : Int32) then (0 : Int32) else if (fp02 (0 : Int32) (1 : Int32) (1 : Int32) (0 : Int32) c0 c1 c2 c3) = (0 : Int32) then (0 : Int32) else if (fp03 (0 : Int32) (1 : Int32) (1 : Int32) (0 : Int32) c0 c1 c2 c3) = (0 : Int32) then (0 : Int32) else if (fp12 (0 : Int32) (1 : Int32) (1 : Int32) (0 : Int32) c0 c1 c2 c3) = (0 : Int32) then (0 : Int32) else if (fp13 (0 : Int32) (1 : Int32) (1 : Int32) (0 : Int32) c0 c1 c2 c3) = (0 : Int32) then (0 : Int32) else if (fp23 (0 : Int32) (1 : Int32) (1 : Int32) (0 : Int32) c0 c1 c2 c3) = (0 : Int32) then (0 : Int32) else (1 : Int32)) := by
  simp [fr0110, fp01, fp02, fp03, fp12, fp13, fp23]
  try grind
theorem pl0111 (c0 c1 c2 c3 : Int32) : fr0111 c0 c1 c2 c3 = (if (fp01 (0 : Int32) (1 : Int32) (1 : Int32) (1 : Int32) c0 c1 c2 c3) = (0 : Int32) then (0 : Int32) else if (fp02 (0 : Int32) (1 : Int32) (1 : Int32) (1 : Int32) c0 c1 c2 c3) = (0 : Int32) then (0 : Int32) else if (fp03 (0 : Int32) (1 : Int32) (1 : Int32) (1 : Int32) c0 c1 c2 c3) = (0 : Int32) then (0 : Int32) else if (fp12 (0 : Int32) (1 : Int32) (1 : Int32) (1 : Int32) c0 c1 c2 c3) = (0 : Int32) then (0 : Int32) else if (fp13 (0 : Int32) (1 : Int32) (1 : Int32) (1 : Int32) c0 c1 c2 c3) = (0 : Int32) then (0 : Int32) else if (fp23 (0 : Int32) (1 : Int32) (1 : Int32) (1 : Int32) c0 c1 c2 c3) = (0 : Int32) then (0 : Int32) else (1 : Int32)) := by
  simp [fr0111, fp01, fp02, fp03, fp12, fp13, fp23]
  try grind
theorem pl0112 (c0 c1 c2 c3 : Int32) : fr0112 c0 c1 c2 c3 = (if (fp01 (0 : Int32) (1 : Int32) (1 : Int32) (2 : Int32) c0 c1 c2 c3) = (0 : Int32) then (0 : Int32) else if (fp02 (0 : Int32) (1 : Int32) (1 : Int32) (2 : Int32) c0 c1 c2 c3) = (0 : Int32) then (0 : Int32) else if (fp03 (0 : Int32) (1 : Int32) (1 : Int32) (2 : Int32) c0 c1 c2 c3) = (0 : Int32) then (0 : Int32) else if (fp12 (0 : Int32) (1 : Int32) (1 : Int32) (2 : Int32) c0 c1 c2 c3) = (0 : Int32) then (0 : Int32) else if (fp13 (0 : Int32) (1 : Int32) (1 : Int32) (2 : Int32) c0 c1 c2 c3) = (0 : Int32) then (0 : Int32) else if (fp23 (0 : Int32) (1 : Int32) (1 : Int32) (2 : Int32) c0 c1 c2 c3) = (0 : Int32) then (0 : Int32) else (1 : Int32)) := by
  simp [fr0112, fp01, fp02, fp03, fp12, fp13, fp23]
  try grind
theorem pl0120 (c0 c1 c2 c3 : Int32) : fr0120 c0 c1 c2 c3 = (if (fp01 (0 : Int32) (1 : Int32) (2 : Int32) (0 : Int32) c0 c1 c2 c3) = (0 : Int32) then (0 : Int32) else if (fp02 (0 : Int32) (1 : Int32) (2 : Int32) (0 : Int32) c0 c1 c2 c3) = (0 : Int32) then (0 : Int32) else if (fp03 (0 : Int32) (1 : Int32) (2 : Int32) (0 : Int32) c0 c1 c2 c3) = (0 : Int32) then (0 : Int32) else if (fp12 (0 : Int32) (1 : Int32) (2 : Int32) (0 : Int32) c0 c1 c2 c3) = (0 : Int32) then (0 : Int32) else if (fp13 (0 : Int32) (1 : Int32) (2 : Int32) (0 : Int32) c0 c1 c2 c3) = (0 : Int32) then (0 : Int32) else if (fp23 (0 : Int32) (1 : Int32) (2 : Int32) (0 : Int32) c0 c1 c2 c3) = (0 : Int32) then (0 : Int32) else (1 : Int32)) := by
  simp [fr0120, fp01, fp02, fp03, fp12, fp13, fp23]
  try grind
theorem pl0121 (c0 c1 c2 c3 : Int32) : fr0121 c0 c1 c2 c3 = (if (fp01 (0 : Int32) (1 : Int32) (2 : Int32) (1 : Int32) c0 c1 c2 c3) = (0 : Int32) then (0 : Int32) else if (fp02 (0 : Int32) (1 : Int32) (2 : Int32) (1 : Int32) c0 c1 c2 c3) = (0 : Int32) then (0 : Int32) else if (fp03 (0 : Int32) (1 : Int32) (2 : Int32) (1 : Int32) c0 c1 c2 c3) = (0 : Int32) then (0 : Int32) else if (fp12 (0 : Int32) (1 : Int32) (2 : Int32) (1 : Int32) c0 c1 c2 c3) = (0 : Int32) then (0 : Int32) else if (fp13 (0 : Int32) (1 : Int32) (2 : Int32) (1 : Int32) c0 c1 c2 c3) = (0 : Int32) then (0 : Int32) else if (fp23 (0 : Int32) (1 : Int32) (2 : Int32) (1 : Int32) c0 c1 c2 c3) = (0 : Int32) then (0 : Int32) else (1 : Int32)) := by
  simp [fr0121, fp01, fp02, fp03, fp12, fp13, fp23]
  try grind
theorem pl0122 (c0 c1 c2 c3 : Int32) : fr0122 c0 c1 c2 c3 = (if (fp01 (0 : Int32) (1 : Int32) (2 : Int32) (2 : Int32) c0 c1 c2 c3) = (0 : Int32) then (0 : Int32) else if (fp02 (0 : Int32) (1 : Int32) (2 : Int32) (2 : Int32) c0 c1 c2 c3) = (0 : Int32) then (0 : Int32) else if (fp03 (0 : Int32) (1 : Int32) (2 : Int32) (2 : Int32) c0 c1 c2 c3) = (0 : Int32) then (0 : Int32) else if (fp12 (0 : Int32) (1 : Int32) (2 : Int32) (2 : Int32) c0 c1 c2 c3) = (0 : Int32) then (0 : Int32) else if (fp13 (0 : Int32) (1 : Int32) (2 : Int32) (2 : Int32) c0 c1 c2 c3) = (0 : Int32) then (0 : Int32) else if (fp23 (0 : Int32) (1 : Int32) (2 : Int32) (2 : Int32) c0 c1 c2 c3) = (0 : Int32) then (0 : Int32) else (1 : Int32)) := by
  simp [fr0122, fp01, fp02, fp03, fp12, fp13, fp23]
  try grind
theorem pl0123 (c0 c1 c2 c3 : Int32) : fr0123 c0 c1 c2 c3 = (if (fp01 (0 : Int32) (1 : Int32) (2 : Int32) (3 : Int32) c0 c1 c2 c3) = (0 : Int32) then (0 : Int32) else if (fp02 (0 : Int32) (1 : Int32) (2 : Int32) (3 : Int32) c0 c1 c2 c3) = (0 : Int32) then (0 : Int32) else if (fp03 (0 : Int32) (1 : Int32) (2 : Int32) (3 : Int32) c0 c1 c2 c3) = (0 : Int32) then (0 : Int32) else if (fp12 (0 : Int32) (1 : Int32) (2 : Int32) (3 : Int32) c0 c1 c2 c3) = (0 : Int32) then (0 : Int32) else if (fp13 (0 : Int32) (1 : Int32) (2 : Int32) (3 : Int32) c0 c1 c2 c3) = (0 : Int32) then (0 : Int32) else if (fp23 (0 : Int32) (1 : Int32) (2 : Int32) (3 : Int32) c0 c1 c2 c3) = (0 : Int32) then (0 : Int32) else (1 : Int32)) := by
  simp [fr0123, fp01, fp02, fp03, fp12, fp13, fp23]
  try grind
theorem own_fine (p : Int32) : ∃ rf, CtorOk [(.int (0 : Int32)), (.int (pf1 p)), (.int (pf2 p)), (.int (pf3 p))] (fcnt (0 : Int32) (pf1 p) (pf2 p) (pf3 p)) rf ∧ ∀ c0 c1 c2 c3 : Int32, rf c0 c1 c2 c3 = (if (fp01 (0 : Int32) (pf1 p) (pf2 p) (pf3 p) c0 c1 c2 c3) = (0 : Int32) then (0 : Int32) else if (fp02 (0 : Int32) (pf1 p) (pf2 p) (pf3 p) c0 c1 c2 c3) = (0 : Int32) then (0 : Int32) else if (fp03 (0 : Int32) (pf1 p) (pf2 p) (pf3 p) c0 c1 c2 c3) = (0 : Int32) then (0 : Int32) else if (fp12 (0 : Int32) (pf1 p) (pf2 p) (pf3 p) c0 c1 c2 c3) = (0 : Int32) then (0 : Int32) else if (fp13 (0 : Int32) (pf1 p) (pf2 p) (pf3 p) c0 c1 c2 c3) = (0 : Int32) then (0 : Int32) else if (fp23 (0 : Int32) (pf1 p) (pf2 p) (pf3 p) c0 c1 c2 c3) = (0 : Int32) then (0 : Int32) else (1 : Int32)) := by
  have h1 : pf1 p = ((p &&& (255 : Int32)) % (2 : Int32)) := rfl
  have h2 : pf2 p = ((((p.toUInt32 >>> ((8 : Int32) &&& 31).toUInt32).toInt32) &&& (255 : Int32)) % ((fmax (0 : Int32) (pf1 p)) + (2 : Int32))) := rfl
  have h3 : pf3 p = ((((p.toUInt32 >>> ((16 : Int32) &&& 31).toUInt32).toInt32) &&& (255 : Int32)) % ((fmax (fmax (0 : Int32) (pf1 p)) (pf2 p)) + (2 : Int32))) := rfl
  generalize pf3 p = f3 at *
  generalize pf2 p = f2 at *
  generalize pf1 p = f1 at *
  rcases own_c2 h1 with rfl | rfl
  · skip
    rw [show ((fmax (0 : Int32) (0 : Int32)) + (2 : Int32)) = (2 : Int32) by decide] at h2
    rcases own_c2 h2 with rfl | rfl
    · skip
      rw [show ((fmax (fmax (0 : Int32) (0 : Int32)) (0 : Int32)) + (2 : Int32)) = (2 : Int32) by decide] at h3
      rcases own_c2 h3 with rfl | rfl
      · skip
        refine ⟨fr0000, ?_, fun c0 c1 c2 c3 => ?_⟩
        · rw [show fcnt (0 : Int32) (0 : Int32) (0 : Int32) (0 : Int32) = (1 : Int32) by decide]; exact fun l Z a0 hw ws o0 o1 o2 k2 h0 n0 Z0 E a b c d g V n2 => rm4c0000n1 l Z a0 hw ws o0 o1 o2 k2 h0 n0 Z0 E a b c d g V n2
        · exact pl0000 c0 c1 c2 c3
      · skip
        refine ⟨fr0001, ?_, fun c0 c1 c2 c3 => ?_⟩
        · rw [show fcnt (0 : Int32) (0 : Int32) (0 : Int32) (1 : Int32) = (2 : Int32) by decide]; exact fun l Z a0 hw ws o0 o1 o2 k2 h0 n0 Z0 E a b c d g V n2 => rm4c0001n2 l Z a0 hw ws o0 o1 o2 k2 h0 n0 Z0 E a b c d g V n2
        · exact pl0001 c0 c1 c2 c3
    · skip
      rw [show ((fmax (fmax (0 : Int32) (0 : Int32)) (1 : Int32)) + (2 : Int32)) = (3 : Int32) by decide] at h3
      rcases own_c3 h3 with rfl | rfl | rfl
      · skip
        refine ⟨fr0010, ?_, fun c0 c1 c2 c3 => ?_⟩
        · rw [show fcnt (0 : Int32) (0 : Int32) (1 : Int32) (0 : Int32) = (2 : Int32) by decide]; exact fun l Z a0 hw ws o0 o1 o2 k2 h0 n0 Z0 E a b c d g V n2 => rm4c0010n2 l Z a0 hw ws o0 o1 o2 k2 h0 n0 Z0 E a b c d g V n2
        · exact pl0010 c0 c1 c2 c3
      · skip
        refine ⟨fr0011, ?_, fun c0 c1 c2 c3 => ?_⟩
        · rw [show fcnt (0 : Int32) (0 : Int32) (1 : Int32) (1 : Int32) = (2 : Int32) by decide]; exact fun l Z a0 hw ws o0 o1 o2 k2 h0 n0 Z0 E a b c d g V n2 => rm4c0011n2 l Z a0 hw ws o0 o1 o2 k2 h0 n0 Z0 E a b c d g V n2
        · exact pl0011 c0 c1 c2 c3
      · skip
        refine ⟨fr0012, ?_, fun c0 c1 c2 c3 => ?_⟩
        · rw [show fcnt (0 : Int32) (0 : Int32) (1 : Int32) (2 : Int32) = (3 : Int32) by decide]; exact fun l Z a0 hw ws o0 o1 o2 k2 h0 n0 Z0 E a b c d g V n2 => rm4c0012n3 l Z a0 hw ws o0 o1 o2 k2 h0 n0 Z0 E a b c d g V n2
        · exact pl0012 c0 c1 c2 c3
  · skip
    rw [show ((fmax (0 : Int32) (1 : Int32)) + (2 : Int32)) = (3 : Int32) by decide] at h2
    rcases own_c3 h2 with rfl | rfl | rfl
    · skip
      rw [show ((fmax (fmax (0 : Int32) (1 : Int32)) (0 : Int32)) + (2 : Int32)) = (3 : Int32) by decide] at h3
      rcases own_c3 h3 with rfl | rfl | rfl
      · skip
        refine ⟨fr0100, ?_, fun c0 c1 c2 c3 => ?_⟩
        · rw [show fcnt (0 : Int32) (1 : Int32) (0 : Int32) (0 : Int32) = (2 : Int32) by decide]; exact fun l Z a0 hw ws o0 o1 o2 k2 h0 n0 Z0 E a b c d g V n2 => rm4c0100n2 l Z a0 hw ws o0 o1 o2 k2 h0 n0 Z0 E a b c d g V n2
        · exact pl0100 c0 c1 c2 c3
      · skip
        refine ⟨fr0101, ?_, fun c0 c1 c2 c3 => ?_⟩
        · rw [show fcnt (0 : Int32) (1 : Int32) (0 : Int32) (1 : Int32) = (2 : Int32) by decide]; exact fun l Z a0 hw ws o0 o1 o2 k2 h0 n0 Z0 E a b c d g V n2 => rm4c0101n2 l Z a0 hw ws o0 o1 o2 k2 h0 n0 Z0 E a b c d g V n2
        · exact pl0101 c0 c1 c2 c3
      · skip
        refine ⟨fr0102, ?_, fun c0 c1 c2 c3 => ?_⟩
        · rw [show fcnt (0 : Int32) (1 : Int32) (0 : Int32) (2 : Int32) = (3 : Int32) by decide]; exact fun l Z a0 hw ws o0 o1 o2 k2 h0 n0 Z0 E a b c d g V n2 => rm4c0102n3 l Z a0 hw ws o0 o1 o2 k2 h0 n0 Z0 E a b c d g V n2
        · exact pl0102 c0 c1 c2 c3
    · skip
      rw [show ((fmax (fmax (0 : Int32) (1 : Int32)) (1 : Int32)) + (2 : Int32)) = (3 : Int32) by decide] at h3
      rcases own_c3 h3 with rfl | rfl | rfl
      · skip
        refine ⟨fr0110, ?_, fun c0 c1 c2 c3 => ?_⟩
        · rw [show fcnt (0 : Int32) (1 : Int32) (1 : Int32) (0 : Int32) = (2 : Int32) by decide]; exact fun l Z a0 hw ws o0 o1 o2 k2 h0 n0 Z0 E a b c d g V n2 => rm4c0110n2 l Z a0 hw ws o0 o1 o2 k2 h0 n0 Z0 E a b c d g V n2
        · exact pl0110 c0 c1 c2 c3
      · skip
        refine ⟨fr0111, ?_, fun c0 c1 c2 c3 => ?_⟩
        · rw [show fcnt (0 : Int32) (1 : Int32) (1 : Int32) (1 : Int32) = (2 : Int32) by decide]; exact fun l Z a0 hw ws o0 o1 o2 k2 h0 n0 Z0 E a b c d g V n2 => rm4c0111n2 l Z a0 hw ws o0 o1 o2 k2 h0 n0 Z0 E a b c d g V n2
        · exact pl0111 c0 c1 c2 c3
      · skip
        refine ⟨fr0112, ?_, fun c0 c1 c2 c3 => ?_⟩
        · rw [show fcnt (0 : Int32) (1 : Int32) (1 : Int32) (2 : Int32) = (3 : Int32) by decide]; exact fun l Z a0 hw ws o0 o1 o2 k2 h0 n0 Z0 E a b c d g V n2 => rm4c0112n3 l Z a0 hw ws o0 o1 o2 k2 h0 n0 Z0 E a b c d g V n2
        · exact pl0112 c0 c1 c2 c3
    · skip
      rw [show ((fmax (fmax (0 : Int32) (1 : Int32)) (2 : Int32)) + (2 : Int32)) = (4 : Int32) by decide] at h3
      rcases own_c4 h3 with rfl | rfl | rfl | rfl
      · skip
        refine ⟨fr0120, ?_, fun c0 c1 c2 c3 => ?_⟩
        · rw [show fcnt (0 : Int32) (1 : Int32) (2 : Int32) (0 : Int32) = (3 : Int32) by decide]; exact fun l Z a0 hw ws o0 o1 o2 k2 h0 n0 Z0 E a b c d g V n2 => rm4c0120n3 l Z a0 hw ws o0 o1 o2 k2 h0 n0 Z0 E a b c d g V n2
        · exact pl0120 c0 c1 c2 c3
      · skip
        refine ⟨fr0121, ?_, fun c0 c1 c2 c3 => ?_⟩
        · rw [show fcnt (0 : Int32) (1 : Int32) (2 : Int32) (1 : Int32) = (3 : Int32) by decide]; exact fun l Z a0 hw ws o0 o1 o2 k2 h0 n0 Z0 E a b c d g V n2 => rm4c0121n3 l Z a0 hw ws o0 o1 o2 k2 h0 n0 Z0 E a b c d g V n2
        · exact pl0121 c0 c1 c2 c3
      · skip
        refine ⟨fr0122, ?_, fun c0 c1 c2 c3 => ?_⟩
        · rw [show fcnt (0 : Int32) (1 : Int32) (2 : Int32) (2 : Int32) = (3 : Int32) by decide]; exact fun l Z a0 hw ws o0 o1 o2 k2 h0 n0 Z0 E a b c d g V n2 => rm4c0122n3 l Z a0 hw ws o0 o1 o2 k2 h0 n0 Z0 E a b c d g V n2
        · exact pl0122 c0 c1 c2 c3
      · skip
        refine ⟨fr0123, ?_, fun c0 c1 c2 c3 => ?_⟩
        · rw [show fcnt (0 : Int32) (1 : Int32) (2 : Int32) (3 : Int32) = (4 : Int32) by decide]; exact fun l Z a0 hw ws o0 o1 o2 k2 h0 n0 Z0 E a b c d g V n2 => rm4c0123n4 l Z a0 hw ws o0 o1 o2 k2 h0 n0 Z0 E a b c d g V n2
        · exact pl0123 c0 c1 c2 c3
theorem own_wS {a0 : Array Value} {Z : State} (hw : ∀ d ∈ tables_1, d.before a0 Z = true) : ∀ d ∈ Bundle.stringAtoms, d.before a0 Z = true := by
  intro d hd
  simp only [Bundle.stringAtoms, List.mem_cons, List.not_mem_nil, or_false] at hd
  rcases hd with rfl | rfl | rfl | rfl | rfl | rfl | rfl
  · exact (hw _ (List.mem_of_getElem? (i := 13) rfl))
  · exact (hw _ (List.mem_of_getElem? (i := 14) rfl))
  · exact (hw _ (List.mem_of_getElem? (i := 15) rfl))
  · exact (hw _ (List.mem_of_getElem? (i := 16) rfl))
  · exact (hw _ (List.mem_of_getElem? (i := 17) rfl))
  · exact (hw _ (List.mem_of_getElem? (i := 18) rfl))
  · exact (hw _ (List.mem_of_getElem? (i := 19) rfl))
theorem pd_1 : parseMethodDescriptor "([I)I" = some ⟨[(.array .int)], some .int⟩ := by decide +kernel
theorem pd_2 : parseMethodDescriptor "(Ljava/lang/String;[II)V" = some ⟨[(.object "java/lang/String"), (.array .int), .int], none⟩ := by decide +kernel
theorem pd_3 : parseMethodDescriptor "([I[III)Z" = some ⟨[(.array .int), (.array .int), .int, .int], some .boolean⟩ := by decide +kernel
theorem pd_4 : parseMethodDescriptor "(Lcom/example/slimc/slimc/game/Observation;)Z" = some ⟨[(.object "com/example/slimc/slimc/game/Observation")], some .boolean⟩ := by decide +kernel
set_option maxRecDepth 65536 in
set_option maxHeartbeats 40000000 in
theorem sg10 {p : Program} {l : Launch} {e : Env} {s : State} {m : MethodId} {args : Array Value} {below : List Frame} {meth : Method} {c : Code} {T0 : State} {locs : List Loc} {Z : State} {a0 : Array Value} {Q : Option Value → Heap → List Loc → Prop} (p0 : Int32) (p1 : Int32) (of : Addr) (oc : Addr) (kf : ClassId) (kc : ClassId) (f0 : Int32) (f1 : Int32) (f2 : Int32) (f3 : Int32) (c0 : Int32) (c1 : Int32) (c2 : Int32) (c3 : Int32) (rf : Int32 → Int32 → Int32 → Int32 → Int32) (rc : Int32 → Int32 → Int32 → Int32 → Int32) (h0 : Heap) (n0 : Nat)
    (X0 : Stand p l e room_1 s m args below meth c T0 locs 2 8) (hx : p.tables.exec = Jvm.exec) (hZ : Z.Warmed39 s.vm) (hw : ∀ d ∈ tables_1, d.before a0 Z = true) (hby : c.code = code) (hml : c.maxLocals = 7) (hown : s.vm.findClass "com/example/slimc/slimc/game/ObservationRefinesPinLaw" = some m.cls) (hret : meth.sig.returnType = ret) (hlk : meth.locks = false)
    (hQ : ∀ h L, Fr n0 L → Q (some (.int 1)) h L) (e0 : T0.heap = h0) (Z0 : n0 ≤ h0.size) (N0 : Fr n0 locs) (Vf : Arv Z h0 of kf .int (4 : Int32) [(.int f0), (.int f1), (.int f2), (.int f3)] (.int (0 : Int32))) (Vc : Arv Z h0 oc kc .int (4 : Int32) [(.int c0), (.int c1), (.int c2), (.int c3)] (.int (0 : Int32))) (hF : CtorOk [(.int f0), (.int f1), (.int f2), (.int f3)] (fcnt f0 f1 f2 f3) rf) (hC : CtorOk [(.int c0), (.int c1), (.int c2), (.int c3)] (fcnt c0 c1 c2 c3) rc) (hq : rf c0 c1 c2 c3 = (if (fp01 f0 f1 f2 f3 c0 c1 c2 c3) = (0 : Int32) then (0 : Int32) else if (fp02 f0 f1 f2 f3 c0 c1 c2 c3) = (0 : Int32) then (0 : Int32) else if (fp03 f0 f1 f2 f3 c0 c1 c2 c3) = (0 : Int32) then (0 : Int32) else if (fp12 f0 f1 f2 f3 c0 c1 c2 c3) = (0 : Int32) then (0 : Int32) else if (fp13 f0 f1 f2 f3 c0 c1 c2 c3) = (0 : Int32) then (0 : Int32) else if (fp23 f0 f1 f2 f3 c0 c1 c2 c3) = (0 : Int32) then (0 : Int32) else (1 : Int32))) :
    own_Out p e below (fun o U' => ∃ v L, o = .returned v ∧ Q v U'.heap L ∧ ReturnedEndW s o U' L 30 100) (T0.setTop (mkF m 10 #[.val (.int p0), .val (.int p1), .val (.ref of), .val (.ref oc), .unset, .unset, .unset] [])) := by
  show own_Out p e below _ (T0.setTop (mkF m 10 #[iv p0, iv p1, rv of, rv oc, .unset, .unset, .unset] []))
  obtain ⟨T1, h1, X1, e1, E1, A1, D1, -, st1⟩ := newO X0 hx hZ hown (w_ hw 9 rfl) (w_ hw 10 rfl) (w_ hw 11 rfl) e0 (g := (mkF m 10 #[iv p0, iv p1, rv of, rv oc, .unset, .unset, .unset] [])) rfl (hb hby at_10) (by decide) (by decide)
  obtain ⟨b1, g1⟩ : ∃ z, z = h0.size := ⟨_, rfl⟩
  rw [← g1] at A1 D1 st1
  have g_b1 : n0 ≤ b1 := Nat.le_trans Z0 (Nat.le_of_eq g1.symm)
  have F_b1_name : Fld Z h1 b1 "com/example/slimc/slimc/game/Observation" "name" "Ljava/lang/String;" .null := D1 (Or.inr (w_ hw 30 rfl)) (ty := (.object "java/lang/String")) (by decide)
  have F_b1_classOf : Fld Z h1 b1 "com/example/slimc/slimc/game/Observation" "classOf" "[I" .null := D1 (Or.inr (w_ hw 32 rfl)) (ty := (.array .int)) (by decide)
  have F_b1_classCount : Fld Z h1 b1 "com/example/slimc/slimc/game/Observation" "classCount" "I" (.int (0 : Int32)) := D1 (Or.inr (w_ hw 34 rfl)) (ty := .int) (by decide)
  have F_b1_classes : Fld Z h1 b1 "com/example/slimc/slimc/game/Observation" "classes" "[[I" .null := D1 (Or.inr (w_ hw 38 rfl)) (ty := (.array (.array .int))) (by decide)
  refine own_of st1 ?_
  show own_Out p e below _ (T1.setTop (mkF m 13 #[iv p0, iv p1, rv of, rv oc, .unset, .unset, .unset] [.ref b1]))
  refine o_dup X1 hx hby at_13 rfl (q := 14) rfl ?_
  obtain ⟨a2, T2, h2, k2, X2, e2, E2, S2, ks2, hZ2, hown2, st2⟩ := ldcS (s := s) (vm0 := s.vm) X1 hx hZ hown (w_ hw 12 rfl) (own_wS hw) e1 ((State.WarmedH.refl s).since 0) (Nat.zero_le _) (g := (mkF m 14 #[iv p0, iv p1, rv of, rv oc, .unset, .unset, .unset] [.ref b1, .ref b1])) rfl (hb hby at_14) (n := 4) (by decide +kernel) (by decide) (by decide) (by decide)
  refine own_of st2 ?_
  show own_Out p e below _ (T2.setTop (mkF m 16 #[iv p0, iv p1, rv of, rv oc, .unset, .unset, .unset] [.ref a2, .ref b1, .ref b1]))
  refine o_aloadN X2 hx hby at_16 rfl rfl (q := 17) rfl ?_
  refine o_aloadN X2 hx hby at_17 rfl rfl (q := 18) rfl ?_
  have q4 := ((Vf.ext E1).ext E2)
  have q5 := (Nat.le_trans (Nat.le_trans Z0 E1.1) E2.1)
  obtain ⟨_, _, ⟨T3, L3, k3, n3⟩, -, X3, ⟨Lc3, hQ3, l3, y3, z3⟩, st3⟩ := Jvm.LawKit.callS X2 hx (y := (⟨"com/example/slimc/slimc/game/ObservationRefinesPinLaw", "count", "([I)I"⟩ : MethodName)) hown2 (mvT hZ2 (w_ hw 20 rfl)) (mvT hZ2 (w_ hw 21 rfl)) (mvT hZ2 (w_ hw 2 rfl)) (mvT hZ2 (w_ hw 22 rfl)) (by decide) (backOf (W := 4) (rm3 l Z a0 hw [] of kf f0 f1 f2 f3 h2 n0 q5 q4) hZ2 (w_ hw 22 rfl) (w_ hw 2 rfl) (by decide) (by decide)) (g := (mkF m 18 #[iv p0, iv p1, rv of, rv oc, .unset, .unset, .unset] [.ref of, .ref of, .ref a2, .ref b1, .ref b1])) rfl (by rw [hml]; rfl) (argsL := [(.ref of)]) (rest := [(.ref of), (.ref a2), (.ref b1), (.ref b1)]) (lenOf pd_1 rfl) rfl (by show 2 * 0 + _ ≤ _; exact Nat.le_of_eq rfl) (hb hby at_18) (fun _ _ => ⟨rfl, e2, (by decide : 5 + 0 ≤ _), (by decide : 20 + 0 ≤ _)⟩)
  dsimp only [Pt.U, Pt.locs, Pt.cells, Pt.slots] at X3 l3 y3 z3 st3 hQ3
  subst l3 y3 z3
  obtain ⟨rfl, N3q, hh3⟩ := hQ3
  have N3 := Fr.app N0 N3q
  refine own_of st3 ?_
  show own_Out p e below _ (T3.setTop (mkF m 21 #[iv p0, iv p1, rv of, rv oc, .unset, .unset, .unset] [.int (fcnt f0 f1 f2 f3), .ref of, .ref a2, .ref b1, .ref b1]))
  have ne_of_b1 : of ≠ b1 := Nat.ne_of_lt (Nat.lt_of_lt_of_le Vf.lt (Nat.le_of_eq g1.symm))
  have q7 := (A1.ext E2)
  have q8 := (F_b1_name.ext E2)
  have q9 := (F_b1_classOf.ext E2)
  have q10 := (F_b1_classCount.ext E2)
  have q11 := (F_b1_classes.ext E2)
  obtain ⟨_, _, ⟨T6, L6, k6, n6⟩, -, X6, ⟨Lc6, hQ6, l6, y6, z6⟩, st6⟩ := X3.specialBack hx (y := (⟨"com/example/slimc/slimc/game/Observation", "<init>", "(Ljava/lang/String;[II)V"⟩ : MethodName)) rfl hown2 (mvT hZ2 (w_ hw 23 rfl)) (mvT hZ2 (w_ hw 24 rfl)) (mvT hZ2 (w_ hw 25 rfl)) (by decide) (backOf (W := 1) (ct_use hF l Z a0 hw [] b1 a2 of kf h2 n0 q5 q7 q8 q9 q10 q11 g_b1 q4 ne_of_b1) hZ2 (w_ hw 25 rfl) (w_ hw 11 rfl) (by decide) (by decide)) (g := (mkF m 21 #[iv p0, iv p1, rv of, rv oc, .unset, .unset, .unset] [.int (fcnt f0 f1 f2 f3), .ref of, .ref a2, .ref b1, .ref b1])) rfl (by rw [hml]; rfl) (Steps.refl _) (a := b1) (argsL := [(.ref a2), (.ref of), (.int (fcnt f0 f1 f2 f3))]) (rest := [(.ref b1)]) (lenOf pd_2 rfl) rfl (by show 2 * 0 + _ ≤ _; exact Nat.le_of_eq rfl) (hb hby at_21) (fun _ _ => ⟨rfl, hh3, (by decide : 5 + 7 ≤ _), (by decide : 20 + 16 ≤ _)⟩)
  dsimp only [Pt.U, Pt.locs, Pt.cells, Pt.slots] at X6 l6 y6 z6 st6 hQ6
  subst l6 y6 z6
  obtain ⟨rfl, N6q, K6, E6, Fo6, Fc6, Rf6⟩ := hQ6
  have N6 := Fr.app N3 N6q
  refine own_of (fun _ k => st6.trans k) ?_
  show own_Out p e below _ (T6.setTop (mkF m 24 #[iv p0, iv p1, rv of, rv oc, .unset, .unset, .unset] [.ref b1]))
  refine o_astore X6 hx hby at_24 rfl (l' := #[iv p0, iv p1, rv of, rv oc, rv b1, .unset, .unset]) rfl (q := 26) rfl ?_
  obtain ⟨T12, h12, X12, e12, E12, A12, D12, -, st12⟩ := newO X6 hx hZ2 hown2 (w_ hw 9 rfl) (w_ hw 10 rfl) (w_ hw 11 rfl) rfl (g := (mkF m 26 #[iv p0, iv p1, rv of, rv oc, rv b1, .unset, .unset] [])) rfl (hb hby at_26) (by decide) (by decide)
  obtain ⟨b12, g12⟩ : ∃ z, z = T6.heap.size := ⟨_, rfl⟩
  rw [← g12] at A12 D12 st12
  have q13 := (Nat.le_trans q5 K6.1)
  have g_b12 : n0 ≤ b12 := Nat.le_trans q13 (Nat.le_of_eq g12.symm)
  have szF_b12 := Nat.le_trans (Nat.le_refl T6.heap.size) (Nat.le_of_eq g12.symm)
  have F_b12_name : Fld Z h12 b12 "com/example/slimc/slimc/game/Observation" "name" "Ljava/lang/String;" .null := D12 (Or.inr (w_ hw 30 rfl)) (ty := (.object "java/lang/String")) (by decide)
  have F_b12_classOf : Fld Z h12 b12 "com/example/slimc/slimc/game/Observation" "classOf" "[I" .null := D12 (Or.inr (w_ hw 32 rfl)) (ty := (.array .int)) (by decide)
  have F_b12_classCount : Fld Z h12 b12 "com/example/slimc/slimc/game/Observation" "classCount" "I" (.int (0 : Int32)) := D12 (Or.inr (w_ hw 34 rfl)) (ty := .int) (by decide)
  have F_b12_classes : Fld Z h12 b12 "com/example/slimc/slimc/game/Observation" "classes" "[[I" .null := D12 (Or.inr (w_ hw 38 rfl)) (ty := (.array (.array .int))) (by decide)
  refine own_of st12 ?_
  show own_Out p e below _ (T12.setTop (mkF m 29 #[iv p0, iv p1, rv of, rv oc, rv b1, .unset, .unset] [.ref b12]))
  refine o_dup X12 hx hby at_29 rfl (q := 30) rfl ?_
  have q15 := (Nat.le_trans (Nat.le_trans ks2 K6.1) E12.1)
  obtain ⟨a14, T14, h14, k14, X14, e14, E14, S14, ks14, hZ14, hown14, st14⟩ := ldcS (s := s) (vm0 := T2.vm) X12 hx hZ2 hown2 (w_ hw 40 rfl) (own_wS hw) e12 S2 q15 (g := (mkF m 30 #[iv p0, iv p1, rv of, rv oc, rv b1, .unset, .unset] [.ref b12, .ref b12])) rfl (hb hby at_30) (n := 4) (by decide +kernel) (by decide) (by decide) (by decide)
  refine own_of st14 ?_
  show own_Out p e below _ (T14.setTop (mkF m 32 #[iv p0, iv p1, rv of, rv oc, rv b1, .unset, .unset] [.ref a14, .ref b12, .ref b12]))
  refine o_aloadN X14 hx hby at_32 rfl rfl (q := 33) rfl ?_
  refine o_aloadN X14 hx hby at_33 rfl rfl (q := 34) rfl ?_
  have ne_oc_b1 : oc ≠ b1 := Nat.ne_of_lt (Nat.lt_of_lt_of_le Vc.lt (Nat.le_of_eq g1.symm))
  have q17 := (((((Vc.ext E1).ext E2).keep K6 (ninS ne_oc_b1 nin0)).ext E12).ext E14)
  have q18 := (Nat.le_trans (Nat.le_trans q13 E12.1) E14.1)
  obtain ⟨_, _, ⟨T16, L16, k16, n16⟩, -, X16, ⟨Lc16, hQ16, l16, y16, z16⟩, st16⟩ := Jvm.LawKit.callS X14 hx (y := (⟨"com/example/slimc/slimc/game/ObservationRefinesPinLaw", "count", "([I)I"⟩ : MethodName)) hown14 (mvT hZ14 (w_ hw 20 rfl)) (mvT hZ14 (w_ hw 21 rfl)) (mvT hZ14 (w_ hw 2 rfl)) (mvT hZ14 (w_ hw 22 rfl)) (by decide) (backOf (W := 4) (rm3 l Z a0 hw [] oc kc c0 c1 c2 c3 h14 n0 q18 q17) hZ14 (w_ hw 22 rfl) (w_ hw 2 rfl) (by decide) (by decide)) (g := (mkF m 34 #[iv p0, iv p1, rv of, rv oc, rv b1, .unset, .unset] [.ref oc, .ref oc, .ref a14, .ref b12, .ref b12])) rfl (by rw [hml]; rfl) (argsL := [(.ref oc)]) (rest := [(.ref oc), (.ref a14), (.ref b12), (.ref b12)]) (lenOf pd_1 rfl) rfl (by show 2 * 0 + _ ≤ _; exact Nat.le_of_eq rfl) (hb hby at_34) (fun _ _ => ⟨rfl, e14, (by decide : 15 + 0 ≤ _), (by decide : 48 + 0 ≤ _)⟩)
  dsimp only [Pt.U, Pt.locs, Pt.cells, Pt.slots] at X16 l16 y16 z16 st16 hQ16
  subst l16 y16 z16
  obtain ⟨rfl, N16q, hh16⟩ := hQ16
  have N16 := Fr.app N6 N16q
  refine own_of st16 ?_
  show own_Out p e below _ (T16.setTop (mkF m 37 #[iv p0, iv p1, rv of, rv oc, rv b1, .unset, .unset] [.int (fcnt c0 c1 c2 c3), .ref oc, .ref a14, .ref b12, .ref b12]))
  have ne_oc_b12 : oc ≠ b12 := Nat.ne_of_lt (Nat.lt_of_lt_of_le (Nat.lt_of_lt_of_le (Nat.lt_of_lt_of_le (Nat.lt_of_lt_of_le Vc.lt E1.1) E2.1) K6.1) (Nat.le_of_eq g12.symm))
  have q20 := (A12.ext E14)
  have q21 := (F_b12_name.ext E14)
  have q22 := (F_b12_classOf.ext E14)
  have q23 := (F_b12_classCount.ext E14)
  have q24 := (F_b12_classes.ext E14)
  obtain ⟨_, _, ⟨T19, L19, k19, n19⟩, -, X19, ⟨Lc19, hQ19, l19, y19, z19⟩, st19⟩ := X16.specialBack hx (y := (⟨"com/example/slimc/slimc/game/Observation", "<init>", "(Ljava/lang/String;[II)V"⟩ : MethodName)) rfl hown14 (mvT hZ14 (w_ hw 23 rfl)) (mvT hZ14 (w_ hw 24 rfl)) (mvT hZ14 (w_ hw 25 rfl)) (by decide) (backOf (W := 1) (ct_use hC l Z a0 hw [] b12 a14 oc kc h14 n0 q18 q20 q21 q22 q23 q24 g_b12 q17 ne_oc_b12) hZ14 (w_ hw 25 rfl) (w_ hw 11 rfl) (by decide) (by decide)) (g := (mkF m 37 #[iv p0, iv p1, rv of, rv oc, rv b1, .unset, .unset] [.int (fcnt c0 c1 c2 c3), .ref oc, .ref a14, .ref b12, .ref b12])) rfl (by rw [hml]; rfl) (Steps.refl _) (a := b12) (argsL := [(.ref a14), (.ref oc), (.int (fcnt c0 c1 c2 c3))]) (rest := [(.ref b12)]) (lenOf pd_2 rfl) rfl (by show 2 * 0 + _ ≤ _; exact Nat.le_of_eq rfl) (hb hby at_37) (fun _ _ => ⟨rfl, hh16, (by decide : 15 + 7 ≤ _), (by decide : 48 + 16 ≤ _)⟩)
  dsimp only [Pt.U, Pt.locs, Pt.cells, Pt.slots] at X19 l19 y19 z19 st19 hQ19
  subst l19 y19 z19
  obtain ⟨rfl, N19q, K19, E19, Fo19, Fc19, Rf19⟩ := hQ19
  have N19 := Fr.app N16 N19q
  refine own_of (fun _ k => st19.trans k) ?_
  show own_Out p e below _ (T19.setTop (mkF m 40 #[iv p0, iv p1, rv of, rv oc, rv b1, .unset, .unset] [.ref b12]))
  refine o_astore X19 hx hby at_40 rfl (l' := #[iv p0, iv p1, rv of, rv oc, rv b1, rv b12, .unset]) rfl (q := 42) rfl ?_
  refine o_aloadN X19 hx hby at_42 rfl rfl (q := 43) rfl ?_
  refine o_aloadN X19 hx hby at_43 rfl rfl (q := 44) rfl ?_
  refine o_iconst X19 hx hby at_44 (z := 0) rfl (q := 45) rfl ?_
  refine o_iconst X19 hx hby at_45 (z := 1) rfl (q := 46) rfl ?_
  have ne_of_b12 : of ≠ b12 := Nat.ne_of_lt (Nat.lt_of_lt_of_le (Nat.lt_of_lt_of_le (Nat.lt_of_lt_of_le (Nat.lt_of_lt_of_le Vf.lt E1.1) E2.1) K6.1) (Nat.le_of_eq g12.symm))
  have q26 := ((((q4.keep K6 (ninS ne_of_b1 nin0)).ext E12).ext E14).keep K19 (ninS ne_of_b12 nin0))
  have q27 := (q17.keep K19 (ninS ne_oc_b12 nin0))
  have q28 := (Nat.le_trans q18 K19.1)
  obtain ⟨_, _, ⟨T25, L25, k25, n25⟩, -, X25, ⟨Lc25, hQ25, l25, y25, z25⟩, st25⟩ := Jvm.LawKit.callS X19 hx (y := (⟨"com/example/slimc/slimc/game/ObservationRefinesPinLaw", "pairOk", "([I[III)Z"⟩ : MethodName)) hown14 (mvT hZ14 (w_ hw 41 rfl)) (mvT hZ14 (w_ hw 42 rfl)) (mvT hZ14 (w_ hw 2 rfl)) (mvT hZ14 (w_ hw 43 rfl)) (by decide) (backOf (W := 0) (rm6p01 l Z a0 hw [] of oc kf kc f0 f1 f2 f3 c0 c1 c2 c3 T19.heap n0 q28 q26 q27) hZ14 (w_ hw 43 rfl) (w_ hw 2 rfl) (by decide) (by decide)) (g := (mkF m 46 #[iv p0, iv p1, rv of, rv oc, rv b1, rv b12, .unset] [.int 1, .int 0, .ref oc, .ref of])) rfl (by rw [hml]; rfl) (argsL := [(.ref of), (.ref oc), (.int (0 : Int32)), (.int (1 : Int32))]) (rest := []) (lenOf pd_3 rfl) rfl (by show 2 * 0 + _ ≤ _; exact Nat.le_of_eq rfl) (hb hby at_46) (fun _ _ => ⟨rfl, rfl, (by decide : 22 + 0 ≤ _), (by decide : 64 + 0 ≤ _)⟩)
  dsimp only [Pt.U, Pt.locs, Pt.cells, Pt.slots] at X25 l25 y25 z25 st25 hQ25
  subst l25 y25 z25
  obtain ⟨rfl, N25q, hh25⟩ := hQ25
  have N25 := Fr.app N19 N25q
  refine own_of st25 ?_
  show own_Out p e below _ (T25.setTop (mkF m 49 #[iv p0, iv p1, rv of, rv oc, rv b1, rv b12, .unset] [.int (fp01 f0 f1 f2 f3 c0 c1 c2 c3)]))
  by_cases hc49_29 : (fp01 f0 f1 f2 f3 c0 c1 c2 c3) = (0 : Int32)
  · skip
    refine o_ifY X25 hx hby at_49 ((if0 _ _).trans (teq hc49_29).1) (by decide) (q := 106) (by decide) ?_
    refine o_iconst X25 hx hby at_106 (z := 0) rfl (q := 107) rfl ?_
    refine o_istore X25 hx hby at_107 (l' := #[iv p0, iv p1, rv of, rv oc, rv b1, rv b12, iv 0]) rfl (q := 109) rfl ?_
    refine o_aload X25 hx hby at_109 rfl rfl (q := 111) rfl ?_
    refine o_aload X25 hx hby at_111 rfl rfl (q := 113) rfl ?_
    have q31 := ((((Keep.refl T6.heap []).ext E12).ext E14).trans K19 (allS (Or.inr szF_b12) all0))
    have q32 := (((E6.ext E12).ext E14).keep K19)
    obtain ⟨cq30, kq30, q30a, q30b, q30c⟩ := isOf hZ14 hh25 q32
    obtain ⟨_, _, ⟨T30, L30, k30, n30⟩, -, X30, ⟨Lc30, hQ30, l30, y30, z30⟩, st30⟩ := X25.virtualBack hx (y := (⟨"com/example/slimc/slimc/game/Observation", "refines", "(Lcom/example/slimc/slimc/game/Observation;)Z"⟩ : MethodName)) (z := (⟨"com/example/slimc/slimc/game/Observation", "refines", "(Lcom/example/slimc/slimc/game/Observation;)Z"⟩ : MethodName)) hown14 (mvT hZ14 (w_ hw 44 rfl)) (mvT hZ14 (w_ hw 45 rfl)) (notFace_of_selects (args := #[]) (mvT hZ14 (w_ hw 47 rfl))) (mvT hZ14 (w_ hw 47 rfl)) (mvT hZ14 (w_ hw 46 rfl)) (by decide) (backOf (W := 0) (rf_use (rf := rf) l Z a0 hw [] b1 b12 oc kc c0 c1 c2 c3 T19.heap n0 q28 Rf6 q31 Fo19 q27) hZ14 (w_ hw 48 rfl) (w_ hw 11 rfl) (by decide) (by decide)) q30a q30c (g := (mkF m 113 #[iv p0, iv p1, rv of, rv oc, rv b1, rv b12, iv 0] [.ref b12, .ref b1])) rfl (by rw [hml]; rfl) (Steps.refl _) (argsL := [(.ref b12)]) (rest := []) (lenOf pd_4 rfl) rfl (by show 2 * 0 + _ ≤ _; exact Nat.le_of_eq rfl) (hb hby at_113) (fun _ _ => ⟨rfl, hh25, (by decide : 22 + 0 ≤ _), (by decide : 64 + 0 ≤ _)⟩)
    dsimp only [Pt.U, Pt.locs, Pt.cells, Pt.slots] at X30 l30 y30 z30 st30 hQ30
    subst l30 y30 z30
    obtain ⟨rfl, N30q, hh30⟩ := hQ30
    have N30 := Fr.app N25 N30q
    refine own_of (fun _ k => st30.trans k) ?_
    show own_Out p e below _ (T30.setTop (mkF m 116 #[iv p0, iv p1, rv of, rv oc, rv b1, rv b12, iv 0] [.int (rf c0 c1 c2 c3)]))
    refine o_iload X30 hx hby at_116 rfl (q := 118) rfl ?_
    refine o_icN X30 hx hby at_118 (teq (hq.trans (by simp only [if_pos hc49_29]) : (rf c0 c1 c2 c3) = (0 : Int32))).2 (q := 121) rfl ?_
    refine o_iconst X30 hx hby at_121 (z := 1) rfl (q := 122) rfl ?_
    refine o_goto X30 hx hby at_122 (by decide) (q := 126) (by decide) ?_
    have q33 := (Nat.le_trans ks14 K19.1)
    exact own_outNW (s := s) (vm₁ := T14.vm) X30 S14 (by rw [hh30]; exact q33) hx hlk (t := .boolean) hret (by simp) (hb hby at_126) (z' := (1 : Int32)) rfl (Q := Q) (hQ _ _ N30) (by decide) (by decide)
  · skip
    refine o_ifN X25 hx hby at_49 ((if0 _ _).trans (feq hc49_29).1) (q := 52) rfl ?_
    refine o_aloadN X25 hx hby at_52 rfl rfl (q := 53) rfl ?_
    refine o_aloadN X25 hx hby at_53 rfl rfl (q := 54) rfl ?_
    refine o_iconst X25 hx hby at_54 (z := 0) rfl (q := 55) rfl ?_
    refine o_iconst X25 hx hby at_55 (z := 2) rfl (q := 56) rfl ?_
    obtain ⟨_, _, ⟨T34, L34, k34, n34⟩, -, X34, ⟨Lc34, hQ34, l34, y34, z34⟩, st34⟩ := Jvm.LawKit.callS X25 hx (y := (⟨"com/example/slimc/slimc/game/ObservationRefinesPinLaw", "pairOk", "([I[III)Z"⟩ : MethodName)) hown14 (mvT hZ14 (w_ hw 41 rfl)) (mvT hZ14 (w_ hw 42 rfl)) (mvT hZ14 (w_ hw 2 rfl)) (mvT hZ14 (w_ hw 43 rfl)) (by decide) (backOf (W := 0) (rm6p02 l Z a0 hw [] of oc kf kc f0 f1 f2 f3 c0 c1 c2 c3 T19.heap n0 q28 q26 q27) hZ14 (w_ hw 43 rfl) (w_ hw 2 rfl) (by decide) (by decide)) (g := (mkF m 56 #[iv p0, iv p1, rv of, rv oc, rv b1, rv b12, .unset] [.int 2, .int 0, .ref oc, .ref of])) rfl (by rw [hml]; rfl) (argsL := [(.ref of), (.ref oc), (.int (0 : Int32)), (.int (2 : Int32))]) (rest := []) (lenOf pd_3 rfl) rfl (by show 2 * 0 + _ ≤ _; exact Nat.le_of_eq rfl) (hb hby at_56) (fun _ _ => ⟨rfl, hh25, (by decide : 22 + 0 ≤ _), (by decide : 64 + 0 ≤ _)⟩)
    dsimp only [Pt.U, Pt.locs, Pt.cells, Pt.slots] at X34 l34 y34 z34 st34 hQ34
    subst l34 y34 z34
    obtain ⟨rfl, N34q, hh34⟩ := hQ34
    have N34 := Fr.app N25 N34q
    refine own_of st34 ?_
    show own_Out p e below _ (T34.setTop (mkF m 59 #[iv p0, iv p1, rv of, rv oc, rv b1, rv b12, .unset] [.int (fp02 f0 f1 f2 f3 c0 c1 c2 c3)]))
    by_cases hc59_35 : (fp02 f0 f1 f2 f3 c0 c1 c2 c3) = (0 : Int32)
    · skip
      refine o_ifY X34 hx hby at_59 ((if0 _ _).trans (teq hc59_35).1) (by decide) (q := 106) (by decide) ?_
      refine o_iconst X34 hx hby at_106 (z := 0) rfl (q := 107) rfl ?_
      refine o_istore X34 hx hby at_107 (l' := #[iv p0, iv p1, rv of, rv oc, rv b1, rv b12, iv 0]) rfl (q := 109) rfl ?_
      refine o_aload X34 hx hby at_109 rfl rfl (q := 111) rfl ?_
      refine o_aload X34 hx hby at_111 rfl rfl (q := 113) rfl ?_
      have q37 := ((((Keep.refl T6.heap []).ext E12).ext E14).trans K19 (allS (Or.inr szF_b12) all0))
      have q38 := (((E6.ext E12).ext E14).keep K19)
      obtain ⟨cq36, kq36, q36a, q36b, q36c⟩ := isOf hZ14 hh34 q38
      obtain ⟨_, _, ⟨T36, L36, k36, n36⟩, -, X36, ⟨Lc36, hQ36, l36, y36, z36⟩, st36⟩ := X34.virtualBack hx (y := (⟨"com/example/slimc/slimc/game/Observation", "refines", "(Lcom/example/slimc/slimc/game/Observation;)Z"⟩ : MethodName)) (z := (⟨"com/example/slimc/slimc/game/Observation", "refines", "(Lcom/example/slimc/slimc/game/Observation;)Z"⟩ : MethodName)) hown14 (mvT hZ14 (w_ hw 44 rfl)) (mvT hZ14 (w_ hw 45 rfl)) (notFace_of_selects (args := #[]) (mvT hZ14 (w_ hw 47 rfl))) (mvT hZ14 (w_ hw 47 rfl)) (mvT hZ14 (w_ hw 46 rfl)) (by decide) (backOf (W := 0) (rf_use (rf := rf) l Z a0 hw [] b1 b12 oc kc c0 c1 c2 c3 T19.heap n0 q28 Rf6 q37 Fo19 q27) hZ14 (w_ hw 48 rfl) (w_ hw 11 rfl) (by decide) (by decide)) q36a q36c (g := (mkF m 113 #[iv p0, iv p1, rv of, rv oc, rv b1, rv b12, iv 0] [.ref b12, .ref b1])) rfl (by rw [hml]; rfl) (Steps.refl _) (argsL := [(.ref b12)]) (rest := []) (lenOf pd_4 rfl) rfl (by show 2 * 0 + _ ≤ _; exact Nat.le_of_eq rfl) (hb hby at_113) (fun _ _ => ⟨rfl, hh34, (by decide : 22 + 0 ≤ _), (by decide : 64 + 0 ≤ _)⟩)
      dsimp only [Pt.U, Pt.locs, Pt.cells, Pt.slots] at X36 l36 y36 z36 st36 hQ36
      subst l36 y36 z36
      obtain ⟨rfl, N36q, hh36⟩ := hQ36
      have N36 := Fr.app N34 N36q
      refine own_of (fun _ k => st36.trans k) ?_
      show own_Out p e below _ (T36.setTop (mkF m 116 #[iv p0, iv p1, rv of, rv oc, rv b1, rv b12, iv 0] [.int (rf c0 c1 c2 c3)]))
      refine o_iload X36 hx hby at_116 rfl (q := 118) rfl ?_
      refine o_icN X36 hx hby at_118 (teq (hq.trans (by simp only [if_neg hc49_29, if_pos hc59_35]) : (rf c0 c1 c2 c3) = (0 : Int32))).2 (q := 121) rfl ?_
      refine o_iconst X36 hx hby at_121 (z := 1) rfl (q := 122) rfl ?_
      refine o_goto X36 hx hby at_122 (by decide) (q := 126) (by decide) ?_
      have q39 := (Nat.le_trans ks14 K19.1)
      exact own_outNW (s := s) (vm₁ := T14.vm) X36 S14 (by rw [hh36]; exact q39) hx hlk (t := .boolean) hret (by simp) (hb hby at_126) (z' := (1 : Int32)) rfl (Q := Q) (hQ _ _ N36) (by decide) (by decide)
    · skip
      refine o_ifN X34 hx hby at_59 ((if0 _ _).trans (feq hc59_35).1) (q := 62) rfl ?_
      refine o_aloadN X34 hx hby at_62 rfl rfl (q := 63) rfl ?_
      refine o_aloadN X34 hx hby at_63 rfl rfl (q := 64) rfl ?_
      refine o_iconst X34 hx hby at_64 (z := 0) rfl (q := 65) rfl ?_
      refine o_iconst X34 hx hby at_65 (z := 3) rfl (q := 66) rfl ?_
      obtain ⟨_, _, ⟨T40, L40, k40, n40⟩, -, X40, ⟨Lc40, hQ40, l40, y40, z40⟩, st40⟩ := Jvm.LawKit.callS X34 hx (y := (⟨"com/example/slimc/slimc/game/ObservationRefinesPinLaw", "pairOk", "([I[III)Z"⟩ : MethodName)) hown14 (mvT hZ14 (w_ hw 41 rfl)) (mvT hZ14 (w_ hw 42 rfl)) (mvT hZ14 (w_ hw 2 rfl)) (mvT hZ14 (w_ hw 43 rfl)) (by decide) (backOf (W := 0) (rm6p03 l Z a0 hw [] of oc kf kc f0 f1 f2 f3 c0 c1 c2 c3 T19.heap n0 q28 q26 q27) hZ14 (w_ hw 43 rfl) (w_ hw 2 rfl) (by decide) (by decide)) (g := (mkF m 66 #[iv p0, iv p1, rv of, rv oc, rv b1, rv b12, .unset] [.int 3, .int 0, .ref oc, .ref of])) rfl (by rw [hml]; rfl) (argsL := [(.ref of), (.ref oc), (.int (0 : Int32)), (.int (3 : Int32))]) (rest := []) (lenOf pd_3 rfl) rfl (by show 2 * 0 + _ ≤ _; exact Nat.le_of_eq rfl) (hb hby at_66) (fun _ _ => ⟨rfl, hh34, (by decide : 22 + 0 ≤ _), (by decide : 64 + 0 ≤ _)⟩)
      dsimp only [Pt.U, Pt.locs, Pt.cells, Pt.slots] at X40 l40 y40 z40 st40 hQ40
      subst l40 y40 z40
      obtain ⟨rfl, N40q, hh40⟩ := hQ40
      have N40 := Fr.app N34 N40q
      refine own_of st40 ?_
      show own_Out p e below _ (T40.setTop (mkF m 69 #[iv p0, iv p1, rv of, rv oc, rv b1, rv b12, .unset] [.int (fp03 f0 f1 f2 f3 c0 c1 c2 c3)]))
      by_cases hc69_41 : (fp03 f0 f1 f2 f3 c0 c1 c2 c3) = (0 : Int32)
      · skip
        refine o_ifY X40 hx hby at_69 ((if0 _ _).trans (teq hc69_41).1) (by decide) (q := 106) (by decide) ?_
        refine o_iconst X40 hx hby at_106 (z := 0) rfl (q := 107) rfl ?_
        refine o_istore X40 hx hby at_107 (l' := #[iv p0, iv p1, rv of, rv oc, rv b1, rv b12, iv 0]) rfl (q := 109) rfl ?_
        refine o_aload X40 hx hby at_109 rfl rfl (q := 111) rfl ?_
        refine o_aload X40 hx hby at_111 rfl rfl (q := 113) rfl ?_
        have q43 := ((((Keep.refl T6.heap []).ext E12).ext E14).trans K19 (allS (Or.inr szF_b12) all0))
        have q44 := (((E6.ext E12).ext E14).keep K19)
        obtain ⟨cq42, kq42, q42a, q42b, q42c⟩ := isOf hZ14 hh40 q44
        obtain ⟨_, _, ⟨T42, L42, k42, n42⟩, -, X42, ⟨Lc42, hQ42, l42, y42, z42⟩, st42⟩ := X40.virtualBack hx (y := (⟨"com/example/slimc/slimc/game/Observation", "refines", "(Lcom/example/slimc/slimc/game/Observation;)Z"⟩ : MethodName)) (z := (⟨"com/example/slimc/slimc/game/Observation", "refines", "(Lcom/example/slimc/slimc/game/Observation;)Z"⟩ : MethodName)) hown14 (mvT hZ14 (w_ hw 44 rfl)) (mvT hZ14 (w_ hw 45 rfl)) (notFace_of_selects (args := #[]) (mvT hZ14 (w_ hw 47 rfl))) (mvT hZ14 (w_ hw 47 rfl)) (mvT hZ14 (w_ hw 46 rfl)) (by decide) (backOf (W := 0) (rf_use (rf := rf) l Z a0 hw [] b1 b12 oc kc c0 c1 c2 c3 T19.heap n0 q28 Rf6 q43 Fo19 q27) hZ14 (w_ hw 48 rfl) (w_ hw 11 rfl) (by decide) (by decide)) q42a q42c (g := (mkF m 113 #[iv p0, iv p1, rv of, rv oc, rv b1, rv b12, iv 0] [.ref b12, .ref b1])) rfl (by rw [hml]; rfl) (Steps.refl _) (argsL := [(.ref b12)]) (rest := []) (lenOf pd_4 rfl) rfl (by show 2 * 0 + _ ≤ _; exact Nat.le_of_eq rfl) (hb hby at_113) (fun _ _ => ⟨rfl, hh40, (by decide : 22 + 0 ≤ _), (by decide : 64 + 0 ≤ _)⟩)
        dsimp only [Pt.U, Pt.locs, Pt.cells, Pt.slots] at X42 l42 y42 z42 st42 hQ42
        subst l42 y42 z42
        obtain ⟨rfl, N42q, hh42⟩ := hQ42
        have N42 := Fr.app N40 N42q
        refine own_of (fun _ k => st42.trans k) ?_
        show own_Out p e below _ (T42.setTop (mkF m 116 #[iv p0, iv p1, rv of, rv oc, rv b1, rv b12, iv 0] [.int (rf c0 c1 c2 c3)]))
        refine o_iload X42 hx hby at_116 rfl (q := 118) rfl ?_
        refine o_icN X42 hx hby at_118 (teq (hq.trans (by simp only [if_neg hc49_29, if_neg hc59_35, if_pos hc69_41]) : (rf c0 c1 c2 c3) = (0 : Int32))).2 (q := 121) rfl ?_
        refine o_iconst X42 hx hby at_121 (z := 1) rfl (q := 122) rfl ?_
        refine o_goto X42 hx hby at_122 (by decide) (q := 126) (by decide) ?_
        have q45 := (Nat.le_trans ks14 K19.1)
        exact own_outNW (s := s) (vm₁ := T14.vm) X42 S14 (by rw [hh42]; exact q45) hx hlk (t := .boolean) hret (by simp) (hb hby at_126) (z' := (1 : Int32)) rfl (Q := Q) (hQ _ _ N42) (by decide) (by decide)
      · skip
        refine o_ifN X40 hx hby at_69 ((if0 _ _).trans (feq hc69_41).1) (q := 72) rfl ?_
        refine o_aloadN X40 hx hby at_72 rfl rfl (q := 73) rfl ?_
        refine o_aloadN X40 hx hby at_73 rfl rfl (q := 74) rfl ?_
        refine o_iconst X40 hx hby at_74 (z := 1) rfl (q := 75) rfl ?_
        refine o_iconst X40 hx hby at_75 (z := 2) rfl (q := 76) rfl ?_
        obtain ⟨_, _, ⟨T46, L46, k46, n46⟩, -, X46, ⟨Lc46, hQ46, l46, y46, z46⟩, st46⟩ := Jvm.LawKit.callS X40 hx (y := (⟨"com/example/slimc/slimc/game/ObservationRefinesPinLaw", "pairOk", "([I[III)Z"⟩ : MethodName)) hown14 (mvT hZ14 (w_ hw 41 rfl)) (mvT hZ14 (w_ hw 42 rfl)) (mvT hZ14 (w_ hw 2 rfl)) (mvT hZ14 (w_ hw 43 rfl)) (by decide) (backOf (W := 0) (rm6p12 l Z a0 hw [] of oc kf kc f0 f1 f2 f3 c0 c1 c2 c3 T19.heap n0 q28 q26 q27) hZ14 (w_ hw 43 rfl) (w_ hw 2 rfl) (by decide) (by decide)) (g := (mkF m 76 #[iv p0, iv p1, rv of, rv oc, rv b1, rv b12, .unset] [.int 2, .int 1, .ref oc, .ref of])) rfl (by rw [hml]; rfl) (argsL := [(.ref of), (.ref oc), (.int (1 : Int32)), (.int (2 : Int32))]) (rest := []) (lenOf pd_3 rfl) rfl (by show 2 * 0 + _ ≤ _; exact Nat.le_of_eq rfl) (hb hby at_76) (fun _ _ => ⟨rfl, hh40, (by decide : 22 + 0 ≤ _), (by decide : 64 + 0 ≤ _)⟩)
        dsimp only [Pt.U, Pt.locs, Pt.cells, Pt.slots] at X46 l46 y46 z46 st46 hQ46
        subst l46 y46 z46
        obtain ⟨rfl, N46q, hh46⟩ := hQ46
        have N46 := Fr.app N40 N46q
        refine own_of st46 ?_
        show own_Out p e below _ (T46.setTop (mkF m 79 #[iv p0, iv p1, rv of, rv oc, rv b1, rv b12, .unset] [.int (fp12 f0 f1 f2 f3 c0 c1 c2 c3)]))
        by_cases hc79_47 : (fp12 f0 f1 f2 f3 c0 c1 c2 c3) = (0 : Int32)
        · skip
          refine o_ifY X46 hx hby at_79 ((if0 _ _).trans (teq hc79_47).1) (by decide) (q := 106) (by decide) ?_
          refine o_iconst X46 hx hby at_106 (z := 0) rfl (q := 107) rfl ?_
          refine o_istore X46 hx hby at_107 (l' := #[iv p0, iv p1, rv of, rv oc, rv b1, rv b12, iv 0]) rfl (q := 109) rfl ?_
          refine o_aload X46 hx hby at_109 rfl rfl (q := 111) rfl ?_
          refine o_aload X46 hx hby at_111 rfl rfl (q := 113) rfl ?_
          have q49 := ((((Keep.refl T6.heap []).ext E12).ext E14).trans K19 (allS (Or.inr szF_b12) all0))
          have q50 := (((E6.ext E12).ext E14).keep K19)
          obtain ⟨cq48, kq48, q48a, q48b, q48c⟩ := isOf hZ14 hh46 q50
          obtain ⟨_, _, ⟨T48, L48, k48, n48⟩, -, X48, ⟨Lc48, hQ48, l48, y48, z48⟩, st48⟩ := X46.virtualBack hx (y := (⟨"com/example/slimc/slimc/game/Observation", "refines", "(Lcom/example/slimc/slimc/game/Observation;)Z"⟩ : MethodName)) (z := (⟨"com/example/slimc/slimc/game/Observation", "refines", "(Lcom/example/slimc/slimc/game/Observation;)Z"⟩ : MethodName)) hown14 (mvT hZ14 (w_ hw 44 rfl)) (mvT hZ14 (w_ hw 45 rfl)) (notFace_of_selects (args := #[]) (mvT hZ14 (w_ hw 47 rfl))) (mvT hZ14 (w_ hw 47 rfl)) (mvT hZ14 (w_ hw 46 rfl)) (by decide) (backOf (W := 0) (rf_use (rf := rf) l Z a0 hw [] b1 b12 oc kc c0 c1 c2 c3 T19.heap n0 q28 Rf6 q49 Fo19 q27) hZ14 (w_ hw 48 rfl) (w_ hw 11 rfl) (by decide) (by decide)) q48a q48c (g := (mkF m 113 #[iv p0, iv p1, rv of, rv oc, rv b1, rv b12, iv 0] [.ref b12, .ref b1])) rfl (by rw [hml]; rfl) (Steps.refl _) (argsL := [(.ref b12)]) (rest := []) (lenOf pd_4 rfl) rfl (by show 2 * 0 + _ ≤ _; exact Nat.le_of_eq rfl) (hb hby at_113) (fun _ _ => ⟨rfl, hh46, (by decide : 22 + 0 ≤ _), (by decide : 64 + 0 ≤ _)⟩)
          dsimp only [Pt.U, Pt.locs, Pt.cells, Pt.slots] at X48 l48 y48 z48 st48 hQ48
          subst l48 y48 z48
          obtain ⟨rfl, N48q, hh48⟩ := hQ48
          have N48 := Fr.app N46 N48q
          refine own_of (fun _ k => st48.trans k) ?_
          show own_Out p e below _ (T48.setTop (mkF m 116 #[iv p0, iv p1, rv of, rv oc, rv b1, rv b12, iv 0] [.int (rf c0 c1 c2 c3)]))
          refine o_iload X48 hx hby at_116 rfl (q := 118) rfl ?_
          refine o_icN X48 hx hby at_118 (teq (hq.trans (by simp only [if_neg hc49_29, if_neg hc59_35, if_neg hc69_41, if_pos hc79_47]) : (rf c0 c1 c2 c3) = (0 : Int32))).2 (q := 121) rfl ?_
          refine o_iconst X48 hx hby at_121 (z := 1) rfl (q := 122) rfl ?_
          refine o_goto X48 hx hby at_122 (by decide) (q := 126) (by decide) ?_
          have q51 := (Nat.le_trans ks14 K19.1)
          exact own_outNW (s := s) (vm₁ := T14.vm) X48 S14 (by rw [hh48]; exact q51) hx hlk (t := .boolean) hret (by simp) (hb hby at_126) (z' := (1 : Int32)) rfl (Q := Q) (hQ _ _ N48) (by decide) (by decide)
        · skip
          refine o_ifN X46 hx hby at_79 ((if0 _ _).trans (feq hc79_47).1) (q := 82) rfl ?_
          refine o_aloadN X46 hx hby at_82 rfl rfl (q := 83) rfl ?_
          refine o_aloadN X46 hx hby at_83 rfl rfl (q := 84) rfl ?_
          refine o_iconst X46 hx hby at_84 (z := 1) rfl (q := 85) rfl ?_
          refine o_iconst X46 hx hby at_85 (z := 3) rfl (q := 86) rfl ?_
          obtain ⟨_, _, ⟨T52, L52, k52, n52⟩, -, X52, ⟨Lc52, hQ52, l52, y52, z52⟩, st52⟩ := Jvm.LawKit.callS X46 hx (y := (⟨"com/example/slimc/slimc/game/ObservationRefinesPinLaw", "pairOk", "([I[III)Z"⟩ : MethodName)) hown14 (mvT hZ14 (w_ hw 41 rfl)) (mvT hZ14 (w_ hw 42 rfl)) (mvT hZ14 (w_ hw 2 rfl)) (mvT hZ14 (w_ hw 43 rfl)) (by decide) (backOf (W := 0) (rm6p13 l Z a0 hw [] of oc kf kc f0 f1 f2 f3 c0 c1 c2 c3 T19.heap n0 q28 q26 q27) hZ14 (w_ hw 43 rfl) (w_ hw 2 rfl) (by decide) (by decide)) (g := (mkF m 86 #[iv p0, iv p1, rv of, rv oc, rv b1, rv b12, .unset] [.int 3, .int 1, .ref oc, .ref of])) rfl (by rw [hml]; rfl) (argsL := [(.ref of), (.ref oc), (.int (1 : Int32)), (.int (3 : Int32))]) (rest := []) (lenOf pd_3 rfl) rfl (by show 2 * 0 + _ ≤ _; exact Nat.le_of_eq rfl) (hb hby at_86) (fun _ _ => ⟨rfl, hh46, (by decide : 22 + 0 ≤ _), (by decide : 64 + 0 ≤ _)⟩)
          dsimp only [Pt.U, Pt.locs, Pt.cells, Pt.slots] at X52 l52 y52 z52 st52 hQ52
          subst l52 y52 z52
          obtain ⟨rfl, N52q, hh52⟩ := hQ52
          have N52 := Fr.app N46 N52q
          refine own_of st52 ?_
          show own_Out p e below _ (T52.setTop (mkF m 89 #[iv p0, iv p1, rv of, rv oc, rv b1, rv b12, .unset] [.int (fp13 f0 f1 f2 f3 c0 c1 c2 c3)]))
          by_cases hc89_53 : (fp13 f0 f1 f2 f3 c0 c1 c2 c3) = (0 : Int32)
          · skip
            refine o_ifY X52 hx hby at_89 ((if0 _ _).trans (teq hc89_53).1) (by decide) (q := 106) (by decide) ?_
            refine o_iconst X52 hx hby at_106 (z := 0) rfl (q := 107) rfl ?_
            refine o_istore X52 hx hby at_107 (l' := #[iv p0, iv p1, rv of, rv oc, rv b1, rv b12, iv 0]) rfl (q := 109) rfl ?_
            refine o_aload X52 hx hby at_109 rfl rfl (q := 111) rfl ?_
            refine o_aload X52 hx hby at_111 rfl rfl (q := 113) rfl ?_
            have q55 := ((((Keep.refl T6.heap []).ext E12).ext E14).trans K19 (allS (Or.inr szF_b12) all0))
            have q56 := (((E6.ext E12).ext E14).keep K19)
            obtain ⟨cq54, kq54, q54a, q54b, q54c⟩ := isOf hZ14 hh52 q56
            obtain ⟨_, _, ⟨T54, L54, k54, n54⟩, -, X54, ⟨Lc54, hQ54, l54, y54, z54⟩, st54⟩ := X52.virtualBack hx (y := (⟨"com/example/slimc/slimc/game/Observation", "refines", "(Lcom/example/slimc/slimc/game/Observation;)Z"⟩ : MethodName)) (z := (⟨"com/example/slimc/slimc/game/Observation", "refines", "(Lcom/example/slimc/slimc/game/Observation;)Z"⟩ : MethodName)) hown14 (mvT hZ14 (w_ hw 44 rfl)) (mvT hZ14 (w_ hw 45 rfl)) (notFace_of_selects (args := #[]) (mvT hZ14 (w_ hw 47 rfl))) (mvT hZ14 (w_ hw 47 rfl)) (mvT hZ14 (w_ hw 46 rfl)) (by decide) (backOf (W := 0) (rf_use (rf := rf) l Z a0 hw [] b1 b12 oc kc c0 c1 c2 c3 T19.heap n0 q28 Rf6 q55 Fo19 q27) hZ14 (w_ hw 48 rfl) (w_ hw 11 rfl) (by decide) (by decide)) q54a q54c (g := (mkF m 113 #[iv p0, iv p1, rv of, rv oc, rv b1, rv b12, iv 0] [.ref b12, .ref b1])) rfl (by rw [hml]; rfl) (Steps.refl _) (argsL := [(.ref b12)]) (rest := []) (lenOf pd_4 rfl) rfl (by show 2 * 0 + _ ≤ _; exact Nat.le_of_eq rfl) (hb hby at_113) (fun _ _ => ⟨rfl, hh52, (by decide : 22 + 0 ≤ _), (by decide : 64 + 0 ≤ _)⟩)
            dsimp only [Pt.U, Pt.locs, Pt.cells, Pt.slots] at X54 l54 y54 z54 st54 hQ54
            subst l54 y54 z54
            obtain ⟨rfl, N54q, hh54⟩ := hQ54
            have N54 := Fr.app N52 N54q
            refine own_of (fun _ k => st54.trans k) ?_
            show own_Out p e below _ (T54.setTop (mkF m 116 #[iv p0, iv p1, rv of, rv oc, rv b1, rv b12, iv 0] [.int (rf c0 c1 c2 c3)]))
            refine o_iload X54 hx hby at_116 rfl (q := 118) rfl ?_
            refine o_icN X54 hx hby at_118 (teq (hq.trans (by simp only [if_neg hc49_29, if_neg hc59_35, if_neg hc69_41, if_neg hc79_47, if_pos hc89_53]) : (rf c0 c1 c2 c3) = (0 : Int32))).2 (q := 121) rfl ?_
            refine o_iconst X54 hx hby at_121 (z := 1) rfl (q := 122) rfl ?_
            refine o_goto X54 hx hby at_122 (by decide) (q := 126) (by decide) ?_
            have q57 := (Nat.le_trans ks14 K19.1)
            exact own_outNW (s := s) (vm₁ := T14.vm) X54 S14 (by rw [hh54]; exact q57) hx hlk (t := .boolean) hret (by simp) (hb hby at_126) (z' := (1 : Int32)) rfl (Q := Q) (hQ _ _ N54) (by decide) (by decide)
          · skip
            refine o_ifN X52 hx hby at_89 ((if0 _ _).trans (feq hc89_53).1) (q := 92) rfl ?_
            refine o_aloadN X52 hx hby at_92 rfl rfl (q := 93) rfl ?_
            refine o_aloadN X52 hx hby at_93 rfl rfl (q := 94) rfl ?_
            refine o_iconst X52 hx hby at_94 (z := 2) rfl (q := 95) rfl ?_
            refine o_iconst X52 hx hby at_95 (z := 3) rfl (q := 96) rfl ?_
            obtain ⟨_, _, ⟨T58, L58, k58, n58⟩, -, X58, ⟨Lc58, hQ58, l58, y58, z58⟩, st58⟩ := Jvm.LawKit.callS X52 hx (y := (⟨"com/example/slimc/slimc/game/ObservationRefinesPinLaw", "pairOk", "([I[III)Z"⟩ : MethodName)) hown14 (mvT hZ14 (w_ hw 41 rfl)) (mvT hZ14 (w_ hw 42 rfl)) (mvT hZ14 (w_ hw 2 rfl)) (mvT hZ14 (w_ hw 43 rfl)) (by decide) (backOf (W := 0) (rm6p23 l Z a0 hw [] of oc kf kc f0 f1 f2 f3 c0 c1 c2 c3 T19.heap n0 q28 q26 q27) hZ14 (w_ hw 43 rfl) (w_ hw 2 rfl) (by decide) (by decide)) (g := (mkF m 96 #[iv p0, iv p1, rv of, rv oc, rv b1, rv b12, .unset] [.int 3, .int 2, .ref oc, .ref of])) rfl (by rw [hml]; rfl) (argsL := [(.ref of), (.ref oc), (.int (2 : Int32)), (.int (3 : Int32))]) (rest := []) (lenOf pd_3 rfl) rfl (by show 2 * 0 + _ ≤ _; exact Nat.le_of_eq rfl) (hb hby at_96) (fun _ _ => ⟨rfl, hh52, (by decide : 22 + 0 ≤ _), (by decide : 64 + 0 ≤ _)⟩)
            dsimp only [Pt.U, Pt.locs, Pt.cells, Pt.slots] at X58 l58 y58 z58 st58 hQ58
            subst l58 y58 z58
            obtain ⟨rfl, N58q, hh58⟩ := hQ58
            have N58 := Fr.app N52 N58q
            refine own_of st58 ?_
            show own_Out p e below _ (T58.setTop (mkF m 99 #[iv p0, iv p1, rv of, rv oc, rv b1, rv b12, .unset] [.int (fp23 f0 f1 f2 f3 c0 c1 c2 c3)]))
            by_cases hc99_59 : (fp23 f0 f1 f2 f3 c0 c1 c2 c3) = (0 : Int32)
            · skip
              refine o_ifY X58 hx hby at_99 ((if0 _ _).trans (teq hc99_59).1) (by decide) (q := 106) (by decide) ?_
              refine o_iconst X58 hx hby at_106 (z := 0) rfl (q := 107) rfl ?_
              refine o_istore X58 hx hby at_107 (l' := #[iv p0, iv p1, rv of, rv oc, rv b1, rv b12, iv 0]) rfl (q := 109) rfl ?_
              refine o_aload X58 hx hby at_109 rfl rfl (q := 111) rfl ?_
              refine o_aload X58 hx hby at_111 rfl rfl (q := 113) rfl ?_
              have q61 := ((((Keep.refl T6.heap []).ext E12).ext E14).trans K19 (allS (Or.inr szF_b12) all0))
              have q62 := (((E6.ext E12).ext E14).keep K19)
              obtain ⟨cq60, kq60, q60a, q60b, q60c⟩ := isOf hZ14 hh58 q62
              obtain ⟨_, _, ⟨T60, L60, k60, n60⟩, -, X60, ⟨Lc60, hQ60, l60, y60, z60⟩, st60⟩ := X58.virtualBack hx (y := (⟨"com/example/slimc/slimc/game/Observation", "refines", "(Lcom/example/slimc/slimc/game/Observation;)Z"⟩ : MethodName)) (z := (⟨"com/example/slimc/slimc/game/Observation", "refines", "(Lcom/example/slimc/slimc/game/Observation;)Z"⟩ : MethodName)) hown14 (mvT hZ14 (w_ hw 44 rfl)) (mvT hZ14 (w_ hw 45 rfl)) (notFace_of_selects (args := #[]) (mvT hZ14 (w_ hw 47 rfl))) (mvT hZ14 (w_ hw 47 rfl)) (mvT hZ14 (w_ hw 46 rfl)) (by decide) (backOf (W := 0) (rf_use (rf := rf) l Z a0 hw [] b1 b12 oc kc c0 c1 c2 c3 T19.heap n0 q28 Rf6 q61 Fo19 q27) hZ14 (w_ hw 48 rfl) (w_ hw 11 rfl) (by decide) (by decide)) q60a q60c (g := (mkF m 113 #[iv p0, iv p1, rv of, rv oc, rv b1, rv b12, iv 0] [.ref b12, .ref b1])) rfl (by rw [hml]; rfl) (Steps.refl _) (argsL := [(.ref b12)]) (rest := []) (lenOf pd_4 rfl) rfl (by show 2 * 0 + _ ≤ _; exact Nat.le_of_eq rfl) (hb hby at_113) (fun _ _ => ⟨rfl, hh58, (by decide : 22 + 0 ≤ _), (by decide : 64 + 0 ≤ _)⟩)
              dsimp only [Pt.U, Pt.locs, Pt.cells, Pt.slots] at X60 l60 y60 z60 st60 hQ60
              subst l60 y60 z60
              obtain ⟨rfl, N60q, hh60⟩ := hQ60
              have N60 := Fr.app N58 N60q
              refine own_of (fun _ k => st60.trans k) ?_
              show own_Out p e below _ (T60.setTop (mkF m 116 #[iv p0, iv p1, rv of, rv oc, rv b1, rv b12, iv 0] [.int (rf c0 c1 c2 c3)]))
              refine o_iload X60 hx hby at_116 rfl (q := 118) rfl ?_
              refine o_icN X60 hx hby at_118 (teq (hq.trans (by simp only [if_neg hc49_29, if_neg hc59_35, if_neg hc69_41, if_neg hc79_47, if_neg hc89_53, if_pos hc99_59]) : (rf c0 c1 c2 c3) = (0 : Int32))).2 (q := 121) rfl ?_
              refine o_iconst X60 hx hby at_121 (z := 1) rfl (q := 122) rfl ?_
              refine o_goto X60 hx hby at_122 (by decide) (q := 126) (by decide) ?_
              have q63 := (Nat.le_trans ks14 K19.1)
              exact own_outNW (s := s) (vm₁ := T14.vm) X60 S14 (by rw [hh60]; exact q63) hx hlk (t := .boolean) hret (by simp) (hb hby at_126) (z' := (1 : Int32)) rfl (Q := Q) (hQ _ _ N60) (by decide) (by decide)
            · skip
              refine o_ifN X58 hx hby at_99 ((if0 _ _).trans (feq hc99_59).1) (q := 102) rfl ?_
              refine o_iconst X58 hx hby at_102 (z := 1) rfl (q := 103) rfl ?_
              refine o_goto X58 hx hby at_103 (by decide) (q := 107) (by decide) ?_
              refine o_istore X58 hx hby at_107 (l' := #[iv p0, iv p1, rv of, rv oc, rv b1, rv b12, iv 1]) rfl (q := 109) rfl ?_
              refine o_aload X58 hx hby at_109 rfl rfl (q := 111) rfl ?_
              refine o_aload X58 hx hby at_111 rfl rfl (q := 113) rfl ?_
              have q65 := ((((Keep.refl T6.heap []).ext E12).ext E14).trans K19 (allS (Or.inr szF_b12) all0))
              have q66 := (((E6.ext E12).ext E14).keep K19)
              obtain ⟨cq64, kq64, q64a, q64b, q64c⟩ := isOf hZ14 hh58 q66
              obtain ⟨_, _, ⟨T64, L64, k64, n64⟩, -, X64, ⟨Lc64, hQ64, l64, y64, z64⟩, st64⟩ := X58.virtualBack hx (y := (⟨"com/example/slimc/slimc/game/Observation", "refines", "(Lcom/example/slimc/slimc/game/Observation;)Z"⟩ : MethodName)) (z := (⟨"com/example/slimc/slimc/game/Observation", "refines", "(Lcom/example/slimc/slimc/game/Observation;)Z"⟩ : MethodName)) hown14 (mvT hZ14 (w_ hw 44 rfl)) (mvT hZ14 (w_ hw 45 rfl)) (notFace_of_selects (args := #[]) (mvT hZ14 (w_ hw 47 rfl))) (mvT hZ14 (w_ hw 47 rfl)) (mvT hZ14 (w_ hw 46 rfl)) (by decide) (backOf (W := 0) (rf_use (rf := rf) l Z a0 hw [] b1 b12 oc kc c0 c1 c2 c3 T19.heap n0 q28 Rf6 q65 Fo19 q27) hZ14 (w_ hw 48 rfl) (w_ hw 11 rfl) (by decide) (by decide)) q64a q64c (g := (mkF m 113 #[iv p0, iv p1, rv of, rv oc, rv b1, rv b12, iv 1] [.ref b12, .ref b1])) rfl (by rw [hml]; rfl) (Steps.refl _) (argsL := [(.ref b12)]) (rest := []) (lenOf pd_4 rfl) rfl (by show 2 * 0 + _ ≤ _; exact Nat.le_of_eq rfl) (hb hby at_113) (fun _ _ => ⟨rfl, hh58, (by decide : 22 + 0 ≤ _), (by decide : 64 + 0 ≤ _)⟩)
              dsimp only [Pt.U, Pt.locs, Pt.cells, Pt.slots] at X64 l64 y64 z64 st64 hQ64
              subst l64 y64 z64
              obtain ⟨rfl, N64q, hh64⟩ := hQ64
              have N64 := Fr.app N58 N64q
              refine own_of (fun _ k => st64.trans k) ?_
              show own_Out p e below _ (T64.setTop (mkF m 116 #[iv p0, iv p1, rv of, rv oc, rv b1, rv b12, iv 1] [.int (rf c0 c1 c2 c3)]))
              refine o_iload X64 hx hby at_116 rfl (q := 118) rfl ?_
              refine o_icN X64 hx hby at_118 (teq (hq.trans (by simp only [if_neg hc49_29, if_neg hc59_35, if_neg hc69_41, if_neg hc79_47, if_neg hc89_53, if_neg hc99_59]) : (rf c0 c1 c2 c3) = (1 : Int32))).2 (q := 121) rfl ?_
              refine o_iconst X64 hx hby at_121 (z := 1) rfl (q := 122) rfl ?_
              refine o_goto X64 hx hby at_122 (by decide) (q := 126) (by decide) ?_
              have q67 := (Nat.le_trans ks14 K19.1)
              exact own_outNW (s := s) (vm₁ := T14.vm) X64 S14 (by rw [hh64]; exact q67) hx hlk (t := .boolean) hret (by simp) (hb hby at_126) (z' := (1 : Int32)) rfl (Q := Q) (hQ _ _ N64) (by decide) (by decide)
theorem pd_5 : parseMethodDescriptor "(I)[I" = some ⟨[.int], some (.array .int)⟩ := by decide +kernel
theorem ef_0 (m : MethodId) (x0 : Int32) (x1 : Int32) : entryFrame m #[(.int x0), (.int x1)] maxLocals = mkF m 0 #[.val (.int x0), .val (.int x1), .unset, .unset, .unset, .unset, .unset] [] := by first | (simp [entryFrame, mkF, argsToLocals, Value.category, maxLocals]; done) | rfl
def Q0 (Z : State) (p0 : Int32) (p1 : Int32) (h0 : Heap) (n0 : Nat) (v : Option Value) (h : Heap) (L : List Loc) : Prop := v = some (.int 1) ∧ Fr n0 L
set_option maxRecDepth 65536 in
set_option maxHeartbeats 40000000 in
theorem rm0 (l : Launch) (Z : State) (a0 : Array Value) (hw : ∀ d ∈ tables_1, d.before a0 Z = true) (ws : List Jvm.Cond) (p0 : Int32) (p1 : Int32) (h0 : Heap) (n0 : Nat) (Z0 : n0 ≤ h0.size) :
    MetFree l x (head1 (Jvm.Cond.code x code maxLocals ret :: ws) room_1) (fun a U => a = #[(.int p0), (.int p1)] ∧ Z.Warmed39 U.vm ∧ U.heap = h0) (fun _ _ _ _ _ => True) (fun _ U o U' => ∃ v L, o = .returned v ∧ Q0 Z p0 p1 h0 n0 v U'.heap L ∧ ReturnedEndW U o U' L 30 100) := by
  refine MetFree.of_bodySF (plainFor_of_name pn_0) hisR ?_
  intro p e s m args below meth c s₁ Bd hml0 hP hK
  obtain ⟨rfl, hZ, hh⟩ := hP
  have hx := Bd.exec
  have hby := Bd.bytes
  have hml : c.maxLocals = 7 := hml0
  have hown : s.vm.findClass "com/example/slimc/slimc/game/ObservationRefinesPinLaw" = some m.cls := findClass_of_methodNamed Bd.named
  have hnm := (name_of_methodNamed Bd.named Bd.method).1
  have X0 : Stand p l e room_1 s m #[(.int p0), (.int p1)] below meth c s₁ [] 0 0 := Stand.of_body Bd
  have e0 : s₁.heap = h0 := by rw [← hh, Bd.state]; rfl
  have N0 := Fr.nil n0
  have hret := Bd.returns
  have hlk := BodyLoose.notSynchronized Bd
  show own_Out p e below (fun o U' => ∃ v L, o = .returned v ∧ Q0 Z p0 p1 h0 n0 v U'.heap L ∧ ReturnedEndW s o U' L 30 100) (s₁.setTop (entryFrame m #[(.int p0), (.int p1)] maxLocals))
  refine own_of (fun t k => castTop (ef_0 m p0 p1) k) ?_
  show own_Out p e below _ (s₁.setTop (mkF m 0 #[iv p0, iv p1, .unset, .unset, .unset, .unset, .unset] []))
  refine o_iloadN X0 hx hby at_0 rfl (q := 1) rfl ?_
  obtain ⟨_, _, ⟨T1, L1, k1, n1⟩, -, X1, ⟨Lc1, hQ1, l1, y1, z1⟩, st1⟩ := Jvm.LawKit.callS X0 hx (y := (⟨"com/example/slimc/slimc/game/ObservationRefinesPinLaw", "partition", "(I)[I"⟩ : MethodName)) hown (mvT hZ (w_ hw 0 rfl)) (mvT hZ (w_ hw 1 rfl)) (mvT hZ (w_ hw 2 rfl)) (mvT hZ (w_ hw 3 rfl)) (by decide) (backOf (W := 0) (rm1 l Z a0 hw [] p0 h0 n0 Z0 ) hZ (w_ hw 3 rfl) (w_ hw 2 rfl) (by decide) (by decide)) (g := (mkF m 1 #[iv p0, iv p1, .unset, .unset, .unset, .unset, .unset] [.int p0])) rfl (by rw [hml]; rfl) (argsL := [(.int p0)]) (rest := []) (lenOf pd_5 rfl) rfl (by show 2 * 0 + _ ≤ _; exact Nat.le_of_eq rfl) (hb hby at_1) (fun _ _ => ⟨rfl, e0, (by decide : 0 + 1 ≤ _), (by decide : 0 + 4 ≤ _)⟩)
  dsimp only [Pt.U, Pt.locs, Pt.cells, Pt.slots] at X1 l1 y1 z1 st1 hQ1
  subst l1 y1 z1
  obtain ⟨r1, k1, rfl, N1q, K1, V1, hg1, hs1⟩ := hQ1
  have N1 := Fr.app N0 N1q
  refine own_of st1 ?_
  show own_Out p e below _ (T1.setTop (mkF m 4 #[iv p0, iv p1, .unset, .unset, .unset, .unset, .unset] [.ref r1]))
  refine o_astoreN X1 hx hby at_4 rfl (l' := #[iv p0, iv p1, rv r1, .unset, .unset, .unset, .unset]) rfl (q := 5) rfl ?_
  refine o_iloadN X1 hx hby at_5 rfl (q := 6) rfl ?_
  have q3 := (Nat.le_trans Z0 K1.1)
  obtain ⟨_, _, ⟨T2, L2, k2, n2⟩, -, X2, ⟨Lc2, hQ2, l2, y2, z2⟩, st2⟩ := Jvm.LawKit.callS X1 hx (y := (⟨"com/example/slimc/slimc/game/ObservationRefinesPinLaw", "partition", "(I)[I"⟩ : MethodName)) hown (mvT hZ (w_ hw 0 rfl)) (mvT hZ (w_ hw 1 rfl)) (mvT hZ (w_ hw 2 rfl)) (mvT hZ (w_ hw 3 rfl)) (by decide) (backOf (W := 0) (rm1 l Z a0 hw [] p1 T1.heap n0 q3 ) hZ (w_ hw 3 rfl) (w_ hw 2 rfl) (by decide) (by decide)) (g := (mkF m 6 #[iv p0, iv p1, rv r1, .unset, .unset, .unset, .unset] [.int p1])) rfl (by rw [hml]; rfl) (argsL := [(.int p1)]) (rest := []) (lenOf pd_5 rfl) rfl (by show 2 * 0 + _ ≤ _; exact Nat.le_of_eq rfl) (hb hby at_6) (fun _ _ => ⟨rfl, rfl, (by decide : 1 + 1 ≤ _), (by decide : 4 + 4 ≤ _)⟩)
  dsimp only [Pt.U, Pt.locs, Pt.cells, Pt.slots] at X2 l2 y2 z2 st2 hQ2
  subst l2 y2 z2
  obtain ⟨r2, k2, rfl, N2q, K2, V2, hg2, hs2⟩ := hQ2
  have N2 := Fr.app N1 N2q
  refine own_of st2 ?_
  show own_Out p e below _ (T2.setTop (mkF m 9 #[iv p0, iv p1, rv r1, .unset, .unset, .unset, .unset] [.ref r2]))
  refine o_astoreN X2 hx hby at_9 rfl (l' := #[iv p0, iv p1, rv r1, rv r2, .unset, .unset, .unset]) rfl (q := 10) rfl ?_
  have q4 := (V1.keep K2 nin0)
  obtain ⟨rf, hF, hqF⟩ := own_fine p0
  obtain ⟨rc, hC, -⟩ := own_fine p1
  have q5 := (Nat.le_trans q3 K2.1)
  exact sg10 (Q := Q0 Z p0 p1 h0 n0) p0 p1 r1 r2 k1 k2 (0 : Int32) (pf1 p0) (pf2 p0) (pf3 p0) (0 : Int32) (pf1 p1) (pf2 p1) (pf3 p1) rf rc T2.heap n0 X2 hx hZ hw hby hml hown hret hlk (fun _ _ N => ⟨rfl, N⟩) rfl q5 N2 q4 V2 hF hC (hqF _ _ _ _)
set_option maxRecDepth 65536 in
set_option maxHeartbeats 40000000 in
theorem comes_1 {Post : Tables → Env → Array Value → State → Outcome → State → Prop} (hpost : ∀ tb e args s v u, (limb_1_1.after args s (.returned v) u = true ∧ limb_1_2.after args s (.returned v) u = true ∧ True) → ReturnedEndW s (.returned v) u (Jvm.fieldLocs frame_1_writes args s ++ Jvm.arrayLocs frame_1_arrays args s ++ Jvm.staticLocs frame_1_statics s) 48 2240 → Post tb e args s (.returned v) u) :
    ArmFor flags0 classFile x code maxLocals ret World_1 tables_1 room_1 Calls_1 rest_1 Pre_1 Post := by
  intro l hfl _ _ p e ha hc hk s m args below hf hA hF happ hP
  obtain ⟨hcalls, hrest, hpre⟩ := hP
  obtain ⟨-, -, -, hnamed, -, -, -, hat⟩ := (Spec.applies_iff hf).mp happ
  obtain ⟨hg, hn⟩ := and_e (Cond.before_iff.mp (show (Jvm.Cond.and given_1 narrow_1).before args s = true from hpre))
  obtain ⟨g1, g2⟩ := and_e hg
  obtain ⟨g3, g4⟩ := and_e g2
  obtain ⟨w0, w1, rfl⟩ : ∃ w0 w1 : Value, args = #[w0, w1] := by
    have hs : args.size = 2 := by simpa [Cond.value, given_1] using g1
    obtain ⟨L⟩ := args
    match L, hs with
    | [w0, w1], _ => exact ⟨w0, w1, rfl⟩
  have hw := fun d (hd : d ∈ tables_1) => atoms_spec (ws := Jvm.Cond.code x code maxLocals ret :: tables_1) hat d (List.mem_cons_of_mem _ hd)
  have hfit : Fit s := fun {y c} hc i hi => by
    obtain ⟨ha, rfl⟩ := Array.getElem?_eq_some_iff.mp hc
    have q := List.all_eq_true.mp ((Array.all_eq_true_iff_forall_mem.mp hF) _ (Array.getElem_mem ha)) i (List.mem_range.mpr hi)
    simpa [Array.getElem?_eq_getElem hi] using q
  obtain ⟨i0, ei0⟩ := is_v g3
  obtain rfl : w0 = (.int i0) := Option.some.inj ei0
  obtain ⟨i1, ei1⟩ := is_v g4
  obtain rfl : w1 = (.int i1) := Option.some.inj ei1
  obtain ⟨n, o, h1, h2, h3, _, L, rfl, ⟨rfl, N⟩, hq⟩ := rm0 l s _ hw tables_1 i0 i1 s.heap s.heap.size (Nat.le_refl _)  p e ha hc hk s m _ below hf ((Spec.applies_iff_loose hf).mp happ).1 ⟨rfl, State.Warmed39.refl s, rfl⟩ trivial
  refine ⟨n, _, h1, h2, h3, hpost _ _ _ _ _ _ ⟨Cond.after_iff.mpr rfl, Cond.after_iff.mpr (eq_i res_at (Term.int_eval (1)) rfl), trivial⟩ ⟨hq.1, hq.2.1, hq.2.2.1, (hq.2.2.2.sift fun y hy => Or.inr (N y hy)).mono (by decide) (by decide)⟩⟩
theorem main_1_1 : Claimed_1_1 := comes_1 fun _ _ _ _ _ _ h hF => ⟨h.1, hF⟩
theorem main_1_2 : Claimed_1_2 := comes_1 fun _ _ _ _ _ _ h hF => ⟨h.2.1, hF⟩
end Jvm.Pilot.@@N@@
namespace Jvm.Pilot.@@N@@
open Jvm Jvm.ClassFile Sem Op Lib Jvm.Free Jvm.Stand Jvm.Pilot.@@N@@.Jvm.D
/-! MADE BY PROGRAM (witnessworld.py) out of the Statement's table words and the real class files: 16 classes; the members and pool entries that the words name. The judged class is class 1, her method 4. -/
namespace start1
open Jvm.ClassFile
def u (s : String) : CpInfo := .utf8 (stringToUtf16 s)
/-- a pool by its gaps: so many unusable entries, then the entry; so many at the end -/
def gap : Nat → List CpInfo → List CpInfo
  | 0, r => r
  | n + 1, r => .unusable :: gap n r
def poolList (es : List (Nat × CpInfo)) (last : Nat) : List CpInfo := es.foldr (fun e r => gap e.1 (e.2 :: r)) (gap last [])
def pool (es : List (Nat × CpInfo)) (last : Nat) : Array CpInfo := ⟨poolList es last⟩
def fileOf (pool : Array CpInfo) (this : Nat) (attrs : Array Attribute := #[]) (ms : Array MethodInfo := #[]) (fl : Nat := 33) (sup : Nat := 0) (ifs : Array Nat := #[]) (fds : Array FieldInfo := #[]) : ClassFile where
  minorVersion := 0
  majorVersion := 65
  constantPool := pool
  accessFlags := fl
  thisClass := this
  superClass := sup
  interfaces := ifs
  fields := fds
  methods := ms
  attributes := attrs
def plain (name : String) (sup : Option ClassId) : Class where
  name := name
  kind := .ordinary
  loader := none
  accessFlags := 33
  super := sup
  interfaces := #[]
  cf := none
  fields := #[]
  methods := #[]
  instanceTypes := #[]
  staticTypes := #[]
  resolved := #[]
  callSites := []
  init := .initialized
  statics := none
  mirror := none

def pool0 : Array CpInfo := pool [(5, u "<init>"), (0, u "()V"), (1, .class_ 10), (1, u "java/lang/Object")] 113

def k0c0 : Code := { maxStack := 0, maxLocals := 1, code := object_method_1_code, exceptionTable := #[], attributes := #[] }
def k0m0 : Method := { name := "<init>", desc := "()V", sig := { parameters := [], returnType := none }, accessFlags := 1, code := some k0c0 }
/-- java/lang/Object -/
def k0 : Class := { plain "java/lang/Object" none with
  accessFlags := 33
  interfaces := #[]
  cf := some (fileOf pool0 8 #[] #[{ accessFlags := 1, nameIndex := 5, descriptorIndex := 6, attributes := #[] }] 33 0 #[] #[])
  fields := #[]
  methods := #[k0m0]
  instanceTypes := #[]
  staticTypes := #[]
  resolved := Array.replicate 124 none
  statics := none }

def pool1 : Array CpInfo := pool [(2, .class_ 4), (1, u "java/lang/Object"), (0, u "<init>"), (0, u "()V"), (0, .methodref 8 9), (0, .class_ 10), (0, .nameAndType 11 12), (0, u "java/lang/Math"), (0, u "max"), (0, u "(II)I"), (0, .methodref 14 15), (0, .class_ 16), (0, .nameAndType 17 18), (0, u "com/example/slimc/slimc/game/ObservationRefinesPinLaw"), (0, u "partition"), (0, u "(I)[I"), (0, .class_ 20), (0, u "com/example/slimc/slimc/game/Observation"), (0, .string 22), (0, u "f"), (0, .methodref 14 24), (0, .nameAndType 25 26), (0, u "count"), (0, u "([I)I"), (0, .methodref 19 28), (0, .nameAndType 5 29), (0, u "(Ljava/lang/String;[II)V"), (0, .string 31), (0, u "c"), (0, .methodref 14 33), (0, .nameAndType 34 35), (0, u "pairOk"), (0, u "([I[III)Z"), (0, .methodref 19 37), (0, .nameAndType 38 39), (0, u "refines"), (0, u "(Lcom/example/slimc/slimc/game/Observation;)Z"), (3, u "law"), (0, u "(II)Z")] 4

def k1m0 : Method := { name := "<init>", desc := "()V", sig := { parameters := [], returnType := none }, accessFlags := 1, code := none }
def k1c1 : Code := { maxStack := 5, maxLocals := 3, code := method_2_code, exceptionTable := #[], attributes := #[] }
def k1m1 : Method := { name := "partition", desc := "(I)[I", sig := { parameters := [.int], returnType := some (.array .int) }, accessFlags := 10, code := some k1c1 }
def k1c2 : Code := { maxStack := 4, maxLocals := 1, code := method_3_code, exceptionTable := #[], attributes := #[] }
def k1m2 : Method := { name := "count", desc := "([I)I", sig := { parameters := [(.array .int)], returnType := some .int }, accessFlags := 10, code := some k1c2 }
def k1c3 : Code := { maxStack := 3, maxLocals := 4, code := method_4_code, exceptionTable := #[], attributes := #[] }
def k1m3 : Method := { name := "pairOk", desc := "([I[III)Z", sig := { parameters := [(.array .int), (.array .int), .int, .int], returnType := some .boolean }, accessFlags := 10, code := some k1c3 }
def k1c4 : Code := { maxStack := 5, maxLocals := 7, code := code, exceptionTable := #[], attributes := #[] }
def k1m4 : Method := { name := "law", desc := "(II)Z", sig := { parameters := [.int, .int], returnType := some .boolean }, accessFlags := 9, code := some k1c4 }
/-- com/example/slimc/slimc/game/ObservationRefinesPinLaw -/
def k1 : Class := { plain "com/example/slimc/slimc/game/ObservationRefinesPinLaw" (some 0) with
  accessFlags := 49
  interfaces := #[]
  cf := some (fileOf pool1 14 #[] #[{ accessFlags := 1, nameIndex := 5, descriptorIndex := 6, attributes := #[] }, { accessFlags := 10, nameIndex := 17, descriptorIndex := 18, attributes := #[] }, { accessFlags := 10, nameIndex := 25, descriptorIndex := 26, attributes := #[] }, { accessFlags := 10, nameIndex := 34, descriptorIndex := 35, attributes := #[] }, { accessFlags := 9, nameIndex := 43, descriptorIndex := 44, attributes := #[] }] 49 2 #[] #[])
  fields := #[]
  methods := #[k1m0, k1m1, k1m2, k1m3, k1m4]
  instanceTypes := #[]
  staticTypes := #[]
  resolved := Array.replicate 49 none
  statics := none }

def pool2 : Array CpInfo := pool [(1, .class_ 2), (0, u "java/lang/Math"), (1, .class_ 6), (1, u "java/lang/Object"), (0, u "<init>"), (0, u "()V"), (89, .class_ 100), (1, u "java/lang/Math$RandomNumberGeneratorHolder"), (71, u "negativeZeroFloatBits"), (0, u "J"), (2, u "negativeZeroDoubleBits"), (21, u "max"), (46, u "$assertionsDisabled"), (0, u "Z"), (88, u "(II)I"), (2, u "twoToTheDoubleScaleDown"), (0, u "D"), (4, u "twoToTheDoubleScaleUp"), (9, u "E"), (3, u "PI"), (2, u "TAU"), (2, u "DEGREES_TO_RADIANS"), (0, u "RADIANS_TO_DEGREES")] 94

def k2m0 : Method := { name := "<init>", desc := "()V", sig := { parameters := [], returnType := none }, accessFlags := 2, code := none }
def k2c1 : Code := { maxStack := 2, maxLocals := 2, code := jdk_29_method_65_code, exceptionTable := #[], attributes := #[] }
def k2m1 : Method := { name := "max", desc := "(II)I", sig := { parameters := [.int, .int], returnType := some .int }, accessFlags := 9, code := some k2c1 }
/-- java/lang/Math -/
def k2 : Class := { plain "java/lang/Math" (some 0) with
  accessFlags := 49
  interfaces := #[]
  cf := some (fileOf pool2 1 #[.nestMembers #[98]] #[{ accessFlags := 2, nameIndex := 7, descriptorIndex := 8, attributes := #[] }, { accessFlags := 9, nameIndex := 198, descriptorIndex := 335, attributes := #[] }] 49 4 #[] #[{ accessFlags := 25, nameIndex := 354, descriptorIndex := 339, attributes := #[] }, { accessFlags := 25, nameIndex := 358, descriptorIndex := 339, attributes := #[] }, { accessFlags := 25, nameIndex := 361, descriptorIndex := 339, attributes := #[] }, { accessFlags := 26, nameIndex := 364, descriptorIndex := 339, attributes := #[] }, { accessFlags := 26, nameIndex := 365, descriptorIndex := 339, attributes := #[] }, { accessFlags := 26, nameIndex := 172, descriptorIndex := 173, attributes := #[] }, { accessFlags := 26, nameIndex := 176, descriptorIndex := 173, attributes := #[] }, { accessFlags := 8, nameIndex := 344, descriptorIndex := 339, attributes := #[] }, { accessFlags := 8, nameIndex := 338, descriptorIndex := 339, attributes := #[] }, { accessFlags := 4120, nameIndex := 245, descriptorIndex := 246, attributes := #[] }])
  fields := #[{ name := "E", type := .double, accessFlags := 25, slot := 0, constantValue := 0 }, { name := "PI", type := .double, accessFlags := 25, slot := 1, constantValue := 0 }, { name := "TAU", type := .double, accessFlags := 25, slot := 2, constantValue := 0 }, { name := "DEGREES_TO_RADIANS", type := .double, accessFlags := 26, slot := 3, constantValue := 0 }, { name := "RADIANS_TO_DEGREES", type := .double, accessFlags := 26, slot := 4, constantValue := 0 }, { name := "negativeZeroFloatBits", type := .long, accessFlags := 26, slot := 5, constantValue := 0 }, { name := "negativeZeroDoubleBits", type := .long, accessFlags := 26, slot := 6, constantValue := 0 }, { name := "twoToTheDoubleScaleUp", type := .double, accessFlags := 8, slot := 7, constantValue := 0 }, { name := "twoToTheDoubleScaleDown", type := .double, accessFlags := 8, slot := 8, constantValue := 0 }, { name := "$assertionsDisabled", type := .boolean, accessFlags := 4120, slot := 9, constantValue := 0 }]
  methods := #[k2m0, k2m1]
  instanceTypes := #[]
  staticTypes := #[.double, .double, .double, .double, .double, .long, .long, .double, .double, .boolean]
  resolved := Array.replicate 460 none
  statics := none }

def pool3 : Array CpInfo := pool [(1, .methodref 2 3), (0, .class_ 4), (0, .nameAndType 5 6), (0, u "java/lang/Object"), (0, u "<init>"), (0, u "()V"), (0, .fieldref 8 9), (0, .class_ 10), (0, .nameAndType 11 12), (0, u "com/example/slimc/slimc/game/Observation"), (0, u "name"), (0, u "Ljava/lang/String;"), (0, .fieldref 8 14), (0, .nameAndType 15 16), (0, u "classOf"), (0, u "[I"), (0, .fieldref 8 18), (0, .nameAndType 19 20), (0, u "classCount"), (0, u "I"), (0, .class_ 16), (0, .fieldref 8 23), (0, .nameAndType 24 25), (0, u "classes"), (0, u "[[I"), (33, u "(Ljava/lang/String;[II)V"), (14, u "(Lcom/example/slimc/slimc/game/Observation;)Z"), (0, u "refines")] 24

def k3c0 : Code := { maxStack := 6, maxLocals := 9, code := prog_66_method_1_code, exceptionTable := #[], attributes := #[] }
def k3m0 : Method := { name := "<init>", desc := "(Ljava/lang/String;[II)V", sig := { parameters := [(.object "java/lang/String"), (.array .int), .int], returnType := none }, accessFlags := 0, code := some k3c0 }
def k3c1 : Code := { maxStack := 4, maxLocals := 10, code := prog_66_method_8_code, exceptionTable := #[], attributes := #[] }
def k3m1 : Method := { name := "refines", desc := "(Lcom/example/slimc/slimc/game/Observation;)Z", sig := { parameters := [(.object "com/example/slimc/slimc/game/Observation")], returnType := some .boolean }, accessFlags := 1, code := some k3c1 }
/-- com/example/slimc/slimc/game/Observation -/
def k3 : Class := { plain "com/example/slimc/slimc/game/Observation" (some 0) with
  accessFlags := 49
  interfaces := #[]
  cf := some (fileOf pool3 8 #[] #[{ accessFlags := 0, nameIndex := 5, descriptorIndex := 59, attributes := #[] }, { accessFlags := 1, nameIndex := 75, descriptorIndex := 74, attributes := #[] }] 49 2 #[] #[{ accessFlags := 18, nameIndex := 11, descriptorIndex := 12, attributes := #[] }, { accessFlags := 18, nameIndex := 15, descriptorIndex := 16, attributes := #[] }, { accessFlags := 18, nameIndex := 19, descriptorIndex := 20, attributes := #[] }, { accessFlags := 18, nameIndex := 24, descriptorIndex := 25, attributes := #[] }])
  fields := #[{ name := "name", type := (.object "java/lang/String"), accessFlags := 18, slot := 0, constantValue := 0 }, { name := "classOf", type := (.array .int), accessFlags := 18, slot := 1, constantValue := 0 }, { name := "classCount", type := .int, accessFlags := 18, slot := 2, constantValue := 0 }, { name := "classes", type := (.array (.array .int)), accessFlags := 18, slot := 3, constantValue := 0 }]
  methods := #[k3m0, k3m1]
  instanceTypes := #[(.object "java/lang/String"), (.array .int), .int, (.array (.array .int))]
  staticTypes := #[]
  resolved := Array.replicate 100 none
  statics := none }

def pool4 : Array CpInfo := pool [(1, .class_ 2), (0, u "java/io/Serializable"), (0, .class_ 4), (0, u "java/lang/Object")] 2

/-- java/io/Serializable -/
def k4 : Class := { plain "java/io/Serializable" (some 0) with
  accessFlags := 1537
  interfaces := #[]
  cf := some (fileOf pool4 1 #[] #[] 1537 3 #[] #[])
  fields := #[]
  methods := #[]
  instanceTypes := #[]
  staticTypes := #[]
  resolved := Array.replicate 7 none
  statics := none }

def pool5 : Array CpInfo := pool [(1, .class_ 2), (0, u "java/lang/Comparable"), (0, .class_ 4), (0, u "java/lang/Object")] 7

/-- java/lang/Comparable -/
def k5 : Class := { plain "java/lang/Comparable" (some 0) with
  accessFlags := 1537
  interfaces := #[]
  cf := some (fileOf pool5 1 #[] #[] 1537 3 #[] #[])
  fields := #[]
  methods := #[]
  instanceTypes := #[]
  staticTypes := #[]
  resolved := Array.replicate 12 none
  statics := none }

def pool6 : Array CpInfo := pool [(2, .class_ 4), (1, u "java/lang/CharSequence"), (42, .class_ 48), (0, u "java/lang/CharSequence$1CodePointIterator"), (10, .class_ 60), (0, u "java/lang/CharSequence$1CharIterator"), (5, .class_ 67), (0, u "java/lang/Object")] 63

/-- java/lang/CharSequence -/
def k6 : Class := { plain "java/lang/CharSequence" (some 0) with
  accessFlags := 1537
  interfaces := #[]
  cf := some (fileOf pool6 2 #[.nestMembers #[47, 59]] #[] 1537 66 #[] #[])
  fields := #[]
  methods := #[]
  instanceTypes := #[]
  staticTypes := #[]
  resolved := Array.replicate 131 none
  statics := none }

def pool7 : Array CpInfo := pool [(1, .class_ 2), (0, u "java/lang/constant/Constable"), (0, .class_ 4), (0, u "java/lang/Object")] 6

/-- java/lang/constant/Constable -/
def k7 : Class := { plain "java/lang/constant/Constable" (some 0) with
  accessFlags := 1537
  interfaces := #[]
  cf := some (fileOf pool7 1 #[] #[] 1537 3 #[] #[])
  fields := #[]
  methods := #[]
  instanceTypes := #[]
  staticTypes := #[]
  resolved := Array.replicate 11 none
  statics := none }

def pool8 : Array CpInfo := pool [(1, .class_ 2), (0, u "java/lang/constant/ConstantDesc"), (0, .class_ 4), (0, u "java/lang/Object")] 32

/-- java/lang/constant/ConstantDesc -/
def k8 : Class := { plain "java/lang/constant/ConstantDesc" (some 0) with
  accessFlags := 1537
  interfaces := #[]
  cf := some (fileOf pool8 1 #[] #[] 1537 3 #[] #[])
  fields := #[]
  methods := #[]
  instanceTypes := #[]
  staticTypes := #[]
  resolved := Array.replicate 37 none
  statics := none }

def pool9 : Array CpInfo := pool [(2, .class_ 4), (1, u "java/lang/Object"), (0, u "<init>"), (0, u "()V"), (3, .class_ 12), (1, u "java/lang/String"), (0, u "value"), (0, u "[B"), (2, u "coder"), (0, u "B"), (2, u "hash"), (0, u "I"), (2, u "hashIsZero"), (0, u "Z"), (13, u "COMPACT_STRINGS"), (534, .class_ 576), (0, u "java/lang/CharSequence"), (22, u "CASE_INSENSITIVE_ORDER"), (0, u "Ljava/util/Comparator;"), (500, u "serialPersistentFields"), (0, u "[Ljava/io/ObjectStreamField;"), (0, .class_ 1104), (0, u "java/lang/String$CaseInsensitiveComparator"), (1, .class_ 1107), (0, u "java/io/Serializable"), (0, .class_ 1109), (0, u "java/lang/Comparable"), (0, .class_ 1111), (0, u "java/lang/constant/Constable"), (0, .class_ 1113), (0, u "java/lang/constant/ConstantDesc"), (2, u "serialVersionUID"), (0, u "J"), (3, u "REPL"), (0, u "C"), (2, u "LATIN1"), (1, u "UTF16")] 323

def k9m0 : Method := { name := "<init>", desc := "()V", sig := { parameters := [], returnType := none }, accessFlags := 1, code := none }
/-- java/lang/String -/
def k9 : Class := { plain "java/lang/String" (some 0) with
  accessFlags := 49
  interfaces := #[4, 5, 6, 7, 8]
  cf := some (fileOf pool9 10 #[.nestMembers #[1103]] #[{ accessFlags := 1, nameIndex := 5, descriptorIndex := 6, attributes := #[] }] 49 2 #[1106, 1108, 575, 1110, 1112] #[{ accessFlags := 18, nameIndex := 13, descriptorIndex := 14, attributes := #[] }, { accessFlags := 18, nameIndex := 17, descriptorIndex := 18, attributes := #[] }, { accessFlags := 2, nameIndex := 21, descriptorIndex := 22, attributes := #[] }, { accessFlags := 2, nameIndex := 25, descriptorIndex := 26, attributes := #[] }, { accessFlags := 26, nameIndex := 1116, descriptorIndex := 1117, attributes := #[] }, { accessFlags := 24, nameIndex := 40, descriptorIndex := 26, attributes := #[] }, { accessFlags := 26, nameIndex := 1101, descriptorIndex := 1102, attributes := #[] }, { accessFlags := 26, nameIndex := 1121, descriptorIndex := 1122, attributes := #[] }, { accessFlags := 25, nameIndex := 599, descriptorIndex := 600, attributes := #[] }, { accessFlags := 24, nameIndex := 1125, descriptorIndex := 18, attributes := #[] }, { accessFlags := 24, nameIndex := 1127, descriptorIndex := 18, attributes := #[] }])
  fields := #[{ name := "value", type := (.array .byte), accessFlags := 18, slot := 0, constantValue := 0 }, { name := "coder", type := .byte, accessFlags := 18, slot := 1, constantValue := 0 }, { name := "hash", type := .int, accessFlags := 2, slot := 2, constantValue := 0 }, { name := "hashIsZero", type := .boolean, accessFlags := 2, slot := 3, constantValue := 0 }, { name := "serialVersionUID", type := .long, accessFlags := 26, slot := 0, constantValue := 0 }, { name := "COMPACT_STRINGS", type := .boolean, accessFlags := 24, slot := 1, constantValue := 0 }, { name := "serialPersistentFields", type := (.array (.object "java/io/ObjectStreamField")), accessFlags := 26, slot := 2, constantValue := 0 }, { name := "REPL", type := .char, accessFlags := 26, slot := 3, constantValue := 0 }, { name := "CASE_INSENSITIVE_ORDER", type := (.object "java/util/Comparator"), accessFlags := 25, slot := 4, constantValue := 0 }, { name := "LATIN1", type := .byte, accessFlags := 24, slot := 5, constantValue := 0 }, { name := "UTF16", type := .byte, accessFlags := 24, slot := 6, constantValue := 0 }]
  methods := #[k9m0]
  instanceTypes := #[(.array .byte), .byte, .int, .boolean]
  staticTypes := #[.long, .boolean, (.array (.object "java/io/ObjectStreamField")), .char, (.object "java/util/Comparator"), .byte, .byte]
  resolved := Array.replicate 1451 none
  statics := none }

def pool10 : Array CpInfo := pool [(1, u "java/lang/Cloneable"), (0, .class_ 1), (0, u "java/lang/Object"), (0, .class_ 3)] 3

/-- java/lang/Cloneable -/
def k10 : Class := { plain "java/lang/Cloneable" (some 0) with
  accessFlags := 1537
  interfaces := #[]
  cf := some (fileOf pool10 2 #[] #[] 1537 4 #[] #[])
  fields := #[]
  methods := #[]
  instanceTypes := #[]
  staticTypes := #[]
  resolved := Array.replicate 8 none
  statics := none }

/-- the primitive byte -/
def k11 : Class := { plain "byte" none with kind := .primitive 'B', accessFlags := 0x411 }
/-- [B -/
def k12 : Class := { plain "[B" (some 0) with kind := .array 11 .byte, interfaces := #[10, 4], accessFlags := 1041 }

/-- the primitive int -/
def k13 : Class := { plain "int" none with kind := .primitive 'I', accessFlags := 0x411 }
/-- [I -/
def k14 : Class := { plain "[I" (some 0) with kind := .array 13 .int, interfaces := #[10, 4], accessFlags := 1041 }

/-- [[I -/
def k15 : Class := { plain "[[I" (some 0) with kind := .array 14 (.array .int), interfaces := #[10, 4], accessFlags := 1041 }

def heap : Heap := #[]
def classes : Array Class := #[k0, k1, k2, k3, k4, k5, k6, k7, k8, k9, k10, k11, k12, k13, k14, k15]
def interned : List (Array UInt16 × Addr) := []
def slotsUsed : Nat := 0
def theMethod : MethodId := ⟨1, 4⟩
def args0 : Array Value := #[.int 5, .int 7]
def aboutOver (below : List Frame) : State where
  vm := { classes := classes, interned := interned.toArray }
  heap := heap
  slotsUsed := slotsUsed
  threads := #[{ frames := .invoking theMethod args0 :: below }]
def below0 : List Frame := [.native { method := ⟨0, 0⟩, args := #[] }]
def about1 : State := aboutOver below0
def p0 : Program := .bare "" "" ""
def e0 : Env := launch0.env 0 0 0
theorem w_frames : about1.frames = Frame.invoking theMethod args0 :: below0 := rfl
set_option maxRecDepth 65536 in
theorem w_args : argsFit about1.vm theMethod args0 = true := by decide +kernel
set_option maxRecDepth 65536 in
theorem w_heap : heapFits about1 = true := by decide +kernel
set_option maxRecDepth 65536 in
theorem w_runnable : about1.curStatus? = some .runnable := by decide +kernel
set_option maxRecDepth 65536 in
theorem w_alone : about1.alone = true := by decide +kernel
set_option maxRecDepth 65536 in
theorem w_named : about1.methodNamed? x = some theMethod := by decide +kernel
set_option maxRecDepth 65536 in
theorem w_hears : about1.hears theMethod below0 = true := by decide +kernel
set_option maxRecDepth 65536 in
theorem w_ripe : about1.ripe theMethod args0 below0 = true := by decide +kernel
theorem w_running : about1.status = .running := rfl
set_option maxRecDepth 65536 in
theorem w_room : about1.hasRoom e0.platform room_1 = true :=
  launch0.hasRoom_least _ room_1 (by decide +kernel) (by decide +kernel) (by decide +kernel) (by decide +kernel) (by decide +kernel) (by decide +kernel)
theorem allAtoms_all (ts : List Jvm.Cond) (a : Array Jvm.Value) (st : Jvm.State) : (allAtoms ts).before a st = ts.all (fun c => c.before a st) := by
  induction ts with
  | nil => rfl
  | cons c t ih =>
    show (Jvm.Cond.and c (allAtoms t)).before a st = _
    rw [Jvm.Cond.before_and, ih, List.all_cons]
def words1 : List Jvm.Cond := Jvm.Cond.code x code maxLocals ret :: tables_1
/-- a 'code' word, met by the world's own term for the bytes: nothing is compared byte by byte -/
theorem code_word {y : MethodName} {bytes : ByteArray} {mx : Nat} {rt : Option FieldType} {a : Array Value} {s : State} {m : MethodId} {meth : Method} {c : Code} (h1 : s.methodNamed? y = some m) (h2 : s.vm.method? m = some meth) (h3 : meth.code = some c) (h4 : c.code = bytes)
    (h5 : (c.maxLocals == mx && c.exceptionTable.isEmpty && decide (c.maxStack ≤ mostOperands) && decide (meth.sig.returnType = rt) && !meth.locks && decide (parseMethodDescriptor y.desc = some meth.sig)) = true) : (Jvm.Cond.code y bytes mx rt).before a s = true := by
  simp only [Bool.and_eq_true, beq_iff_eq, Bool.not_eq_true', decide_eq_true_eq] at h5
  obtain ⟨⟨⟨⟨⟨g1, g2⟩, g3⟩, g4⟩, g5⟩, g6⟩ := h5
  simp [Cond.before, Cond.holds, Cond.value, h1, h2, h3, h4, g1, g2, g3, g4, g5, g6]
def isCode : Jvm.Cond → Bool
  | .code _ _ _ _ => true
  | _ => false
theorem all_split {L : List Jvm.Cond} {P : Jvm.Cond → Bool} (h1 : L.all (fun c => isCode c || P c) = true) (h2 : ∀ c ∈ L.filter isCode, P c = true) : L.all P = true := by
  refine List.all_eq_true.mpr fun c hc => ?_
  have h := List.all_eq_true.mp h1 c hc
  rcases Bool.eq_false_or_eq_true (isCode c) with hi | hi
  · exact h2 c (List.mem_filter.mpr ⟨hc, hi⟩)
  · simpa [hi] using h
set_option maxRecDepth 65536 in
theorem w_c0 : (Jvm.Cond.code x code maxLocals ret).before args0 about1 = true := code_word (m := ⟨1, 4⟩) (meth := k1m4) (c := k1c4) (by decide +kernel) rfl rfl rfl (by decide +kernel)
set_option maxRecDepth 65536 in
theorem w_c1 : (Jvm.Cond.code ({ cls := "com/example/slimc/slimc/game/ObservationRefinesPinLaw", name := "partition", desc := "(I)[I" } : Jvm.MethodName) method_2_code (3 : Nat) (Option.some (Jvm.ClassFile.FieldType.array Jvm.ClassFile.FieldType.int))).before args0 about1 = true := code_word (m := ⟨1, 1⟩) (meth := k1m1) (c := k1c1) (by decide +kernel) rfl rfl rfl (by decide +kernel)
set_option maxRecDepth 65536 in
theorem w_c2 : (Jvm.Cond.code ({ cls := "java/lang/Math", name := "max", desc := "(II)I" } : Jvm.MethodName) jdk_29_method_65_code (2 : Nat) (Option.some Jvm.ClassFile.FieldType.int)).before args0 about1 = true := code_word (m := ⟨2, 1⟩) (meth := k2m1) (c := k2c1) (by decide +kernel) rfl rfl rfl (by decide +kernel)
set_option maxRecDepth 65536 in
theorem w_c3 : (Jvm.Cond.code ({ cls := "com/example/slimc/slimc/game/ObservationRefinesPinLaw", name := "count", desc := "([I)I" } : Jvm.MethodName) method_3_code (1 : Nat) (Option.some Jvm.ClassFile.FieldType.int)).before args0 about1 = true := code_word (m := ⟨1, 2⟩) (meth := k1m2) (c := k1c2) (by decide +kernel) rfl rfl rfl (by decide +kernel)
set_option maxRecDepth 65536 in
theorem w_c4 : (Jvm.Cond.code ({ cls := "com/example/slimc/slimc/game/Observation", name := "<init>", desc := "(Ljava/lang/String;[II)V" } : Jvm.MethodName) prog_66_method_1_code (9 : Nat) (Option.none : Option Jvm.ClassFile.FieldType)).before args0 about1 = true := code_word (m := ⟨3, 0⟩) (meth := k3m0) (c := k3c0) (by decide +kernel) rfl rfl rfl (by decide +kernel)
set_option maxRecDepth 65536 in
theorem w_c5 : (Jvm.Cond.code ({ cls := "java/lang/Object", name := "<init>", desc := "()V" } : Jvm.MethodName) object_method_1_code (1 : Nat) (Option.none : Option Jvm.ClassFile.FieldType)).before args0 about1 = true := code_word (m := ⟨0, 0⟩) (meth := k0m0) (c := k0c0) (by decide +kernel) rfl rfl rfl (by decide +kernel)
set_option maxRecDepth 65536 in
theorem w_c6 : (Jvm.Cond.code ({ cls := "com/example/slimc/slimc/game/ObservationRefinesPinLaw", name := "pairOk", desc := "([I[III)Z" } : Jvm.MethodName) method_4_code (4 : Nat) (Option.some Jvm.ClassFile.FieldType.boolean)).before args0 about1 = true := code_word (m := ⟨1, 3⟩) (meth := k1m3) (c := k1c3) (by decide +kernel) rfl rfl rfl (by decide +kernel)
set_option maxRecDepth 65536 in
theorem w_c7 : (Jvm.Cond.code ({ cls := "com/example/slimc/slimc/game/Observation", name := "refines", desc := "(Lcom/example/slimc/slimc/game/Observation;)Z" } : Jvm.MethodName) prog_66_method_8_code (10 : Nat) (Option.some Jvm.ClassFile.FieldType.boolean)).before args0 about1 = true := code_word (m := ⟨3, 1⟩) (meth := k3m1) (c := k3c1) (by decide +kernel) rfl rfl rfl (by decide +kernel)
def codes1 : List Jvm.Cond := [Jvm.Cond.code x code maxLocals ret, Jvm.Cond.code ({ cls := "com/example/slimc/slimc/game/ObservationRefinesPinLaw", name := "partition", desc := "(I)[I" } : Jvm.MethodName) method_2_code (3 : Nat) (Option.some (Jvm.ClassFile.FieldType.array Jvm.ClassFile.FieldType.int)), Jvm.Cond.code ({ cls := "java/lang/Math", name := "max", desc := "(II)I" } : Jvm.MethodName) jdk_29_method_65_code (2 : Nat) (Option.some Jvm.ClassFile.FieldType.int), Jvm.Cond.code ({ cls := "com/example/slimc/slimc/game/ObservationRefinesPinLaw", name := "count", desc := "([I)I" } : Jvm.MethodName) method_3_code (1 : Nat) (Option.some Jvm.ClassFile.FieldType.int), Jvm.Cond.code ({ cls := "com/example/slimc/slimc/game/Observation", name := "<init>", desc := "(Ljava/lang/String;[II)V" } : Jvm.MethodName) prog_66_method_1_code (9 : Nat) (Option.none : Option Jvm.ClassFile.FieldType), Jvm.Cond.code ({ cls := "java/lang/Object", name := "<init>", desc := "()V" } : Jvm.MethodName) object_method_1_code (1 : Nat) (Option.none : Option Jvm.ClassFile.FieldType), Jvm.Cond.code ({ cls := "com/example/slimc/slimc/game/ObservationRefinesPinLaw", name := "pairOk", desc := "([I[III)Z" } : Jvm.MethodName) method_4_code (4 : Nat) (Option.some Jvm.ClassFile.FieldType.boolean), Jvm.Cond.code ({ cls := "com/example/slimc/slimc/game/Observation", name := "refines", desc := "(Lcom/example/slimc/slimc/game/Observation;)Z" } : Jvm.MethodName) prog_66_method_8_code (10 : Nat) (Option.some Jvm.ClassFile.FieldType.boolean)]
set_option maxRecDepth 65536 in
theorem codes_eq : words1.filter isCode = codes1 := rfl
theorem w_codes : ∀ c ∈ words1.filter isCode, c.before args0 about1 = true := by
  rw [codes_eq]
  intro c hc
  simp only [codes1, List.mem_cons, List.not_mem_nil, or_false] at hc
  rcases hc with rfl | rfl | rfl | rfl | rfl | rfl | rfl | rfl
  · exact w_c0
  · exact w_c1
  · exact w_c2
  · exact w_c3
  · exact w_c4
  · exact w_c5
  · exact w_c6
  · exact w_c7
set_option maxRecDepth 65536 in
theorem w_t1 : (words1.take 24).all (fun c => isCode c || c.before args0 about1) = true := by decide +kernel
set_option maxRecDepth 65536 in
theorem w_t2 : ((words1.drop 24).take 24).all (fun c => isCode c || c.before args0 about1) = true := by decide +kernel
set_option maxRecDepth 65536 in
theorem w_t3 : ((words1.drop 24).drop 24).all (fun c => isCode c || c.before args0 about1) = true := by decide +kernel
theorem w_tables : (allAtoms (Jvm.Cond.code x code maxLocals ret :: tables_1)).before args0 about1 = true := by
  rw [allAtoms_all]
  show words1.all (fun c => c.before args0 about1) = true
  refine all_split ?_ w_codes
  rw [← List.take_append_drop 24 words1, List.all_append, w_t1, ← List.take_append_drop 24 (words1.drop 24), List.all_append, w_t2, w_t3]
  rfl
set_option maxRecDepth 65536 in
theorem w_case : (Jvm.Cond.and given_1 narrow_1).before args0 about1 = true := by decide +kernel
theorem w_applies : (headSpec (Jvm.Cond.code x code maxLocals ret :: tables_1) room_1).applies x e0.platform about1 = true :=
  (Spec.applies_iff w_frames).mpr ⟨w_running, w_runnable, w_alone, w_named, w_hears, w_ripe, w_room, w_tables⟩
theorem atStart : AtStart classFile x code maxLocals ret World_1 tables_1 room_1 Calls_1 rest_1 Pre_1 launch0 p0 e0 about1 theMethod args0 below0 :=
  ⟨lists_1, trivial, launch0.admits_env _ _ _, launch0.least_env, fairChoices_fair.cas, fairChoices_fair.clock, w_frames, w_args, w_heap, w_applies, trivial, trivial, w_case⟩
end start1
theorem witness_1 : WitnessClaimed_1 := ⟨start1.p0, start1.e0, start1.about1, start1.theMethod, start1.args0, start1.below0, start1.atStart⟩
end Jvm.Pilot.@@N@@
