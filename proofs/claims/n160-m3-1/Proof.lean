import JvmDerived
import JvmDerived.Pilot.@@N@@Statement
import JvmDerived.Pilot.@@N@@Code
set_option linter.unusedVariables false
set_option linter.unusedSimpArgs false
@@BLOCK:NumsL.lean.txt@@
namespace Jvm.RoadKit
open Sem ClassFile Op Lib Jvm.Stand Jvm.Free Jvm.LawKit
/-- from the state S the run comes to an end that P holds of -/
def own_Out (p : Program) (e : Env) (below : List Frame) (P : Outcome → State → Prop) (S : State) : Prop := ∃ s₂ o, Steps p.tables e below S s₂ ∧ s₂.status = .running ∧ Ended s₂ below o ∧ P o s₂
theorem own_dupX2 {tb : Tables} [Ours tb] {e : Env} {below : List Frame} {T target : State} {m : MethodId} {c : Code} {g : JFrame} (h : At T m c below) (hx : tb.exec = Jvm.exec) (hg : g.method = m) {x y z : Value} {rest : List Value} (hd : decode c.code g.pc = .ok (.dup_x2, 1)) (hs : g.stack = x :: y :: z :: rest) (h1 : x.category = 1) (h2 : y.category = 1) (h3 : z.category = 1)
    (hr : Steps tb e below (T.setTop { g with pc := g.pc + 1, stack := x :: y :: z :: x :: rest }) target) : Steps tb e below (T.setTop g) target := by
  subst hg
  jvm_step h [h.top, hx, hd, hs, h1, h2, h3]
  exact hr
theorem own_of {p : Program} {e : Env} {below : List Frame} {P : Outcome → State → Prop} {S S' : State} (h : ∀ t, Steps p.tables e below S' t → Steps p.tables e below S t) (k : own_Out p e below P S') : own_Out p e below P S := by
  obtain ⟨a, b, c, d⟩ := k
  exact ⟨a, b, h a c, d⟩
section New
variable {p : Program} {l : Launch} {e : Env} {R : Room} {s : State} {m : MethodId} {args : Array Value} {below : List Frame} {meth : Method} {c : Code} {T : State} {locs : List Loc} {cells slots : Nat}
theorem own_more (X : Stand p l e R s m args below meth c T locs cells slots) {c' n' : Nat} (hc : cells ≤ c') (hn : slots ≤ n') : Stand p l e R s m args below meth c T locs c' n' := { X with same := X.same.mono hc hn }
theorem own_retI (X : Stand p l e R s m args below meth c T locs cells slots) (hx : p.tables.exec = Jvm.exec) {pc : Nat} {Ls : Array Slot} {z : Int32} {rest : List Value} (hret : meth.sig.returnType = some .int) (hd : decode c.code pc = .ok (.ireturn, 1)) {fs : List Frame}
    (hl : ∀ (f : JFrame) (acts : List Action), f.method = m → f.locked = none → f.entered = [] → (doReturn e (T.setTop f) acts (some (.int z))).1 = T.setFrames fs) : Steps p.tables e below (T.setTop (mkF m pc Ls (.int z :: rest))) (T.setFrames fs) := retOut X hx hret rfl (Or.inl ⟨rfl, Or.inl rfl, z, rfl⟩) hd hl
theorem own_end (X : Stand p l e R s m args below meth c T locs cells slots) (hlk : meth.locks = false) {v : Option Value} (hv : meth.sig.returnType = none → v = none) {g : JFrame}
    (hs : ∀ fs, (∀ (f : JFrame) (acts : List Action), f.method = m → f.locked = none → f.entered = [] → (doReturn e (T.setTop f) acts v).1 = T.setFrames fs) → Steps p.tables e below (T.setTop g) (T.setFrames fs))
    {Q : Option Value → Heap → List Loc → Prop} (hQ : Q v T.heap locs) {C N : Nat} (hC : cells ≤ C) (hN : slots ≤ N) :
    own_Out p e below (fun o U' => ∃ v L, o = .returned v ∧ Q v U'.heap L ∧ FrameEnd s o U' L C N) (T.setTop g) := by
  obtain ⟨fs, hr, hrun, hended, hW, hsame⟩ := X.leave (v := v) hv hlk
  exact ⟨_, _, hs fs hr, hrun, hended, _, _, rfl, hQ, ⟨_, rfl⟩, hW, hsame.mono hC hN⟩
theorem own_endW {vm₁ : Vm} (X : Stand p l e R (s.setVm vm₁) m args below meth c T locs cells slots) {n : Nat} (hS : s.Since vm₁ n) (hn : n ≤ T.heap.size) (hlk : meth.locks = false) {v : Option Value} (hv : meth.sig.returnType = none → v = none) {g : JFrame}
    (hs : ∀ fs, (∀ (f : JFrame) (acts : List Action), f.method = m → f.locked = none → f.entered = [] → (doReturn e (T.setTop f) acts v).1 = T.setFrames fs) → Steps p.tables e below (T.setTop g) (T.setFrames fs))
    {Q : Option Value → Heap → List Loc → Prop} (hQ : Q v T.heap locs) {C N : Nat} (hC : cells ≤ C) (hN : slots ≤ N) :
    own_Out p e below (fun o U' => ∃ v L, o = .returned v ∧ Q v U'.heap L ∧ ReturnedEndW s o U' L C N) (T.setTop g) := by
  obtain ⟨fs, hr, hrun, hended, hE⟩ := X.leaveW hS hn (v := v) hv hlk
  exact ⟨_, _, hs fs hr, hrun, hended, _, _, rfl, hQ, hE.1, hE.2.1, hE.2.2.1, hE.2.2.2.mono hC hN⟩
theorem own_outNW {vm₁ : Vm} (X : Stand p l e R (s.setVm vm₁) m args below meth c T locs cells slots) {n : Nat} (hS : s.Since vm₁ n) (hn : n ≤ T.heap.size) (hx : p.tables.exec = Jvm.exec) (hlk : meth.locks = false) {pc : Nat} {Ls : Array Slot} {z z' : Int32} {t : FieldType} {rest : List Value} (hret : meth.sig.returnType = some t) (ht : t = .boolean ∨ t = .byte ∨ t = .char ∨ t = .short) (hd : decode c.code pc = .ok (.ireturn, 1)) (hz : nar t z = z')
    {Q : Option Value → Heap → List Loc → Prop} (hQ : Q (some (.int z')) T.heap locs) {C N : Nat} (hC : cells ≤ C) (hN : slots ≤ N) :
    own_Out p e below (fun o U' => ∃ v L, o = .returned v ∧ Q v U'.heap L ∧ ReturnedEndW s o U' L C N) (T.setTop (mkF m pc Ls (.int z :: rest))) :=
  own_endW X hS hn hlk (fun h => by rw [hret] at h; cases h) (fun fs hr => retN X hx hret ht hd (by rw [hz]; exact hr)) hQ hC hN
theorem own_outVW {vm₁ : Vm} (X : Stand p l e R (s.setVm vm₁) m args below meth c T locs cells slots) {n : Nat} (hS : s.Since vm₁ n) (hn : n ≤ T.heap.size) (hx : p.tables.exec = Jvm.exec) (hlk : meth.locks = false) {pc : Nat} {Ls : Array Slot} (hret : meth.sig.returnType = none) (hd : decode c.code pc = .ok (.return_, 1))
    {Q : Option Value → Heap → List Loc → Prop} (hQ : Q none T.heap locs) {C N : Nat} (hC : cells ≤ C) (hN : slots ≤ N) :
    own_Out p e below (fun o U' => ∃ v L, o = .returned v ∧ Q v U'.heap L ∧ ReturnedEndW s o U' L C N) (T.setTop (mkF m pc Ls [])) :=
  own_endW X hS hn hlk (fun _ => rfl) (fun fs hr => X.returnOut hx hret hd hr) hQ hC hN
theorem own_outI (X : Stand p l e R s m args below meth c T locs cells slots) (hx : p.tables.exec = Jvm.exec) (hlk : meth.locks = false) {pc : Nat} {Ls : Array Slot} {z : Int32} {rest : List Value} (hret : meth.sig.returnType = some .int) (hd : decode c.code pc = .ok (.ireturn, 1))
    {Q : Option Value → Heap → List Loc → Prop} (hQ : Q (some (.int z)) T.heap locs) {C N : Nat} (hC : cells ≤ C) (hN : slots ≤ N) :
    own_Out p e below (fun o U' => ∃ v L, o = .returned v ∧ Q v U'.heap L ∧ FrameEnd s o U' L C N) (T.setTop (mkF m pc Ls (.int z :: rest))) :=
  own_end X hlk (fun h => by rw [hret] at h; cases h) (fun fs hr => own_retI X hx hret hd hr) hQ hC hN
theorem own_outN (X : Stand p l e R s m args below meth c T locs cells slots) (hx : p.tables.exec = Jvm.exec) (hlk : meth.locks = false) {pc : Nat} {Ls : Array Slot} {z z' : Int32} {t : FieldType} {rest : List Value} (hret : meth.sig.returnType = some t) (ht : t = .boolean ∨ t = .byte ∨ t = .char ∨ t = .short) (hd : decode c.code pc = .ok (.ireturn, 1)) (hz : nar t z = z')
    {Q : Option Value → Heap → List Loc → Prop} (hQ : Q (some (.int z')) T.heap locs) {C N : Nat} (hC : cells ≤ C) (hN : slots ≤ N) :
    own_Out p e below (fun o U' => ∃ v L, o = .returned v ∧ Q v U'.heap L ∧ FrameEnd s o U' L C N) (T.setTop (mkF m pc Ls (.int z :: rest))) :=
  own_end X hlk (fun h => by rw [hret] at h; cases h) (fun fs hr => retN X hx hret ht hd (by rw [hz]; exact hr)) hQ hC hN
theorem own_outL (X : Stand p l e R s m args below meth c T locs cells slots) (hx : p.tables.exec = Jvm.exec) (hlk : meth.locks = false) {pc : Nat} {Ls : Array Slot} {z : Int64} {rest : List Value} (hret : meth.sig.returnType = some .long) (hd : decode c.code pc = .ok (.lreturn, 1))
    {Q : Option Value → Heap → List Loc → Prop} (hQ : Q (some (.long z)) T.heap locs) {C N : Nat} (hC : cells ≤ C) (hN : slots ≤ N) :
    own_Out p e below (fun o U' => ∃ v L, o = .returned v ∧ Q v U'.heap L ∧ FrameEnd s o U' L C N) (T.setTop (mkF m pc Ls (.long z :: rest))) :=
  own_end X hlk (fun h => by rw [hret] at h; cases h) (fun fs hr => retOut X hx hret rfl (Or.inr (Or.inl ⟨rfl, rfl, z, rfl⟩)) hd hr) hQ hC hN
theorem own_outD (X : Stand p l e R s m args below meth c T locs cells slots) (hx : p.tables.exec = Jvm.exec) (hlk : meth.locks = false) {pc : Nat} {Ls : Array Slot} {z : UInt64} {rest : List Value} (hret : meth.sig.returnType = some .double) (hd : decode c.code pc = .ok (.dreturn, 1))
    {Q : Option Value → Heap → List Loc → Prop} (hQ : Q (some (.double z)) T.heap locs) {C N : Nat} (hC : cells ≤ C) (hN : slots ≤ N) :
    own_Out p e below (fun o U' => ∃ v L, o = .returned v ∧ Q v U'.heap L ∧ FrameEnd s o U' L C N) (T.setTop (mkF m pc Ls (.double z :: rest))) :=
  own_end X hlk (fun h => by rw [hret] at h; cases h) (fun fs hr => retOut X hx hret rfl (Or.inr (Or.inr (Or.inl ⟨rfl, rfl, z, rfl⟩))) hd hr) hQ hC hN
theorem own_outR (X : Stand p l e R s m args below meth c T locs cells slots) (hx : p.tables.exec = Jvm.exec) (hlk : meth.locks = false) {pc : Nat} {Ls : Array Slot} {w : Value} {t : FieldType} {rest : List Value} (hret : meth.sig.returnType = some t) (ht : t.isReference = true) (hw : w.isRef = true) (hn : narrow t w = w) (hd : decode c.code pc = .ok (.areturn, 1))
    {Q : Option Value → Heap → List Loc → Prop} (hQ : Q (some w) T.heap locs) {C N : Nat} (hC : cells ≤ C) (hN : slots ≤ N) :
    own_Out p e below (fun o U' => ∃ v L, o = .returned v ∧ Q v U'.heap L ∧ FrameEnd s o U' L C N) (T.setTop (mkF m pc Ls (w :: rest))) :=
  own_end X hlk (fun h => by rw [hret] at h; cases h) (fun fs hr => retOut X hx hret hn (Or.inr (Or.inr (Or.inr (Or.inr ⟨rfl, ht, hw⟩)))) hd hr) hQ hC hN
theorem own_outV (X : Stand p l e R s m args below meth c T locs cells slots) (hx : p.tables.exec = Jvm.exec) (hlk : meth.locks = false) {pc : Nat} {Ls : Array Slot} (hret : meth.sig.returnType = none) (hd : decode c.code pc = .ok (.return_, 1))
    {Q : Option Value → Heap → List Loc → Prop} (hQ : Q none T.heap locs) {C N : Nat} (hC : cells ≤ C) (hN : slots ≤ N) :
    own_Out p e below (fun o U' => ∃ v L, o = .returned v ∧ Q v U'.heap L ∧ FrameEnd s o U' L C N) (T.setTop (mkF m pc Ls [])) :=
  own_end X hlk (fun _ => rfl) (fun fs hr => X.returnOut hx hret hd hr) hQ hC hN
end New
theorem own_ltlt {x y : Int64} (h : x < y) : ifCond.holds .lt (lcmpW x y) = true ∧ ifCond.holds .ge (lcmpW x y) = false ∧ ifCond.holds .gt (lcmpW y x) = true ∧ ifCond.holds .le (lcmpW y x) = false := by
  have h1 : ¬ x > y := fun q => by rw [gt_iff_lt, Int64.lt_iff_toInt_lt] at q; rw [Int64.lt_iff_toInt_lt] at h; omega
  have h2 : ¬ x = y := fun q => by subst q; rw [Int64.lt_iff_toInt_lt] at h; omega
  have e1 : lcmpW x y = -1 := by simp only [lcmpW, if_neg h1, if_neg h2]
  have e2 : lcmpW y x = 1 := by simp only [lcmpW, if_pos (show y > x from h)]
  rw [e1, e2]; decide
theorem own_leq {x y : Int64} (h : x = y) : ifCond.holds .eq (lcmpW x y) = true ∧ ifCond.holds .ne (lcmpW x y) = false := by
  subst h
  have h1 : ¬ x > x := fun q => by rw [gt_iff_lt, Int64.lt_iff_toInt_lt] at q; omega
  have e1 : lcmpW x x = 0 := by simp only [lcmpW, if_neg h1, if_pos]
  rw [e1]; decide
theorem own_lfeq {x y : Int64} (h : ¬ x = y) : ifCond.holds .eq (lcmpW x y) = false ∧ ifCond.holds .ne (lcmpW x y) = true := by
  by_cases h1 : x > y
  · have e1 : lcmpW x y = 1 := by simp only [lcmpW, if_pos h1]
    rw [e1]; decide
  · have e1 : lcmpW x y = -1 := by simp only [lcmpW, if_neg h1, if_neg h]
    rw [e1]; decide
theorem own_lflt {x y : Int64} (h : ¬ x < y) : ifCond.holds .lt (lcmpW x y) = false ∧ ifCond.holds .ge (lcmpW x y) = true ∧ ifCond.holds .gt (lcmpW y x) = false ∧ ifCond.holds .le (lcmpW y x) = true := by
  by_cases h1 : x = y
  · subst h1
    have h1 : ¬ x > x := fun q => by rw [gt_iff_lt, Int64.lt_iff_toInt_lt] at q; omega
    have e1 : lcmpW x x = 0 := by simp only [lcmpW, if_neg h1, if_pos]
    rw [e1]; decide
  · have h2 : x > y := by
      rw [gt_iff_lt, Int64.lt_iff_toInt_lt]; rw [Int64.lt_iff_toInt_lt] at h
      have h3 : ¬ x.toInt = y.toInt := fun q => h1 (Int64.toInt_inj.mp q)
      omega
    have h3 : ¬ y > x := fun q => by rw [gt_iff_lt, Int64.lt_iff_toInt_lt] at q h2; omega
    have e1 : lcmpW x y = 1 := by simp only [lcmpW, if_pos h2]
    have e2 : lcmpW y x = -1 := by simp only [lcmpW, if_neg h3, if_neg (fun q => h1 (Eq.symm q))]
    rw [e1, e2]; decide
theorem own_staK0 {Z : State} {h h' : Heap} {C n d : String} {v : Value} (F : Sta Z h C n d v) (K : Keep h h' []) : Sta Z h' C n d v := by
  obtain ⟨cf, i, k, f, st, cell, h1, h2, h3, h4, h5, r⟩ := F
  exact ⟨cf, i, k, f, st, cell, h1, h2, h3, h4, K.2.1 st cell h5 nin0, r⟩
theorem own_staK1 {Z : State} {h h' : Heap} {C n d : String} {v : Value} {a : Addr} (F : Sta Z h C n d v) (K : Keep h h' [a]) (q : ∀ cell : Cell, h[a]? = some cell → cell.vm.isStatics = false) : Sta Z h' C n d v := by
  obtain ⟨cf, i, k, f, st, cell, h1, h2, h3, h4, h5, h6, h7⟩ := F
  have ne : st ≠ a := fun e => by subst e; rw [q _ h5] at h6; cases h6
  exact ⟨cf, i, k, f, st, cell, h1, h2, h3, h4, K.2.1 st cell h5 (ninS ne nin0), h6, h7⟩
theorem own_plainE {Z : State} {h : Heap} {a : Addr} {C : String} (E : Exa Z h a C) : ∀ cell : Cell, h[a]? = some cell → cell.vm.isStatics = false := fun cell hc => by
  obtain ⟨c, k, h1, -, -, h4, -⟩ := E; cases h1.symm.trans hc; exact h4
theorem own_plainV {Z : State} {h : Heap} {a : Addr} {k : ClassId} {ty : FieldType} {z : Int32} {vs : List Value} {dv : Value} (F : Arv Z h a k ty z vs dv) : ∀ cell : Cell, h[a]? = some cell → cell.vm.isStatics = false := fun cell hc => by
  obtain ⟨c, A, -⟩ := F; cases A.1.symm.trans hc; exact A.plain
section Bounds
variable {x a k : Int32} {u : Int}
theorem own_L1 (h : ¬ (x < a)) : a.toInt ≤ x.toInt := by rw [Int32.lt_iff_toInt_lt] at h; omega
theorem own_L2 (h : a < x) : a.toInt + 1 ≤ x.toInt := by rw [Int32.lt_iff_toInt_lt] at h; omega
theorem own_L3 (h : x = a) : a.toInt ≤ x.toInt := by subst h; omega
theorem own_U1 (h : x < a) : x.toInt ≤ a.toInt - 1 := by rw [Int32.lt_iff_toInt_lt] at h; omega
theorem own_U2 (h : ¬ (a < x)) : x.toInt ≤ a.toInt := by rw [Int32.lt_iff_toInt_lt] at h; omega
theorem own_U3 (h : x = a) : x.toInt ≤ a.toInt := by subst h; omega
theorem own_T1 (h : x.toInt ≤ u) (d : u < k.toInt) : x < k := by rw [Int32.lt_iff_toInt_lt]; omega
theorem own_T2 (h : u ≤ x.toInt) (d : k.toInt ≤ u) : ¬ (x < k) := by rw [Int32.lt_iff_toInt_lt]; omega
theorem own_T3 (h : u ≤ x.toInt) (d : k.toInt < u) : k < x := by rw [Int32.lt_iff_toInt_lt]; omega
theorem own_T4 (h : x.toInt ≤ u) (d : u ≤ k.toInt) : ¬ (k < x) := by rw [Int32.lt_iff_toInt_lt]; omega
theorem own_T5 (h : x.toInt ≤ u) (d : u < k.toInt) : ¬ (x = k) := fun q => by subst q; omega
theorem own_T6 (h : u ≤ x.toInt) (d : k.toInt < u) : ¬ (x = k) := fun q => by subst q; omega
theorem own_T7 {u' : Int} (h : u ≤ x.toInt) (h' : x.toInt ≤ u') (d : k.toInt ≤ u ∧ u' ≤ k.toInt) : x = k := Int32.toInt_inj.mp (by omega)
end Bounds
section Rel
theorem own_JR1 {a b : Int64} (h : a < b) : ¬ (b < a) := by rw [Int64.lt_iff_toInt_lt] at *; omega
theorem own_JR2 {a b : Int64} (h : a < b) : ¬ (a = b) := fun q => by subst q; rw [Int64.lt_iff_toInt_lt] at h; omega
theorem own_JR2' {a b : Int64} (h : a < b) : ¬ (b = a) := fun q => by subst q; rw [Int64.lt_iff_toInt_lt] at h; omega
theorem own_JR3 {a b : Int64} (h : a = b) : ¬ (a < b) := fun q => by subst h; rw [Int64.lt_iff_toInt_lt] at q; omega
theorem own_JR3' {a b : Int64} (h : a = b) : ¬ (b < a) := fun q => by subst h; rw [Int64.lt_iff_toInt_lt] at q; omega
theorem own_JR4 {a b : Int64} (h : ¬ (a < b)) (h' : ¬ (b < a)) : a = b := by rw [Int64.lt_iff_toInt_lt] at h h'; exact Int64.toInt_inj.mp (by omega)
theorem own_JR5 {a b : Int64} (h : ¬ (a < b)) (h' : ¬ (a = b)) : b < a := by rw [← Int64.toInt_inj] at h'; rw [Int64.lt_iff_toInt_lt] at *; omega
theorem own_JR5' {a b : Int64} (h : ¬ (a < b)) (h' : ¬ (b = a)) : b < a := by rw [← Int64.toInt_inj] at h'; rw [Int64.lt_iff_toInt_lt] at *; omega
theorem own_IR1 {a b : Int32} (h : a < b) : ¬ (b < a) := by rw [Int32.lt_iff_toInt_lt] at *; omega
theorem own_IR2 {a b : Int32} (h : a < b) : ¬ (a = b) := fun q => by subst q; rw [Int32.lt_iff_toInt_lt] at h; omega
theorem own_IR2' {a b : Int32} (h : a < b) : ¬ (b = a) := fun q => by subst q; rw [Int32.lt_iff_toInt_lt] at h; omega
theorem own_IR3 {a b : Int32} (h : a = b) : ¬ (a < b) := fun q => by subst h; rw [Int32.lt_iff_toInt_lt] at q; omega
theorem own_IR3' {a b : Int32} (h : a = b) : ¬ (b < a) := fun q => by subst h; rw [Int32.lt_iff_toInt_lt] at q; omega
theorem own_IR4 {a b : Int32} (h : ¬ (a < b)) (h' : ¬ (b < a)) : a = b := by rw [Int32.lt_iff_toInt_lt] at h h'; exact Int32.toInt_inj.mp (by omega)
theorem own_IR5 {a b : Int32} (h : ¬ (a < b)) (h' : ¬ (a = b)) : b < a := by rw [← Int32.toInt_inj] at h'; rw [Int32.lt_iff_toInt_lt] at *; omega
theorem own_IR5' {a b : Int32} (h : ¬ (a < b)) (h' : ¬ (b = a)) : b < a := by rw [← Int32.toInt_inj] at h'; rw [Int32.lt_iff_toInt_lt] at *; omega
end Rel
end Jvm.RoadKit
namespace Jvm.RoadKit
open Sem ClassFile Op Lib Jvm.Stand Jvm.Free Jvm.LawKit
section Short
variable {p : Program} {l : Launch} {e : Env} {R : Room} {s : State} {m : MethodId} {args : Array Value} {below : List Frame} {meth : Method} {c : Code} {T : State} {locs : List Loc} {cells slots : Nat} {P : Outcome → State → Prop} {bytes : ByteArray} {pc q : Nat} {ls l' : Array Slot} {st : List Value}
theorem o_iloadN (X : Stand p l e R s m args below meth c T locs cells slots) (hx : p.tables.exec = Jvm.exec) (hby : c.code = bytes) {k : Fin 4} {v : Int32} (hd : decode bytes pc = .ok (.iload_n k, 1)) (hl : ls[k.val]? = some (.val (.int v))) (hq : pc + 1 = q) (hr : own_Out p e below P (T.setTop (mkF m q ls (.int v :: st)))) : own_Out p e below P (T.setTop (mkF m pc ls (st))) := by
  subst hq; exact own_of (fun _ k => XS.iloadN X.here hx rfl (hb hby hd) hl k) hr
theorem o_iload (X : Stand p l e R s m args below meth c T locs cells slots) (hx : p.tables.exec = Jvm.exec) (hby : c.code = bytes) {k : Nat} {v : Int32} (hd : decode bytes pc = .ok (.iload k, 2)) (hl : ls[k]? = some (.val (.int v))) (hq : pc + 2 = q) (hr : own_Out p e below P (T.setTop (mkF m q ls (.int v :: st)))) : own_Out p e below P (T.setTop (mkF m pc ls (st))) := by
  subst hq; exact own_of (fun _ k => XS.iload X.here hx rfl (hb hby hd) hl k) hr
theorem o_istoreN (X : Stand p l e R s m args below meth c T locs cells slots) (hx : p.tables.exec = Jvm.exec) (hby : c.code = bytes) {k : Fin 4} {x : Int32} (hd : decode bytes pc = .ok (.istore_n k, 1)) (hl : storeLocals ls k.val (.int x) = some l') (hq : pc + 1 = q) (hr : own_Out p e below P (T.setTop (mkF m q l' (st)))) : own_Out p e below P (T.setTop (mkF m pc ls (.int x :: st))) := by
  subst hq; exact own_of (fun _ k => XS.istoreN X.here hx rfl (hb hby hd) rfl hl k) hr
theorem o_istore (X : Stand p l e R s m args below meth c T locs cells slots) (hx : p.tables.exec = Jvm.exec) (hby : c.code = bytes) {k : Nat} {x : Int32} (hd : decode bytes pc = .ok (.istore k, 2)) (hl : storeLocals ls k (.int x) = some l') (hq : pc + 2 = q) (hr : own_Out p e below P (T.setTop (mkF m q l' (st)))) : own_Out p e below P (T.setTop (mkF m pc ls (.int x :: st))) := by
  subst hq; exact own_of (fun _ k => XS.istore X.here hx rfl (hb hby hd) rfl hl k) hr
theorem o_lloadN (X : Stand p l e R s m args below meth c T locs cells slots) (hx : p.tables.exec = Jvm.exec) (hby : c.code = bytes) {k : Fin 4} {v : Int64} (hd : decode bytes pc = .ok (.lload_n k, 1)) (hl : ls[k.val]? = some (.val (.long v))) (hq : pc + 1 = q) (hr : own_Out p e below P (T.setTop (mkF m q ls (.long v :: st)))) : own_Out p e below P (T.setTop (mkF m pc ls (st))) := by
  subst hq; exact own_of (fun _ k => XS.lloadN X.here hx rfl (hb hby hd) hl k) hr
theorem o_lload (X : Stand p l e R s m args below meth c T locs cells slots) (hx : p.tables.exec = Jvm.exec) (hby : c.code = bytes) {k : Nat} {v : Int64} (hd : decode bytes pc = .ok (.lload k, 2)) (hl : ls[k]? = some (.val (.long v))) (hq : pc + 2 = q) (hr : own_Out p e below P (T.setTop (mkF m q ls (.long v :: st)))) : own_Out p e below P (T.setTop (mkF m pc ls (st))) := by
  subst hq; exact own_of (fun _ k => XS.lload X.here hx rfl (hb hby hd) hl k) hr
theorem o_lstoreN (X : Stand p l e R s m args below meth c T locs cells slots) (hx : p.tables.exec = Jvm.exec) (hby : c.code = bytes) {k : Fin 4} {x : Int64} (hd : decode bytes pc = .ok (.lstore_n k, 1)) (hl : storeLocals ls k.val (.long x) = some l') (hq : pc + 1 = q) (hr : own_Out p e below P (T.setTop (mkF m q l' (st)))) : own_Out p e below P (T.setTop (mkF m pc ls (.long x :: st))) := by
  subst hq; exact own_of (fun _ k => XS.lstoreN X.here hx rfl (hb hby hd) rfl hl k) hr
theorem o_lstore (X : Stand p l e R s m args below meth c T locs cells slots) (hx : p.tables.exec = Jvm.exec) (hby : c.code = bytes) {k : Nat} {x : Int64} (hd : decode bytes pc = .ok (.lstore k, 2)) (hl : storeLocals ls k (.long x) = some l') (hq : pc + 2 = q) (hr : own_Out p e below P (T.setTop (mkF m q l' (st)))) : own_Out p e below P (T.setTop (mkF m pc ls (.long x :: st))) := by
  subst hq; exact own_of (fun _ k => XS.lstore X.here hx rfl (hb hby hd) rfl hl k) hr
theorem o_dloadN (X : Stand p l e R s m args below meth c T locs cells slots) (hx : p.tables.exec = Jvm.exec) (hby : c.code = bytes) {k : Fin 4} {v : UInt64} (hd : decode bytes pc = .ok (.dload_n k, 1)) (hl : ls[k.val]? = some (.val (.double v))) (hq : pc + 1 = q) (hr : own_Out p e below P (T.setTop (mkF m q ls (.double v :: st)))) : own_Out p e below P (T.setTop (mkF m pc ls (st))) := by
  subst hq; exact own_of (fun _ k => XS.dloadN X.here hx rfl (hb hby hd) hl k) hr
theorem o_dload (X : Stand p l e R s m args below meth c T locs cells slots) (hx : p.tables.exec = Jvm.exec) (hby : c.code = bytes) {k : Nat} {v : UInt64} (hd : decode bytes pc = .ok (.dload k, 2)) (hl : ls[k]? = some (.val (.double v))) (hq : pc + 2 = q) (hr : own_Out p e below P (T.setTop (mkF m q ls (.double v :: st)))) : own_Out p e below P (T.setTop (mkF m pc ls (st))) := by
  subst hq; exact own_of (fun _ k => XS.dload X.here hx rfl (hb hby hd) hl k) hr
theorem o_dstoreN (X : Stand p l e R s m args below meth c T locs cells slots) (hx : p.tables.exec = Jvm.exec) (hby : c.code = bytes) {k : Fin 4} {x : UInt64} (hd : decode bytes pc = .ok (.dstore_n k, 1)) (hl : storeLocals ls k.val (.double x) = some l') (hq : pc + 1 = q) (hr : own_Out p e below P (T.setTop (mkF m q l' (st)))) : own_Out p e below P (T.setTop (mkF m pc ls (.double x :: st))) := by
  subst hq; exact own_of (fun _ k => XS.dstoreN X.here hx rfl (hb hby hd) rfl hl k) hr
theorem o_dstore (X : Stand p l e R s m args below meth c T locs cells slots) (hx : p.tables.exec = Jvm.exec) (hby : c.code = bytes) {k : Nat} {x : UInt64} (hd : decode bytes pc = .ok (.dstore k, 2)) (hl : storeLocals ls k (.double x) = some l') (hq : pc + 2 = q) (hr : own_Out p e below P (T.setTop (mkF m q l' (st)))) : own_Out p e below P (T.setTop (mkF m pc ls (.double x :: st))) := by
  subst hq; exact own_of (fun _ k => XS.dstore X.here hx rfl (hb hby hd) rfl hl k) hr
theorem o_aloadN (X : Stand p l e R s m args below meth c T locs cells slots) (hx : p.tables.exec = Jvm.exec) (hby : c.code = bytes) {k : Fin 4} {v : Value} (hd : decode bytes pc = .ok (.aload_n k, 1)) (hl : ls[k.val]? = some (.val v)) (hv : v.isRef = true) (hq : pc + 1 = q) (hr : own_Out p e below P (T.setTop (mkF m q ls (v :: st)))) : own_Out p e below P (T.setTop (mkF m pc ls (st))) := by
  subst hq; exact own_of (fun _ k => XS.aloadN X.here hx rfl (hb hby hd) hl hv k) hr
theorem o_aload (X : Stand p l e R s m args below meth c T locs cells slots) (hx : p.tables.exec = Jvm.exec) (hby : c.code = bytes) {k : Nat} {v : Value} (hd : decode bytes pc = .ok (.aload k, 2)) (hl : ls[k]? = some (.val v)) (hv : v.isRef = true) (hq : pc + 2 = q) (hr : own_Out p e below P (T.setTop (mkF m q ls (v :: st)))) : own_Out p e below P (T.setTop (mkF m pc ls (st))) := by
  subst hq; exact own_of (fun _ k => XS.aload X.here hx rfl (hb hby hd) hl hv k) hr
theorem o_astoreN (X : Stand p l e R s m args below meth c T locs cells slots) (hx : p.tables.exec = Jvm.exec) (hby : c.code = bytes) {k : Fin 4} {x : Value} (hd : decode bytes pc = .ok (.astore_n k, 1)) (hv : x.isRef = true) (hl : storeLocals ls k.val x = some l') (hq : pc + 1 = q) (hr : own_Out p e below P (T.setTop (mkF m q l' (st)))) : own_Out p e below P (T.setTop (mkF m pc ls (x :: st))) := by
  subst hq; exact own_of (fun _ k => XS.astoreN X.here hx rfl (hb hby hd) rfl hv hl k) hr
theorem o_astore (X : Stand p l e R s m args below meth c T locs cells slots) (hx : p.tables.exec = Jvm.exec) (hby : c.code = bytes) {k : Nat} {x : Value} (hd : decode bytes pc = .ok (.astore k, 2)) (hv : x.isRef = true) (hl : storeLocals ls k x = some l') (hq : pc + 2 = q) (hr : own_Out p e below P (T.setTop (mkF m q l' (st)))) : own_Out p e below P (T.setTop (mkF m pc ls (x :: st))) := by
  subst hq; exact own_of (fun _ k => XS.astore X.here hx rfl (hb hby hd) rfl hv hl k) hr
theorem o_iinc (X : Stand p l e R s m args below meth c T locs cells slots) (hx : p.tables.exec = Jvm.exec) (hby : c.code = bytes) {k : Nat} {cst : Int} {x : Int32} (hd : decode bytes pc = .ok (.iinc k cst, 3)) (hl : ls[k]? = some (.val (.int x))) (hl' : storeLocals ls k (.int (x + Int32.ofInt cst)) = some l') (hq : pc + 3 = q) (hr : own_Out p e below P (T.setTop (mkF m q l' (st)))) : own_Out p e below P (T.setTop (mkF m pc ls (st))) := by
  subst hq; exact own_of (fun _ k => XS.iinc X.here hx rfl (hb hby hd) hl hl' k) hr
theorem o_iconst (X : Stand p l e R s m args below meth c T locs cells slots) (hx : p.tables.exec = Jvm.exec) (hby : c.code = bytes) {i : Int} {z : Int32} (hd : decode bytes pc = .ok (.iconst i, 1)) (hz : Int32.ofInt i = z) (hq : pc + 1 = q) (hr : own_Out p e below P (T.setTop (mkF m q ls (.int z :: st)))) : own_Out p e below P (T.setTop (mkF m pc ls (st))) := by
  subst hq; exact own_of (fun _ k => XS.iconst X.here hx rfl (hb hby hd) (by rw [hz]; exact k)) hr
theorem o_bipush (X : Stand p l e R s m args below meth c T locs cells slots) (hx : p.tables.exec = Jvm.exec) (hby : c.code = bytes) {i : Int} {z : Int32} (hd : decode bytes pc = .ok (.bipush i, 2)) (hz : (Int8.ofInt i).toInt32 = z) (hq : pc + 2 = q) (hr : own_Out p e below P (T.setTop (mkF m q ls (.int z :: st)))) : own_Out p e below P (T.setTop (mkF m pc ls (st))) := by
  subst hq; exact own_of (fun _ k => XS.bipush X.here hx rfl (hb hby hd) (by rw [hz]; exact k)) hr
theorem o_sipush (X : Stand p l e R s m args below meth c T locs cells slots) (hx : p.tables.exec = Jvm.exec) (hby : c.code = bytes) {i : Int} {z : Int32} (hd : decode bytes pc = .ok (.sipush i, 3)) (hz : (Int16.ofInt i).toInt32 = z) (hq : pc + 3 = q) (hr : own_Out p e below P (T.setTop (mkF m q ls (.int z :: st)))) : own_Out p e below P (T.setTop (mkF m pc ls (st))) := by
  subst hq; exact own_of (fun _ k => XS.sipush X.here hx rfl (hb hby hd) (by rw [hz]; exact k)) hr
theorem o_lconst (X : Stand p l e R s m args below meth c T locs cells slots) (hx : p.tables.exec = Jvm.exec) (hby : c.code = bytes) {i : Fin 2} {z : Int64} (hd : decode bytes pc = .ok (.lconst i, 1)) (hz : Int64.ofNat i = z) (hq : pc + 1 = q) (hr : own_Out p e below P (T.setTop (mkF m q ls (.long z :: st)))) : own_Out p e below P (T.setTop (mkF m pc ls (st))) := by
  subst hq; exact own_of (fun _ k => XS.lconst X.here hx rfl (hb hby hd) (by rw [hz]; exact k)) hr
theorem o_aconst_null (X : Stand p l e R s m args below meth c T locs cells slots) (hx : p.tables.exec = Jvm.exec) (hby : c.code = bytes)  (hd : decode bytes pc = .ok (.aconst_null, 1))  (hq : pc + 1 = q) (hr : own_Out p e below P (T.setTop (mkF m q ls (.null :: st)))) : own_Out p e below P (T.setTop (mkF m pc ls (st))) := by
  subst hq; exact own_of (fun _ k => XS.aconstNull X.here hx rfl (hb hby hd) k) hr
theorem o_iadd (X : Stand p l e R s m args below meth c T locs cells slots) (hx : p.tables.exec = Jvm.exec) (hby : c.code = bytes) {x y z : Int32} (hd : decode bytes pc = .ok (.iadd, 1)) (hz : x + y = z) (hq : pc + 1 = q) (hr : own_Out p e below P (T.setTop (mkF m q ls (.int z :: st)))) : own_Out p e below P (T.setTop (mkF m pc ls (.int y :: .int x :: st))) := by
  subst hq; exact own_of (fun _ k => XS.iadd X.here hx rfl (hb hby hd) rfl (by rw [hz]; exact k)) hr
theorem o_ladd (X : Stand p l e R s m args below meth c T locs cells slots) (hx : p.tables.exec = Jvm.exec) (hby : c.code = bytes) {x y z : Int64} (hd : decode bytes pc = .ok (.ladd, 1)) (hz : x + y = z) (hq : pc + 1 = q) (hr : own_Out p e below P (T.setTop (mkF m q ls (.long z :: st)))) : own_Out p e below P (T.setTop (mkF m pc ls (.long y :: .long x :: st))) := by
  subst hq; exact own_of (fun _ k => XS.ladd X.here hx rfl (hb hby hd) rfl (by rw [hz]; exact k)) hr
theorem o_isub (X : Stand p l e R s m args below meth c T locs cells slots) (hx : p.tables.exec = Jvm.exec) (hby : c.code = bytes) {x y z : Int32} (hd : decode bytes pc = .ok (.isub, 1)) (hz : x - y = z) (hq : pc + 1 = q) (hr : own_Out p e below P (T.setTop (mkF m q ls (.int z :: st)))) : own_Out p e below P (T.setTop (mkF m pc ls (.int y :: .int x :: st))) := by
  subst hq; exact own_of (fun _ k => XS.isub X.here hx rfl (hb hby hd) rfl (by rw [hz]; exact k)) hr
theorem o_lsub (X : Stand p l e R s m args below meth c T locs cells slots) (hx : p.tables.exec = Jvm.exec) (hby : c.code = bytes) {x y z : Int64} (hd : decode bytes pc = .ok (.lsub, 1)) (hz : x - y = z) (hq : pc + 1 = q) (hr : own_Out p e below P (T.setTop (mkF m q ls (.long z :: st)))) : own_Out p e below P (T.setTop (mkF m pc ls (.long y :: .long x :: st))) := by
  subst hq; exact own_of (fun _ k => XS.lsub X.here hx rfl (hb hby hd) rfl (by rw [hz]; exact k)) hr
theorem o_imul (X : Stand p l e R s m args below meth c T locs cells slots) (hx : p.tables.exec = Jvm.exec) (hby : c.code = bytes) {x y z : Int32} (hd : decode bytes pc = .ok (.imul, 1)) (hz : x * y = z) (hq : pc + 1 = q) (hr : own_Out p e below P (T.setTop (mkF m q ls (.int z :: st)))) : own_Out p e below P (T.setTop (mkF m pc ls (.int y :: .int x :: st))) := by
  subst hq; exact own_of (fun _ k => XS.imul X.here hx rfl (hb hby hd) rfl (by rw [hz]; exact k)) hr
theorem o_lmul (X : Stand p l e R s m args below meth c T locs cells slots) (hx : p.tables.exec = Jvm.exec) (hby : c.code = bytes) {x y z : Int64} (hd : decode bytes pc = .ok (.lmul, 1)) (hz : x * y = z) (hq : pc + 1 = q) (hr : own_Out p e below P (T.setTop (mkF m q ls (.long z :: st)))) : own_Out p e below P (T.setTop (mkF m pc ls (.long y :: .long x :: st))) := by
  subst hq; exact own_of (fun _ k => XS.lmul X.here hx rfl (hb hby hd) rfl (by rw [hz]; exact k)) hr
theorem o_iand (X : Stand p l e R s m args below meth c T locs cells slots) (hx : p.tables.exec = Jvm.exec) (hby : c.code = bytes) {x y z : Int32} (hd : decode bytes pc = .ok (.iand, 1)) (hz : x &&& y = z) (hq : pc + 1 = q) (hr : own_Out p e below P (T.setTop (mkF m q ls (.int z :: st)))) : own_Out p e below P (T.setTop (mkF m pc ls (.int y :: .int x :: st))) := by
  subst hq; exact own_of (fun _ k => XS.iand X.here hx rfl (hb hby hd) rfl (by rw [hz]; exact k)) hr
theorem o_land (X : Stand p l e R s m args below meth c T locs cells slots) (hx : p.tables.exec = Jvm.exec) (hby : c.code = bytes) {x y z : Int64} (hd : decode bytes pc = .ok (.land, 1)) (hz : x &&& y = z) (hq : pc + 1 = q) (hr : own_Out p e below P (T.setTop (mkF m q ls (.long z :: st)))) : own_Out p e below P (T.setTop (mkF m pc ls (.long y :: .long x :: st))) := by
  subst hq; exact own_of (fun _ k => XS.land X.here hx rfl (hb hby hd) rfl (by rw [hz]; exact k)) hr
theorem o_ior (X : Stand p l e R s m args below meth c T locs cells slots) (hx : p.tables.exec = Jvm.exec) (hby : c.code = bytes) {x y z : Int32} (hd : decode bytes pc = .ok (.ior, 1)) (hz : x ||| y = z) (hq : pc + 1 = q) (hr : own_Out p e below P (T.setTop (mkF m q ls (.int z :: st)))) : own_Out p e below P (T.setTop (mkF m pc ls (.int y :: .int x :: st))) := by
  subst hq; exact own_of (fun _ k => XS.ior X.here hx rfl (hb hby hd) rfl (by rw [hz]; exact k)) hr
theorem o_lor (X : Stand p l e R s m args below meth c T locs cells slots) (hx : p.tables.exec = Jvm.exec) (hby : c.code = bytes) {x y z : Int64} (hd : decode bytes pc = .ok (.lor, 1)) (hz : x ||| y = z) (hq : pc + 1 = q) (hr : own_Out p e below P (T.setTop (mkF m q ls (.long z :: st)))) : own_Out p e below P (T.setTop (mkF m pc ls (.long y :: .long x :: st))) := by
  subst hq; exact own_of (fun _ k => XS.lor X.here hx rfl (hb hby hd) rfl (by rw [hz]; exact k)) hr
theorem o_ixor (X : Stand p l e R s m args below meth c T locs cells slots) (hx : p.tables.exec = Jvm.exec) (hby : c.code = bytes) {x y z : Int32} (hd : decode bytes pc = .ok (.ixor, 1)) (hz : x ^^^ y = z) (hq : pc + 1 = q) (hr : own_Out p e below P (T.setTop (mkF m q ls (.int z :: st)))) : own_Out p e below P (T.setTop (mkF m pc ls (.int y :: .int x :: st))) := by
  subst hq; exact own_of (fun _ k => XS.ixor X.here hx rfl (hb hby hd) rfl (by rw [hz]; exact k)) hr
theorem o_lxor (X : Stand p l e R s m args below meth c T locs cells slots) (hx : p.tables.exec = Jvm.exec) (hby : c.code = bytes) {x y z : Int64} (hd : decode bytes pc = .ok (.lxor, 1)) (hz : x ^^^ y = z) (hq : pc + 1 = q) (hr : own_Out p e below P (T.setTop (mkF m q ls (.long z :: st)))) : own_Out p e below P (T.setTop (mkF m pc ls (.long y :: .long x :: st))) := by
  subst hq; exact own_of (fun _ k => XS.lxor X.here hx rfl (hb hby hd) rfl (by rw [hz]; exact k)) hr
theorem o_ishl (X : Stand p l e R s m args below meth c T locs cells slots) (hx : p.tables.exec = Jvm.exec) (hby : c.code = bytes) {x z : Int32} {y : Int32} (hd : decode bytes pc = .ok (.ishl, 1)) (hz : (x <<< (y &&& 31)) = z) (hq : pc + 1 = q) (hr : own_Out p e below P (T.setTop (mkF m q ls (.int z :: st)))) : own_Out p e below P (T.setTop (mkF m pc ls (.int y :: .int x :: st))) := by
  subst hq; exact own_of (fun _ k => XS.ishl X.here hx rfl (hb hby hd) rfl (by rw [hz]; exact k)) hr
theorem o_ishr (X : Stand p l e R s m args below meth c T locs cells slots) (hx : p.tables.exec = Jvm.exec) (hby : c.code = bytes) {x z : Int32} {y : Int32} (hd : decode bytes pc = .ok (.ishr, 1)) (hz : (x >>> (y &&& 31)) = z) (hq : pc + 1 = q) (hr : own_Out p e below P (T.setTop (mkF m q ls (.int z :: st)))) : own_Out p e below P (T.setTop (mkF m pc ls (.int y :: .int x :: st))) := by
  subst hq; exact own_of (fun _ k => XS.ishr X.here hx rfl (hb hby hd) rfl (by rw [hz]; exact k)) hr
theorem o_iushr (X : Stand p l e R s m args below meth c T locs cells slots) (hx : p.tables.exec = Jvm.exec) (hby : c.code = bytes) {x z : Int32} {y : Int32} (hd : decode bytes pc = .ok (.iushr, 1)) (hz : ((x.toUInt32 >>> (y &&& 31).toUInt32).toInt32) = z) (hq : pc + 1 = q) (hr : own_Out p e below P (T.setTop (mkF m q ls (.int z :: st)))) : own_Out p e below P (T.setTop (mkF m pc ls (.int y :: .int x :: st))) := by
  subst hq; exact own_of (fun _ k => XS.iushr X.here hx rfl (hb hby hd) rfl (by rw [hz]; exact k)) hr
theorem o_lshl (X : Stand p l e R s m args below meth c T locs cells slots) (hx : p.tables.exec = Jvm.exec) (hby : c.code = bytes) {x z : Int64} {y : Int32} (hd : decode bytes pc = .ok (.lshl, 1)) (hz : (x <<< (y &&& 0x3f).toInt64) = z) (hq : pc + 1 = q) (hr : own_Out p e below P (T.setTop (mkF m q ls (.long z :: st)))) : own_Out p e below P (T.setTop (mkF m pc ls (.int y :: .long x :: st))) := by
  subst hq; exact own_of (fun _ k => XS.lshl X.here hx rfl (hb hby hd) rfl (by rw [hz]; exact k)) hr
theorem o_lshr (X : Stand p l e R s m args below meth c T locs cells slots) (hx : p.tables.exec = Jvm.exec) (hby : c.code = bytes) {x z : Int64} {y : Int32} (hd : decode bytes pc = .ok (.lshr, 1)) (hz : (x >>> (y &&& 0x3f).toInt64) = z) (hq : pc + 1 = q) (hr : own_Out p e below P (T.setTop (mkF m q ls (.long z :: st)))) : own_Out p e below P (T.setTop (mkF m pc ls (.int y :: .long x :: st))) := by
  subst hq; exact own_of (fun _ k => XS.lshr X.here hx rfl (hb hby hd) rfl (by rw [hz]; exact k)) hr
theorem o_lushr (X : Stand p l e R s m args below meth c T locs cells slots) (hx : p.tables.exec = Jvm.exec) (hby : c.code = bytes) {x z : Int64} {y : Int32} (hd : decode bytes pc = .ok (.lushr, 1)) (hz : ((x.toUInt64 >>> (y &&& 0x3f).toInt64.toUInt64).toInt64) = z) (hq : pc + 1 = q) (hr : own_Out p e below P (T.setTop (mkF m q ls (.long z :: st)))) : own_Out p e below P (T.setTop (mkF m pc ls (.int y :: .long x :: st))) := by
  subst hq; exact own_of (fun _ k => XS.lushr X.here hx rfl (hb hby hd) rfl (by rw [hz]; exact k)) hr
theorem o_ineg (X : Stand p l e R s m args below meth c T locs cells slots) (hx : p.tables.exec = Jvm.exec) (hby : c.code = bytes) {x : Int32} {z : Int32} (hd : decode bytes pc = .ok (.ineg, 1)) (hz : -x = z) (hq : pc + 1 = q) (hr : own_Out p e below P (T.setTop (mkF m q ls (.int z :: st)))) : own_Out p e below P (T.setTop (mkF m pc ls (.int x :: st))) := by
  subst hq; exact own_of (fun _ k => XS.ineg X.here hx rfl (hb hby hd) rfl (by rw [hz]; exact k)) hr
theorem o_lneg (X : Stand p l e R s m args below meth c T locs cells slots) (hx : p.tables.exec = Jvm.exec) (hby : c.code = bytes) {x : Int64} {z : Int64} (hd : decode bytes pc = .ok (.lneg, 1)) (hz : -x = z) (hq : pc + 1 = q) (hr : own_Out p e below P (T.setTop (mkF m q ls (.long z :: st)))) : own_Out p e below P (T.setTop (mkF m pc ls (.long x :: st))) := by
  subst hq; exact own_of (fun _ k => XS.lneg X.here hx rfl (hb hby hd) rfl (by rw [hz]; exact k)) hr
theorem o_i2l (X : Stand p l e R s m args below meth c T locs cells slots) (hx : p.tables.exec = Jvm.exec) (hby : c.code = bytes) {x : Int32} {z : Int64} (hd : decode bytes pc = .ok (.i2l, 1)) (hz : x.toInt64 = z) (hq : pc + 1 = q) (hr : own_Out p e below P (T.setTop (mkF m q ls (.long z :: st)))) : own_Out p e below P (T.setTop (mkF m pc ls (.int x :: st))) := by
  subst hq; exact own_of (fun _ k => XS.i2l X.here hx rfl (hb hby hd) rfl (by rw [hz]; exact k)) hr
theorem o_l2i (X : Stand p l e R s m args below meth c T locs cells slots) (hx : p.tables.exec = Jvm.exec) (hby : c.code = bytes) {x : Int64} {z : Int32} (hd : decode bytes pc = .ok (.l2i, 1)) (hz : x.toInt32 = z) (hq : pc + 1 = q) (hr : own_Out p e below P (T.setTop (mkF m q ls (.int z :: st)))) : own_Out p e below P (T.setTop (mkF m pc ls (.long x :: st))) := by
  subst hq; exact own_of (fun _ k => XS.l2i X.here hx rfl (hb hby hd) rfl (by rw [hz]; exact k)) hr
theorem o_i2b (X : Stand p l e R s m args below meth c T locs cells slots) (hx : p.tables.exec = Jvm.exec) (hby : c.code = bytes) {x : Int32} {z : Int32} (hd : decode bytes pc = .ok (.i2b, 1)) (hz : x.toInt8.toInt32 = z) (hq : pc + 1 = q) (hr : own_Out p e below P (T.setTop (mkF m q ls (.int z :: st)))) : own_Out p e below P (T.setTop (mkF m pc ls (.int x :: st))) := by
  subst hq; exact own_of (fun _ k => XS.i2b X.here hx rfl (hb hby hd) rfl (by rw [hz]; exact k)) hr
theorem o_i2s (X : Stand p l e R s m args below meth c T locs cells slots) (hx : p.tables.exec = Jvm.exec) (hby : c.code = bytes) {x : Int32} {z : Int32} (hd : decode bytes pc = .ok (.i2s, 1)) (hz : x.toInt16.toInt32 = z) (hq : pc + 1 = q) (hr : own_Out p e below P (T.setTop (mkF m q ls (.int z :: st)))) : own_Out p e below P (T.setTop (mkF m pc ls (.int x :: st))) := by
  subst hq; exact own_of (fun _ k => XS.i2s X.here hx rfl (hb hby hd) rfl (by rw [hz]; exact k)) hr
theorem o_i2c (X : Stand p l e R s m args below meth c T locs cells slots) (hx : p.tables.exec = Jvm.exec) (hby : c.code = bytes) {x : Int32} {z : Int32} (hd : decode bytes pc = .ok (.i2c, 1)) (hz : x.toUInt32.toUInt16.toUInt32.toInt32 = z) (hq : pc + 1 = q) (hr : own_Out p e below P (T.setTop (mkF m q ls (.int z :: st)))) : own_Out p e below P (T.setTop (mkF m pc ls (.int x :: st))) := by
  subst hq; exact own_of (fun _ k => XS.i2c X.here hx rfl (hb hby hd) rfl (by rw [hz]; exact k)) hr
theorem o_lcmp (X : Stand p l e R s m args below meth c T locs cells slots) (hx : p.tables.exec = Jvm.exec) (hby : c.code = bytes) {x y : Int64} (hd : decode bytes pc = .ok (.lcmp, 1))  (hq : pc + 1 = q) (hr : own_Out p e below P (T.setTop (mkF m q ls (.int (lcmpW x y) :: st)))) : own_Out p e below P (T.setTop (mkF m pc ls (.long y :: .long x :: st))) := by
  subst hq; exact own_of (fun _ k => XS.lcmp X.here hx rfl (hb hby hd) rfl k) hr
theorem o_irem (X : Stand p l e R s m args below meth c T locs cells slots) (hx : p.tables.exec = Jvm.exec) (hby : c.code = bytes) {x y : Int32} (hd : decode bytes pc = .ok (.irem, 1)) (hy : y ≠ 0) (hq : pc + 1 = q) (hr : own_Out p e below P (T.setTop (mkF m q ls (.int (x % y) :: st)))) : own_Out p e below P (T.setTop (mkF m pc ls (.int y :: .int x :: st))) := by
  subst hq; exact own_of (fun _ k => iremM X hx rfl (hb hby hd) rfl hy k) hr
theorem o_goto (X : Stand p l e R s m args below meth c T locs cells slots) (hx : p.tables.exec = Jvm.exec) (hby : c.code = bytes) {o : Int} (hd : decode bytes pc = .ok (.goto o, 3))  (ho : 0 ≤ (pc : Int) + o) (hq : ((pc : Int) + o).toNat = q) (hr : own_Out p e below P (T.setTop (mkF m q ls (st)))) : own_Out p e below P (T.setTop (mkF m pc ls (st))) := by
  exact own_of (fun _ k => XS.goto X.here hx rfl rfl (hb hby hd) ho hq k) hr
theorem o_ifY (X : Stand p l e R s m args below meth c T locs cells slots) (hx : p.tables.exec = Jvm.exec) (hby : c.code = bytes) {cd : ClassFile.Cond} {x : Int32} {o : Int} (hd : decode bytes pc = .ok (.ifCond cd o, 3)) (hc : ifCond.holds cd x = true) (ho : 0 ≤ (pc : Int) + o) (hq : ((pc : Int) + o).toNat = q) (hr : own_Out p e below P (T.setTop (mkF m q ls (st)))) : own_Out p e below P (T.setTop (mkF m pc ls (.int x :: st))) := by
  exact own_of (fun _ k => XS.ifYes X.here hx rfl rfl (hb hby hd) rfl hc ho hq k) hr
theorem o_ifN (X : Stand p l e R s m args below meth c T locs cells slots) (hx : p.tables.exec = Jvm.exec) (hby : c.code = bytes) {cd : ClassFile.Cond} {x : Int32} {o : Int} (hd : decode bytes pc = .ok (.ifCond cd o, 3)) (hc : ifCond.holds cd x = false) (hq : pc + 3 = q) (hr : own_Out p e below P (T.setTop (mkF m q ls (st)))) : own_Out p e below P (T.setTop (mkF m pc ls (.int x :: st))) := by
  subst hq; exact own_of (fun _ k => XS.ifNo X.here hx rfl (hb hby hd) rfl hc k) hr
theorem o_icY (X : Stand p l e R s m args below meth c T locs cells slots) (hx : p.tables.exec = Jvm.exec) (hby : c.code = bytes) {cd : ClassFile.Cond} {x y : Int32} {o : Int} (hd : decode bytes pc = .ok (.if_icmp cd o, 3)) (hc : if_icmp.holds cd x y = true) (ho : 0 ≤ (pc : Int) + o) (hq : ((pc : Int) + o).toNat = q) (hr : own_Out p e below P (T.setTop (mkF m q ls (st)))) : own_Out p e below P (T.setTop (mkF m pc ls (.int y :: .int x :: st))) := by
  exact own_of (fun _ k => XS.icmpYes X.here hx rfl rfl (hb hby hd) rfl hc ho hq k) hr
theorem o_icN (X : Stand p l e R s m args below meth c T locs cells slots) (hx : p.tables.exec = Jvm.exec) (hby : c.code = bytes) {cd : ClassFile.Cond} {x y : Int32} {o : Int} (hd : decode bytes pc = .ok (.if_icmp cd o, 3)) (hc : if_icmp.holds cd x y = false) (hq : pc + 3 = q) (hr : own_Out p e below P (T.setTop (mkF m q ls (st)))) : own_Out p e below P (T.setTop (mkF m pc ls (.int y :: .int x :: st))) := by
  subst hq; exact own_of (fun _ k => XS.icmpNo X.here hx rfl (hb hby hd) rfl hc k) hr
theorem o_dup (X : Stand p l e R s m args below meth c T locs cells slots) (hx : p.tables.exec = Jvm.exec) (hby : c.code = bytes) {x : Value} (hd : decode bytes pc = .ok (.dup, 1)) (hc : x.category = 1) (hq : pc + 1 = q) (hr : own_Out p e below P (T.setTop (mkF m q ls (x :: x :: st)))) : own_Out p e below P (T.setTop (mkF m pc ls (x :: st))) := by
  subst hq; exact own_of (fun _ k => XS.dup X.here hx rfl (hb hby hd) rfl hc k) hr
theorem o_pop (X : Stand p l e R s m args below meth c T locs cells slots) (hx : p.tables.exec = Jvm.exec) (hby : c.code = bytes) {x : Value} (hd : decode bytes pc = .ok (.pop, 1)) (hc : x.category = 1) (hq : pc + 1 = q) (hr : own_Out p e below P (T.setTop (mkF m q ls (st)))) : own_Out p e below P (T.setTop (mkF m pc ls (x :: st))) := by
  subst hq; exact own_of (fun _ k => XS.pop X.here hx rfl (hb hby hd) rfl hc k) hr
theorem o_dup2 (X : Stand p l e R s m args below meth c T locs cells slots) (hx : p.tables.exec = Jvm.exec) (hby : c.code = bytes) {x y : Value} (hd : decode bytes pc = .ok (.dup2, 1)) (h1 : x.category = 1) (h2 : y.category = 1) (hq : pc + 1 = q) (hr : own_Out p e below P (T.setTop (mkF m q ls (x :: y :: x :: y :: st)))) : own_Out p e below P (T.setTop (mkF m pc ls (x :: y :: st))) := by
  subst hq; exact own_of (fun _ k => Jvm.Free.XT.dup2 X.here hx rfl (hb hby hd) rfl h1 h2 k) hr
theorem o_dupX2 (X : Stand p l e R s m args below meth c T locs cells slots) (hx : p.tables.exec = Jvm.exec) (hby : c.code = bytes) {x y z : Value} (hd : decode bytes pc = .ok (.dup_x2, 1)) (h1 : x.category = 1) (h2 : y.category = 1) (h3 : z.category = 1) (hq : pc + 1 = q) (hr : own_Out p e below P (T.setTop (mkF m q ls (x :: y :: z :: x :: st)))) : own_Out p e below P (T.setTop (mkF m pc ls (x :: y :: z :: st))) := by
  subst hq; exact own_of (fun _ k => own_dupX2 X.here hx rfl (hb hby hd) rfl h1 h2 h3 k) hr
variable {Z : State} {a0 : Array Value} {h : Heap}
theorem o_ldcI (X : Stand p l e R s m args below meth c T locs cells slots) (hx : p.tables.exec = Jvm.exec) (hZ : Z.Warmed39 s.vm) {own : String} (hown : s.vm.findClass own = some m.cls) (hby : c.code = bytes) {i : Nat} {v : Int32} (w : (Cond.constant own i v).before a0 Z = true) (hd : decode bytes pc = .ok (.ldc i, 2)) (hq : pc + 2 = q) (hr : own_Out p e below P (T.setTop (mkF m q ls (.int v :: st)))) : own_Out p e below P (T.setTop (mkF m pc ls st)) := by
  subst hq; exact own_of (X.ldcInt hx hown (mvT hZ w) (g := mkF m pc ls st) rfl (hb hby hd)) hr
theorem o_getF (X : Stand p l e R s m args below meth c T locs cells slots) (hx : p.tables.exec = Jvm.exec) (hZ : Z.Warmed39 s.vm) {own R0 O n d : String} (hown : s.vm.findClass own = some m.cls) (hby : c.code = bytes) {i : Nat} (w : (Cond.fieldLink own i R0 n d).before a0 Z = true) (via : Via Z R0 O n d) (eT : T.heap = h) {a : Addr} {v : Value} (F : Fld Z h a O n d v) (hd : decode bytes pc = .ok (.getfield i, 3)) (hq : pc + 3 = q)
    (hr : ∀ T', Stand p l e R s m args below meth c T' locs cells slots → T'.heap = h → own_Out p e below P (T'.setTop (mkF m q ls (v :: st)))) : own_Out p e below P (T.setTop (mkF m pc ls (.ref a :: st))) := by
  subst hq
  obtain ⟨T', X', e', t⟩ := getF X hx hZ hown (host := "") (Or.inl w) via eT F (g := mkF m pc ls (.ref a :: st)) rfl rfl (hb hby hd)
  exact own_of t (hr T' X' e')
theorem o_stI (X : Stand p l e R s m args below meth c T locs cells slots) (hx : p.tables.exec = Jvm.exec) (hZ : Z.Warmed39 s.vm) (hby : c.code = bytes) (eT : T.heap = h) {a : Addr} {cl : Cell} (A : Arr Z h a cl .int) {j x : Int32} (hj : ¬ (j < 0 ∨ cl.slots.size ≤ j.toNatClampNeg)) (hd : decode bytes pc = .ok (.iastore, 1)) (hq : pc + 1 = q)
    (hr : ∀ T' h', Stand p l e R s m args below meth c T' (locs ++ [⟨a, j.toNatClampNeg⟩]) cells slots → T'.heap = h' → Wr h h' a j.toNatClampNeg (.int x) → own_Out p e below P (T'.setTop (mkF m q ls st))) : own_Out p e below P (T.setTop (mkF m pc ls (.int x :: .int j :: .ref a :: st))) := by
  subst hq
  obtain ⟨T', h', X', e', W', t⟩ := stI X hx hZ eT A hj (g := mkF m pc ls (.int x :: .int j :: .ref a :: st)) rfl rfl (hb hby hd)
  exact own_of t (hr T' h' X' e' W')
theorem o_iaload (X : Stand p l e R s m args below meth c T locs cells slots) (hx : p.tables.exec = Jvm.exec) (hZ : Z.Warmed39 s.vm) (hby : c.code = bytes) (eT : T.heap = h) {a : Addr} {cl : Cell} (A : Arr Z h a cl .int) {j : Int32} {v : Value} (hj : ¬ (j < 0 ∨ cl.slots.size ≤ j.toNatClampNeg)) (hv : cl.slots[j.toNatClampNeg]? = some v) (hd : decode bytes pc = .ok (.iaload, 1)) (hq : pc + 1 = q)
    (hr : own_Out p e below P (T.setTop (mkF m q ls (v :: st)))) : own_Out p e below P (T.setTop (mkF m pc ls (.int j :: .ref a :: st))) := by
  subst hq
  exact own_of (X.iaload hx (by rw [eT]; exact A.1) (State.isArrayOf_alike hZ.alike A.2.1) A.2.2 hj hv (g := mkF m pc ls (.int j :: .ref a :: st)) rfl rfl (hb hby hd)) hr
theorem o_aaload (X : Stand p l e R s m args below meth c T locs cells slots) (hx : p.tables.exec = Jvm.exec) (hZ : Z.Warmed39 s.vm) (hby : c.code = bytes) (eT : T.heap = h) {a : Addr} {cl : Cell} {ty : FieldType} (A : Arr Z h a cl ty) (hty : ty.isReference = true) {j : Int32} {v : Value} (hj : ¬ (j < 0 ∨ cl.slots.size ≤ j.toNatClampNeg)) (hv : cl.slots[j.toNatClampNeg]? = some v) (hd : decode bytes pc = .ok (.aaload, 1)) (hq : pc + 1 = q)
    (hr : own_Out p e below P (T.setTop (mkF m q ls (v :: st)))) : own_Out p e below P (T.setTop (mkF m pc ls (.int j :: .ref a :: st))) := by
  subst hq
  exact own_of (X.aaload hx (by rw [eT]; exact A.1) (State.isArrayOf_alike hZ.alike A.2.1) hty A.2.2 hj hv (g := mkF m pc ls (.int j :: .ref a :: st)) rfl rfl (hb hby hd)) hr
theorem o_len (X : Stand p l e R s m args below meth c T locs cells slots) (hx : p.tables.exec = Jvm.exec) (hZ : Z.Warmed39 s.vm) (hby : c.code = bytes) (eT : T.heap = h) {a : Addr} {cl : Cell} {ty : FieldType} (A : Arr Z h a cl ty) {z : Int32} (S : cl.slots.size = z.toNatClampNeg) (N : ¬ z < 0) (hd : decode bytes pc = .ok (.arraylength, 1)) (hq : pc + 1 = q)
    (hr : own_Out p e below P (T.setTop (mkF m q ls (.int z :: st)))) : own_Out p e below P (T.setTop (mkF m pc ls (.ref a :: st))) := by
  subst hq
  refine own_of (X.arraylength hx (by rw [eT]; exact A.1) (State.isArrayOf_alike hZ.alike A.2.1) (g := mkF m pc ls (.ref a :: st)) rfl rfl (hb hby hd)) ?_
  rw [len_of S N]; exact hr
variable {a : Addr} {k : ClassId} {z j : Int32} {vs : List Value} {dv v : Value} {ty : FieldType}
theorem o_nin {c : Cell} (S : c.slots.size = z.toNatClampNeg) (hj : ¬ j < 0 ∧ j < z) : j.toNatClampNeg < c.slots.size := Nat.lt_of_not_le fun q => inb_of S hj (Or.inr q)
theorem o_iaV (X : Stand p l e R s m args below meth c T locs cells slots) (hx : p.tables.exec = Jvm.exec) (hby : c.code = bytes) (hZ : Z.Warmed39 s.vm) (eT : T.heap = h) (V : Arv Z h a k .int z vs dv) (hj : ¬ j < 0 ∧ j < z) (hv : vs.getD j.toNatClampNeg dv = v) (hd : decode bytes pc = .ok (.iaload, 1)) (hq : pc + 1 = q)
    (hr : own_Out p e below P (T.setTop (mkF m q ls (v :: st)))) : own_Out p e below P (T.setTop (mkF m pc ls (.int j :: .ref a :: st))) := by
  obtain ⟨cl, A, q1, S, N, H, G⟩ := V
  exact o_iaload X hx hZ hby eT A (inb_of S hj) ((H _ (o_nin S hj)).trans (by rw [hv])) hd hq hr
theorem o_aaV (X : Stand p l e R s m args below meth c T locs cells slots) (hx : p.tables.exec = Jvm.exec) (hby : c.code = bytes) (hZ : Z.Warmed39 s.vm) (eT : T.heap = h) (V : Arv Z h a k ty z vs dv) (hty : ty.isReference = true) (hj : ¬ j < 0 ∧ j < z) (hv : vs.getD j.toNatClampNeg dv = v) (hd : decode bytes pc = .ok (.aaload, 1)) (hq : pc + 1 = q)
    (hr : own_Out p e below P (T.setTop (mkF m q ls (v :: st)))) : own_Out p e below P (T.setTop (mkF m pc ls (.int j :: .ref a :: st))) := by
  obtain ⟨cl, A, q1, S, N, H, G⟩ := V
  exact o_aaload X hx hZ hby eT A hty (inb_of S hj) ((H _ (o_nin S hj)).trans (by rw [hv])) hd hq hr
theorem o_laV (X : Stand p l e R s m args below meth c T locs cells slots) (hx : p.tables.exec = Jvm.exec) (hby : c.code = bytes) (hZ : Z.Warmed39 s.vm) (eT : T.heap = h) (V : Arv Z h a k .long z vs dv) (hj : ¬ j < 0 ∧ j < z) (hv : vs.getD j.toNatClampNeg dv = v) (hd : decode bytes pc = .ok (.laload, 1)) (hq : pc + 1 = q)
    (hr : own_Out p e below P (T.setTop (mkF m q ls (v :: st)))) : own_Out p e below P (T.setTop (mkF m pc ls (.int j :: .ref a :: st))) := by
  obtain ⟨cl, A, q1, S, N, H, G⟩ := V
  subst hq
  exact own_of (X.laload hx (by rw [eT]; exact A.1) (State.isArrayOf_alike hZ.alike A.2.1) A.2.2 (inb_of S hj) ((H _ (o_nin S hj)).trans (by rw [hv])) (g := mkF m pc ls (.int j :: .ref a :: st)) rfl rfl (hb hby hd)) hr
theorem o_caV (X : Stand p l e R s m args below meth c T locs cells slots) (hx : p.tables.exec = Jvm.exec) (hby : c.code = bytes) (hZ : Z.Warmed39 s.vm) (eT : T.heap = h) (V : Arv Z h a k .char z vs dv) (hj : ¬ j < 0 ∧ j < z) (hv : vs.getD j.toNatClampNeg dv = v) (hd : decode bytes pc = .ok (.caload, 1)) (hq : pc + 1 = q)
    (hr : own_Out p e below P (T.setTop (mkF m q ls (v :: st)))) : own_Out p e below P (T.setTop (mkF m pc ls (.int j :: .ref a :: st))) := by
  obtain ⟨cl, A, q1, S, N, H, G⟩ := V
  subst hq
  exact own_of (X.caload hx (by rw [eT]; exact A.1) (State.isArrayOf_alike hZ.alike A.2.1) A.2.2 (inb_of S hj) ((H _ (o_nin S hj)).trans (by rw [hv])) (g := mkF m pc ls (.int j :: .ref a :: st)) rfl rfl (hb hby hd)) hr
theorem o_baV (X : Stand p l e R s m args below meth c T locs cells slots) (hx : p.tables.exec = Jvm.exec) (hby : c.code = bytes) (hZ : Z.Warmed39 s.vm) (eT : T.heap = h) (V : Arv Z h a k .byte z vs dv) (hj : ¬ j < 0 ∧ j < z) (hv : vs.getD j.toNatClampNeg dv = v) (hd : decode bytes pc = .ok (.baload, 1)) (hq : pc + 1 = q)
    (hr : own_Out p e below P (T.setTop (mkF m q ls (v :: st)))) : own_Out p e below P (T.setTop (mkF m pc ls (.int j :: .ref a :: st))) := by
  obtain ⟨cl, A, q1, S, N, H, G⟩ := V
  subst hq
  exact own_of (X.baloadBytes hx (by rw [eT]; exact A.1) (State.isArrayOf_alike hZ.alike A.2.1) A.2.2 (inb_of S hj) ((H _ (o_nin S hj)).trans (by rw [hv])) (g := mkF m pc ls (.int j :: .ref a :: st)) rfl rfl (hb hby hd)) hr
theorem o_lenV (X : Stand p l e R s m args below meth c T locs cells slots) (hx : p.tables.exec = Jvm.exec) (hby : c.code = bytes) (hZ : Z.Warmed39 s.vm) (eT : T.heap = h) (V : Arv Z h a k ty z vs dv) (hd : decode bytes pc = .ok (.arraylength, 1)) (hq : pc + 1 = q)
    (hr : own_Out p e below P (T.setTop (mkF m q ls (.int z :: st)))) : own_Out p e below P (T.setTop (mkF m pc ls (.ref a :: st))) := by
  obtain ⟨cl, A, q1, S, N, H, G⟩ := V
  exact o_len X hx hZ hby eT A S N hd hq hr
theorem o_stV (X : Stand p l e R s m args below meth c T locs cells slots) (hx : p.tables.exec = Jvm.exec) (hby : c.code = bytes) (hZ : Z.Warmed39 s.vm) (eT : T.heap = h) (V : Arv Z h a k .int z vs dv) (hj : ¬ j < 0 ∧ j < z) (i : Nat) (hi : j.toNatClampNeg = i) (hl : i < vs.length) {x : Int32} (hd : decode bytes pc = .ok (.iastore, 1)) (hq : pc + 1 = q)
    (hr : ∀ T' h', Stand p l e R s m args below meth c T' (locs ++ [⟨a, j.toNatClampNeg⟩]) cells slots → T'.heap = h' → Wr h h' a j.toNatClampNeg (.int x) → Arv Z h' a k .int z (vs.set i (.int x)) dv → own_Out p e below P (T'.setTop (mkF m q ls st))) : own_Out p e below P (T.setTop (mkF m pc ls (.int x :: .int j :: .ref a :: st))) := by
  obtain ⟨cl, A, q1, S, N, H, G⟩ := V
  exact o_stI X hx hZ hby eT A (inb_of S hj) hd hq fun T' h' X' e' W' => hr T' h' X' e' W' (Arv.set A q1 S N H G rfl W' i hi hl)
theorem o_stVR (X : Stand p l e R s m args below meth c T locs cells slots) (hx : p.tables.exec = Jvm.exec) (hby : c.code = bytes) (hZ : Z.Warmed39 s.vm) (eT : T.heap = h) (V : Arv Z h a k (.array .int) z vs dv) (hj : ¬ j < 0 ∧ j < z) (i : Nat) (hi : j.toNatClampNeg = i) (hl : i < vs.length) {y : Addr} (O : OvrA Z k .int "[I") (I : Ins Z h y "[I" true) (hd : decode bytes pc = .ok (.aastore, 1)) (hq : pc + 1 = q)
    (hr : ∀ T' h', Stand p l e R s m args below meth c T' (locs ++ [⟨a, j.toNatClampNeg⟩]) cells slots → T'.heap = h' → Wr h h' a j.toNatClampNeg (.ref y) → Arv Z h' a k (.array .int) z (vs.set i (.ref y)) dv → own_Out p e below P (T'.setTop (mkF m q ls st))) : own_Out p e below P (T.setTop (mkF m pc ls (.ref y :: .int j :: .ref a :: st))) := by
  obtain ⟨cl, A, q1, S, N, H, G⟩ := V
  subst hq
  obtain ⟨T', h', X', e', W', t⟩ := stR X hx hZ eT A (inb_of S hj) rfl (Sto.ofVA A q1 O I) (g := mkF m pc ls (.ref y :: .int j :: .ref a :: st)) rfl rfl (hb hby hd)
  exact own_of t (hr T' h' X' e' W' (Arv.set A q1 S N H G rfl W' i hi hl))
end Short
end Jvm.RoadKit
namespace Jvm.Pilot.@@N@@
open Jvm Jvm.ClassFile Sem Op Lib Jvm.Free Jvm.Stand Jvm.LawKit Jvm.RoadKit Bundle Jvm.Pilot.@@N@@.Jvm.D
theorem w_ {a0 : Array Value} {Z : State} (hw : ∀ d ∈ tables_1, d.before a0 Z = true) (i : Nat) {d : Jvm.Cond} (h : tables_1[i]? = some d) : d.before a0 Z = true := hw _ (List.mem_of_getElem? h)
theorem d1_0 : decode jdk_29_method_65_code 0 = .ok (.iload_n 0, 1) := by decide +kernel
theorem d1_1 : decode jdk_29_method_65_code 1 = .ok (.iload_n 1, 1) := by decide +kernel
theorem d1_2 : decode jdk_29_method_65_code 2 = .ok (.if_icmp .lt 7, 3) := by decide +kernel
theorem d1_5 : decode jdk_29_method_65_code 5 = .ok (.iload_n 0, 1) := by decide +kernel
theorem d1_6 : decode jdk_29_method_65_code 6 = .ok (.goto 4, 3) := by decide +kernel
theorem d1_9 : decode jdk_29_method_65_code 9 = .ok (.iload_n 1, 1) := by decide +kernel
theorem d1_10 : decode jdk_29_method_65_code 10 = .ok (.ireturn, 1) := by decide +kernel
theorem ef_1 (m : MethodId) (x0 : Int32) (x1 : Int32) : entryFrame m #[(.int x0), (.int x1)] 2 = mkF m 0 #[.val (.int x0), .val (.int x1)] [] := by first | (simp [entryFrame, mkF, argsToLocals, Value.category]; done) | rfl
def fmax (p0 : Int32) (p1 : Int32) : Int32 := if p0 < p1 then p1
  else p0
def Q1 (Z : State) (p0 : Int32) (p1 : Int32) (h0 : Heap) (n0 : Nat) (v : Option Value) (h : Heap) (L : List Loc) : Prop := v = some (.int (fmax p0 p1)) ∧ Fr n0 L ∧ h = h0
set_option maxRecDepth 65536 in
set_option maxHeartbeats 40000000 in
theorem rm1 (l : Launch) (Z : State) (a0 : Array Value) (hw : ∀ d ∈ tables_1, d.before a0 Z = true) (ws : List Jvm.Cond) (p0 : Int32) (p1 : Int32) (h0 : Heap) (n0 : Nat) (Z0 : n0 ≤ h0.size) :
    MetFree l (⟨"java/lang/Math", "max", "(II)I"⟩ : MethodName) (head1 (Jvm.Cond.code (⟨"java/lang/Math", "max", "(II)I"⟩ : MethodName) jdk_29_method_65_code 2 (some .int) :: ws) ({ frames := 0, cells := 0, slots := 0, locals := 0 } : Room)) (fun a U => a = #[(.int p0), (.int p1)] ∧ Z.Warmed39 U.vm ∧ U.heap = h0) (fun _ _ _ _ _ => True) (fun _ U o U' => ∃ v L, o = .returned v ∧ Q1 Z p0 p1 h0 n0 v U'.heap L ∧ FrameEnd U o U' L ({ frames := 0, cells := 0, slots := 0, locals := 0 } : Room).cells ({ frames := 0, cells := 0, slots := 0, locals := 0 } : Room).slots) := by
  refine MetFree.of_bodySF (Jvm.Free.JP.mathPlain rfl (by decide +kernel)) hisR ?_
  intro p e s m args below meth c s₁ Bd hml0 hP hK
  obtain ⟨rfl, hZ, hh⟩ := hP
  have hx := Bd.exec
  have hby := Bd.bytes
  have hml : c.maxLocals = 2 := hml0
  have hown : s.vm.findClass "java/lang/Math" = some m.cls := findClass_of_methodNamed Bd.named
  have hnm := (name_of_methodNamed Bd.named Bd.method).1
  have X0 : Stand p l e ({ frames := 0, cells := 0, slots := 0, locals := 0 } : Room) s m #[(.int p0), (.int p1)] below meth c s₁ [] 0 0 := Stand.of_body Bd
  have e0 : s₁.heap = h0 := by rw [← hh, Bd.state]; rfl
  have N0 := Fr.nil n0
  have hret := Bd.returns
  have hlk := BodyLoose.notSynchronized Bd
  show own_Out p e below (fun o U' => ∃ v L, o = .returned v ∧ Q1 Z p0 p1 h0 n0 v U'.heap L ∧ FrameEnd s o U' L ({ frames := 0, cells := 0, slots := 0, locals := 0 } : Room).cells ({ frames := 0, cells := 0, slots := 0, locals := 0 } : Room).slots) (s₁.setTop (entryFrame m #[(.int p0), (.int p1)] 2))
  refine own_of (fun t k => castTop (ef_1 m p0 p1) k) ?_
  show own_Out p e below _ (s₁.setTop (mkF m 0 #[iv p0, iv p1] []))
  refine o_iloadN X0 hx hby d1_0 rfl (q := 1) rfl ?_
  refine o_iloadN X0 hx hby d1_1 rfl (q := 2) rfl ?_
  by_cases hc2_1 : p0 < p1
  · skip
    refine o_icY X0 hx hby d1_2 (tlt hc2_1).1 (by decide) (q := 9) (by decide) ?_
    refine o_iloadN X0 hx hby d1_9 rfl (q := 10) rfl ?_
    exact own_outI X0 hx hlk hret (hb hby d1_10) (Q := Q1 Z p0 p1 h0 n0) ⟨by simp only [fmax, if_pos hc2_1], N0, e0⟩ (by decide) (by decide)
  · skip
    refine o_icN X0 hx hby d1_2 (flt hc2_1).1 (q := 5) rfl ?_
    refine o_iloadN X0 hx hby d1_5 rfl (q := 6) rfl ?_
    refine o_goto X0 hx hby d1_6 (by decide) (q := 10) (by decide) ?_
    exact own_outI X0 hx hlk hret (hb hby d1_10) (Q := Q1 Z p0 p1 h0 n0) ⟨by simp only [fmax, if_neg hc2_1], N0, e0⟩ (by decide) (by decide)
theorem d2_0 : decode method_3_code 0 = .ok (.iconst 1, 1) := by decide +kernel
theorem d2_1 : decode method_3_code 1 = .ok (.istore 5, 2) := by decide +kernel
theorem d2_3 : decode method_3_code 3 = .ok (.iload_n 0, 1) := by decide +kernel
theorem d2_4 : decode method_3_code 4 = .ok (.iconst 2, 1) := by decide +kernel
theorem d2_5 : decode method_3_code 5 = .ok (.if_icmp .lt 11, 3) := by decide +kernel
theorem d2_8 : decode method_3_code 8 = .ok (.iload_n 1, 1) := by decide +kernel
theorem d2_9 : decode method_3_code 9 = .ok (.iload_n 2, 1) := by decide +kernel
theorem d2_10 : decode method_3_code 10 = .ok (.if_icmp .ne 6, 3) := by decide +kernel
theorem d2_13 : decode method_3_code 13 = .ok (.iconst 0, 1) := by decide +kernel
theorem d2_14 : decode method_3_code 14 = .ok (.istore 5, 2) := by decide +kernel
theorem d2_16 : decode method_3_code 16 = .ok (.iload_n 0, 1) := by decide +kernel
theorem d2_17 : decode method_3_code 17 = .ok (.iconst 3, 1) := by decide +kernel
theorem d2_18 : decode method_3_code 18 = .ok (.if_icmp .lt 16, 3) := by decide +kernel
theorem d2_21 : decode method_3_code 21 = .ok (.iload_n 1, 1) := by decide +kernel
theorem d2_22 : decode method_3_code 22 = .ok (.iload_n 3, 1) := by decide +kernel
theorem d2_23 : decode method_3_code 23 = .ok (.if_icmp .eq 8, 3) := by decide +kernel
theorem d2_26 : decode method_3_code 26 = .ok (.iload_n 2, 1) := by decide +kernel
theorem d2_27 : decode method_3_code 27 = .ok (.iload_n 3, 1) := by decide +kernel
theorem d2_28 : decode method_3_code 28 = .ok (.if_icmp .ne 6, 3) := by decide +kernel
theorem d2_31 : decode method_3_code 31 = .ok (.iconst 0, 1) := by decide +kernel
theorem d2_32 : decode method_3_code 32 = .ok (.istore 5, 2) := by decide +kernel
theorem d2_34 : decode method_3_code 34 = .ok (.iload_n 0, 1) := by decide +kernel
theorem d2_35 : decode method_3_code 35 = .ok (.iconst 4, 1) := by decide +kernel
theorem d2_36 : decode method_3_code 36 = .ok (.if_icmp .lt 24, 3) := by decide +kernel
theorem d2_39 : decode method_3_code 39 = .ok (.iload_n 1, 1) := by decide +kernel
theorem d2_40 : decode method_3_code 40 = .ok (.iload 4, 2) := by decide +kernel
theorem d2_42 : decode method_3_code 42 = .ok (.if_icmp .eq 15, 3) := by decide +kernel
theorem d2_45 : decode method_3_code 45 = .ok (.iload_n 2, 1) := by decide +kernel
theorem d2_46 : decode method_3_code 46 = .ok (.iload 4, 2) := by decide +kernel
theorem d2_48 : decode method_3_code 48 = .ok (.if_icmp .eq 9, 3) := by decide +kernel
theorem d2_51 : decode method_3_code 51 = .ok (.iload_n 3, 1) := by decide +kernel
theorem d2_52 : decode method_3_code 52 = .ok (.iload 4, 2) := by decide +kernel
theorem d2_54 : decode method_3_code 54 = .ok (.if_icmp .ne 6, 3) := by decide +kernel
theorem d2_57 : decode method_3_code 57 = .ok (.iconst 0, 1) := by decide +kernel
theorem d2_58 : decode method_3_code 58 = .ok (.istore 5, 2) := by decide +kernel
theorem d2_60 : decode method_3_code 60 = .ok (.iload 5, 2) := by decide +kernel
theorem d2_62 : decode method_3_code 62 = .ok (.ireturn, 1) := by decide +kernel
theorem pn_0 : plainName "com/example/slimc/slimc/game/ObservationSeparatesAllPinLaw" = true := by first | (simp [plainName, overriddenIn]; done) | decide +kernel
theorem ef_2 (m : MethodId) (x0 : Int32) (x1 : Int32) (x2 : Int32) (x3 : Int32) (x4 : Int32) : entryFrame m #[(.int x0), (.int x1), (.int x2), (.int x3), (.int x4)] 6 = mkF m 0 #[.val (.int x0), .val (.int x1), .val (.int x2), .val (.int x3), .val (.int x4), .unset] [] := by first | (simp [entryFrame, mkF, argsToLocals, Value.category]; done) | rfl
def fad (p0 : Int32) (p1 : Int32) (p2 : Int32) (p3 : Int32) (p4 : Int32) : Int32 := if p0 < (2 : Int32) then (1 : Int32)
  else if p1 = p2 then (if p0 < (3 : Int32) then (0 : Int32)
      else if p1 = p3 then (if p0 < (4 : Int32) then (0 : Int32)
          else if p1 = p4 then (0 : Int32)
            else if p2 = p4 then (0 : Int32)
              else if p3 = p4 then (0 : Int32)
                else (0 : Int32))
        else if p2 = p3 then (if p0 < (4 : Int32) then (0 : Int32)
            else if p1 = p4 then (0 : Int32)
              else if p2 = p4 then (0 : Int32)
                else if p3 = p4 then (0 : Int32)
                  else (0 : Int32))
          else if p0 < (4 : Int32) then (0 : Int32)
            else if p1 = p4 then (0 : Int32)
              else if p2 = p4 then (0 : Int32)
                else if p3 = p4 then (0 : Int32)
                  else (0 : Int32))
    else if p0 < (3 : Int32) then (1 : Int32)
      else if p1 = p3 then (if p0 < (4 : Int32) then (0 : Int32)
          else if p1 = p4 then (0 : Int32)
            else if p2 = p4 then (0 : Int32)
              else if p3 = p4 then (0 : Int32)
                else (0 : Int32))
        else if p2 = p3 then (if p0 < (4 : Int32) then (0 : Int32)
            else if p1 = p4 then (0 : Int32)
              else if p2 = p4 then (0 : Int32)
                else if p3 = p4 then (0 : Int32)
                  else (0 : Int32))
          else if p0 < (4 : Int32) then (1 : Int32)
            else if p1 = p4 then (0 : Int32)
              else if p2 = p4 then (0 : Int32)
                else if p3 = p4 then (0 : Int32)
                  else (1 : Int32)
def Q2 (Z : State) (p0 : Int32) (p1 : Int32) (p2 : Int32) (p3 : Int32) (p4 : Int32) (h0 : Heap) (n0 : Nat) (v : Option Value) (h : Heap) (L : List Loc) : Prop := v = some (.int (fad p0 p1 p2 p3 p4)) ∧ Fr n0 L ∧ h = h0
set_option maxRecDepth 65536 in
set_option maxHeartbeats 40000000 in
theorem rm2 (l : Launch) (Z : State) (a0 : Array Value) (hw : ∀ d ∈ tables_1, d.before a0 Z = true) (ws : List Jvm.Cond) (p0 : Int32) (p1 : Int32) (p2 : Int32) (p3 : Int32) (p4 : Int32) (h0 : Heap) (n0 : Nat) (Z0 : n0 ≤ h0.size) :
    MetFree l (⟨"com/example/slimc/slimc/game/ObservationSeparatesAllPinLaw", "allDistinct", "(IIIII)Z"⟩ : MethodName) (head1 (Jvm.Cond.code (⟨"com/example/slimc/slimc/game/ObservationSeparatesAllPinLaw", "allDistinct", "(IIIII)Z"⟩ : MethodName) method_3_code 6 (some .boolean) :: ws) ({ frames := 0, cells := 0, slots := 0, locals := 0 } : Room)) (fun a U => a = #[(.int p0), (.int p1), (.int p2), (.int p3), (.int p4)] ∧ Z.Warmed39 U.vm ∧ U.heap = h0) (fun _ _ _ _ _ => True) (fun _ U o U' => ∃ v L, o = .returned v ∧ Q2 Z p0 p1 p2 p3 p4 h0 n0 v U'.heap L ∧ FrameEnd U o U' L ({ frames := 0, cells := 0, slots := 0, locals := 0 } : Room).cells ({ frames := 0, cells := 0, slots := 0, locals := 0 } : Room).slots) := by
  refine MetFree.of_bodySF (plainFor_of_name pn_0) hisR ?_
  intro p e s m args below meth c s₁ Bd hml0 hP hK
  obtain ⟨rfl, hZ, hh⟩ := hP
  have hx := Bd.exec
  have hby := Bd.bytes
  have hml : c.maxLocals = 6 := hml0
  have hown : s.vm.findClass "com/example/slimc/slimc/game/ObservationSeparatesAllPinLaw" = some m.cls := findClass_of_methodNamed Bd.named
  have hnm := (name_of_methodNamed Bd.named Bd.method).1
  have X0 : Stand p l e ({ frames := 0, cells := 0, slots := 0, locals := 0 } : Room) s m #[(.int p0), (.int p1), (.int p2), (.int p3), (.int p4)] below meth c s₁ [] 0 0 := Stand.of_body Bd
  have e0 : s₁.heap = h0 := by rw [← hh, Bd.state]; rfl
  have N0 := Fr.nil n0
  have hret := Bd.returns
  have hlk := BodyLoose.notSynchronized Bd
  show own_Out p e below (fun o U' => ∃ v L, o = .returned v ∧ Q2 Z p0 p1 p2 p3 p4 h0 n0 v U'.heap L ∧ FrameEnd s o U' L ({ frames := 0, cells := 0, slots := 0, locals := 0 } : Room).cells ({ frames := 0, cells := 0, slots := 0, locals := 0 } : Room).slots) (s₁.setTop (entryFrame m #[(.int p0), (.int p1), (.int p2), (.int p3), (.int p4)] 6))
  refine own_of (fun t k => castTop (ef_2 m p0 p1 p2 p3 p4) k) ?_
  show own_Out p e below _ (s₁.setTop (mkF m 0 #[iv p0, iv p1, iv p2, iv p3, iv p4, .unset] []))
  refine o_iconst X0 hx hby d2_0 (z := 1) rfl (q := 1) rfl ?_
  refine o_istore X0 hx hby d2_1 (l' := #[iv p0, iv p1, iv p2, iv p3, iv p4, iv 1]) rfl (q := 3) rfl ?_
  refine o_iloadN X0 hx hby d2_3 rfl (q := 4) rfl ?_
  refine o_iconst X0 hx hby d2_4 (z := 2) rfl (q := 5) rfl ?_
  by_cases hc5_1 : p0 < (2 : Int32)
  · skip
    refine o_icY X0 hx hby d2_5 (tlt hc5_1).1 (by decide) (q := 16) (by decide) ?_
    refine o_iloadN X0 hx hby d2_16 rfl (q := 17) rfl ?_
    refine o_iconst X0 hx hby d2_17 (z := 3) rfl (q := 18) rfl ?_
    refine o_icY X0 hx hby d2_18 (tlt (own_T1 (own_U1 hc5_1) (by decide) : p0 < (3 : Int32))).1 (by decide) (q := 34) (by decide) ?_
    refine o_iloadN X0 hx hby d2_34 rfl (q := 35) rfl ?_
    refine o_iconst X0 hx hby d2_35 (z := 4) rfl (q := 36) rfl ?_
    refine o_icY X0 hx hby d2_36 (tlt (own_T1 (own_U1 hc5_1) (by decide) : p0 < (4 : Int32))).1 (by decide) (q := 60) (by decide) ?_
    refine o_iload X0 hx hby d2_60 rfl (q := 62) rfl ?_
    exact own_outN X0 hx hlk (t := .boolean) hret (by simp) (hb hby d2_62) (z' := (1 : Int32)) rfl (Q := Q2 Z p0 p1 p2 p3 p4 h0 n0) ⟨by simp only [fad, if_pos hc5_1], N0, e0⟩ (by decide) (by decide)
  · skip
    refine o_icN X0 hx hby d2_5 (flt hc5_1).1 (q := 8) rfl ?_
    refine o_iloadN X0 hx hby d2_8 rfl (q := 9) rfl ?_
    refine o_iloadN X0 hx hby d2_9 rfl (q := 10) rfl ?_
    by_cases hc10_2 : p1 = p2
    · skip
      refine o_icN X0 hx hby d2_10 (teq hc10_2).2 (q := 13) rfl ?_
      refine o_iconst X0 hx hby d2_13 (z := 0) rfl (q := 14) rfl ?_
      refine o_istore X0 hx hby d2_14 (l' := #[iv p0, iv p1, iv p2, iv p3, iv p4, iv 0]) rfl (q := 16) rfl ?_
      refine o_iloadN X0 hx hby d2_16 rfl (q := 17) rfl ?_
      refine o_iconst X0 hx hby d2_17 (z := 3) rfl (q := 18) rfl ?_
      by_cases hc18_3 : p0 < (3 : Int32)
      · skip
        refine o_icY X0 hx hby d2_18 (tlt hc18_3).1 (by decide) (q := 34) (by decide) ?_
        refine o_iloadN X0 hx hby d2_34 rfl (q := 35) rfl ?_
        refine o_iconst X0 hx hby d2_35 (z := 4) rfl (q := 36) rfl ?_
        refine o_icY X0 hx hby d2_36 (tlt (own_T1 (own_U1 hc18_3) (by decide) : p0 < (4 : Int32))).1 (by decide) (q := 60) (by decide) ?_
        refine o_iload X0 hx hby d2_60 rfl (q := 62) rfl ?_
        exact own_outN X0 hx hlk (t := .boolean) hret (by simp) (hb hby d2_62) (z' := (0 : Int32)) rfl (Q := Q2 Z p0 p1 p2 p3 p4 h0 n0) ⟨by simp only [fad, if_neg hc5_1, if_pos hc10_2, if_pos hc18_3], N0, e0⟩ (by decide) (by decide)
      · skip
        refine o_icN X0 hx hby d2_18 (flt hc18_3).1 (q := 21) rfl ?_
        refine o_iloadN X0 hx hby d2_21 rfl (q := 22) rfl ?_
        refine o_iloadN X0 hx hby d2_22 rfl (q := 23) rfl ?_
        by_cases hc23_4 : p1 = p3
        · skip
          refine o_icY X0 hx hby d2_23 (teq hc23_4).1 (by decide) (q := 31) (by decide) ?_
          refine o_iconst X0 hx hby d2_31 (z := 0) rfl (q := 32) rfl ?_
          refine o_istore X0 hx hby d2_32 (l' := #[iv p0, iv p1, iv p2, iv p3, iv p4, iv 0]) rfl (q := 34) rfl ?_
          refine o_iloadN X0 hx hby d2_34 rfl (q := 35) rfl ?_
          refine o_iconst X0 hx hby d2_35 (z := 4) rfl (q := 36) rfl ?_
          by_cases hc36_5 : p0 < (4 : Int32)
          · skip
            refine o_icY X0 hx hby d2_36 (tlt hc36_5).1 (by decide) (q := 60) (by decide) ?_
            refine o_iload X0 hx hby d2_60 rfl (q := 62) rfl ?_
            exact own_outN X0 hx hlk (t := .boolean) hret (by simp) (hb hby d2_62) (z' := (0 : Int32)) rfl (Q := Q2 Z p0 p1 p2 p3 p4 h0 n0) ⟨by simp only [fad, if_neg hc5_1, if_pos hc10_2, if_neg hc18_3, if_pos hc23_4, if_pos hc36_5], N0, e0⟩ (by decide) (by decide)
          · skip
            refine o_icN X0 hx hby d2_36 (flt hc36_5).1 (q := 39) rfl ?_
            refine o_iloadN X0 hx hby d2_39 rfl (q := 40) rfl ?_
            refine o_iload X0 hx hby d2_40 rfl (q := 42) rfl ?_
            by_cases hc42_6 : p1 = p4
            · skip
              refine o_icY X0 hx hby d2_42 (teq hc42_6).1 (by decide) (q := 57) (by decide) ?_
              refine o_iconst X0 hx hby d2_57 (z := 0) rfl (q := 58) rfl ?_
              refine o_istore X0 hx hby d2_58 (l' := #[iv p0, iv p1, iv p2, iv p3, iv p4, iv 0]) rfl (q := 60) rfl ?_
              refine o_iload X0 hx hby d2_60 rfl (q := 62) rfl ?_
              exact own_outN X0 hx hlk (t := .boolean) hret (by simp) (hb hby d2_62) (z' := (0 : Int32)) rfl (Q := Q2 Z p0 p1 p2 p3 p4 h0 n0) ⟨by simp only [fad, if_neg hc5_1, if_pos hc10_2, if_neg hc18_3, if_pos hc23_4, if_neg hc36_5, if_pos hc42_6], N0, e0⟩ (by decide) (by decide)
            · skip
              refine o_icN X0 hx hby d2_42 (feq hc42_6).1 (q := 45) rfl ?_
              refine o_iloadN X0 hx hby d2_45 rfl (q := 46) rfl ?_
              refine o_iload X0 hx hby d2_46 rfl (q := 48) rfl ?_
              by_cases hc48_7 : p2 = p4
              · skip
                refine o_icY X0 hx hby d2_48 (teq hc48_7).1 (by decide) (q := 57) (by decide) ?_
                refine o_iconst X0 hx hby d2_57 (z := 0) rfl (q := 58) rfl ?_
                refine o_istore X0 hx hby d2_58 (l' := #[iv p0, iv p1, iv p2, iv p3, iv p4, iv 0]) rfl (q := 60) rfl ?_
                refine o_iload X0 hx hby d2_60 rfl (q := 62) rfl ?_
                exact own_outN X0 hx hlk (t := .boolean) hret (by simp) (hb hby d2_62) (z' := (0 : Int32)) rfl (Q := Q2 Z p0 p1 p2 p3 p4 h0 n0) ⟨by simp only [fad, if_neg hc5_1, if_pos hc10_2, if_neg hc18_3, if_pos hc23_4, if_neg hc36_5, if_neg hc42_6, if_pos hc48_7], N0, e0⟩ (by decide) (by decide)
              · skip
                refine o_icN X0 hx hby d2_48 (feq hc48_7).1 (q := 51) rfl ?_
                refine o_iloadN X0 hx hby d2_51 rfl (q := 52) rfl ?_
                refine o_iload X0 hx hby d2_52 rfl (q := 54) rfl ?_
                by_cases hc54_8 : p3 = p4
                · skip
                  refine o_icN X0 hx hby d2_54 (teq hc54_8).2 (q := 57) rfl ?_
                  refine o_iconst X0 hx hby d2_57 (z := 0) rfl (q := 58) rfl ?_
                  refine o_istore X0 hx hby d2_58 (l' := #[iv p0, iv p1, iv p2, iv p3, iv p4, iv 0]) rfl (q := 60) rfl ?_
                  refine o_iload X0 hx hby d2_60 rfl (q := 62) rfl ?_
                  exact own_outN X0 hx hlk (t := .boolean) hret (by simp) (hb hby d2_62) (z' := (0 : Int32)) rfl (Q := Q2 Z p0 p1 p2 p3 p4 h0 n0) ⟨by simp only [fad, if_neg hc5_1, if_pos hc10_2, if_neg hc18_3, if_pos hc23_4, if_neg hc36_5, if_neg hc42_6, if_neg hc48_7, if_pos hc54_8], N0, e0⟩ (by decide) (by decide)
                · skip
                  refine o_icY X0 hx hby d2_54 (feq hc54_8).2 (by decide) (q := 60) (by decide) ?_
                  refine o_iload X0 hx hby d2_60 rfl (q := 62) rfl ?_
                  exact own_outN X0 hx hlk (t := .boolean) hret (by simp) (hb hby d2_62) (z' := (0 : Int32)) rfl (Q := Q2 Z p0 p1 p2 p3 p4 h0 n0) ⟨by simp only [fad, if_neg hc5_1, if_pos hc10_2, if_neg hc18_3, if_pos hc23_4, if_neg hc36_5, if_neg hc42_6, if_neg hc48_7, if_neg hc54_8], N0, e0⟩ (by decide) (by decide)
        · skip
          refine o_icN X0 hx hby d2_23 (feq hc23_4).1 (q := 26) rfl ?_
          refine o_iloadN X0 hx hby d2_26 rfl (q := 27) rfl ?_
          refine o_iloadN X0 hx hby d2_27 rfl (q := 28) rfl ?_
          by_cases hc28_9 : p2 = p3
          · skip
            refine o_icN X0 hx hby d2_28 (teq hc28_9).2 (q := 31) rfl ?_
            refine o_iconst X0 hx hby d2_31 (z := 0) rfl (q := 32) rfl ?_
            refine o_istore X0 hx hby d2_32 (l' := #[iv p0, iv p1, iv p2, iv p3, iv p4, iv 0]) rfl (q := 34) rfl ?_
            refine o_iloadN X0 hx hby d2_34 rfl (q := 35) rfl ?_
            refine o_iconst X0 hx hby d2_35 (z := 4) rfl (q := 36) rfl ?_
            by_cases hc36_10 : p0 < (4 : Int32)
            · skip
              refine o_icY X0 hx hby d2_36 (tlt hc36_10).1 (by decide) (q := 60) (by decide) ?_
              refine o_iload X0 hx hby d2_60 rfl (q := 62) rfl ?_
              exact own_outN X0 hx hlk (t := .boolean) hret (by simp) (hb hby d2_62) (z' := (0 : Int32)) rfl (Q := Q2 Z p0 p1 p2 p3 p4 h0 n0) ⟨by simp only [fad, if_neg hc5_1, if_pos hc10_2, if_neg hc18_3, if_neg hc23_4, if_pos hc28_9, if_pos hc36_10], N0, e0⟩ (by decide) (by decide)
            · skip
              refine o_icN X0 hx hby d2_36 (flt hc36_10).1 (q := 39) rfl ?_
              refine o_iloadN X0 hx hby d2_39 rfl (q := 40) rfl ?_
              refine o_iload X0 hx hby d2_40 rfl (q := 42) rfl ?_
              by_cases hc42_11 : p1 = p4
              · skip
                refine o_icY X0 hx hby d2_42 (teq hc42_11).1 (by decide) (q := 57) (by decide) ?_
                refine o_iconst X0 hx hby d2_57 (z := 0) rfl (q := 58) rfl ?_
                refine o_istore X0 hx hby d2_58 (l' := #[iv p0, iv p1, iv p2, iv p3, iv p4, iv 0]) rfl (q := 60) rfl ?_
                refine o_iload X0 hx hby d2_60 rfl (q := 62) rfl ?_
                exact own_outN X0 hx hlk (t := .boolean) hret (by simp) (hb hby d2_62) (z' := (0 : Int32)) rfl (Q := Q2 Z p0 p1 p2 p3 p4 h0 n0) ⟨by simp only [fad, if_neg hc5_1, if_pos hc10_2, if_neg hc18_3, if_neg hc23_4, if_pos hc28_9, if_neg hc36_10, if_pos hc42_11], N0, e0⟩ (by decide) (by decide)
              · skip
                refine o_icN X0 hx hby d2_42 (feq hc42_11).1 (q := 45) rfl ?_
                refine o_iloadN X0 hx hby d2_45 rfl (q := 46) rfl ?_
                refine o_iload X0 hx hby d2_46 rfl (q := 48) rfl ?_
                by_cases hc48_12 : p2 = p4
                · skip
                  refine o_icY X0 hx hby d2_48 (teq hc48_12).1 (by decide) (q := 57) (by decide) ?_
                  refine o_iconst X0 hx hby d2_57 (z := 0) rfl (q := 58) rfl ?_
                  refine o_istore X0 hx hby d2_58 (l' := #[iv p0, iv p1, iv p2, iv p3, iv p4, iv 0]) rfl (q := 60) rfl ?_
                  refine o_iload X0 hx hby d2_60 rfl (q := 62) rfl ?_
                  exact own_outN X0 hx hlk (t := .boolean) hret (by simp) (hb hby d2_62) (z' := (0 : Int32)) rfl (Q := Q2 Z p0 p1 p2 p3 p4 h0 n0) ⟨by simp only [fad, if_neg hc5_1, if_pos hc10_2, if_neg hc18_3, if_neg hc23_4, if_pos hc28_9, if_neg hc36_10, if_neg hc42_11, if_pos hc48_12], N0, e0⟩ (by decide) (by decide)
                · skip
                  refine o_icN X0 hx hby d2_48 (feq hc48_12).1 (q := 51) rfl ?_
                  refine o_iloadN X0 hx hby d2_51 rfl (q := 52) rfl ?_
                  refine o_iload X0 hx hby d2_52 rfl (q := 54) rfl ?_
                  by_cases hc54_13 : p3 = p4
                  · skip
                    refine o_icN X0 hx hby d2_54 (teq hc54_13).2 (q := 57) rfl ?_
                    refine o_iconst X0 hx hby d2_57 (z := 0) rfl (q := 58) rfl ?_
                    refine o_istore X0 hx hby d2_58 (l' := #[iv p0, iv p1, iv p2, iv p3, iv p4, iv 0]) rfl (q := 60) rfl ?_
                    refine o_iload X0 hx hby d2_60 rfl (q := 62) rfl ?_
                    exact own_outN X0 hx hlk (t := .boolean) hret (by simp) (hb hby d2_62) (z' := (0 : Int32)) rfl (Q := Q2 Z p0 p1 p2 p3 p4 h0 n0) ⟨by simp only [fad, if_neg hc5_1, if_pos hc10_2, if_neg hc18_3, if_neg hc23_4, if_pos hc28_9, if_neg hc36_10, if_neg hc42_11, if_neg hc48_12, if_pos hc54_13], N0, e0⟩ (by decide) (by decide)
                  · skip
                    refine o_icY X0 hx hby d2_54 (feq hc54_13).2 (by decide) (q := 60) (by decide) ?_
                    refine o_iload X0 hx hby d2_60 rfl (q := 62) rfl ?_
                    exact own_outN X0 hx hlk (t := .boolean) hret (by simp) (hb hby d2_62) (z' := (0 : Int32)) rfl (Q := Q2 Z p0 p1 p2 p3 p4 h0 n0) ⟨by simp only [fad, if_neg hc5_1, if_pos hc10_2, if_neg hc18_3, if_neg hc23_4, if_pos hc28_9, if_neg hc36_10, if_neg hc42_11, if_neg hc48_12, if_neg hc54_13], N0, e0⟩ (by decide) (by decide)
          · skip
            refine o_icY X0 hx hby d2_28 (feq hc28_9).2 (by decide) (q := 34) (by decide) ?_
            refine o_iloadN X0 hx hby d2_34 rfl (q := 35) rfl ?_
            refine o_iconst X0 hx hby d2_35 (z := 4) rfl (q := 36) rfl ?_
            by_cases hc36_14 : p0 < (4 : Int32)
            · skip
              refine o_icY X0 hx hby d2_36 (tlt hc36_14).1 (by decide) (q := 60) (by decide) ?_
              refine o_iload X0 hx hby d2_60 rfl (q := 62) rfl ?_
              exact own_outN X0 hx hlk (t := .boolean) hret (by simp) (hb hby d2_62) (z' := (0 : Int32)) rfl (Q := Q2 Z p0 p1 p2 p3 p4 h0 n0) ⟨by simp only [fad, if_neg hc5_1, if_pos hc10_2, if_neg hc18_3, if_neg hc23_4, if_neg hc28_9, if_pos hc36_14], N0, e0⟩ (by decide) (by decide)
            · skip
              refine o_icN X0 hx hby d2_36 (flt hc36_14).1 (q := 39) rfl ?_
              refine o_iloadN X0 hx hby d2_39 rfl (q := 40) rfl ?_
              refine o_iload X0 hx hby d2_40 rfl (q := 42) rfl ?_
              by_cases hc42_15 : p1 = p4
              · skip
                refine o_icY X0 hx hby d2_42 (teq hc42_15).1 (by decide) (q := 57) (by decide) ?_
                refine o_iconst X0 hx hby d2_57 (z := 0) rfl (q := 58) rfl ?_
                refine o_istore X0 hx hby d2_58 (l' := #[iv p0, iv p1, iv p2, iv p3, iv p4, iv 0]) rfl (q := 60) rfl ?_
                refine o_iload X0 hx hby d2_60 rfl (q := 62) rfl ?_
                exact own_outN X0 hx hlk (t := .boolean) hret (by simp) (hb hby d2_62) (z' := (0 : Int32)) rfl (Q := Q2 Z p0 p1 p2 p3 p4 h0 n0) ⟨by simp only [fad, if_neg hc5_1, if_pos hc10_2, if_neg hc18_3, if_neg hc23_4, if_neg hc28_9, if_neg hc36_14, if_pos hc42_15], N0, e0⟩ (by decide) (by decide)
              · skip
                refine o_icN X0 hx hby d2_42 (feq hc42_15).1 (q := 45) rfl ?_
                refine o_iloadN X0 hx hby d2_45 rfl (q := 46) rfl ?_
                refine o_iload X0 hx hby d2_46 rfl (q := 48) rfl ?_
                by_cases hc48_16 : p2 = p4
                · skip
                  refine o_icY X0 hx hby d2_48 (teq hc48_16).1 (by decide) (q := 57) (by decide) ?_
                  refine o_iconst X0 hx hby d2_57 (z := 0) rfl (q := 58) rfl ?_
                  refine o_istore X0 hx hby d2_58 (l' := #[iv p0, iv p1, iv p2, iv p3, iv p4, iv 0]) rfl (q := 60) rfl ?_
                  refine o_iload X0 hx hby d2_60 rfl (q := 62) rfl ?_
                  exact own_outN X0 hx hlk (t := .boolean) hret (by simp) (hb hby d2_62) (z' := (0 : Int32)) rfl (Q := Q2 Z p0 p1 p2 p3 p4 h0 n0) ⟨by simp only [fad, if_neg hc5_1, if_pos hc10_2, if_neg hc18_3, if_neg hc23_4, if_neg hc28_9, if_neg hc36_14, if_neg hc42_15, if_pos hc48_16], N0, e0⟩ (by decide) (by decide)
                · skip
                  refine o_icN X0 hx hby d2_48 (feq hc48_16).1 (q := 51) rfl ?_
                  refine o_iloadN X0 hx hby d2_51 rfl (q := 52) rfl ?_
                  refine o_iload X0 hx hby d2_52 rfl (q := 54) rfl ?_
                  by_cases hc54_17 : p3 = p4
                  · skip
                    refine o_icN X0 hx hby d2_54 (teq hc54_17).2 (q := 57) rfl ?_
                    refine o_iconst X0 hx hby d2_57 (z := 0) rfl (q := 58) rfl ?_
                    refine o_istore X0 hx hby d2_58 (l' := #[iv p0, iv p1, iv p2, iv p3, iv p4, iv 0]) rfl (q := 60) rfl ?_
                    refine o_iload X0 hx hby d2_60 rfl (q := 62) rfl ?_
                    exact own_outN X0 hx hlk (t := .boolean) hret (by simp) (hb hby d2_62) (z' := (0 : Int32)) rfl (Q := Q2 Z p0 p1 p2 p3 p4 h0 n0) ⟨by simp only [fad, if_neg hc5_1, if_pos hc10_2, if_neg hc18_3, if_neg hc23_4, if_neg hc28_9, if_neg hc36_14, if_neg hc42_15, if_neg hc48_16, if_pos hc54_17], N0, e0⟩ (by decide) (by decide)
                  · skip
                    refine o_icY X0 hx hby d2_54 (feq hc54_17).2 (by decide) (q := 60) (by decide) ?_
                    refine o_iload X0 hx hby d2_60 rfl (q := 62) rfl ?_
                    exact own_outN X0 hx hlk (t := .boolean) hret (by simp) (hb hby d2_62) (z' := (0 : Int32)) rfl (Q := Q2 Z p0 p1 p2 p3 p4 h0 n0) ⟨by simp only [fad, if_neg hc5_1, if_pos hc10_2, if_neg hc18_3, if_neg hc23_4, if_neg hc28_9, if_neg hc36_14, if_neg hc42_15, if_neg hc48_16, if_neg hc54_17], N0, e0⟩ (by decide) (by decide)
    · skip
      refine o_icY X0 hx hby d2_10 (feq hc10_2).2 (by decide) (q := 16) (by decide) ?_
      refine o_iloadN X0 hx hby d2_16 rfl (q := 17) rfl ?_
      refine o_iconst X0 hx hby d2_17 (z := 3) rfl (q := 18) rfl ?_
      by_cases hc18_18 : p0 < (3 : Int32)
      · skip
        refine o_icY X0 hx hby d2_18 (tlt hc18_18).1 (by decide) (q := 34) (by decide) ?_
        refine o_iloadN X0 hx hby d2_34 rfl (q := 35) rfl ?_
        refine o_iconst X0 hx hby d2_35 (z := 4) rfl (q := 36) rfl ?_
        refine o_icY X0 hx hby d2_36 (tlt (own_T1 (own_U1 hc18_18) (by decide) : p0 < (4 : Int32))).1 (by decide) (q := 60) (by decide) ?_
        refine o_iload X0 hx hby d2_60 rfl (q := 62) rfl ?_
        exact own_outN X0 hx hlk (t := .boolean) hret (by simp) (hb hby d2_62) (z' := (1 : Int32)) rfl (Q := Q2 Z p0 p1 p2 p3 p4 h0 n0) ⟨by simp only [fad, if_neg hc5_1, if_neg hc10_2, if_pos hc18_18], N0, e0⟩ (by decide) (by decide)
      · skip
        refine o_icN X0 hx hby d2_18 (flt hc18_18).1 (q := 21) rfl ?_
        refine o_iloadN X0 hx hby d2_21 rfl (q := 22) rfl ?_
        refine o_iloadN X0 hx hby d2_22 rfl (q := 23) rfl ?_
        by_cases hc23_19 : p1 = p3
        · skip
          refine o_icY X0 hx hby d2_23 (teq hc23_19).1 (by decide) (q := 31) (by decide) ?_
          refine o_iconst X0 hx hby d2_31 (z := 0) rfl (q := 32) rfl ?_
          refine o_istore X0 hx hby d2_32 (l' := #[iv p0, iv p1, iv p2, iv p3, iv p4, iv 0]) rfl (q := 34) rfl ?_
          refine o_iloadN X0 hx hby d2_34 rfl (q := 35) rfl ?_
          refine o_iconst X0 hx hby d2_35 (z := 4) rfl (q := 36) rfl ?_
          by_cases hc36_20 : p0 < (4 : Int32)
          · skip
            refine o_icY X0 hx hby d2_36 (tlt hc36_20).1 (by decide) (q := 60) (by decide) ?_
            refine o_iload X0 hx hby d2_60 rfl (q := 62) rfl ?_
            exact own_outN X0 hx hlk (t := .boolean) hret (by simp) (hb hby d2_62) (z' := (0 : Int32)) rfl (Q := Q2 Z p0 p1 p2 p3 p4 h0 n0) ⟨by simp only [fad, if_neg hc5_1, if_neg hc10_2, if_neg hc18_18, if_pos hc23_19, if_pos hc36_20], N0, e0⟩ (by decide) (by decide)
          · skip
            refine o_icN X0 hx hby d2_36 (flt hc36_20).1 (q := 39) rfl ?_
            refine o_iloadN X0 hx hby d2_39 rfl (q := 40) rfl ?_
            refine o_iload X0 hx hby d2_40 rfl (q := 42) rfl ?_
            by_cases hc42_21 : p1 = p4
            · skip
              refine o_icY X0 hx hby d2_42 (teq hc42_21).1 (by decide) (q := 57) (by decide) ?_
              refine o_iconst X0 hx hby d2_57 (z := 0) rfl (q := 58) rfl ?_
              refine o_istore X0 hx hby d2_58 (l' := #[iv p0, iv p1, iv p2, iv p3, iv p4, iv 0]) rfl (q := 60) rfl ?_
              refine o_iload X0 hx hby d2_60 rfl (q := 62) rfl ?_
              exact own_outN X0 hx hlk (t := .boolean) hret (by simp) (hb hby d2_62) (z' := (0 : Int32)) rfl (Q := Q2 Z p0 p1 p2 p3 p4 h0 n0) ⟨by simp only [fad, if_neg hc5_1, if_neg hc10_2, if_neg hc18_18, if_pos hc23_19, if_neg hc36_20, if_pos hc42_21], N0, e0⟩ (by decide) (by decide)
            · skip
              refine o_icN X0 hx hby d2_42 (feq hc42_21).1 (q := 45) rfl ?_
              refine o_iloadN X0 hx hby d2_45 rfl (q := 46) rfl ?_
              refine o_iload X0 hx hby d2_46 rfl (q := 48) rfl ?_
              by_cases hc48_22 : p2 = p4
              · skip
                refine o_icY X0 hx hby d2_48 (teq hc48_22).1 (by decide) (q := 57) (by decide) ?_
                refine o_iconst X0 hx hby d2_57 (z := 0) rfl (q := 58) rfl ?_
                refine o_istore X0 hx hby d2_58 (l' := #[iv p0, iv p1, iv p2, iv p3, iv p4, iv 0]) rfl (q := 60) rfl ?_
                refine o_iload X0 hx hby d2_60 rfl (q := 62) rfl ?_
                exact own_outN X0 hx hlk (t := .boolean) hret (by simp) (hb hby d2_62) (z' := (0 : Int32)) rfl (Q := Q2 Z p0 p1 p2 p3 p4 h0 n0) ⟨by simp only [fad, if_neg hc5_1, if_neg hc10_2, if_neg hc18_18, if_pos hc23_19, if_neg hc36_20, if_neg hc42_21, if_pos hc48_22], N0, e0⟩ (by decide) (by decide)
              · skip
                refine o_icN X0 hx hby d2_48 (feq hc48_22).1 (q := 51) rfl ?_
                refine o_iloadN X0 hx hby d2_51 rfl (q := 52) rfl ?_
                refine o_iload X0 hx hby d2_52 rfl (q := 54) rfl ?_
                by_cases hc54_23 : p3 = p4
                · skip
                  refine o_icN X0 hx hby d2_54 (teq hc54_23).2 (q := 57) rfl ?_
                  refine o_iconst X0 hx hby d2_57 (z := 0) rfl (q := 58) rfl ?_
                  refine o_istore X0 hx hby d2_58 (l' := #[iv p0, iv p1, iv p2, iv p3, iv p4, iv 0]) rfl (q := 60) rfl ?_
                  refine o_iload X0 hx hby d2_60 rfl (q := 62) rfl ?_
                  exact own_outN X0 hx hlk (t := .boolean) hret (by simp) (hb hby d2_62) (z' := (0 : Int32)) rfl (Q := Q2 Z p0 p1 p2 p3 p4 h0 n0) ⟨by simp only [fad, if_neg hc5_1, if_neg hc10_2, if_neg hc18_18, if_pos hc23_19, if_neg hc36_20, if_neg hc42_21, if_neg hc48_22, if_pos hc54_23], N0, e0⟩ (by decide) (by decide)
                · skip
                  refine o_icY X0 hx hby d2_54 (feq hc54_23).2 (by decide) (q := 60) (by decide) ?_
                  refine o_iload X0 hx hby d2_60 rfl (q := 62) rfl ?_
                  exact own_outN X0 hx hlk (t := .boolean) hret (by simp) (hb hby d2_62) (z' := (0 : Int32)) rfl (Q := Q2 Z p0 p1 p2 p3 p4 h0 n0) ⟨by simp only [fad, if_neg hc5_1, if_neg hc10_2, if_neg hc18_18, if_pos hc23_19, if_neg hc36_20, if_neg hc42_21, if_neg hc48_22, if_neg hc54_23], N0, e0⟩ (by decide) (by decide)
        · skip
          refine o_icN X0 hx hby d2_23 (feq hc23_19).1 (q := 26) rfl ?_
          refine o_iloadN X0 hx hby d2_26 rfl (q := 27) rfl ?_
          refine o_iloadN X0 hx hby d2_27 rfl (q := 28) rfl ?_
          by_cases hc28_24 : p2 = p3
          · skip
            refine o_icN X0 hx hby d2_28 (teq hc28_24).2 (q := 31) rfl ?_
            refine o_iconst X0 hx hby d2_31 (z := 0) rfl (q := 32) rfl ?_
            refine o_istore X0 hx hby d2_32 (l' := #[iv p0, iv p1, iv p2, iv p3, iv p4, iv 0]) rfl (q := 34) rfl ?_
            refine o_iloadN X0 hx hby d2_34 rfl (q := 35) rfl ?_
            refine o_iconst X0 hx hby d2_35 (z := 4) rfl (q := 36) rfl ?_
            by_cases hc36_25 : p0 < (4 : Int32)
            · skip
              refine o_icY X0 hx hby d2_36 (tlt hc36_25).1 (by decide) (q := 60) (by decide) ?_
              refine o_iload X0 hx hby d2_60 rfl (q := 62) rfl ?_
              exact own_outN X0 hx hlk (t := .boolean) hret (by simp) (hb hby d2_62) (z' := (0 : Int32)) rfl (Q := Q2 Z p0 p1 p2 p3 p4 h0 n0) ⟨by simp only [fad, if_neg hc5_1, if_neg hc10_2, if_neg hc18_18, if_neg hc23_19, if_pos hc28_24, if_pos hc36_25], N0, e0⟩ (by decide) (by decide)
            · skip
              refine o_icN X0 hx hby d2_36 (flt hc36_25).1 (q := 39) rfl ?_
              refine o_iloadN X0 hx hby d2_39 rfl (q := 40) rfl ?_
              refine o_iload X0 hx hby d2_40 rfl (q := 42) rfl ?_
              by_cases hc42_26 : p1 = p4
              · skip
                refine o_icY X0 hx hby d2_42 (teq hc42_26).1 (by decide) (q := 57) (by decide) ?_
                refine o_iconst X0 hx hby d2_57 (z := 0) rfl (q := 58) rfl ?_
                refine o_istore X0 hx hby d2_58 (l' := #[iv p0, iv p1, iv p2, iv p3, iv p4, iv 0]) rfl (q := 60) rfl ?_
                refine o_iload X0 hx hby d2_60 rfl (q := 62) rfl ?_
                exact own_outN X0 hx hlk (t := .boolean) hret (by simp) (hb hby d2_62) (z' := (0 : Int32)) rfl (Q := Q2 Z p0 p1 p2 p3 p4 h0 n0) ⟨by simp only [fad, if_neg hc5_1, if_neg hc10_2, if_neg hc18_18, if_neg hc23_19, if_pos hc28_24, if_neg hc36_25, if_pos hc42_26], N0, e0⟩ (by decide) (by decide)
              · skip
                refine o_icN X0 hx hby d2_42 (feq hc42_26).1 (q := 45) rfl ?_
                refine o_iloadN X0 hx hby d2_45 rfl (q := 46) rfl ?_
                refine o_iload X0 hx hby d2_46 rfl (q := 48) rfl ?_
                by_cases hc48_27 : p2 = p4
                · skip
                  refine o_icY X0 hx hby d2_48 (teq hc48_27).1 (by decide) (q := 57) (by decide) ?_
                  refine o_iconst X0 hx hby d2_57 (z := 0) rfl (q := 58) rfl ?_
                  refine o_istore X0 hx hby d2_58 (l' := #[iv p0, iv p1, iv p2, iv p3, iv p4, iv 0]) rfl (q := 60) rfl ?_
                  refine o_iload X0 hx hby d2_60 rfl (q := 62) rfl ?_
                  exact own_outN X0 hx hlk (t := .boolean) hret (by simp) (hb hby d2_62) (z' := (0 : Int32)) rfl (Q := Q2 Z p0 p1 p2 p3 p4 h0 n0) ⟨by simp only [fad, if_neg hc5_1, if_neg hc10_2, if_neg hc18_18, if_neg hc23_19, if_pos hc28_24, if_neg hc36_25, if_neg hc42_26, if_pos hc48_27], N0, e0⟩ (by decide) (by decide)
                · skip
                  refine o_icN X0 hx hby d2_48 (feq hc48_27).1 (q := 51) rfl ?_
                  refine o_iloadN X0 hx hby d2_51 rfl (q := 52) rfl ?_
                  refine o_iload X0 hx hby d2_52 rfl (q := 54) rfl ?_
                  by_cases hc54_28 : p3 = p4
                  · skip
                    refine o_icN X0 hx hby d2_54 (teq hc54_28).2 (q := 57) rfl ?_
                    refine o_iconst X0 hx hby d2_57 (z := 0) rfl (q := 58) rfl ?_
                    refine o_istore X0 hx hby d2_58 (l' := #[iv p0, iv p1, iv p2, iv p3, iv p4, iv 0]) rfl (q := 60) rfl ?_
                    refine o_iload X0 hx hby d2_60 rfl (q := 62) rfl ?_
                    exact own_outN X0 hx hlk (t := .boolean) hret (by simp) (hb hby d2_62) (z' := (0 : Int32)) rfl (Q := Q2 Z p0 p1 p2 p3 p4 h0 n0) ⟨by simp only [fad, if_neg hc5_1, if_neg hc10_2, if_neg hc18_18, if_neg hc23_19, if_pos hc28_24, if_neg hc36_25, if_neg hc42_26, if_neg hc48_27, if_pos hc54_28], N0, e0⟩ (by decide) (by decide)
                  · skip
                    refine o_icY X0 hx hby d2_54 (feq hc54_28).2 (by decide) (q := 60) (by decide) ?_
                    refine o_iload X0 hx hby d2_60 rfl (q := 62) rfl ?_
                    exact own_outN X0 hx hlk (t := .boolean) hret (by simp) (hb hby d2_62) (z' := (0 : Int32)) rfl (Q := Q2 Z p0 p1 p2 p3 p4 h0 n0) ⟨by simp only [fad, if_neg hc5_1, if_neg hc10_2, if_neg hc18_18, if_neg hc23_19, if_pos hc28_24, if_neg hc36_25, if_neg hc42_26, if_neg hc48_27, if_neg hc54_28], N0, e0⟩ (by decide) (by decide)
          · skip
            refine o_icY X0 hx hby d2_28 (feq hc28_24).2 (by decide) (q := 34) (by decide) ?_
            refine o_iloadN X0 hx hby d2_34 rfl (q := 35) rfl ?_
            refine o_iconst X0 hx hby d2_35 (z := 4) rfl (q := 36) rfl ?_
            by_cases hc36_29 : p0 < (4 : Int32)
            · skip
              refine o_icY X0 hx hby d2_36 (tlt hc36_29).1 (by decide) (q := 60) (by decide) ?_
              refine o_iload X0 hx hby d2_60 rfl (q := 62) rfl ?_
              exact own_outN X0 hx hlk (t := .boolean) hret (by simp) (hb hby d2_62) (z' := (1 : Int32)) rfl (Q := Q2 Z p0 p1 p2 p3 p4 h0 n0) ⟨by simp only [fad, if_neg hc5_1, if_neg hc10_2, if_neg hc18_18, if_neg hc23_19, if_neg hc28_24, if_pos hc36_29], N0, e0⟩ (by decide) (by decide)
            · skip
              refine o_icN X0 hx hby d2_36 (flt hc36_29).1 (q := 39) rfl ?_
              refine o_iloadN X0 hx hby d2_39 rfl (q := 40) rfl ?_
              refine o_iload X0 hx hby d2_40 rfl (q := 42) rfl ?_
              by_cases hc42_30 : p1 = p4
              · skip
                refine o_icY X0 hx hby d2_42 (teq hc42_30).1 (by decide) (q := 57) (by decide) ?_
                refine o_iconst X0 hx hby d2_57 (z := 0) rfl (q := 58) rfl ?_
                refine o_istore X0 hx hby d2_58 (l' := #[iv p0, iv p1, iv p2, iv p3, iv p4, iv 0]) rfl (q := 60) rfl ?_
                refine o_iload X0 hx hby d2_60 rfl (q := 62) rfl ?_
                exact own_outN X0 hx hlk (t := .boolean) hret (by simp) (hb hby d2_62) (z' := (0 : Int32)) rfl (Q := Q2 Z p0 p1 p2 p3 p4 h0 n0) ⟨by simp only [fad, if_neg hc5_1, if_neg hc10_2, if_neg hc18_18, if_neg hc23_19, if_neg hc28_24, if_neg hc36_29, if_pos hc42_30], N0, e0⟩ (by decide) (by decide)
              · skip
                refine o_icN X0 hx hby d2_42 (feq hc42_30).1 (q := 45) rfl ?_
                refine o_iloadN X0 hx hby d2_45 rfl (q := 46) rfl ?_
                refine o_iload X0 hx hby d2_46 rfl (q := 48) rfl ?_
                by_cases hc48_31 : p2 = p4
                · skip
                  refine o_icY X0 hx hby d2_48 (teq hc48_31).1 (by decide) (q := 57) (by decide) ?_
                  refine o_iconst X0 hx hby d2_57 (z := 0) rfl (q := 58) rfl ?_
                  refine o_istore X0 hx hby d2_58 (l' := #[iv p0, iv p1, iv p2, iv p3, iv p4, iv 0]) rfl (q := 60) rfl ?_
                  refine o_iload X0 hx hby d2_60 rfl (q := 62) rfl ?_
                  exact own_outN X0 hx hlk (t := .boolean) hret (by simp) (hb hby d2_62) (z' := (0 : Int32)) rfl (Q := Q2 Z p0 p1 p2 p3 p4 h0 n0) ⟨by simp only [fad, if_neg hc5_1, if_neg hc10_2, if_neg hc18_18, if_neg hc23_19, if_neg hc28_24, if_neg hc36_29, if_neg hc42_30, if_pos hc48_31], N0, e0⟩ (by decide) (by decide)
                · skip
                  refine o_icN X0 hx hby d2_48 (feq hc48_31).1 (q := 51) rfl ?_
                  refine o_iloadN X0 hx hby d2_51 rfl (q := 52) rfl ?_
                  refine o_iload X0 hx hby d2_52 rfl (q := 54) rfl ?_
                  by_cases hc54_32 : p3 = p4
                  · skip
                    refine o_icN X0 hx hby d2_54 (teq hc54_32).2 (q := 57) rfl ?_
                    refine o_iconst X0 hx hby d2_57 (z := 0) rfl (q := 58) rfl ?_
                    refine o_istore X0 hx hby d2_58 (l' := #[iv p0, iv p1, iv p2, iv p3, iv p4, iv 0]) rfl (q := 60) rfl ?_
                    refine o_iload X0 hx hby d2_60 rfl (q := 62) rfl ?_
                    exact own_outN X0 hx hlk (t := .boolean) hret (by simp) (hb hby d2_62) (z' := (0 : Int32)) rfl (Q := Q2 Z p0 p1 p2 p3 p4 h0 n0) ⟨by simp only [fad, if_neg hc5_1, if_neg hc10_2, if_neg hc18_18, if_neg hc23_19, if_neg hc28_24, if_neg hc36_29, if_neg hc42_30, if_neg hc48_31, if_pos hc54_32], N0, e0⟩ (by decide) (by decide)
                  · skip
                    refine o_icY X0 hx hby d2_54 (feq hc54_32).2 (by decide) (q := 60) (by decide) ?_
                    refine o_iload X0 hx hby d2_60 rfl (q := 62) rfl ?_
                    exact own_outN X0 hx hlk (t := .boolean) hret (by simp) (hb hby d2_62) (z' := (1 : Int32)) rfl (Q := Q2 Z p0 p1 p2 p3 p4 h0 n0) ⟨by simp only [fad, if_neg hc5_1, if_neg hc10_2, if_neg hc18_18, if_neg hc23_19, if_neg hc28_24, if_neg hc36_29, if_neg hc42_30, if_neg hc48_31, if_neg hc54_32], N0, e0⟩ (by decide) (by decide)
theorem d3_0 : decode prog_66_method_1_code 0 = .ok (.aload_n 0, 1) := by decide +kernel
theorem d3_1 : decode prog_66_method_1_code 1 = .ok (.invokespecial 1, 3) := by decide +kernel
theorem d3_4 : decode prog_66_method_1_code 4 = .ok (.aload_n 0, 1) := by decide +kernel
theorem d3_5 : decode prog_66_method_1_code 5 = .ok (.aload_n 1, 1) := by decide +kernel
theorem d3_6 : decode prog_66_method_1_code 6 = .ok (.putfield 7, 3) := by decide +kernel
theorem d3_9 : decode prog_66_method_1_code 9 = .ok (.aload_n 0, 1) := by decide +kernel
theorem d3_10 : decode prog_66_method_1_code 10 = .ok (.aload_n 2, 1) := by decide +kernel
theorem d3_11 : decode prog_66_method_1_code 11 = .ok (.putfield 13, 3) := by decide +kernel
theorem d3_14 : decode prog_66_method_1_code 14 = .ok (.aload_n 0, 1) := by decide +kernel
theorem d3_15 : decode prog_66_method_1_code 15 = .ok (.iload_n 3, 1) := by decide +kernel
theorem d3_16 : decode prog_66_method_1_code 16 = .ok (.putfield 17, 3) := by decide +kernel
theorem d3_19 : decode prog_66_method_1_code 19 = .ok (.iload_n 3, 1) := by decide +kernel
theorem d3_20 : decode prog_66_method_1_code 20 = .ok (.newarray .int, 2) := by decide +kernel
theorem d3_22 : decode prog_66_method_1_code 22 = .ok (.astore 4, 2) := by decide +kernel
theorem d3_24 : decode prog_66_method_1_code 24 = .ok (.aload_n 2, 1) := by decide +kernel
theorem d3_25 : decode prog_66_method_1_code 25 = .ok (.astore 5, 2) := by decide +kernel
theorem d3_27 : decode prog_66_method_1_code 27 = .ok (.aload 5, 2) := by decide +kernel
theorem d3_29 : decode prog_66_method_1_code 29 = .ok (.arraylength, 1) := by decide +kernel
theorem d3_30 : decode prog_66_method_1_code 30 = .ok (.istore 6, 2) := by decide +kernel
theorem d3_32 : decode prog_66_method_1_code 32 = .ok (.iconst 0, 1) := by decide +kernel
theorem d3_33 : decode prog_66_method_1_code 33 = .ok (.istore 7, 2) := by decide +kernel
theorem d3_35 : decode prog_66_method_1_code 35 = .ok (.iload 7, 2) := by decide +kernel
theorem d3_37 : decode prog_66_method_1_code 37 = .ok (.iload 6, 2) := by decide +kernel
theorem d3_39 : decode prog_66_method_1_code 39 = .ok (.if_icmp .ge 25, 3) := by decide +kernel
theorem d3_42 : decode prog_66_method_1_code 42 = .ok (.aload 5, 2) := by decide +kernel
theorem d3_44 : decode prog_66_method_1_code 44 = .ok (.iload 7, 2) := by decide +kernel
theorem d3_46 : decode prog_66_method_1_code 46 = .ok (.iaload, 1) := by decide +kernel
theorem d3_47 : decode prog_66_method_1_code 47 = .ok (.istore 8, 2) := by decide +kernel
theorem d3_49 : decode prog_66_method_1_code 49 = .ok (.aload 4, 2) := by decide +kernel
theorem d3_51 : decode prog_66_method_1_code 51 = .ok (.iload 8, 2) := by decide +kernel
theorem d3_53 : decode prog_66_method_1_code 53 = .ok (.dup2, 1) := by decide +kernel
theorem d3_54 : decode prog_66_method_1_code 54 = .ok (.iaload, 1) := by decide +kernel
theorem d3_55 : decode prog_66_method_1_code 55 = .ok (.iconst 1, 1) := by decide +kernel
theorem d3_56 : decode prog_66_method_1_code 56 = .ok (.iadd, 1) := by decide +kernel
theorem d3_57 : decode prog_66_method_1_code 57 = .ok (.iastore, 1) := by decide +kernel
theorem d3_58 : decode prog_66_method_1_code 58 = .ok (.iinc 7 1, 3) := by decide +kernel
theorem d3_61 : decode prog_66_method_1_code 61 = .ok (.goto (-26), 3) := by decide +kernel
theorem d3_64 : decode prog_66_method_1_code 64 = .ok (.aload_n 0, 1) := by decide +kernel
theorem d3_65 : decode prog_66_method_1_code 65 = .ok (.iload_n 3, 1) := by decide +kernel
theorem d3_66 : decode prog_66_method_1_code 66 = .ok (.anewarray 21, 3) := by decide +kernel
theorem d3_69 : decode prog_66_method_1_code 69 = .ok (.putfield 22, 3) := by decide +kernel
theorem d3_72 : decode prog_66_method_1_code 72 = .ok (.iconst 0, 1) := by decide +kernel
theorem d3_73 : decode prog_66_method_1_code 73 = .ok (.istore 5, 2) := by decide +kernel
theorem d3_75 : decode prog_66_method_1_code 75 = .ok (.iload 5, 2) := by decide +kernel
theorem d3_77 : decode prog_66_method_1_code 77 = .ok (.iload_n 3, 1) := by decide +kernel
theorem d3_78 : decode prog_66_method_1_code 78 = .ok (.if_icmp .ge 23, 3) := by decide +kernel
theorem d3_81 : decode prog_66_method_1_code 81 = .ok (.aload_n 0, 1) := by decide +kernel
theorem d3_82 : decode prog_66_method_1_code 82 = .ok (.getfield 22, 3) := by decide +kernel
theorem d3_85 : decode prog_66_method_1_code 85 = .ok (.iload 5, 2) := by decide +kernel
theorem d3_87 : decode prog_66_method_1_code 87 = .ok (.aload 4, 2) := by decide +kernel
theorem d3_89 : decode prog_66_method_1_code 89 = .ok (.iload 5, 2) := by decide +kernel
theorem d3_91 : decode prog_66_method_1_code 91 = .ok (.iaload, 1) := by decide +kernel
theorem d3_92 : decode prog_66_method_1_code 92 = .ok (.newarray .int, 2) := by decide +kernel
theorem d3_94 : decode prog_66_method_1_code 94 = .ok (.aastore, 1) := by decide +kernel
theorem d3_95 : decode prog_66_method_1_code 95 = .ok (.iinc 5 1, 3) := by decide +kernel
theorem d3_98 : decode prog_66_method_1_code 98 = .ok (.goto (-23), 3) := by decide +kernel
theorem d3_101 : decode prog_66_method_1_code 101 = .ok (.iload_n 3, 1) := by decide +kernel
theorem d3_102 : decode prog_66_method_1_code 102 = .ok (.newarray .int, 2) := by decide +kernel
theorem d3_104 : decode prog_66_method_1_code 104 = .ok (.astore 5, 2) := by decide +kernel
theorem d3_106 : decode prog_66_method_1_code 106 = .ok (.iconst 0, 1) := by decide +kernel
theorem d3_107 : decode prog_66_method_1_code 107 = .ok (.istore 6, 2) := by decide +kernel
theorem d3_109 : decode prog_66_method_1_code 109 = .ok (.iload 6, 2) := by decide +kernel
theorem d3_111 : decode prog_66_method_1_code 111 = .ok (.aload_n 2, 1) := by decide +kernel
theorem d3_112 : decode prog_66_method_1_code 112 = .ok (.arraylength, 1) := by decide +kernel
theorem d3_113 : decode prog_66_method_1_code 113 = .ok (.if_icmp .ge 33, 3) := by decide +kernel
theorem d3_116 : decode prog_66_method_1_code 116 = .ok (.aload_n 0, 1) := by decide +kernel
theorem d3_117 : decode prog_66_method_1_code 117 = .ok (.getfield 22, 3) := by decide +kernel
theorem d3_120 : decode prog_66_method_1_code 120 = .ok (.aload_n 2, 1) := by decide +kernel
theorem d3_121 : decode prog_66_method_1_code 121 = .ok (.iload 6, 2) := by decide +kernel
theorem d3_123 : decode prog_66_method_1_code 123 = .ok (.iaload, 1) := by decide +kernel
theorem d3_124 : decode prog_66_method_1_code 124 = .ok (.aaload, 1) := by decide +kernel
theorem d3_125 : decode prog_66_method_1_code 125 = .ok (.aload 5, 2) := by decide +kernel
theorem d3_127 : decode prog_66_method_1_code 127 = .ok (.aload_n 2, 1) := by decide +kernel
theorem d3_128 : decode prog_66_method_1_code 128 = .ok (.iload 6, 2) := by decide +kernel
theorem d3_130 : decode prog_66_method_1_code 130 = .ok (.iaload, 1) := by decide +kernel
theorem d3_131 : decode prog_66_method_1_code 131 = .ok (.dup2, 1) := by decide +kernel
theorem d3_132 : decode prog_66_method_1_code 132 = .ok (.iaload, 1) := by decide +kernel
theorem d3_133 : decode prog_66_method_1_code 133 = .ok (.dup_x2, 1) := by decide +kernel
theorem d3_134 : decode prog_66_method_1_code 134 = .ok (.iconst 1, 1) := by decide +kernel
theorem d3_135 : decode prog_66_method_1_code 135 = .ok (.iadd, 1) := by decide +kernel
theorem d3_136 : decode prog_66_method_1_code 136 = .ok (.iastore, 1) := by decide +kernel
theorem d3_137 : decode prog_66_method_1_code 137 = .ok (.iload 6, 2) := by decide +kernel
theorem d3_139 : decode prog_66_method_1_code 139 = .ok (.iastore, 1) := by decide +kernel
theorem d3_140 : decode prog_66_method_1_code 140 = .ok (.iinc 6 1, 3) := by decide +kernel
theorem d3_143 : decode prog_66_method_1_code 143 = .ok (.goto (-34), 3) := by decide +kernel
theorem d3_146 : decode prog_66_method_1_code 146 = .ok (.return_, 1) := by decide +kernel
theorem t1 {p : Program} {l : Launch} {e : Env} {R : Room} {s : State} {m : MethodId} {args : Array Value} {below : List Frame} {meth : Method} {c : Code} {T : State} {locs : List Loc} {cells slots : Nat} {P : Outcome → State → Prop} {Z : State} {h : Heap} {o0 o1 o2 bs : Addr} {cnt n i i' cc y y' : Int32} {s8 : Slot} {k2 ks : ClassId} {v2 vss : List Value} {iN : Nat} (X : Stand p l e R s m args below meth c T locs cells slots) (hx : p.tables.exec = Jvm.exec) (hby : c.code = prog_66_method_1_code) (hZ : Z.Warmed39 s.vm) (eT : T.heap = h) (V2 : Arv Z h o2 k2 .int n v2 (.int 0)) (Vs : Arv Z h bs ks .int cnt vss (.int 0)) (h8 : storeLocals #[rv o0, rv o1, rv o2, iv cnt, rv bs, rv o2, iv n, iv i, s8] 8 (.int cc) = some #[rv o0, rv o1, rv o2, iv cnt, rv bs, rv o2, iv n, iv i, iv cc]) (hi : ¬ i < 0 ∧ i < n) (hc : v2.getD i.toNatClampNeg (.int 0) = .int cc) (hcc : ¬ cc < 0 ∧ cc < cnt) (hy : vss.getD cc.toNatClampNeg (.int 0) = .int y) (hy' : y + 1 = y') (hi' : i + Int32.ofInt 1 = i') (hiN : cc.toNatClampNeg = iN) (hl : iN < vss.length)
    (hr : ∀ T' h', Stand p l e R s m args below meth c T' (locs ++ [⟨bs, cc.toNatClampNeg⟩]) cells slots → T'.heap = h' → Wr h h' bs cc.toNatClampNeg (.int y') → Arv Z h' bs ks .int cnt (vss.set iN (.int y')) (.int 0) → own_Out p e below P (T'.setTop (mkF m 35 #[rv o0, rv o1, rv o2, iv cnt, rv bs, rv o2, iv n, iv i', iv cc] []))) : own_Out p e below P (T.setTop (mkF m 35 #[rv o0, rv o1, rv o2, iv cnt, rv bs, rv o2, iv n, iv i, s8] [])) := by
  refine o_iload X hx hby d3_35 rfl (q := 37) rfl ?_
  refine o_iload X hx hby d3_37 rfl (q := 39) rfl ?_
  refine o_icN X hx hby d3_39 (tlt hi.2).2.1 (q := 42) rfl ?_
  refine o_aload X hx hby d3_42 rfl rfl (q := 44) rfl ?_
  refine o_iload X hx hby d3_44 rfl (q := 46) rfl ?_
  refine o_iaV X hx hby hZ eT V2 hi hc d3_46 (q := 47) rfl ?_
  refine o_istore X hx hby d3_47 h8 (q := 49) rfl ?_
  refine o_aload X hx hby d3_49 rfl rfl (q := 51) rfl ?_
  refine o_iload X hx hby d3_51 rfl (q := 53) rfl ?_
  refine o_dup2 X hx hby d3_53 rfl rfl (q := 54) rfl ?_
  refine o_iaV X hx hby hZ eT Vs hcc hy d3_54 (q := 55) rfl ?_
  refine o_iconst X hx hby d3_55 (z := 1) rfl (q := 56) rfl ?_
  refine o_iadd X hx hby d3_56 hy' (q := 57) rfl ?_
  refine o_stV X hx hby hZ eT Vs hcc iN hiN hl d3_57 (q := 58) rfl fun T' h' X' e' W' V' => ?_
  refine o_iinc X' hx hby d3_58 rfl (l' := #[rv o0, rv o1, rv o2, iv cnt, rv bs, rv o2, iv n, iv i', iv cc]) (by rw [hi']; rfl) (q := 61) rfl ?_
  refine o_goto X' hx hby d3_61 (by decide) (q := 35) (by decide) ?_
  exact hr T' h' X' e' W' V'
theorem t3 {p : Program} {l : Launch} {e : Env} {R : Room} {s : State} {m : MethodId} {args : Array Value} {below : List Frame} {meth : Method} {c : Code} {T : State} {locs : List Loc} {cells slots : Nat} {P : Outcome → State → Prop} {Z : State} {a0 : Array Value} {h : Heap} {o0 o1 o2 bs bf cc d : Addr} {cnt n i i' x f f' zd : Int32} {s7 s8 : Slot} {k2 kc kf kd : ClassId} {v2 vcs vfs vds : List Value} {iN jN : Nat} (X : Stand p l e R s m args below meth c T locs cells slots) (hx : p.tables.exec = Jvm.exec) (hby : c.code = prog_66_method_1_code) (hZ : Z.Warmed39 s.vm) (eT : T.heap = h) (hw : ∀ d ∈ tables_1, d.before a0 Z = true) (hown : s.vm.findClass "com/example/slimc/slimc/game/Observation" = some m.cls) (V2 : Arv Z h o2 k2 .int n v2 (.int 0)) (F : Fld Z h o0 "com/example/slimc/slimc/game/Observation" "classes" "[[I" (.ref cc)) (Vc : Arv Z h cc kc (.array .int) cnt vcs .null) (Vf : Arv Z h bf kf .int cnt vfs (.int 0)) (Vd : Arv Z h d kd .int zd vds (.int 0)) (ne : d ≠ bf) (hi : ¬ i < 0 ∧ i < n) (hc : v2.getD i.toNatClampNeg (.int 0) = .int x) (hcc : ¬ x < 0 ∧ x < cnt) (hd : vcs.getD x.toNatClampNeg .null = .ref d) (hf : vfs.getD x.toNatClampNeg (.int 0) = .int f) (hfd : ¬ f < 0 ∧ f < zd) (hf' : f + 1 = f') (hi' : i + Int32.ofInt 1 = i') (hiN : x.toNatClampNeg = iN) (hl : iN < vfs.length) (hjN : f.toNatClampNeg = jN) (hlj : jN < vds.length)
    (hr : ∀ T' h1 h', Stand p l e R s m args below meth c T' (locs ++ [⟨bf, x.toNatClampNeg⟩] ++ [⟨d, f.toNatClampNeg⟩]) cells slots → T'.heap = h' → Wr h h1 bf x.toNatClampNeg (.int f') → Wr h1 h' d f.toNatClampNeg (.int i) → Arv Z h1 bf kf .int cnt (vfs.set iN (.int f')) (.int 0) → Arv Z h' d kd .int zd (vds.set jN (.int i)) (.int 0) → own_Out p e below P (T'.setTop (mkF m 109 #[rv o0, rv o1, rv o2, iv cnt, rv bs, rv bf, iv i', s7, s8] []))) : own_Out p e below P (T.setTop (mkF m 109 #[rv o0, rv o1, rv o2, iv cnt, rv bs, rv bf, iv i, s7, s8] [])) := by
  refine o_iload X hx hby d3_109 rfl (q := 111) rfl ?_
  refine o_aloadN X hx hby d3_111 rfl rfl (q := 112) rfl ?_
  refine o_lenV X hx hby hZ eT V2 d3_112 (q := 113) rfl ?_
  refine o_icN X hx hby d3_113 (tlt hi.2).2.1 (q := 116) rfl ?_
  refine o_aloadN X hx hby d3_116 rfl rfl (q := 117) rfl ?_
  refine o_getF X hx hZ hown hby (w_ hw 35 rfl) Via.refl eT F d3_117 (q := 120) rfl fun T1 X1 e1 => ?_
  refine o_aloadN X1 hx hby d3_120 rfl rfl (q := 121) rfl ?_
  refine o_iload X1 hx hby d3_121 rfl (q := 123) rfl ?_
  refine o_iaV X1 hx hby hZ e1 V2 hi hc d3_123 (q := 124) rfl ?_
  refine o_aaV X1 hx hby hZ e1 Vc rfl hcc hd d3_124 (q := 125) rfl ?_
  refine o_aload X1 hx hby d3_125 rfl rfl (q := 127) rfl ?_
  refine o_aloadN X1 hx hby d3_127 rfl rfl (q := 128) rfl ?_
  refine o_iload X1 hx hby d3_128 rfl (q := 130) rfl ?_
  refine o_iaV X1 hx hby hZ e1 V2 hi hc d3_130 (q := 131) rfl ?_
  refine o_dup2 X1 hx hby d3_131 rfl rfl (q := 132) rfl ?_
  refine o_iaV X1 hx hby hZ e1 Vf hcc hf d3_132 (q := 133) rfl ?_
  refine o_dupX2 X1 hx hby d3_133 rfl rfl rfl (q := 134) rfl ?_
  refine o_iconst X1 hx hby d3_134 (z := 1) rfl (q := 135) rfl ?_
  refine o_iadd X1 hx hby d3_135 hf' (q := 136) rfl ?_
  refine o_stV X1 hx hby hZ e1 Vf hcc iN hiN hl d3_136 (q := 137) rfl fun T2 h2 X2 e2 W2 V2' => ?_
  refine o_iload X2 hx hby d3_137 rfl (q := 139) rfl ?_
  refine o_stV X2 hx hby hZ e2 (Vd.other W2 ne) hfd jN hjN hlj d3_139 (q := 140) rfl fun T3 h3 X3 e3 W3 V3 => ?_
  refine o_iinc X3 hx hby d3_140 rfl (l' := #[rv o0, rv o1, rv o2, iv cnt, rv bs, rv bf, iv i', s7, s8]) (by rw [hi']; rfl) (q := 143) rfl ?_
  refine o_goto X3 hx hby d3_143 (by decide) (q := 109) (by decide) ?_
  exact hr T3 h2 h3 X3 e3 W2 W3 V2' V3
theorem own_snoc {k : Nat} {locs : List Loc} {a : Addr} {sl : Nat} (N : Fr k locs) (q : k ≤ a) : Fr k (locs ++ [⟨a, sl⟩]) := N.app fun y hy => by cases List.mem_singleton.mp hy; exact q
theorem pn_1 : plainName "com/example/slimc/slimc/game/Observation" = true := by first | (simp [plainName, overriddenIn]; done) | decide +kernel
theorem ef_3cn0 (m : MethodId) (x0 : Addr) (x1 : Addr) (x2 : Addr) : entryFrame m #[(.ref x0), (.ref x1), (.ref x2), (.int (0 : Int32))] 9 = mkF m 0 #[.val (.ref x0), .val (.ref x1), .val (.ref x2), .val (.int (0 : Int32)), .unset, .unset, .unset, .unset, .unset] [] := by first | (simp [entryFrame, mkF, argsToLocals, Value.category]; done) | rfl
def Q3cn0 (Z : State) (o0 : Addr) (o1 : Addr) (o2 : Addr) (k2 : ClassId) (h0 : Heap) (n0 : Nat) (v : Option Value) (h : Heap) (L : List Loc) : Prop := v = none ∧ Fr n0 L ∧ Keep h0 h [o0] ∧ Exa Z h o0 "com/example/slimc/slimc/game/Observation" ∧ Fld Z h o0 "com/example/slimc/slimc/game/Observation" "classOf" "[I" (.ref o2) ∧ Fld Z h o0 "com/example/slimc/slimc/game/Observation" "classCount" "I" (.int (0 : Int32))
set_option maxRecDepth 65536 in
set_option maxHeartbeats 40000000 in
theorem rm3cn0 (l : Launch) (Z : State) (a0 : Array Value) (hw : ∀ d ∈ tables_1, d.before a0 Z = true) (ws : List Jvm.Cond) (o0 : Addr) (o1 : Addr) (o2 : Addr) (k2 : ClassId) (h0 : Heap) (n0 : Nat) (Z0 : n0 ≤ h0.size) (E : Exa Z h0 o0 "com/example/slimc/slimc/game/Observation") (F_name : Fld Z h0 o0 "com/example/slimc/slimc/game/Observation" "name" "Ljava/lang/String;" .null) (F_classOf : Fld Z h0 o0 "com/example/slimc/slimc/game/Observation" "classOf" "[I" .null) (F_classCount : Fld Z h0 o0 "com/example/slimc/slimc/game/Observation" "classCount" "I" (.int (0 : Int32))) (F_classes : Fld Z h0 o0 "com/example/slimc/slimc/game/Observation" "classes" "[[I" .null) (g_o0 : n0 ≤ o0) (V : Arv Z h0 o2 k2 .int (0 : Int32) [] (.int (0 : Int32))) (n2 : o2 ≠ o0) :
    MetFree l (⟨"com/example/slimc/slimc/game/Observation", "<init>", "(Ljava/lang/String;[II)V"⟩ : MethodName) (head1 (Jvm.Cond.code (⟨"com/example/slimc/slimc/game/Observation", "<init>", "(Ljava/lang/String;[II)V"⟩ : MethodName) prog_66_method_1_code 9 none :: ws) ({ frames := 1, cells := 7, slots := 16, locals := 14 } : Room)) (fun a U => a = #[(.ref o0), (.ref o1), (.ref o2), (.int (0 : Int32))] ∧ Z.Warmed39 U.vm ∧ U.heap = h0) (fun _ _ _ _ _ => True) (fun _ U o U' => ∃ v L, o = .returned v ∧ Q3cn0 Z o0 o1 o2 k2 h0 n0 v U'.heap L ∧ FrameEnd U o U' L ({ frames := 1, cells := 7, slots := 16, locals := 14 } : Room).cells ({ frames := 1, cells := 7, slots := 16, locals := 14 } : Room).slots) := by
  refine MetFree.of_bodySF (plainFor_of_name pn_1) hisR ?_
  intro p e s m args below meth c s₁ Bd hml0 hP hK
  obtain ⟨rfl, hZ, hh⟩ := hP
  have hx := Bd.exec
  have hby := Bd.bytes
  have hml : c.maxLocals = 9 := hml0
  have hown : s.vm.findClass "com/example/slimc/slimc/game/Observation" = some m.cls := findClass_of_methodNamed Bd.named
  have hnm := (name_of_methodNamed Bd.named Bd.method).1
  have X0 : Stand p l e ({ frames := 1, cells := 7, slots := 16, locals := 14 } : Room) s m #[(.ref o0), (.ref o1), (.ref o2), (.int (0 : Int32))] below meth c s₁ [] 0 0 := Stand.of_body Bd
  have e0 : s₁.heap = h0 := by rw [← hh, Bd.state]; rfl
  have N0 := Fr.nil n0
  have hret := Bd.returns
  have hlk := BodyLoose.notSynchronized Bd
  show own_Out p e below (fun o U' => ∃ v L, o = .returned v ∧ Q3cn0 Z o0 o1 o2 k2 h0 n0 v U'.heap L ∧ FrameEnd s o U' L ({ frames := 1, cells := 7, slots := 16, locals := 14 } : Room).cells ({ frames := 1, cells := 7, slots := 16, locals := 14 } : Room).slots) (s₁.setTop (entryFrame m #[(.ref o0), (.ref o1), (.ref o2), (.int (0 : Int32))] 9))
  refine own_of (fun t k => castTop (ef_3cn0 m o0 o1 o2) k) ?_
  show own_Out p e below _ (s₁.setTop (mkF m 0 #[rv o0, rv o1, rv o2, iv 0, .unset, .unset, .unset, .unset, .unset] []))
  refine o_aloadN X0 hx hby d3_0 rfl rfl (q := 1) rfl ?_
  obtain ⟨T1, X1, e1, st1⟩ := initO X0 hx hZ hown (w_ hw 24 rfl) (w_ hw 25 rfl) (w_ hw 26 rfl) e0 (g := (mkF m 1 #[rv o0, rv o1, rv o2, iv 0, .unset, .unset, .unset, .unset, .unset] [.ref o0])) rfl (by rw [hml]; rfl) rfl (hb hby d3_1) (by decide) (W := 0) (by show 2 * 0 + _ ≤ _; exact Nat.le_of_eq rfl) (by decide)
  refine own_of st1 ?_
  show own_Out p e below _ (T1.setTop (mkF m 4 #[rv o0, rv o1, rv o2, iv 0, .unset, .unset, .unset, .unset, .unset] []))
  refine o_aloadN X1 hx hby d3_4 rfl rfl (q := 5) rfl ?_
  refine o_aloadN X1 hx hby d3_5 rfl rfl (q := 6) rfl ?_
  obtain ⟨T2, h2, X2, e2, W2, st2⟩ := putF X1 hx hZ hown (host := "") (Or.inl (w_ hw 27 rfl)) Via.refl e1 F_name E (Or.inr ⟨(w_ hw 28 rfl), rfl, hnm⟩) (w_ hw 11 rfl) (ty := (.object "java/lang/String")) (by decide) rfl rfl (g := (mkF m 6 #[rv o0, rv o1, rv o2, iv 0, .unset, .unset, .unset, .unset, .unset] [.ref o1, .ref o0])) rfl rfl (hb hby d3_6)
  have Fw2 := F_name.same W2
  refine own_of st2 ?_
  show own_Out p e below _ (T2.setTop (mkF m 9 #[rv o0, rv o1, rv o2, iv 0, .unset, .unset, .unset, .unset, .unset] []))
  refine o_aloadN X2 hx hby d3_9 rfl rfl (q := 10) rfl ?_
  refine o_aloadN X2 hx hby d3_10 rfl rfl (q := 11) rfl ?_
  have q4 := (F_classOf.other W2 (Or.inr (slot_ne (Or.inr (w_ hw 30 rfl)) (Or.inr (w_ hw 28 rfl)) (by decide) (t := (.array .int)) (t' := (.object "java/lang/String")) (by decide) (by decide))))
  have q5 := (E.wr W2)
  obtain ⟨T3, h3, X3, e3, W3, st3⟩ := putF X2 hx hZ hown (host := "") (Or.inl (w_ hw 29 rfl)) Via.refl e2 q4 q5 (Or.inr ⟨(w_ hw 30 rfl), rfl, hnm⟩) (w_ hw 11 rfl) (ty := (.array .int)) (by decide) rfl rfl (g := (mkF m 11 #[rv o0, rv o1, rv o2, iv 0, .unset, .unset, .unset, .unset, .unset] [.ref o2, .ref o0])) rfl rfl (hb hby d3_11)
  have q6 := (F_classOf.other W2 (Or.inr (slot_ne (Or.inr (w_ hw 30 rfl)) (Or.inr (w_ hw 28 rfl)) (by decide) (t := (.array .int)) (t' := (.object "java/lang/String")) (by decide) (by decide))))
  have Fw3 := q6.same W3
  refine own_of st3 ?_
  show own_Out p e below _ (T3.setTop (mkF m 14 #[rv o0, rv o1, rv o2, iv 0, .unset, .unset, .unset, .unset, .unset] []))
  refine o_aloadN X3 hx hby d3_14 rfl rfl (q := 15) rfl ?_
  refine o_iloadN X3 hx hby d3_15 rfl (q := 16) rfl ?_
  have q8 := ((F_classCount.other W2 (Or.inr (slot_ne (Or.inr (w_ hw 32 rfl)) (Or.inr (w_ hw 28 rfl)) (by decide) (t := .int) (t' := (.object "java/lang/String")) (by decide) (by decide)))).other W3 (Or.inr (slot_ne (Or.inr (w_ hw 32 rfl)) (Or.inr (w_ hw 30 rfl)) (by decide) (t := .int) (t' := (.array .int)) (by decide) (by decide))))
  have q9 := (q5.wr W3)
  obtain ⟨T7, h7, X7, e7, W7, st7⟩ := putF X3 hx hZ hown (host := "") (Or.inl (w_ hw 31 rfl)) Via.refl e3 q8 q9 (Or.inr ⟨(w_ hw 32 rfl), rfl, hnm⟩) (w_ hw 11 rfl) (ty := .int) (by decide) rfl rfl (g := (mkF m 16 #[rv o0, rv o1, rv o2, iv 0, .unset, .unset, .unset, .unset, .unset] [.int 0, .ref o0])) rfl rfl (hb hby d3_16)
  have q10 := ((F_classCount.other W2 (Or.inr (slot_ne (Or.inr (w_ hw 32 rfl)) (Or.inr (w_ hw 28 rfl)) (by decide) (t := .int) (t' := (.object "java/lang/String")) (by decide) (by decide)))).other W3 (Or.inr (slot_ne (Or.inr (w_ hw 32 rfl)) (Or.inr (w_ hw 30 rfl)) (by decide) (t := .int) (t' := (.array .int)) (by decide) (by decide))))
  have Fw7 := q10.same W7
  refine own_of st7 ?_
  show own_Out p e below _ (T7.setTop (mkF m 19 #[rv o0, rv o1, rv o2, iv 0, .unset, .unset, .unset, .unset, .unset] []))
  refine o_iloadN X7 hx hby d3_19 rfl (q := 20) rfl ?_
  obtain ⟨T11, h11, k11, X11, e11, E11, A11, Ex11, st11⟩ := newPE X7 hx hZ (w_ hw 5 rfl) e7 (g := (mkF m 20 #[rv o0, rv o1, rv o2, iv 0, .unset, .unset, .unset, .unset, .unset] [.int 0])) rfl (hb hby d3_20) rfl (by decide) (cap := 0) (by decide) (by decide) (by decide) (by decide) (ad := "[I") (by decide +kernel)
  obtain ⟨b11, g11⟩ : ∃ z, z = h7.size := ⟨_, rfl⟩
  rw [← g11] at A11 Ex11 st11
  have q12 := (Nat.le_trans (Nat.le_trans (Nat.le_trans Z0 (Keep.of_wr W2).1) (Keep.of_wr W3).1) (Keep.of_wr W7).1)
  have g_b11 : n0 ≤ b11 := Nat.le_trans q12 (Nat.le_of_eq g11.symm)
  have q13 := (Nat.le_trans (Nat.le_trans (Nat.le_trans (Nat.le_refl h0.size) (Keep.of_wr W2).1) (Keep.of_wr W3).1) (Keep.of_wr W7).1)
  have sz_b11 : h0.size ≤ b11 := Nat.le_trans q13 (Nat.le_of_eq g11.symm)
  have V_b11 : Arv Z h11 b11 k11 .int (0 : Int32) [] (.int (0 : Int32)) := (Arv.new A11 (by decide)).pad (pad_rep [] (.int (0 : Int32)) 0)
  refine own_of st11 ?_
  show own_Out p e below _ (T11.setTop (mkF m 22 #[rv o0, rv o1, rv o2, iv 0, .unset, .unset, .unset, .unset, .unset] [.ref b11]))
  refine o_astore X11 hx hby d3_22 rfl (l' := #[rv o0, rv o1, rv o2, iv 0, rv b11, .unset, .unset, .unset, .unset]) rfl (q := 24) rfl ?_
  refine o_aloadN X11 hx hby d3_24 rfl rfl (q := 25) rfl ?_
  refine o_astore X11 hx hby d3_25 rfl (l' := #[rv o0, rv o1, rv o2, iv 0, rv b11, rv o2, .unset, .unset, .unset]) rfl (q := 27) rfl ?_
  refine o_aload X11 hx hby d3_27 rfl rfl (q := 29) rfl ?_
  have q14 := ((((V.other W2 n2).other W3 n2).other W7 n2).ext E11)
  refine o_lenV X11 hx hby hZ e11 q14 d3_29 (q := 30) rfl ?_
  refine o_istore X11 hx hby d3_30 (l' := #[rv o0, rv o1, rv o2, iv 0, rv b11, rv o2, iv 0, .unset, .unset]) rfl (q := 32) rfl ?_
  refine o_iconst X11 hx hby d3_32 (z := 0) rfl (q := 33) rfl ?_
  refine o_istore X11 hx hby d3_33 (l' := #[rv o0, rv o1, rv o2, iv 0, rv b11, rv o2, iv 0, iv 0, .unset]) rfl (q := 35) rfl ?_
  refine o_iload X11 hx hby d3_35 rfl (q := 37) rfl ?_
  refine o_iload X11 hx hby d3_37 rfl (q := 39) rfl ?_
  refine o_icY X11 hx hby d3_39 (flt (by decide : ¬ ((0 : Int32) < (0 : Int32)))).2.1 (by decide) (q := 64) (by decide) ?_
  refine o_aloadN X11 hx hby d3_64 rfl rfl (q := 65) rfl ?_
  refine o_iloadN X11 hx hby d3_65 rfl (q := 66) rfl ?_
  obtain ⟨T15, h15, k15, X15, e15, E15, A15, Ex15, O15, st15⟩ := newRA X11 hx hZ hown (ty := .int) (by decide +kernel) (w_ hw 33 rfl) (w_ hw 34 rfl) e11 (g := (mkF m 66 #[rv o0, rv o1, rv o2, iv 0, rv b11, rv o2, iv 0, iv 0, .unset] [.int 0, .ref o0])) rfl (hb hby d3_66) rfl (by decide) (cap := 0) (by decide) (by decide) (by decide) (by decide) (ad := "[[I") (by decide +kernel)
  obtain ⟨b15, g15⟩ : ∃ z, z = h11.size := ⟨_, rfl⟩
  rw [← g15] at A15 Ex15 st15
  have q16 := (Nat.le_trans q12 E11.1)
  have g_b15 : n0 ≤ b15 := Nat.le_trans q16 (Nat.le_of_eq g15.symm)
  have q17 := (Nat.le_trans q13 E11.1)
  have sz_b15 : h0.size ≤ b15 := Nat.le_trans q17 (Nat.le_of_eq g15.symm)
  have V_b15 : Arv Z h15 b15 k15 (.array .int) (0 : Int32) [] .null := (Arv.new A15 (by decide)).pad (pad_rep [] .null 0)
  refine own_of st15 ?_
  show own_Out p e below _ (T15.setTop (mkF m 69 #[rv o0, rv o1, rv o2, iv 0, rv b11, rv o2, iv 0, iv 0, .unset] [.ref b15, .ref o0]))
  have q19 := (((((F_classes.other W2 (Or.inr (slot_ne (Or.inr (w_ hw 36 rfl)) (Or.inr (w_ hw 28 rfl)) (by decide) (t := (.array (.array .int))) (t' := (.object "java/lang/String")) (by decide) (by decide)))).other W3 (Or.inr (slot_ne (Or.inr (w_ hw 36 rfl)) (Or.inr (w_ hw 30 rfl)) (by decide) (t := (.array (.array .int))) (t' := (.array .int)) (by decide) (by decide)))).other W7 (Or.inr (slot_ne (Or.inr (w_ hw 36 rfl)) (Or.inr (w_ hw 32 rfl)) (by decide) (t := (.array (.array .int))) (t' := .int) (by decide) (by decide)))).ext E11).ext E15)
  have q20 := (((q9.wr W7).ext E11).ext E15)
  obtain ⟨T18, h18, X18, e18, W18, st18⟩ := putF X15 hx hZ hown (host := "") (Or.inl (w_ hw 35 rfl)) Via.refl e15 q19 q20 (Or.inr ⟨(w_ hw 36 rfl), rfl, hnm⟩) (w_ hw 11 rfl) (ty := (.array (.array .int))) (by decide) rfl rfl (g := (mkF m 69 #[rv o0, rv o1, rv o2, iv 0, rv b11, rv o2, iv 0, iv 0, .unset] [.ref b15, .ref o0])) rfl rfl (hb hby d3_69)
  have q21 := (((((F_classes.other W2 (Or.inr (slot_ne (Or.inr (w_ hw 36 rfl)) (Or.inr (w_ hw 28 rfl)) (by decide) (t := (.array (.array .int))) (t' := (.object "java/lang/String")) (by decide) (by decide)))).other W3 (Or.inr (slot_ne (Or.inr (w_ hw 36 rfl)) (Or.inr (w_ hw 30 rfl)) (by decide) (t := (.array (.array .int))) (t' := (.array .int)) (by decide) (by decide)))).other W7 (Or.inr (slot_ne (Or.inr (w_ hw 36 rfl)) (Or.inr (w_ hw 32 rfl)) (by decide) (t := (.array (.array .int))) (t' := .int) (by decide) (by decide)))).ext E11).ext E15)
  have Fw18 := q21.same W18
  refine own_of st18 ?_
  show own_Out p e below _ (T18.setTop (mkF m 72 #[rv o0, rv o1, rv o2, iv 0, rv b11, rv o2, iv 0, iv 0, .unset] []))
  refine o_iconst X18 hx hby d3_72 (z := 0) rfl (q := 73) rfl ?_
  refine o_istore X18 hx hby d3_73 (l' := #[rv o0, rv o1, rv o2, iv 0, rv b11, iv 0, iv 0, iv 0, .unset]) rfl (q := 75) rfl ?_
  refine o_iload X18 hx hby d3_75 rfl (q := 77) rfl ?_
  refine o_iloadN X18 hx hby d3_77 rfl (q := 78) rfl ?_
  refine o_icY X18 hx hby d3_78 (flt (by decide : ¬ ((0 : Int32) < (0 : Int32)))).2.1 (by decide) (q := 101) (by decide) ?_
  refine o_iloadN X18 hx hby d3_101 rfl (q := 102) rfl ?_
  obtain ⟨T22, h22, k22, X22, e22, E22, A22, Ex22, st22⟩ := newPE X18 hx hZ (w_ hw 5 rfl) e18 (g := (mkF m 102 #[rv o0, rv o1, rv o2, iv 0, rv b11, iv 0, iv 0, iv 0, .unset] [.int 0])) rfl (hb hby d3_102) rfl (by decide) (cap := 0) (by decide) (by decide) (by decide) (by decide) (ad := "[I") (by decide +kernel)
  obtain ⟨b22, g22⟩ : ∃ z, z = h18.size := ⟨_, rfl⟩
  rw [← g22] at A22 Ex22 st22
  have q23 := (Nat.le_trans (Nat.le_trans q16 E15.1) (Keep.of_wr W18).1)
  have g_b22 : n0 ≤ b22 := Nat.le_trans q23 (Nat.le_of_eq g22.symm)
  have q24 := (Nat.le_trans (Nat.le_trans q17 E15.1) (Keep.of_wr W18).1)
  have sz_b22 : h0.size ≤ b22 := Nat.le_trans q24 (Nat.le_of_eq g22.symm)
  have V_b22 : Arv Z h22 b22 k22 .int (0 : Int32) [] (.int (0 : Int32)) := (Arv.new A22 (by decide)).pad (pad_rep [] (.int (0 : Int32)) 0)
  refine own_of st22 ?_
  show own_Out p e below _ (T22.setTop (mkF m 104 #[rv o0, rv o1, rv o2, iv 0, rv b11, iv 0, iv 0, iv 0, .unset] [.ref b22]))
  refine o_astore X22 hx hby d3_104 rfl (l' := #[rv o0, rv o1, rv o2, iv 0, rv b11, rv b22, iv 0, iv 0, .unset]) rfl (q := 106) rfl ?_
  refine o_iconst X22 hx hby d3_106 (z := 0) rfl (q := 107) rfl ?_
  refine o_istore X22 hx hby d3_107 (l' := #[rv o0, rv o1, rv o2, iv 0, rv b11, rv b22, iv 0, iv 0, .unset]) rfl (q := 109) rfl ?_
  refine o_iload X22 hx hby d3_109 rfl (q := 111) rfl ?_
  refine o_aloadN X22 hx hby d3_111 rfl rfl (q := 112) rfl ?_
  have q25 := (((q14.ext E15).other W18 n2).ext E22)
  refine o_lenV X22 hx hby hZ e22 q25 d3_112 (q := 113) rfl ?_
  refine o_icY X22 hx hby d3_113 (flt (by decide : ¬ ((0 : Int32) < (0 : Int32)))).2.1 (by decide) (q := 146) (by decide) ?_
  have q26 := ((((((((Keep.refl h0 [o0]).wr W2 (Or.inl (List.mem_of_getElem? (i := 0) rfl))).wr W3 (Or.inl (List.mem_of_getElem? (i := 0) rfl))).wr W7 (Or.inl (List.mem_of_getElem? (i := 0) rfl))).ext E11).ext E15).wr W18 (Or.inl (List.mem_of_getElem? (i := 0) rfl))).ext E22)
  have q27 := ((q20.wr W18).ext E22)
  have q28 := (((((Fw3.other W7 (Or.inr (slot_ne (Or.inr (w_ hw 30 rfl)) (Or.inr (w_ hw 32 rfl)) (by decide) (t := (.array .int)) (t' := .int) (by decide) (by decide)))).ext E11).ext E15).other W18 (Or.inr (slot_ne (Or.inr (w_ hw 30 rfl)) (Or.inr (w_ hw 36 rfl)) (by decide) (t := (.array .int)) (t' := (.array (.array .int))) (by decide) (by decide)))).ext E22)
  have q29 := ((((Fw7.ext E11).ext E15).other W18 (Or.inr (slot_ne (Or.inr (w_ hw 32 rfl)) (Or.inr (w_ hw 36 rfl)) (by decide) (t := .int) (t' := (.array (.array .int))) (by decide) (by decide)))).ext E22)
  exact own_outV X22 hx hlk hret (hb hby d3_146) (Q := Q3cn0 Z o0 o1 o2 k2 h0 n0) (by rw [e22]; exact ⟨rfl, (Fr.snoc X18 (Fr.snoc X7 (Fr.snoc X3 (Fr.snoc X2 N0 g_o0) g_o0) g_o0) g_o0), q26, q27, q28, q29⟩) (by decide) (by decide)
theorem ef_3c0n1 (m : MethodId) (x0 : Addr) (x1 : Addr) (x2 : Addr) : entryFrame m #[(.ref x0), (.ref x1), (.ref x2), (.int (1 : Int32))] 9 = mkF m 0 #[.val (.ref x0), .val (.ref x1), .val (.ref x2), .val (.int (1 : Int32)), .unset, .unset, .unset, .unset, .unset] [] := by first | (simp [entryFrame, mkF, argsToLocals, Value.category]; done) | rfl
def Q3c0n1 (Z : State) (o0 : Addr) (o1 : Addr) (o2 : Addr) (k2 : ClassId) (h0 : Heap) (n0 : Nat) (v : Option Value) (h : Heap) (L : List Loc) : Prop := v = none ∧ Fr n0 L ∧ Keep h0 h [o0] ∧ Exa Z h o0 "com/example/slimc/slimc/game/Observation" ∧ Fld Z h o0 "com/example/slimc/slimc/game/Observation" "classOf" "[I" (.ref o2) ∧ Fld Z h o0 "com/example/slimc/slimc/game/Observation" "classCount" "I" (.int (1 : Int32))
set_option maxRecDepth 65536 in
set_option maxHeartbeats 40000000 in
theorem rm3c0n1 (l : Launch) (Z : State) (a0 : Array Value) (hw : ∀ d ∈ tables_1, d.before a0 Z = true) (ws : List Jvm.Cond) (o0 : Addr) (o1 : Addr) (o2 : Addr) (k2 : ClassId) (h0 : Heap) (n0 : Nat) (Z0 : n0 ≤ h0.size) (E : Exa Z h0 o0 "com/example/slimc/slimc/game/Observation") (F_name : Fld Z h0 o0 "com/example/slimc/slimc/game/Observation" "name" "Ljava/lang/String;" .null) (F_classOf : Fld Z h0 o0 "com/example/slimc/slimc/game/Observation" "classOf" "[I" .null) (F_classCount : Fld Z h0 o0 "com/example/slimc/slimc/game/Observation" "classCount" "I" (.int (0 : Int32))) (F_classes : Fld Z h0 o0 "com/example/slimc/slimc/game/Observation" "classes" "[[I" .null) (g_o0 : n0 ≤ o0) (V : Arv Z h0 o2 k2 .int (1 : Int32) [(.int (0 : Int32))] (.int (0 : Int32))) (n2 : o2 ≠ o0) :
    MetFree l (⟨"com/example/slimc/slimc/game/Observation", "<init>", "(Ljava/lang/String;[II)V"⟩ : MethodName) (head1 (Jvm.Cond.code (⟨"com/example/slimc/slimc/game/Observation", "<init>", "(Ljava/lang/String;[II)V"⟩ : MethodName) prog_66_method_1_code 9 none :: ws) ({ frames := 1, cells := 7, slots := 16, locals := 14 } : Room)) (fun a U => a = #[(.ref o0), (.ref o1), (.ref o2), (.int (1 : Int32))] ∧ Z.Warmed39 U.vm ∧ U.heap = h0) (fun _ _ _ _ _ => True) (fun _ U o U' => ∃ v L, o = .returned v ∧ Q3c0n1 Z o0 o1 o2 k2 h0 n0 v U'.heap L ∧ FrameEnd U o U' L ({ frames := 1, cells := 7, slots := 16, locals := 14 } : Room).cells ({ frames := 1, cells := 7, slots := 16, locals := 14 } : Room).slots) := by
  refine MetFree.of_bodySF (plainFor_of_name pn_1) hisR ?_
  intro p e s m args below meth c s₁ Bd hml0 hP hK
  obtain ⟨rfl, hZ, hh⟩ := hP
  have hx := Bd.exec
  have hby := Bd.bytes
  have hml : c.maxLocals = 9 := hml0
  have hown : s.vm.findClass "com/example/slimc/slimc/game/Observation" = some m.cls := findClass_of_methodNamed Bd.named
  have hnm := (name_of_methodNamed Bd.named Bd.method).1
  have X0 : Stand p l e ({ frames := 1, cells := 7, slots := 16, locals := 14 } : Room) s m #[(.ref o0), (.ref o1), (.ref o2), (.int (1 : Int32))] below meth c s₁ [] 0 0 := Stand.of_body Bd
  have e0 : s₁.heap = h0 := by rw [← hh, Bd.state]; rfl
  have N0 := Fr.nil n0
  have hret := Bd.returns
  have hlk := BodyLoose.notSynchronized Bd
  show own_Out p e below (fun o U' => ∃ v L, o = .returned v ∧ Q3c0n1 Z o0 o1 o2 k2 h0 n0 v U'.heap L ∧ FrameEnd s o U' L ({ frames := 1, cells := 7, slots := 16, locals := 14 } : Room).cells ({ frames := 1, cells := 7, slots := 16, locals := 14 } : Room).slots) (s₁.setTop (entryFrame m #[(.ref o0), (.ref o1), (.ref o2), (.int (1 : Int32))] 9))
  refine own_of (fun t k => castTop (ef_3c0n1 m o0 o1 o2) k) ?_
  show own_Out p e below _ (s₁.setTop (mkF m 0 #[rv o0, rv o1, rv o2, iv 1, .unset, .unset, .unset, .unset, .unset] []))
  refine o_aloadN X0 hx hby d3_0 rfl rfl (q := 1) rfl ?_
  obtain ⟨T1, X1, e1, st1⟩ := initO X0 hx hZ hown (w_ hw 24 rfl) (w_ hw 25 rfl) (w_ hw 26 rfl) e0 (g := (mkF m 1 #[rv o0, rv o1, rv o2, iv 1, .unset, .unset, .unset, .unset, .unset] [.ref o0])) rfl (by rw [hml]; rfl) rfl (hb hby d3_1) (by decide) (W := 0) (by show 2 * 0 + _ ≤ _; exact Nat.le_of_eq rfl) (by decide)
  refine own_of st1 ?_
  show own_Out p e below _ (T1.setTop (mkF m 4 #[rv o0, rv o1, rv o2, iv 1, .unset, .unset, .unset, .unset, .unset] []))
  refine o_aloadN X1 hx hby d3_4 rfl rfl (q := 5) rfl ?_
  refine o_aloadN X1 hx hby d3_5 rfl rfl (q := 6) rfl ?_
  obtain ⟨T2, h2, X2, e2, W2, st2⟩ := putF X1 hx hZ hown (host := "") (Or.inl (w_ hw 27 rfl)) Via.refl e1 F_name E (Or.inr ⟨(w_ hw 28 rfl), rfl, hnm⟩) (w_ hw 11 rfl) (ty := (.object "java/lang/String")) (by decide) rfl rfl (g := (mkF m 6 #[rv o0, rv o1, rv o2, iv 1, .unset, .unset, .unset, .unset, .unset] [.ref o1, .ref o0])) rfl rfl (hb hby d3_6)
  have Fw2 := F_name.same W2
  refine own_of st2 ?_
  show own_Out p e below _ (T2.setTop (mkF m 9 #[rv o0, rv o1, rv o2, iv 1, .unset, .unset, .unset, .unset, .unset] []))
  refine o_aloadN X2 hx hby d3_9 rfl rfl (q := 10) rfl ?_
  refine o_aloadN X2 hx hby d3_10 rfl rfl (q := 11) rfl ?_
  have q4 := (F_classOf.other W2 (Or.inr (slot_ne (Or.inr (w_ hw 30 rfl)) (Or.inr (w_ hw 28 rfl)) (by decide) (t := (.array .int)) (t' := (.object "java/lang/String")) (by decide) (by decide))))
  have q5 := (E.wr W2)
  obtain ⟨T3, h3, X3, e3, W3, st3⟩ := putF X2 hx hZ hown (host := "") (Or.inl (w_ hw 29 rfl)) Via.refl e2 q4 q5 (Or.inr ⟨(w_ hw 30 rfl), rfl, hnm⟩) (w_ hw 11 rfl) (ty := (.array .int)) (by decide) rfl rfl (g := (mkF m 11 #[rv o0, rv o1, rv o2, iv 1, .unset, .unset, .unset, .unset, .unset] [.ref o2, .ref o0])) rfl rfl (hb hby d3_11)
  have q6 := (F_classOf.other W2 (Or.inr (slot_ne (Or.inr (w_ hw 30 rfl)) (Or.inr (w_ hw 28 rfl)) (by decide) (t := (.array .int)) (t' := (.object "java/lang/String")) (by decide) (by decide))))
  have Fw3 := q6.same W3
  refine own_of st3 ?_
  show own_Out p e below _ (T3.setTop (mkF m 14 #[rv o0, rv o1, rv o2, iv 1, .unset, .unset, .unset, .unset, .unset] []))
  refine o_aloadN X3 hx hby d3_14 rfl rfl (q := 15) rfl ?_
  refine o_iloadN X3 hx hby d3_15 rfl (q := 16) rfl ?_
  have q8 := ((F_classCount.other W2 (Or.inr (slot_ne (Or.inr (w_ hw 32 rfl)) (Or.inr (w_ hw 28 rfl)) (by decide) (t := .int) (t' := (.object "java/lang/String")) (by decide) (by decide)))).other W3 (Or.inr (slot_ne (Or.inr (w_ hw 32 rfl)) (Or.inr (w_ hw 30 rfl)) (by decide) (t := .int) (t' := (.array .int)) (by decide) (by decide))))
  have q9 := (q5.wr W3)
  obtain ⟨T7, h7, X7, e7, W7, st7⟩ := putF X3 hx hZ hown (host := "") (Or.inl (w_ hw 31 rfl)) Via.refl e3 q8 q9 (Or.inr ⟨(w_ hw 32 rfl), rfl, hnm⟩) (w_ hw 11 rfl) (ty := .int) (by decide) rfl rfl (g := (mkF m 16 #[rv o0, rv o1, rv o2, iv 1, .unset, .unset, .unset, .unset, .unset] [.int 1, .ref o0])) rfl rfl (hb hby d3_16)
  have q10 := ((F_classCount.other W2 (Or.inr (slot_ne (Or.inr (w_ hw 32 rfl)) (Or.inr (w_ hw 28 rfl)) (by decide) (t := .int) (t' := (.object "java/lang/String")) (by decide) (by decide)))).other W3 (Or.inr (slot_ne (Or.inr (w_ hw 32 rfl)) (Or.inr (w_ hw 30 rfl)) (by decide) (t := .int) (t' := (.array .int)) (by decide) (by decide))))
  have Fw7 := q10.same W7
  refine own_of st7 ?_
  show own_Out p e below _ (T7.setTop (mkF m 19 #[rv o0, rv o1, rv o2, iv 1, .unset, .unset, .unset, .unset, .unset] []))
  refine o_iloadN X7 hx hby d3_19 rfl (q := 20) rfl ?_
  obtain ⟨T11, h11, k11, X11, e11, E11, A11, Ex11, st11⟩ := newPE X7 hx hZ (w_ hw 5 rfl) e7 (g := (mkF m 20 #[rv o0, rv o1, rv o2, iv 1, .unset, .unset, .unset, .unset, .unset] [.int 1])) rfl (hb hby d3_20) rfl (by decide) (cap := 1) (by decide) (by decide) (by decide) (by decide) (ad := "[I") (by decide +kernel)
  obtain ⟨b11, g11⟩ : ∃ z, z = h7.size := ⟨_, rfl⟩
  rw [← g11] at A11 Ex11 st11
  have q12 := (Nat.le_trans (Nat.le_trans (Nat.le_trans Z0 (Keep.of_wr W2).1) (Keep.of_wr W3).1) (Keep.of_wr W7).1)
  have g_b11 : n0 ≤ b11 := Nat.le_trans q12 (Nat.le_of_eq g11.symm)
  have q13 := (Nat.le_trans (Nat.le_trans (Nat.le_trans (Nat.le_refl h0.size) (Keep.of_wr W2).1) (Keep.of_wr W3).1) (Keep.of_wr W7).1)
  have sz_b11 : h0.size ≤ b11 := Nat.le_trans q13 (Nat.le_of_eq g11.symm)
  have V_b11 : Arv Z h11 b11 k11 .int (1 : Int32) [(.int (0 : Int32))] (.int (0 : Int32)) := (Arv.new A11 (by decide)).pad (pad_rep [] (.int (0 : Int32)) 1)
  refine own_of st11 ?_
  show own_Out p e below _ (T11.setTop (mkF m 22 #[rv o0, rv o1, rv o2, iv 1, .unset, .unset, .unset, .unset, .unset] [.ref b11]))
  refine o_astore X11 hx hby d3_22 rfl (l' := #[rv o0, rv o1, rv o2, iv 1, rv b11, .unset, .unset, .unset, .unset]) rfl (q := 24) rfl ?_
  refine o_aloadN X11 hx hby d3_24 rfl rfl (q := 25) rfl ?_
  refine o_astore X11 hx hby d3_25 rfl (l' := #[rv o0, rv o1, rv o2, iv 1, rv b11, rv o2, .unset, .unset, .unset]) rfl (q := 27) rfl ?_
  refine o_aload X11 hx hby d3_27 rfl rfl (q := 29) rfl ?_
  have q14 := ((((V.other W2 n2).other W3 n2).other W7 n2).ext E11)
  refine o_lenV X11 hx hby hZ e11 q14 d3_29 (q := 30) rfl ?_
  refine o_istore X11 hx hby d3_30 (l' := #[rv o0, rv o1, rv o2, iv 1, rv b11, rv o2, iv 1, .unset, .unset]) rfl (q := 32) rfl ?_
  refine o_iconst X11 hx hby d3_32 (z := 0) rfl (q := 33) rfl ?_
  refine o_istore X11 hx hby d3_33 (l' := #[rv o0, rv o1, rv o2, iv 1, rv b11, rv o2, iv 1, iv 0, .unset]) rfl (q := 35) rfl ?_
  refine t1 X11 hx hby hZ e11 q14 V_b11 rfl ⟨by decide, by decide⟩ (cc := 0) rfl ⟨by decide, by decide⟩ (y := 0) rfl (y' := 1) rfl (i' := 1) rfl (iN := 0) rfl (Nat.le_of_ble_eq_true rfl) fun T15 h15 X15 e15 W15 V15 => ?_
  refine o_iload X15 hx hby d3_35 rfl (q := 37) rfl ?_
  refine o_iload X15 hx hby d3_37 rfl (q := 39) rfl ?_
  refine o_icY X15 hx hby d3_39 (flt (by decide : ¬ ((1 : Int32) < (1 : Int32)))).2.1 (by decide) (q := 64) (by decide) ?_
  refine o_aloadN X15 hx hby d3_64 rfl rfl (q := 65) rfl ?_
  refine o_iloadN X15 hx hby d3_65 rfl (q := 66) rfl ?_
  obtain ⟨T16, h16, k16, X16, e16, E16, A16, Ex16, O16, st16⟩ := newRA X15 hx hZ hown (ty := .int) (by decide +kernel) (w_ hw 33 rfl) (w_ hw 34 rfl) e15 (g := (mkF m 66 #[rv o0, rv o1, rv o2, iv 1, rv b11, rv o2, iv 1, iv 1, iv 0] [.int 1, .ref o0])) rfl (hb hby d3_66) rfl (by decide) (cap := 1) (by decide) (by decide) (by decide) (by decide) (ad := "[[I") (by decide +kernel)
  obtain ⟨b16, g16⟩ : ∃ z, z = h15.size := ⟨_, rfl⟩
  rw [← g16] at A16 Ex16 st16
  have q17 := (Nat.le_trans (Nat.le_trans q12 E11.1) (Keep.of_wr W15).1)
  have g_b16 : n0 ≤ b16 := Nat.le_trans q17 (Nat.le_of_eq g16.symm)
  have q18 := (Nat.le_trans (Nat.le_trans q13 E11.1) (Keep.of_wr W15).1)
  have sz_b16 : h0.size ≤ b16 := Nat.le_trans q18 (Nat.le_of_eq g16.symm)
  have V_b16 : Arv Z h16 b16 k16 (.array .int) (1 : Int32) [.null] .null := (Arv.new A16 (by decide)).pad (pad_rep [] .null 1)
  refine own_of st16 ?_
  show own_Out p e below _ (T16.setTop (mkF m 69 #[rv o0, rv o1, rv o2, iv 1, rv b11, rv o2, iv 1, iv 1, iv 0] [.ref b16, .ref o0]))
  have ne_o0_b11 : o0 ≠ b11 := Nat.ne_of_lt (Nat.lt_of_lt_of_le E.lt sz_b11)
  have q20 := ((((((F_classes.other W2 (Or.inr (slot_ne (Or.inr (w_ hw 36 rfl)) (Or.inr (w_ hw 28 rfl)) (by decide) (t := (.array (.array .int))) (t' := (.object "java/lang/String")) (by decide) (by decide)))).other W3 (Or.inr (slot_ne (Or.inr (w_ hw 36 rfl)) (Or.inr (w_ hw 30 rfl)) (by decide) (t := (.array (.array .int))) (t' := (.array .int)) (by decide) (by decide)))).other W7 (Or.inr (slot_ne (Or.inr (w_ hw 36 rfl)) (Or.inr (w_ hw 32 rfl)) (by decide) (t := (.array (.array .int))) (t' := .int) (by decide) (by decide)))).ext E11).other W15 (Or.inl ne_o0_b11)).ext E16)
  have q21 := ((((q9.wr W7).ext E11).wr W15).ext E16)
  obtain ⟨T19, h19, X19, e19, W19, st19⟩ := putF X16 hx hZ hown (host := "") (Or.inl (w_ hw 35 rfl)) Via.refl e16 q20 q21 (Or.inr ⟨(w_ hw 36 rfl), rfl, hnm⟩) (w_ hw 11 rfl) (ty := (.array (.array .int))) (by decide) rfl rfl (g := (mkF m 69 #[rv o0, rv o1, rv o2, iv 1, rv b11, rv o2, iv 1, iv 1, iv 0] [.ref b16, .ref o0])) rfl rfl (hb hby d3_69)
  have q22 := ((((((F_classes.other W2 (Or.inr (slot_ne (Or.inr (w_ hw 36 rfl)) (Or.inr (w_ hw 28 rfl)) (by decide) (t := (.array (.array .int))) (t' := (.object "java/lang/String")) (by decide) (by decide)))).other W3 (Or.inr (slot_ne (Or.inr (w_ hw 36 rfl)) (Or.inr (w_ hw 30 rfl)) (by decide) (t := (.array (.array .int))) (t' := (.array .int)) (by decide) (by decide)))).other W7 (Or.inr (slot_ne (Or.inr (w_ hw 36 rfl)) (Or.inr (w_ hw 32 rfl)) (by decide) (t := (.array (.array .int))) (t' := .int) (by decide) (by decide)))).ext E11).other W15 (Or.inl ne_o0_b11)).ext E16)
  have Fw19 := q22.same W19
  refine own_of st19 ?_
  show own_Out p e below _ (T19.setTop (mkF m 72 #[rv o0, rv o1, rv o2, iv 1, rv b11, rv o2, iv 1, iv 1, iv 0] []))
  refine o_iconst X19 hx hby d3_72 (z := 0) rfl (q := 73) rfl ?_
  refine o_istore X19 hx hby d3_73 (l' := #[rv o0, rv o1, rv o2, iv 1, rv b11, iv 0, iv 1, iv 1, iv 0]) rfl (q := 75) rfl ?_
  refine o_iload X19 hx hby d3_75 rfl (q := 77) rfl ?_
  refine o_iloadN X19 hx hby d3_77 rfl (q := 78) rfl ?_
  refine o_icN X19 hx hby d3_78 (tlt (by decide : (0 : Int32) < (1 : Int32))).2.1 (q := 81) rfl ?_
  refine o_aloadN X19 hx hby d3_81 rfl rfl (q := 82) rfl ?_
  refine o_getF X19 hx hZ hown hby (w_ hw 35 rfl) Via.refl e19 Fw19 d3_82 (q := 85) rfl fun T23 X23 e23 => ?_
  refine o_iload X23 hx hby d3_85 rfl (q := 87) rfl ?_
  refine o_aload X23 hx hby d3_87 rfl rfl (q := 89) rfl ?_
  refine o_iload X23 hx hby d3_89 rfl (q := 91) rfl ?_
  have q24 := ((V15.ext E16).other W19 (Ne.symm ne_o0_b11))
  refine o_iaV X23 hx hby hZ e23 q24 ⟨by decide, by decide⟩ (v := .int 1) rfl d3_91 (q := 92) rfl ?_
  obtain ⟨T25, h25, k25, X25, e25, E25, A25, Ex25, st25⟩ := newPE X23 hx hZ (w_ hw 5 rfl) e23 (g := (mkF m 92 #[rv o0, rv o1, rv o2, iv 1, rv b11, iv 0, iv 1, iv 1, iv 0] [.int 1, .int 0, .ref b16])) rfl (hb hby d3_92) rfl (by decide) (cap := 1) (by decide) (by decide) (by decide) (by decide) (ad := "[I") (by decide +kernel)
  obtain ⟨b25, g25⟩ : ∃ z, z = h19.size := ⟨_, rfl⟩
  rw [← g25] at A25 Ex25 st25
  have q26 := (Nat.le_trans (Nat.le_trans q17 E16.1) (Keep.of_wr W19).1)
  have g_b25 : n0 ≤ b25 := Nat.le_trans q26 (Nat.le_of_eq g25.symm)
  have q27 := (Nat.le_trans (Nat.le_trans q18 E16.1) (Keep.of_wr W19).1)
  have sz_b25 : h0.size ≤ b25 := Nat.le_trans q27 (Nat.le_of_eq g25.symm)
  have V_b25 : Arv Z h25 b25 k25 .int (1 : Int32) [(.int (0 : Int32))] (.int (0 : Int32)) := (Arv.new A25 (by decide)).pad (pad_rep [] (.int (0 : Int32)) 1)
  refine own_of st25 ?_
  show own_Out p e below _ (T25.setTop (mkF m 94 #[rv o0, rv o1, rv o2, iv 1, rv b11, iv 0, iv 1, iv 1, iv 0] [.ref b25, .int 0, .ref b16]))
  have ne_o0_b16 : o0 ≠ b16 := Nat.ne_of_lt (Nat.lt_of_lt_of_le E.lt sz_b16)
  have q28 := ((V_b16.other W19 (Ne.symm ne_o0_b16)).ext E25)
  refine o_stVR X25 hx hby hZ e25 q28 ⟨by decide, by decide⟩ 0 rfl (Nat.le_of_ble_eq_true rfl) O16 (Ins.self Ex25) d3_94 (q := 95) rfl fun T29 h29 X29 e29 W29 V29 => ?_
  refine o_iinc X29 hx hby d3_95 rfl (l' := #[rv o0, rv o1, rv o2, iv 1, rv b11, iv 1, iv 1, iv 1, iv 0]) rfl (q := 98) rfl ?_
  refine o_goto X29 hx hby d3_98 (by decide) (q := 75) (by decide) ?_
  refine o_iload X29 hx hby d3_75 rfl (q := 77) rfl ?_
  refine o_iloadN X29 hx hby d3_77 rfl (q := 78) rfl ?_
  refine o_icY X29 hx hby d3_78 (flt (by decide : ¬ ((1 : Int32) < (1 : Int32)))).2.1 (by decide) (q := 101) (by decide) ?_
  refine o_iloadN X29 hx hby d3_101 rfl (q := 102) rfl ?_
  obtain ⟨T30, h30, k30, X30, e30, E30, A30, Ex30, st30⟩ := newPE X29 hx hZ (w_ hw 5 rfl) e29 (g := (mkF m 102 #[rv o0, rv o1, rv o2, iv 1, rv b11, iv 1, iv 1, iv 1, iv 0] [.int 1])) rfl (hb hby d3_102) rfl (by decide) (cap := 1) (by decide) (by decide) (by decide) (by decide) (ad := "[I") (by decide +kernel)
  obtain ⟨b30, g30⟩ : ∃ z, z = h29.size := ⟨_, rfl⟩
  rw [← g30] at A30 Ex30 st30
  have q31 := (Nat.le_trans (Nat.le_trans q26 E25.1) (Keep.of_wr W29).1)
  have g_b30 : n0 ≤ b30 := Nat.le_trans q31 (Nat.le_of_eq g30.symm)
  have q32 := (Nat.le_trans (Nat.le_trans q27 E25.1) (Keep.of_wr W29).1)
  have sz_b30 : h0.size ≤ b30 := Nat.le_trans q32 (Nat.le_of_eq g30.symm)
  have V_b30 : Arv Z h30 b30 k30 .int (1 : Int32) [(.int (0 : Int32))] (.int (0 : Int32)) := (Arv.new A30 (by decide)).pad (pad_rep [] (.int (0 : Int32)) 1)
  refine own_of st30 ?_
  show own_Out p e below _ (T30.setTop (mkF m 104 #[rv o0, rv o1, rv o2, iv 1, rv b11, iv 1, iv 1, iv 1, iv 0] [.ref b30]))
  refine o_astore X30 hx hby d3_104 rfl (l' := #[rv o0, rv o1, rv o2, iv 1, rv b11, rv b30, iv 1, iv 1, iv 0]) rfl (q := 106) rfl ?_
  refine o_iconst X30 hx hby d3_106 (z := 0) rfl (q := 107) rfl ?_
  refine o_istore X30 hx hby d3_107 (l' := #[rv o0, rv o1, rv o2, iv 1, rv b11, rv b30, iv 0, iv 1, iv 0]) rfl (q := 109) rfl ?_
  have ne_o2_b11 : o2 ≠ b11 := Nat.ne_of_lt (Nat.lt_of_lt_of_le V.lt sz_b11)
  have ne_o2_b16 : o2 ≠ b16 := Nat.ne_of_lt (Nat.lt_of_lt_of_le V.lt sz_b16)
  have q35 := ((((((q14.other W15 ne_o2_b11).ext E16).other W19 n2).ext E25).other W29 ne_o2_b16).ext E30)
  have q36 := (((Fw19.ext E25).other W29 (Or.inl ne_o0_b16)).ext E30)
  have q37 := (V29.ext E30)
  have ne_b16_b25 : b16 ≠ b25 := Nat.ne_of_lt (Nat.lt_of_lt_of_le (Nat.lt_of_lt_of_le A16.lt (Keep.of_wr W19).1) (Nat.le_of_eq g25.symm))
  have q38 := ((V_b25.other W29 (Ne.symm ne_b16_b25)).ext E30)
  have ne_b25_b30 : b25 ≠ b30 := Nat.ne_of_lt (Nat.lt_of_lt_of_le (Nat.lt_of_lt_of_le A25.lt (Keep.of_wr W29).1) (Nat.le_of_eq g30.symm))
  refine t3 X30 hx hby hZ e30 hw hown q35 q36 q37 V_b30 q38 ne_b25_b30 ⟨by decide, by decide⟩ (x := 0) rfl ⟨by decide, by decide⟩ rfl (f := 0) rfl ⟨by decide, by decide⟩ (f' := 1) rfl (i' := 1) rfl (iN := 0) rfl (Nat.le_of_ble_eq_true rfl) (jN := 0) rfl (Nat.le_of_ble_eq_true rfl) fun T34 h33 h34 X34 e34 W33 W34 V33 V34 => ?_
  refine o_iload X34 hx hby d3_109 rfl (q := 111) rfl ?_
  refine o_aloadN X34 hx hby d3_111 rfl rfl (q := 112) rfl ?_
  have ne_o2_b30 : o2 ≠ b30 := Nat.ne_of_lt (Nat.lt_of_lt_of_le V.lt sz_b30)
  have ne_o2_b25 : o2 ≠ b25 := Nat.ne_of_lt (Nat.lt_of_lt_of_le V.lt sz_b25)
  have q39 := ((q35.other W33 ne_o2_b30).other W34 ne_o2_b25)
  refine o_lenV X34 hx hby hZ e34 q39 d3_112 (q := 113) rfl ?_
  refine o_icY X34 hx hby d3_113 (flt (by decide : ¬ ((1 : Int32) < (1 : Int32)))).2.1 (by decide) (q := 146) (by decide) ?_
  have q40 := (((((((((((((Keep.refl h0 [o0]).wr W2 (Or.inl (List.mem_of_getElem? (i := 0) rfl))).wr W3 (Or.inl (List.mem_of_getElem? (i := 0) rfl))).wr W7 (Or.inl (List.mem_of_getElem? (i := 0) rfl))).ext E11).wr W15 (Or.inr sz_b11)).ext E16).wr W19 (Or.inl (List.mem_of_getElem? (i := 0) rfl))).ext E25).wr W29 (Or.inr sz_b16)).ext E30).wr W33 (Or.inr sz_b30)).wr W34 (Or.inr sz_b25))
  have q41 := ((((((q21.wr W19).ext E25).wr W29).ext E30).wr W33).wr W34)
  have ne_o0_b30 : o0 ≠ b30 := Nat.ne_of_lt (Nat.lt_of_lt_of_le E.lt sz_b30)
  have ne_o0_b25 : o0 ≠ b25 := Nat.ne_of_lt (Nat.lt_of_lt_of_le E.lt sz_b25)
  have q42 := ((((((((((Fw3.other W7 (Or.inr (slot_ne (Or.inr (w_ hw 30 rfl)) (Or.inr (w_ hw 32 rfl)) (by decide) (t := (.array .int)) (t' := .int) (by decide) (by decide)))).ext E11).other W15 (Or.inl ne_o0_b11)).ext E16).other W19 (Or.inr (slot_ne (Or.inr (w_ hw 30 rfl)) (Or.inr (w_ hw 36 rfl)) (by decide) (t := (.array .int)) (t' := (.array (.array .int))) (by decide) (by decide)))).ext E25).other W29 (Or.inl ne_o0_b16)).ext E30).other W33 (Or.inl ne_o0_b30)).other W34 (Or.inl ne_o0_b25))
  have q43 := (((((((((Fw7.ext E11).other W15 (Or.inl ne_o0_b11)).ext E16).other W19 (Or.inr (slot_ne (Or.inr (w_ hw 32 rfl)) (Or.inr (w_ hw 36 rfl)) (by decide) (t := .int) (t' := (.array (.array .int))) (by decide) (by decide)))).ext E25).other W29 (Or.inl ne_o0_b16)).ext E30).other W33 (Or.inl ne_o0_b30)).other W34 (Or.inl ne_o0_b25))
  exact own_outV X34 hx hlk hret (hb hby d3_146) (Q := Q3c0n1 Z o0 o1 o2 k2 h0 n0) (by rw [e34]; exact ⟨rfl, (Fr.snoc X34 (own_snoc (Fr.snoc X29 (Fr.snoc X19 (Fr.snoc X15 (Fr.snoc X7 (Fr.snoc X3 (Fr.snoc X2 N0 g_o0) g_o0) g_o0) g_b11) g_o0) g_b16) g_b30) g_b25), q40, q41, q42, q43⟩) (by decide) (by decide)
theorem ef_3c00n1 (m : MethodId) (x0 : Addr) (x1 : Addr) (x2 : Addr) : entryFrame m #[(.ref x0), (.ref x1), (.ref x2), (.int (1 : Int32))] 9 = mkF m 0 #[.val (.ref x0), .val (.ref x1), .val (.ref x2), .val (.int (1 : Int32)), .unset, .unset, .unset, .unset, .unset] [] := by first | (simp [entryFrame, mkF, argsToLocals, Value.category]; done) | rfl
def Q3c00n1 (Z : State) (o0 : Addr) (o1 : Addr) (o2 : Addr) (k2 : ClassId) (h0 : Heap) (n0 : Nat) (v : Option Value) (h : Heap) (L : List Loc) : Prop := v = none ∧ Fr n0 L ∧ Keep h0 h [o0] ∧ Exa Z h o0 "com/example/slimc/slimc/game/Observation" ∧ Fld Z h o0 "com/example/slimc/slimc/game/Observation" "classOf" "[I" (.ref o2) ∧ Fld Z h o0 "com/example/slimc/slimc/game/Observation" "classCount" "I" (.int (1 : Int32))
set_option maxRecDepth 65536 in
set_option maxHeartbeats 40000000 in
theorem rm3c00n1 (l : Launch) (Z : State) (a0 : Array Value) (hw : ∀ d ∈ tables_1, d.before a0 Z = true) (ws : List Jvm.Cond) (o0 : Addr) (o1 : Addr) (o2 : Addr) (k2 : ClassId) (h0 : Heap) (n0 : Nat) (Z0 : n0 ≤ h0.size) (E : Exa Z h0 o0 "com/example/slimc/slimc/game/Observation") (F_name : Fld Z h0 o0 "com/example/slimc/slimc/game/Observation" "name" "Ljava/lang/String;" .null) (F_classOf : Fld Z h0 o0 "com/example/slimc/slimc/game/Observation" "classOf" "[I" .null) (F_classCount : Fld Z h0 o0 "com/example/slimc/slimc/game/Observation" "classCount" "I" (.int (0 : Int32))) (F_classes : Fld Z h0 o0 "com/example/slimc/slimc/game/Observation" "classes" "[[I" .null) (g_o0 : n0 ≤ o0) (V : Arv Z h0 o2 k2 .int (2 : Int32) [(.int (0 : Int32)), (.int (0 : Int32))] (.int (0 : Int32))) (n2 : o2 ≠ o0) :
    MetFree l (⟨"com/example/slimc/slimc/game/Observation", "<init>", "(Ljava/lang/String;[II)V"⟩ : MethodName) (head1 (Jvm.Cond.code (⟨"com/example/slimc/slimc/game/Observation", "<init>", "(Ljava/lang/String;[II)V"⟩ : MethodName) prog_66_method_1_code 9 none :: ws) ({ frames := 1, cells := 7, slots := 16, locals := 14 } : Room)) (fun a U => a = #[(.ref o0), (.ref o1), (.ref o2), (.int (1 : Int32))] ∧ Z.Warmed39 U.vm ∧ U.heap = h0) (fun _ _ _ _ _ => True) (fun _ U o U' => ∃ v L, o = .returned v ∧ Q3c00n1 Z o0 o1 o2 k2 h0 n0 v U'.heap L ∧ FrameEnd U o U' L ({ frames := 1, cells := 7, slots := 16, locals := 14 } : Room).cells ({ frames := 1, cells := 7, slots := 16, locals := 14 } : Room).slots) := by
  refine MetFree.of_bodySF (plainFor_of_name pn_1) hisR ?_
  intro p e s m args below meth c s₁ Bd hml0 hP hK
  obtain ⟨rfl, hZ, hh⟩ := hP
  have hx := Bd.exec
  have hby := Bd.bytes
  have hml : c.maxLocals = 9 := hml0
  have hown : s.vm.findClass "com/example/slimc/slimc/game/Observation" = some m.cls := findClass_of_methodNamed Bd.named
  have hnm := (name_of_methodNamed Bd.named Bd.method).1
  have X0 : Stand p l e ({ frames := 1, cells := 7, slots := 16, locals := 14 } : Room) s m #[(.ref o0), (.ref o1), (.ref o2), (.int (1 : Int32))] below meth c s₁ [] 0 0 := Stand.of_body Bd
  have e0 : s₁.heap = h0 := by rw [← hh, Bd.state]; rfl
  have N0 := Fr.nil n0
  have hret := Bd.returns
  have hlk := BodyLoose.notSynchronized Bd
  show own_Out p e below (fun o U' => ∃ v L, o = .returned v ∧ Q3c00n1 Z o0 o1 o2 k2 h0 n0 v U'.heap L ∧ FrameEnd s o U' L ({ frames := 1, cells := 7, slots := 16, locals := 14 } : Room).cells ({ frames := 1, cells := 7, slots := 16, locals := 14 } : Room).slots) (s₁.setTop (entryFrame m #[(.ref o0), (.ref o1), (.ref o2), (.int (1 : Int32))] 9))
  refine own_of (fun t k => castTop (ef_3c00n1 m o0 o1 o2) k) ?_
  show own_Out p e below _ (s₁.setTop (mkF m 0 #[rv o0, rv o1, rv o2, iv 1, .unset, .unset, .unset, .unset, .unset] []))
  refine o_aloadN X0 hx hby d3_0 rfl rfl (q := 1) rfl ?_
  obtain ⟨T1, X1, e1, st1⟩ := initO X0 hx hZ hown (w_ hw 24 rfl) (w_ hw 25 rfl) (w_ hw 26 rfl) e0 (g := (mkF m 1 #[rv o0, rv o1, rv o2, iv 1, .unset, .unset, .unset, .unset, .unset] [.ref o0])) rfl (by rw [hml]; rfl) rfl (hb hby d3_1) (by decide) (W := 0) (by show 2 * 0 + _ ≤ _; exact Nat.le_of_eq rfl) (by decide)
  refine own_of st1 ?_
  show own_Out p e below _ (T1.setTop (mkF m 4 #[rv o0, rv o1, rv o2, iv 1, .unset, .unset, .unset, .unset, .unset] []))
  refine o_aloadN X1 hx hby d3_4 rfl rfl (q := 5) rfl ?_
  refine o_aloadN X1 hx hby d3_5 rfl rfl (q := 6) rfl ?_
  obtain ⟨T2, h2, X2, e2, W2, st2⟩ := putF X1 hx hZ hown (host := "") (Or.inl (w_ hw 27 rfl)) Via.refl e1 F_name E (Or.inr ⟨(w_ hw 28 rfl), rfl, hnm⟩) (w_ hw 11 rfl) (ty := (.object "java/lang/String")) (by decide) rfl rfl (g := (mkF m 6 #[rv o0, rv o1, rv o2, iv 1, .unset, .unset, .unset, .unset, .unset] [.ref o1, .ref o0])) rfl rfl (hb hby d3_6)
  have Fw2 := F_name.same W2
  refine own_of st2 ?_
  show own_Out p e below _ (T2.setTop (mkF m 9 #[rv o0, rv o1, rv o2, iv 1, .unset, .unset, .unset, .unset, .unset] []))
  refine o_aloadN X2 hx hby d3_9 rfl rfl (q := 10) rfl ?_
  refine o_aloadN X2 hx hby d3_10 rfl rfl (q := 11) rfl ?_
  have q4 := (F_classOf.other W2 (Or.inr (slot_ne (Or.inr (w_ hw 30 rfl)) (Or.inr (w_ hw 28 rfl)) (by decide) (t := (.array .int)) (t' := (.object "java/lang/String")) (by decide) (by decide))))
  have q5 := (E.wr W2)
  obtain ⟨T3, h3, X3, e3, W3, st3⟩ := putF X2 hx hZ hown (host := "") (Or.inl (w_ hw 29 rfl)) Via.refl e2 q4 q5 (Or.inr ⟨(w_ hw 30 rfl), rfl, hnm⟩) (w_ hw 11 rfl) (ty := (.array .int)) (by decide) rfl rfl (g := (mkF m 11 #[rv o0, rv o1, rv o2, iv 1, .unset, .unset, .unset, .unset, .unset] [.ref o2, .ref o0])) rfl rfl (hb hby d3_11)
  have q6 := (F_classOf.other W2 (Or.inr (slot_ne (Or.inr (w_ hw 30 rfl)) (Or.inr (w_ hw 28 rfl)) (by decide) (t := (.array .int)) (t' := (.object "java/lang/String")) (by decide) (by decide))))
  have Fw3 := q6.same W3
  refine own_of st3 ?_
  show own_Out p e below _ (T3.setTop (mkF m 14 #[rv o0, rv o1, rv o2, iv 1, .unset, .unset, .unset, .unset, .unset] []))
  refine o_aloadN X3 hx hby d3_14 rfl rfl (q := 15) rfl ?_
  refine o_iloadN X3 hx hby d3_15 rfl (q := 16) rfl ?_
  have q8 := ((F_classCount.other W2 (Or.inr (slot_ne (Or.inr (w_ hw 32 rfl)) (Or.inr (w_ hw 28 rfl)) (by decide) (t := .int) (t' := (.object "java/lang/String")) (by decide) (by decide)))).other W3 (Or.inr (slot_ne (Or.inr (w_ hw 32 rfl)) (Or.inr (w_ hw 30 rfl)) (by decide) (t := .int) (t' := (.array .int)) (by decide) (by decide))))
  have q9 := (q5.wr W3)
  obtain ⟨T7, h7, X7, e7, W7, st7⟩ := putF X3 hx hZ hown (host := "") (Or.inl (w_ hw 31 rfl)) Via.refl e3 q8 q9 (Or.inr ⟨(w_ hw 32 rfl), rfl, hnm⟩) (w_ hw 11 rfl) (ty := .int) (by decide) rfl rfl (g := (mkF m 16 #[rv o0, rv o1, rv o2, iv 1, .unset, .unset, .unset, .unset, .unset] [.int 1, .ref o0])) rfl rfl (hb hby d3_16)
  have q10 := ((F_classCount.other W2 (Or.inr (slot_ne (Or.inr (w_ hw 32 rfl)) (Or.inr (w_ hw 28 rfl)) (by decide) (t := .int) (t' := (.object "java/lang/String")) (by decide) (by decide)))).other W3 (Or.inr (slot_ne (Or.inr (w_ hw 32 rfl)) (Or.inr (w_ hw 30 rfl)) (by decide) (t := .int) (t' := (.array .int)) (by decide) (by decide))))
  have Fw7 := q10.same W7
  refine own_of st7 ?_
  show own_Out p e below _ (T7.setTop (mkF m 19 #[rv o0, rv o1, rv o2, iv 1, .unset, .unset, .unset, .unset, .unset] []))
  refine o_iloadN X7 hx hby d3_19 rfl (q := 20) rfl ?_
  obtain ⟨T11, h11, k11, X11, e11, E11, A11, Ex11, st11⟩ := newPE X7 hx hZ (w_ hw 5 rfl) e7 (g := (mkF m 20 #[rv o0, rv o1, rv o2, iv 1, .unset, .unset, .unset, .unset, .unset] [.int 1])) rfl (hb hby d3_20) rfl (by decide) (cap := 1) (by decide) (by decide) (by decide) (by decide) (ad := "[I") (by decide +kernel)
  obtain ⟨b11, g11⟩ : ∃ z, z = h7.size := ⟨_, rfl⟩
  rw [← g11] at A11 Ex11 st11
  have q12 := (Nat.le_trans (Nat.le_trans (Nat.le_trans Z0 (Keep.of_wr W2).1) (Keep.of_wr W3).1) (Keep.of_wr W7).1)
  have g_b11 : n0 ≤ b11 := Nat.le_trans q12 (Nat.le_of_eq g11.symm)
  have q13 := (Nat.le_trans (Nat.le_trans (Nat.le_trans (Nat.le_refl h0.size) (Keep.of_wr W2).1) (Keep.of_wr W3).1) (Keep.of_wr W7).1)
  have sz_b11 : h0.size ≤ b11 := Nat.le_trans q13 (Nat.le_of_eq g11.symm)
  have V_b11 : Arv Z h11 b11 k11 .int (1 : Int32) [(.int (0 : Int32))] (.int (0 : Int32)) := (Arv.new A11 (by decide)).pad (pad_rep [] (.int (0 : Int32)) 1)
  refine own_of st11 ?_
  show own_Out p e below _ (T11.setTop (mkF m 22 #[rv o0, rv o1, rv o2, iv 1, .unset, .unset, .unset, .unset, .unset] [.ref b11]))
  refine o_astore X11 hx hby d3_22 rfl (l' := #[rv o0, rv o1, rv o2, iv 1, rv b11, .unset, .unset, .unset, .unset]) rfl (q := 24) rfl ?_
  refine o_aloadN X11 hx hby d3_24 rfl rfl (q := 25) rfl ?_
  refine o_astore X11 hx hby d3_25 rfl (l' := #[rv o0, rv o1, rv o2, iv 1, rv b11, rv o2, .unset, .unset, .unset]) rfl (q := 27) rfl ?_
  refine o_aload X11 hx hby d3_27 rfl rfl (q := 29) rfl ?_
  have q14 := ((((V.other W2 n2).other W3 n2).other W7 n2).ext E11)
  refine o_lenV X11 hx hby hZ e11 q14 d3_29 (q := 30) rfl ?_
  refine o_istore X11 hx hby d3_30 (l' := #[rv o0, rv o1, rv o2, iv 1, rv b11, rv o2, iv 2, .unset, .unset]) rfl (q := 32) rfl ?_
  refine o_iconst X11 hx hby d3_32 (z := 0) rfl (q := 33) rfl ?_
  refine o_istore X11 hx hby d3_33 (l' := #[rv o0, rv o1, rv o2, iv 1, rv b11, rv o2, iv 2, iv 0, .unset]) rfl (q := 35) rfl ?_
  refine t1 X11 hx hby hZ e11 q14 V_b11 rfl ⟨by decide, by decide⟩ (cc := 0) rfl ⟨by decide, by decide⟩ (y := 0) rfl (y' := 1) rfl (i' := 1) rfl (iN := 0) rfl (Nat.le_of_ble_eq_true rfl) fun T15 h15 X15 e15 W15 V15 => ?_
  have ne_o2_b11 : o2 ≠ b11 := Nat.ne_of_lt (Nat.lt_of_lt_of_le V.lt sz_b11)
  have q16 := (q14.other W15 ne_o2_b11)
  refine t1 X15 hx hby hZ e15 q16 V15 rfl ⟨by decide, by decide⟩ (cc := 0) rfl ⟨by decide, by decide⟩ (y := 1) rfl (y' := 2) rfl (i' := 2) rfl (iN := 0) rfl (Nat.le_of_ble_eq_true rfl) fun T17 h17 X17 e17 W17 V17 => ?_
  refine o_iload X17 hx hby d3_35 rfl (q := 37) rfl ?_
  refine o_iload X17 hx hby d3_37 rfl (q := 39) rfl ?_
  refine o_icY X17 hx hby d3_39 (flt (by decide : ¬ ((2 : Int32) < (2 : Int32)))).2.1 (by decide) (q := 64) (by decide) ?_
  refine o_aloadN X17 hx hby d3_64 rfl rfl (q := 65) rfl ?_
  refine o_iloadN X17 hx hby d3_65 rfl (q := 66) rfl ?_
  obtain ⟨T18, h18, k18, X18, e18, E18, A18, Ex18, O18, st18⟩ := newRA X17 hx hZ hown (ty := .int) (by decide +kernel) (w_ hw 33 rfl) (w_ hw 34 rfl) e17 (g := (mkF m 66 #[rv o0, rv o1, rv o2, iv 1, rv b11, rv o2, iv 2, iv 2, iv 0] [.int 1, .ref o0])) rfl (hb hby d3_66) rfl (by decide) (cap := 1) (by decide) (by decide) (by decide) (by decide) (ad := "[[I") (by decide +kernel)
  obtain ⟨b18, g18⟩ : ∃ z, z = h17.size := ⟨_, rfl⟩
  rw [← g18] at A18 Ex18 st18
  have q19 := (Nat.le_trans (Nat.le_trans (Nat.le_trans q12 E11.1) (Keep.of_wr W15).1) (Keep.of_wr W17).1)
  have g_b18 : n0 ≤ b18 := Nat.le_trans q19 (Nat.le_of_eq g18.symm)
  have q20 := (Nat.le_trans (Nat.le_trans (Nat.le_trans q13 E11.1) (Keep.of_wr W15).1) (Keep.of_wr W17).1)
  have sz_b18 : h0.size ≤ b18 := Nat.le_trans q20 (Nat.le_of_eq g18.symm)
  have V_b18 : Arv Z h18 b18 k18 (.array .int) (1 : Int32) [.null] .null := (Arv.new A18 (by decide)).pad (pad_rep [] .null 1)
  refine own_of st18 ?_
  show own_Out p e below _ (T18.setTop (mkF m 69 #[rv o0, rv o1, rv o2, iv 1, rv b11, rv o2, iv 2, iv 2, iv 0] [.ref b18, .ref o0]))
  have ne_o0_b11 : o0 ≠ b11 := Nat.ne_of_lt (Nat.lt_of_lt_of_le E.lt sz_b11)
  have q22 := (((((((F_classes.other W2 (Or.inr (slot_ne (Or.inr (w_ hw 36 rfl)) (Or.inr (w_ hw 28 rfl)) (by decide) (t := (.array (.array .int))) (t' := (.object "java/lang/String")) (by decide) (by decide)))).other W3 (Or.inr (slot_ne (Or.inr (w_ hw 36 rfl)) (Or.inr (w_ hw 30 rfl)) (by decide) (t := (.array (.array .int))) (t' := (.array .int)) (by decide) (by decide)))).other W7 (Or.inr (slot_ne (Or.inr (w_ hw 36 rfl)) (Or.inr (w_ hw 32 rfl)) (by decide) (t := (.array (.array .int))) (t' := .int) (by decide) (by decide)))).ext E11).other W15 (Or.inl ne_o0_b11)).other W17 (Or.inl ne_o0_b11)).ext E18)
  have q23 := (((((q9.wr W7).ext E11).wr W15).wr W17).ext E18)
  obtain ⟨T21, h21, X21, e21, W21, st21⟩ := putF X18 hx hZ hown (host := "") (Or.inl (w_ hw 35 rfl)) Via.refl e18 q22 q23 (Or.inr ⟨(w_ hw 36 rfl), rfl, hnm⟩) (w_ hw 11 rfl) (ty := (.array (.array .int))) (by decide) rfl rfl (g := (mkF m 69 #[rv o0, rv o1, rv o2, iv 1, rv b11, rv o2, iv 2, iv 2, iv 0] [.ref b18, .ref o0])) rfl rfl (hb hby d3_69)
  have q24 := (((((((F_classes.other W2 (Or.inr (slot_ne (Or.inr (w_ hw 36 rfl)) (Or.inr (w_ hw 28 rfl)) (by decide) (t := (.array (.array .int))) (t' := (.object "java/lang/String")) (by decide) (by decide)))).other W3 (Or.inr (slot_ne (Or.inr (w_ hw 36 rfl)) (Or.inr (w_ hw 30 rfl)) (by decide) (t := (.array (.array .int))) (t' := (.array .int)) (by decide) (by decide)))).other W7 (Or.inr (slot_ne (Or.inr (w_ hw 36 rfl)) (Or.inr (w_ hw 32 rfl)) (by decide) (t := (.array (.array .int))) (t' := .int) (by decide) (by decide)))).ext E11).other W15 (Or.inl ne_o0_b11)).other W17 (Or.inl ne_o0_b11)).ext E18)
  have Fw21 := q24.same W21
  refine own_of st21 ?_
  show own_Out p e below _ (T21.setTop (mkF m 72 #[rv o0, rv o1, rv o2, iv 1, rv b11, rv o2, iv 2, iv 2, iv 0] []))
  refine o_iconst X21 hx hby d3_72 (z := 0) rfl (q := 73) rfl ?_
  refine o_istore X21 hx hby d3_73 (l' := #[rv o0, rv o1, rv o2, iv 1, rv b11, iv 0, iv 2, iv 2, iv 0]) rfl (q := 75) rfl ?_
  refine o_iload X21 hx hby d3_75 rfl (q := 77) rfl ?_
  refine o_iloadN X21 hx hby d3_77 rfl (q := 78) rfl ?_
  refine o_icN X21 hx hby d3_78 (tlt (by decide : (0 : Int32) < (1 : Int32))).2.1 (q := 81) rfl ?_
  refine o_aloadN X21 hx hby d3_81 rfl rfl (q := 82) rfl ?_
  refine o_getF X21 hx hZ hown hby (w_ hw 35 rfl) Via.refl e21 Fw21 d3_82 (q := 85) rfl fun T25 X25 e25 => ?_
  refine o_iload X25 hx hby d3_85 rfl (q := 87) rfl ?_
  refine o_aload X25 hx hby d3_87 rfl rfl (q := 89) rfl ?_
  refine o_iload X25 hx hby d3_89 rfl (q := 91) rfl ?_
  have q26 := ((V17.ext E18).other W21 (Ne.symm ne_o0_b11))
  refine o_iaV X25 hx hby hZ e25 q26 ⟨by decide, by decide⟩ (v := .int 2) rfl d3_91 (q := 92) rfl ?_
  obtain ⟨T27, h27, k27, X27, e27, E27, A27, Ex27, st27⟩ := newPE X25 hx hZ (w_ hw 5 rfl) e25 (g := (mkF m 92 #[rv o0, rv o1, rv o2, iv 1, rv b11, iv 0, iv 2, iv 2, iv 0] [.int 2, .int 0, .ref b18])) rfl (hb hby d3_92) rfl (by decide) (cap := 2) (by decide) (by decide) (by decide) (by decide) (ad := "[I") (by decide +kernel)
  obtain ⟨b27, g27⟩ : ∃ z, z = h21.size := ⟨_, rfl⟩
  rw [← g27] at A27 Ex27 st27
  have q28 := (Nat.le_trans (Nat.le_trans q19 E18.1) (Keep.of_wr W21).1)
  have g_b27 : n0 ≤ b27 := Nat.le_trans q28 (Nat.le_of_eq g27.symm)
  have q29 := (Nat.le_trans (Nat.le_trans q20 E18.1) (Keep.of_wr W21).1)
  have sz_b27 : h0.size ≤ b27 := Nat.le_trans q29 (Nat.le_of_eq g27.symm)
  have V_b27 : Arv Z h27 b27 k27 .int (2 : Int32) [(.int (0 : Int32)), (.int (0 : Int32))] (.int (0 : Int32)) := (Arv.new A27 (by decide)).pad (pad_rep [] (.int (0 : Int32)) 2)
  refine own_of st27 ?_
  show own_Out p e below _ (T27.setTop (mkF m 94 #[rv o0, rv o1, rv o2, iv 1, rv b11, iv 0, iv 2, iv 2, iv 0] [.ref b27, .int 0, .ref b18]))
  have ne_o0_b18 : o0 ≠ b18 := Nat.ne_of_lt (Nat.lt_of_lt_of_le E.lt sz_b18)
  have q30 := ((V_b18.other W21 (Ne.symm ne_o0_b18)).ext E27)
  refine o_stVR X27 hx hby hZ e27 q30 ⟨by decide, by decide⟩ 0 rfl (Nat.le_of_ble_eq_true rfl) O18 (Ins.self Ex27) d3_94 (q := 95) rfl fun T31 h31 X31 e31 W31 V31 => ?_
  refine o_iinc X31 hx hby d3_95 rfl (l' := #[rv o0, rv o1, rv o2, iv 1, rv b11, iv 1, iv 2, iv 2, iv 0]) rfl (q := 98) rfl ?_
  refine o_goto X31 hx hby d3_98 (by decide) (q := 75) (by decide) ?_
  refine o_iload X31 hx hby d3_75 rfl (q := 77) rfl ?_
  refine o_iloadN X31 hx hby d3_77 rfl (q := 78) rfl ?_
  refine o_icY X31 hx hby d3_78 (flt (by decide : ¬ ((1 : Int32) < (1 : Int32)))).2.1 (by decide) (q := 101) (by decide) ?_
  refine o_iloadN X31 hx hby d3_101 rfl (q := 102) rfl ?_
  obtain ⟨T32, h32, k32, X32, e32, E32, A32, Ex32, st32⟩ := newPE X31 hx hZ (w_ hw 5 rfl) e31 (g := (mkF m 102 #[rv o0, rv o1, rv o2, iv 1, rv b11, iv 1, iv 2, iv 2, iv 0] [.int 1])) rfl (hb hby d3_102) rfl (by decide) (cap := 1) (by decide) (by decide) (by decide) (by decide) (ad := "[I") (by decide +kernel)
  obtain ⟨b32, g32⟩ : ∃ z, z = h31.size := ⟨_, rfl⟩
  rw [← g32] at A32 Ex32 st32
  have q33 := (Nat.le_trans (Nat.le_trans q28 E27.1) (Keep.of_wr W31).1)
  have g_b32 : n0 ≤ b32 := Nat.le_trans q33 (Nat.le_of_eq g32.symm)
  have q34 := (Nat.le_trans (Nat.le_trans q29 E27.1) (Keep.of_wr W31).1)
  have sz_b32 : h0.size ≤ b32 := Nat.le_trans q34 (Nat.le_of_eq g32.symm)
  have V_b32 : Arv Z h32 b32 k32 .int (1 : Int32) [(.int (0 : Int32))] (.int (0 : Int32)) := (Arv.new A32 (by decide)).pad (pad_rep [] (.int (0 : Int32)) 1)
  refine own_of st32 ?_
  show own_Out p e below _ (T32.setTop (mkF m 104 #[rv o0, rv o1, rv o2, iv 1, rv b11, iv 1, iv 2, iv 2, iv 0] [.ref b32]))
  refine o_astore X32 hx hby d3_104 rfl (l' := #[rv o0, rv o1, rv o2, iv 1, rv b11, rv b32, iv 2, iv 2, iv 0]) rfl (q := 106) rfl ?_
  refine o_iconst X32 hx hby d3_106 (z := 0) rfl (q := 107) rfl ?_
  refine o_istore X32 hx hby d3_107 (l' := #[rv o0, rv o1, rv o2, iv 1, rv b11, rv b32, iv 0, iv 2, iv 0]) rfl (q := 109) rfl ?_
  have ne_o2_b18 : o2 ≠ b18 := Nat.ne_of_lt (Nat.lt_of_lt_of_le V.lt sz_b18)
  have q37 := ((((((q16.other W17 ne_o2_b11).ext E18).other W21 n2).ext E27).other W31 ne_o2_b18).ext E32)
  have q38 := (((Fw21.ext E27).other W31 (Or.inl ne_o0_b18)).ext E32)
  have q39 := (V31.ext E32)
  have ne_b18_b27 : b18 ≠ b27 := Nat.ne_of_lt (Nat.lt_of_lt_of_le (Nat.lt_of_lt_of_le A18.lt (Keep.of_wr W21).1) (Nat.le_of_eq g27.symm))
  have q40 := ((V_b27.other W31 (Ne.symm ne_b18_b27)).ext E32)
  have ne_b27_b32 : b27 ≠ b32 := Nat.ne_of_lt (Nat.lt_of_lt_of_le (Nat.lt_of_lt_of_le A27.lt (Keep.of_wr W31).1) (Nat.le_of_eq g32.symm))
  refine t3 X32 hx hby hZ e32 hw hown q37 q38 q39 V_b32 q40 ne_b27_b32 ⟨by decide, by decide⟩ (x := 0) rfl ⟨by decide, by decide⟩ rfl (f := 0) rfl ⟨by decide, by decide⟩ (f' := 1) rfl (i' := 1) rfl (iN := 0) rfl (Nat.le_of_ble_eq_true rfl) (jN := 0) rfl (Nat.le_of_ble_eq_true rfl) fun T36 h35 h36 X36 e36 W35 W36 V35 V36 => ?_
  have ne_o2_b32 : o2 ≠ b32 := Nat.ne_of_lt (Nat.lt_of_lt_of_le V.lt sz_b32)
  have ne_o2_b27 : o2 ≠ b27 := Nat.ne_of_lt (Nat.lt_of_lt_of_le V.lt sz_b27)
  have q43 := ((q37.other W35 ne_o2_b32).other W36 ne_o2_b27)
  have ne_o0_b32 : o0 ≠ b32 := Nat.ne_of_lt (Nat.lt_of_lt_of_le E.lt sz_b32)
  have ne_o0_b27 : o0 ≠ b27 := Nat.ne_of_lt (Nat.lt_of_lt_of_le E.lt sz_b27)
  have q44 := ((q38.other W35 (Or.inl ne_o0_b32)).other W36 (Or.inl ne_o0_b27))
  have ne_b18_b32 : b18 ≠ b32 := Nat.ne_of_lt (Nat.lt_of_lt_of_le (Nat.lt_of_lt_of_le (Nat.lt_of_lt_of_le (Nat.lt_of_lt_of_le A18.lt (Keep.of_wr W21).1) E27.1) (Keep.of_wr W31).1) (Nat.le_of_eq g32.symm))
  have q45 := ((q39.other W35 ne_b18_b32).other W36 ne_b18_b27)
  have q46 := (V35.other W36 (Ne.symm ne_b27_b32))
  refine t3 X36 hx hby hZ e36 hw hown q43 q44 q45 q46 V36 ne_b27_b32 ⟨by decide, by decide⟩ (x := 0) rfl ⟨by decide, by decide⟩ rfl (f := 1) rfl ⟨by decide, by decide⟩ (f' := 2) rfl (i' := 2) rfl (iN := 0) rfl (Nat.le_of_ble_eq_true rfl) (jN := 1) rfl (Nat.le_of_ble_eq_true rfl) fun T42 h41 h42 X42 e42 W41 W42 V41 V42 => ?_
  refine o_iload X42 hx hby d3_109 rfl (q := 111) rfl ?_
  refine o_aloadN X42 hx hby d3_111 rfl rfl (q := 112) rfl ?_
  have q47 := ((q43.other W41 ne_o2_b32).other W42 ne_o2_b27)
  refine o_lenV X42 hx hby hZ e42 q47 d3_112 (q := 113) rfl ?_
  refine o_icY X42 hx hby d3_113 (flt (by decide : ¬ ((2 : Int32) < (2 : Int32)))).2.1 (by decide) (q := 146) (by decide) ?_
  have q48 := ((((((((((((((((Keep.refl h0 [o0]).wr W2 (Or.inl (List.mem_of_getElem? (i := 0) rfl))).wr W3 (Or.inl (List.mem_of_getElem? (i := 0) rfl))).wr W7 (Or.inl (List.mem_of_getElem? (i := 0) rfl))).ext E11).wr W15 (Or.inr sz_b11)).wr W17 (Or.inr sz_b11)).ext E18).wr W21 (Or.inl (List.mem_of_getElem? (i := 0) rfl))).ext E27).wr W31 (Or.inr sz_b18)).ext E32).wr W35 (Or.inr sz_b32)).wr W36 (Or.inr sz_b27)).wr W41 (Or.inr sz_b32)).wr W42 (Or.inr sz_b27))
  have q49 := ((((((((q23.wr W21).ext E27).wr W31).ext E32).wr W35).wr W36).wr W41).wr W42)
  have q50 := (((((((((((((Fw3.other W7 (Or.inr (slot_ne (Or.inr (w_ hw 30 rfl)) (Or.inr (w_ hw 32 rfl)) (by decide) (t := (.array .int)) (t' := .int) (by decide) (by decide)))).ext E11).other W15 (Or.inl ne_o0_b11)).other W17 (Or.inl ne_o0_b11)).ext E18).other W21 (Or.inr (slot_ne (Or.inr (w_ hw 30 rfl)) (Or.inr (w_ hw 36 rfl)) (by decide) (t := (.array .int)) (t' := (.array (.array .int))) (by decide) (by decide)))).ext E27).other W31 (Or.inl ne_o0_b18)).ext E32).other W35 (Or.inl ne_o0_b32)).other W36 (Or.inl ne_o0_b27)).other W41 (Or.inl ne_o0_b32)).other W42 (Or.inl ne_o0_b27))
  have q51 := ((((((((((((Fw7.ext E11).other W15 (Or.inl ne_o0_b11)).other W17 (Or.inl ne_o0_b11)).ext E18).other W21 (Or.inr (slot_ne (Or.inr (w_ hw 32 rfl)) (Or.inr (w_ hw 36 rfl)) (by decide) (t := .int) (t' := (.array (.array .int))) (by decide) (by decide)))).ext E27).other W31 (Or.inl ne_o0_b18)).ext E32).other W35 (Or.inl ne_o0_b32)).other W36 (Or.inl ne_o0_b27)).other W41 (Or.inl ne_o0_b32)).other W42 (Or.inl ne_o0_b27))
  exact own_outV X42 hx hlk hret (hb hby d3_146) (Q := Q3c00n1 Z o0 o1 o2 k2 h0 n0) (by rw [e42]; exact ⟨rfl, (Fr.snoc X42 (own_snoc (Fr.snoc X36 (own_snoc (Fr.snoc X31 (Fr.snoc X21 (Fr.snoc X17 (Fr.snoc X15 (Fr.snoc X7 (Fr.snoc X3 (Fr.snoc X2 N0 g_o0) g_o0) g_o0) g_b11) g_b11) g_o0) g_b18) g_b32) g_b27) g_b32) g_b27), q48, q49, q50, q51⟩) (by decide) (by decide)
theorem ef_3c000n1 (m : MethodId) (x0 : Addr) (x1 : Addr) (x2 : Addr) : entryFrame m #[(.ref x0), (.ref x1), (.ref x2), (.int (1 : Int32))] 9 = mkF m 0 #[.val (.ref x0), .val (.ref x1), .val (.ref x2), .val (.int (1 : Int32)), .unset, .unset, .unset, .unset, .unset] [] := by first | (simp [entryFrame, mkF, argsToLocals, Value.category]; done) | rfl
def Q3c000n1 (Z : State) (o0 : Addr) (o1 : Addr) (o2 : Addr) (k2 : ClassId) (h0 : Heap) (n0 : Nat) (v : Option Value) (h : Heap) (L : List Loc) : Prop := v = none ∧ Fr n0 L ∧ Keep h0 h [o0] ∧ Exa Z h o0 "com/example/slimc/slimc/game/Observation" ∧ Fld Z h o0 "com/example/slimc/slimc/game/Observation" "classOf" "[I" (.ref o2) ∧ Fld Z h o0 "com/example/slimc/slimc/game/Observation" "classCount" "I" (.int (1 : Int32))
set_option maxRecDepth 65536 in
set_option maxHeartbeats 40000000 in
theorem rm3c000n1 (l : Launch) (Z : State) (a0 : Array Value) (hw : ∀ d ∈ tables_1, d.before a0 Z = true) (ws : List Jvm.Cond) (o0 : Addr) (o1 : Addr) (o2 : Addr) (k2 : ClassId) (h0 : Heap) (n0 : Nat) (Z0 : n0 ≤ h0.size) (E : Exa Z h0 o0 "com/example/slimc/slimc/game/Observation") (F_name : Fld Z h0 o0 "com/example/slimc/slimc/game/Observation" "name" "Ljava/lang/String;" .null) (F_classOf : Fld Z h0 o0 "com/example/slimc/slimc/game/Observation" "classOf" "[I" .null) (F_classCount : Fld Z h0 o0 "com/example/slimc/slimc/game/Observation" "classCount" "I" (.int (0 : Int32))) (F_classes : Fld Z h0 o0 "com/example/slimc/slimc/game/Observation" "classes" "[[I" .null) (g_o0 : n0 ≤ o0) (V : Arv Z h0 o2 k2 .int (3 : Int32) [(.int (0 : Int32)), (.int (0 : Int32)), (.int (0 : Int32))] (.int (0 : Int32))) (n2 : o2 ≠ o0) :
    MetFree l (⟨"com/example/slimc/slimc/game/Observation", "<init>", "(Ljava/lang/String;[II)V"⟩ : MethodName) (head1 (Jvm.Cond.code (⟨"com/example/slimc/slimc/game/Observation", "<init>", "(Ljava/lang/String;[II)V"⟩ : MethodName) prog_66_method_1_code 9 none :: ws) ({ frames := 1, cells := 7, slots := 16, locals := 14 } : Room)) (fun a U => a = #[(.ref o0), (.ref o1), (.ref o2), (.int (1 : Int32))] ∧ Z.Warmed39 U.vm ∧ U.heap = h0) (fun _ _ _ _ _ => True) (fun _ U o U' => ∃ v L, o = .returned v ∧ Q3c000n1 Z o0 o1 o2 k2 h0 n0 v U'.heap L ∧ FrameEnd U o U' L ({ frames := 1, cells := 7, slots := 16, locals := 14 } : Room).cells ({ frames := 1, cells := 7, slots := 16, locals := 14 } : Room).slots) := by
  refine MetFree.of_bodySF (plainFor_of_name pn_1) hisR ?_
  intro p e s m args below meth c s₁ Bd hml0 hP hK
  obtain ⟨rfl, hZ, hh⟩ := hP
  have hx := Bd.exec
  have hby := Bd.bytes
  have hml : c.maxLocals = 9 := hml0
  have hown : s.vm.findClass "com/example/slimc/slimc/game/Observation" = some m.cls := findClass_of_methodNamed Bd.named
  have hnm := (name_of_methodNamed Bd.named Bd.method).1
  have X0 : Stand p l e ({ frames := 1, cells := 7, slots := 16, locals := 14 } : Room) s m #[(.ref o0), (.ref o1), (.ref o2), (.int (1 : Int32))] below meth c s₁ [] 0 0 := Stand.of_body Bd
  have e0 : s₁.heap = h0 := by rw [← hh, Bd.state]; rfl
  have N0 := Fr.nil n0
  have hret := Bd.returns
  have hlk := BodyLoose.notSynchronized Bd
  show own_Out p e below (fun o U' => ∃ v L, o = .returned v ∧ Q3c000n1 Z o0 o1 o2 k2 h0 n0 v U'.heap L ∧ FrameEnd s o U' L ({ frames := 1, cells := 7, slots := 16, locals := 14 } : Room).cells ({ frames := 1, cells := 7, slots := 16, locals := 14 } : Room).slots) (s₁.setTop (entryFrame m #[(.ref o0), (.ref o1), (.ref o2), (.int (1 : Int32))] 9))
  refine own_of (fun t k => castTop (ef_3c000n1 m o0 o1 o2) k) ?_
  show own_Out p e below _ (s₁.setTop (mkF m 0 #[rv o0, rv o1, rv o2, iv 1, .unset, .unset, .unset, .unset, .unset] []))
  refine o_aloadN X0 hx hby d3_0 rfl rfl (q := 1) rfl ?_
  obtain ⟨T1, X1, e1, st1⟩ := initO X0 hx hZ hown (w_ hw 24 rfl) (w_ hw 25 rfl) (w_ hw 26 rfl) e0 (g := (mkF m 1 #[rv o0, rv o1, rv o2, iv 1, .unset, .unset, .unset, .unset, .unset] [.ref o0])) rfl (by rw [hml]; rfl) rfl (hb hby d3_1) (by decide) (W := 0) (by show 2 * 0 + _ ≤ _; exact Nat.le_of_eq rfl) (by decide)
  refine own_of st1 ?_
  show own_Out p e below _ (T1.setTop (mkF m 4 #[rv o0, rv o1, rv o2, iv 1, .unset, .unset, .unset, .unset, .unset] []))
  refine o_aloadN X1 hx hby d3_4 rfl rfl (q := 5) rfl ?_
  refine o_aloadN X1 hx hby d3_5 rfl rfl (q := 6) rfl ?_
  obtain ⟨T2, h2, X2, e2, W2, st2⟩ := putF X1 hx hZ hown (host := "") (Or.inl (w_ hw 27 rfl)) Via.refl e1 F_name E (Or.inr ⟨(w_ hw 28 rfl), rfl, hnm⟩) (w_ hw 11 rfl) (ty := (.object "java/lang/String")) (by decide) rfl rfl (g := (mkF m 6 #[rv o0, rv o1, rv o2, iv 1, .unset, .unset, .unset, .unset, .unset] [.ref o1, .ref o0])) rfl rfl (hb hby d3_6)
  have Fw2 := F_name.same W2
  refine own_of st2 ?_
  show own_Out p e below _ (T2.setTop (mkF m 9 #[rv o0, rv o1, rv o2, iv 1, .unset, .unset, .unset, .unset, .unset] []))
  refine o_aloadN X2 hx hby d3_9 rfl rfl (q := 10) rfl ?_
  refine o_aloadN X2 hx hby d3_10 rfl rfl (q := 11) rfl ?_
  have q4 := (F_classOf.other W2 (Or.inr (slot_ne (Or.inr (w_ hw 30 rfl)) (Or.inr (w_ hw 28 rfl)) (by decide) (t := (.array .int)) (t' := (.object "java/lang/String")) (by decide) (by decide))))
  have q5 := (E.wr W2)
  obtain ⟨T3, h3, X3, e3, W3, st3⟩ := putF X2 hx hZ hown (host := "") (Or.inl (w_ hw 29 rfl)) Via.refl e2 q4 q5 (Or.inr ⟨(w_ hw 30 rfl), rfl, hnm⟩) (w_ hw 11 rfl) (ty := (.array .int)) (by decide) rfl rfl (g := (mkF m 11 #[rv o0, rv o1, rv o2, iv 1, .unset, .unset, .unset, .unset, .unset] [.ref o2, .ref o0])) rfl rfl (hb hby d3_11)
  have q6 := (F_classOf.other W2 (Or.inr (slot_ne (Or.inr (w_ hw 30 rfl)) (Or.inr (w_ hw 28 rfl)) (by decide) (t := (.array .int)) (t' := (.object "java/lang/String")) (by decide) (by decide))))
  have Fw3 := q6.same W3
  refine own_of st3 ?_
  show own_Out p e below _ (T3.setTop (mkF m 14 #[rv o0, rv o1, rv o2, iv 1, .unset, .unset, .unset, .unset, .unset] []))
  refine o_aloadN X3 hx hby d3_14 rfl rfl (q := 15) rfl ?_
  refine o_iloadN X3 hx hby d3_15 rfl (q := 16) rfl ?_
  have q8 := ((F_classCount.other W2 (Or.inr (slot_ne (Or.inr (w_ hw 32 rfl)) (Or.inr (w_ hw 28 rfl)) (by decide) (t := .int) (t' := (.object "java/lang/String")) (by decide) (by decide)))).other W3 (Or.inr (slot_ne (Or.inr (w_ hw 32 rfl)) (Or.inr (w_ hw 30 rfl)) (by decide) (t := .int) (t' := (.array .int)) (by decide) (by decide))))
  have q9 := (q5.wr W3)
  obtain ⟨T7, h7, X7, e7, W7, st7⟩ := putF X3 hx hZ hown (host := "") (Or.inl (w_ hw 31 rfl)) Via.refl e3 q8 q9 (Or.inr ⟨(w_ hw 32 rfl), rfl, hnm⟩) (w_ hw 11 rfl) (ty := .int) (by decide) rfl rfl (g := (mkF m 16 #[rv o0, rv o1, rv o2, iv 1, .unset, .unset, .unset, .unset, .unset] [.int 1, .ref o0])) rfl rfl (hb hby d3_16)
  have q10 := ((F_classCount.other W2 (Or.inr (slot_ne (Or.inr (w_ hw 32 rfl)) (Or.inr (w_ hw 28 rfl)) (by decide) (t := .int) (t' := (.object "java/lang/String")) (by decide) (by decide)))).other W3 (Or.inr (slot_ne (Or.inr (w_ hw 32 rfl)) (Or.inr (w_ hw 30 rfl)) (by decide) (t := .int) (t' := (.array .int)) (by decide) (by decide))))
  have Fw7 := q10.same W7
  refine own_of st7 ?_
  show own_Out p e below _ (T7.setTop (mkF m 19 #[rv o0, rv o1, rv o2, iv 1, .unset, .unset, .unset, .unset, .unset] []))
  refine o_iloadN X7 hx hby d3_19 rfl (q := 20) rfl ?_
  obtain ⟨T11, h11, k11, X11, e11, E11, A11, Ex11, st11⟩ := newPE X7 hx hZ (w_ hw 5 rfl) e7 (g := (mkF m 20 #[rv o0, rv o1, rv o2, iv 1, .unset, .unset, .unset, .unset, .unset] [.int 1])) rfl (hb hby d3_20) rfl (by decide) (cap := 1) (by decide) (by decide) (by decide) (by decide) (ad := "[I") (by decide +kernel)
  obtain ⟨b11, g11⟩ : ∃ z, z = h7.size := ⟨_, rfl⟩
  rw [← g11] at A11 Ex11 st11
  have q12 := (Nat.le_trans (Nat.le_trans (Nat.le_trans Z0 (Keep.of_wr W2).1) (Keep.of_wr W3).1) (Keep.of_wr W7).1)
  have g_b11 : n0 ≤ b11 := Nat.le_trans q12 (Nat.le_of_eq g11.symm)
  have q13 := (Nat.le_trans (Nat.le_trans (Nat.le_trans (Nat.le_refl h0.size) (Keep.of_wr W2).1) (Keep.of_wr W3).1) (Keep.of_wr W7).1)
  have sz_b11 : h0.size ≤ b11 := Nat.le_trans q13 (Nat.le_of_eq g11.symm)
  have V_b11 : Arv Z h11 b11 k11 .int (1 : Int32) [(.int (0 : Int32))] (.int (0 : Int32)) := (Arv.new A11 (by decide)).pad (pad_rep [] (.int (0 : Int32)) 1)
  refine own_of st11 ?_
  show own_Out p e below _ (T11.setTop (mkF m 22 #[rv o0, rv o1, rv o2, iv 1, .unset, .unset, .unset, .unset, .unset] [.ref b11]))
  refine o_astore X11 hx hby d3_22 rfl (l' := #[rv o0, rv o1, rv o2, iv 1, rv b11, .unset, .unset, .unset, .unset]) rfl (q := 24) rfl ?_
  refine o_aloadN X11 hx hby d3_24 rfl rfl (q := 25) rfl ?_
  refine o_astore X11 hx hby d3_25 rfl (l' := #[rv o0, rv o1, rv o2, iv 1, rv b11, rv o2, .unset, .unset, .unset]) rfl (q := 27) rfl ?_
  refine o_aload X11 hx hby d3_27 rfl rfl (q := 29) rfl ?_
  have q14 := ((((V.other W2 n2).other W3 n2).other W7 n2).ext E11)
  refine o_lenV X11 hx hby hZ e11 q14 d3_29 (q := 30) rfl ?_
  refine o_istore X11 hx hby d3_30 (l' := #[rv o0, rv o1, rv o2, iv 1, rv b11, rv o2, iv 3, .unset, .unset]) rfl (q := 32) rfl ?_
  refine o_iconst X11 hx hby d3_32 (z := 0) rfl (q := 33) rfl ?_
  refine o_istore X11 hx hby d3_33 (l' := #[rv o0, rv o1, rv o2, iv 1, rv b11, rv o2, iv 3, iv 0, .unset]) rfl (q := 35) rfl ?_
  refine t1 X11 hx hby hZ e11 q14 V_b11 rfl ⟨by decide, by decide⟩ (cc := 0) rfl ⟨by decide, by decide⟩ (y := 0) rfl (y' := 1) rfl (i' := 1) rfl (iN := 0) rfl (Nat.le_of_ble_eq_true rfl) fun T15 h15 X15 e15 W15 V15 => ?_
  have ne_o2_b11 : o2 ≠ b11 := Nat.ne_of_lt (Nat.lt_of_lt_of_le V.lt sz_b11)
  have q16 := (q14.other W15 ne_o2_b11)
  refine t1 X15 hx hby hZ e15 q16 V15 rfl ⟨by decide, by decide⟩ (cc := 0) rfl ⟨by decide, by decide⟩ (y := 1) rfl (y' := 2) rfl (i' := 2) rfl (iN := 0) rfl (Nat.le_of_ble_eq_true rfl) fun T17 h17 X17 e17 W17 V17 => ?_
  have q18 := (q16.other W17 ne_o2_b11)
  refine t1 X17 hx hby hZ e17 q18 V17 rfl ⟨by decide, by decide⟩ (cc := 0) rfl ⟨by decide, by decide⟩ (y := 2) rfl (y' := 3) rfl (i' := 3) rfl (iN := 0) rfl (Nat.le_of_ble_eq_true rfl) fun T19 h19 X19 e19 W19 V19 => ?_
  refine o_iload X19 hx hby d3_35 rfl (q := 37) rfl ?_
  refine o_iload X19 hx hby d3_37 rfl (q := 39) rfl ?_
  refine o_icY X19 hx hby d3_39 (flt (by decide : ¬ ((3 : Int32) < (3 : Int32)))).2.1 (by decide) (q := 64) (by decide) ?_
  refine o_aloadN X19 hx hby d3_64 rfl rfl (q := 65) rfl ?_
  refine o_iloadN X19 hx hby d3_65 rfl (q := 66) rfl ?_
  obtain ⟨T20, h20, k20, X20, e20, E20, A20, Ex20, O20, st20⟩ := newRA X19 hx hZ hown (ty := .int) (by decide +kernel) (w_ hw 33 rfl) (w_ hw 34 rfl) e19 (g := (mkF m 66 #[rv o0, rv o1, rv o2, iv 1, rv b11, rv o2, iv 3, iv 3, iv 0] [.int 1, .ref o0])) rfl (hb hby d3_66) rfl (by decide) (cap := 1) (by decide) (by decide) (by decide) (by decide) (ad := "[[I") (by decide +kernel)
  obtain ⟨b20, g20⟩ : ∃ z, z = h19.size := ⟨_, rfl⟩
  rw [← g20] at A20 Ex20 st20
  have q21 := (Nat.le_trans (Nat.le_trans (Nat.le_trans (Nat.le_trans q12 E11.1) (Keep.of_wr W15).1) (Keep.of_wr W17).1) (Keep.of_wr W19).1)
  have g_b20 : n0 ≤ b20 := Nat.le_trans q21 (Nat.le_of_eq g20.symm)
  have q22 := (Nat.le_trans (Nat.le_trans (Nat.le_trans (Nat.le_trans q13 E11.1) (Keep.of_wr W15).1) (Keep.of_wr W17).1) (Keep.of_wr W19).1)
  have sz_b20 : h0.size ≤ b20 := Nat.le_trans q22 (Nat.le_of_eq g20.symm)
  have V_b20 : Arv Z h20 b20 k20 (.array .int) (1 : Int32) [.null] .null := (Arv.new A20 (by decide)).pad (pad_rep [] .null 1)
  refine own_of st20 ?_
  show own_Out p e below _ (T20.setTop (mkF m 69 #[rv o0, rv o1, rv o2, iv 1, rv b11, rv o2, iv 3, iv 3, iv 0] [.ref b20, .ref o0]))
  have ne_o0_b11 : o0 ≠ b11 := Nat.ne_of_lt (Nat.lt_of_lt_of_le E.lt sz_b11)
  have q24 := ((((((((F_classes.other W2 (Or.inr (slot_ne (Or.inr (w_ hw 36 rfl)) (Or.inr (w_ hw 28 rfl)) (by decide) (t := (.array (.array .int))) (t' := (.object "java/lang/String")) (by decide) (by decide)))).other W3 (Or.inr (slot_ne (Or.inr (w_ hw 36 rfl)) (Or.inr (w_ hw 30 rfl)) (by decide) (t := (.array (.array .int))) (t' := (.array .int)) (by decide) (by decide)))).other W7 (Or.inr (slot_ne (Or.inr (w_ hw 36 rfl)) (Or.inr (w_ hw 32 rfl)) (by decide) (t := (.array (.array .int))) (t' := .int) (by decide) (by decide)))).ext E11).other W15 (Or.inl ne_o0_b11)).other W17 (Or.inl ne_o0_b11)).other W19 (Or.inl ne_o0_b11)).ext E20)
  have q25 := ((((((q9.wr W7).ext E11).wr W15).wr W17).wr W19).ext E20)
  obtain ⟨T23, h23, X23, e23, W23, st23⟩ := putF X20 hx hZ hown (host := "") (Or.inl (w_ hw 35 rfl)) Via.refl e20 q24 q25 (Or.inr ⟨(w_ hw 36 rfl), rfl, hnm⟩) (w_ hw 11 rfl) (ty := (.array (.array .int))) (by decide) rfl rfl (g := (mkF m 69 #[rv o0, rv o1, rv o2, iv 1, rv b11, rv o2, iv 3, iv 3, iv 0] [.ref b20, .ref o0])) rfl rfl (hb hby d3_69)
  have q26 := ((((((((F_classes.other W2 (Or.inr (slot_ne (Or.inr (w_ hw 36 rfl)) (Or.inr (w_ hw 28 rfl)) (by decide) (t := (.array (.array .int))) (t' := (.object "java/lang/String")) (by decide) (by decide)))).other W3 (Or.inr (slot_ne (Or.inr (w_ hw 36 rfl)) (Or.inr (w_ hw 30 rfl)) (by decide) (t := (.array (.array .int))) (t' := (.array .int)) (by decide) (by decide)))).other W7 (Or.inr (slot_ne (Or.inr (w_ hw 36 rfl)) (Or.inr (w_ hw 32 rfl)) (by decide) (t := (.array (.array .int))) (t' := .int) (by decide) (by decide)))).ext E11).other W15 (Or.inl ne_o0_b11)).other W17 (Or.inl ne_o0_b11)).other W19 (Or.inl ne_o0_b11)).ext E20)
  have Fw23 := q26.same W23
  refine own_of st23 ?_
  show own_Out p e below _ (T23.setTop (mkF m 72 #[rv o0, rv o1, rv o2, iv 1, rv b11, rv o2, iv 3, iv 3, iv 0] []))
  refine o_iconst X23 hx hby d3_72 (z := 0) rfl (q := 73) rfl ?_
  refine o_istore X23 hx hby d3_73 (l' := #[rv o0, rv o1, rv o2, iv 1, rv b11, iv 0, iv 3, iv 3, iv 0]) rfl (q := 75) rfl ?_
  refine o_iload X23 hx hby d3_75 rfl (q := 77) rfl ?_
  refine o_iloadN X23 hx hby d3_77 rfl (q := 78) rfl ?_
  refine o_icN X23 hx hby d3_78 (tlt (by decide : (0 : Int32) < (1 : Int32))).2.1 (q := 81) rfl ?_
  refine o_aloadN X23 hx hby d3_81 rfl rfl (q := 82) rfl ?_
  refine o_getF X23 hx hZ hown hby (w_ hw 35 rfl) Via.refl e23 Fw23 d3_82 (q := 85) rfl fun T27 X27 e27 => ?_
  refine o_iload X27 hx hby d3_85 rfl (q := 87) rfl ?_
  refine o_aload X27 hx hby d3_87 rfl rfl (q := 89) rfl ?_
  refine o_iload X27 hx hby d3_89 rfl (q := 91) rfl ?_
  have q28 := ((V19.ext E20).other W23 (Ne.symm ne_o0_b11))
  refine o_iaV X27 hx hby hZ e27 q28 ⟨by decide, by decide⟩ (v := .int 3) rfl d3_91 (q := 92) rfl ?_
  obtain ⟨T29, h29, k29, X29, e29, E29, A29, Ex29, st29⟩ := newPE X27 hx hZ (w_ hw 5 rfl) e27 (g := (mkF m 92 #[rv o0, rv o1, rv o2, iv 1, rv b11, iv 0, iv 3, iv 3, iv 0] [.int 3, .int 0, .ref b20])) rfl (hb hby d3_92) rfl (by decide) (cap := 3) (by decide) (by decide) (by decide) (by decide) (ad := "[I") (by decide +kernel)
  obtain ⟨b29, g29⟩ : ∃ z, z = h23.size := ⟨_, rfl⟩
  rw [← g29] at A29 Ex29 st29
  have q30 := (Nat.le_trans (Nat.le_trans q21 E20.1) (Keep.of_wr W23).1)
  have g_b29 : n0 ≤ b29 := Nat.le_trans q30 (Nat.le_of_eq g29.symm)
  have q31 := (Nat.le_trans (Nat.le_trans q22 E20.1) (Keep.of_wr W23).1)
  have sz_b29 : h0.size ≤ b29 := Nat.le_trans q31 (Nat.le_of_eq g29.symm)
  have V_b29 : Arv Z h29 b29 k29 .int (3 : Int32) [(.int (0 : Int32)), (.int (0 : Int32)), (.int (0 : Int32))] (.int (0 : Int32)) := (Arv.new A29 (by decide)).pad (pad_rep [] (.int (0 : Int32)) 3)
  refine own_of st29 ?_
  show own_Out p e below _ (T29.setTop (mkF m 94 #[rv o0, rv o1, rv o2, iv 1, rv b11, iv 0, iv 3, iv 3, iv 0] [.ref b29, .int 0, .ref b20]))
  have ne_o0_b20 : o0 ≠ b20 := Nat.ne_of_lt (Nat.lt_of_lt_of_le E.lt sz_b20)
  have q32 := ((V_b20.other W23 (Ne.symm ne_o0_b20)).ext E29)
  refine o_stVR X29 hx hby hZ e29 q32 ⟨by decide, by decide⟩ 0 rfl (Nat.le_of_ble_eq_true rfl) O20 (Ins.self Ex29) d3_94 (q := 95) rfl fun T33 h33 X33 e33 W33 V33 => ?_
  refine o_iinc X33 hx hby d3_95 rfl (l' := #[rv o0, rv o1, rv o2, iv 1, rv b11, iv 1, iv 3, iv 3, iv 0]) rfl (q := 98) rfl ?_
  refine o_goto X33 hx hby d3_98 (by decide) (q := 75) (by decide) ?_
  refine o_iload X33 hx hby d3_75 rfl (q := 77) rfl ?_
  refine o_iloadN X33 hx hby d3_77 rfl (q := 78) rfl ?_
  refine o_icY X33 hx hby d3_78 (flt (by decide : ¬ ((1 : Int32) < (1 : Int32)))).2.1 (by decide) (q := 101) (by decide) ?_
  refine o_iloadN X33 hx hby d3_101 rfl (q := 102) rfl ?_
  obtain ⟨T34, h34, k34, X34, e34, E34, A34, Ex34, st34⟩ := newPE X33 hx hZ (w_ hw 5 rfl) e33 (g := (mkF m 102 #[rv o0, rv o1, rv o2, iv 1, rv b11, iv 1, iv 3, iv 3, iv 0] [.int 1])) rfl (hb hby d3_102) rfl (by decide) (cap := 1) (by decide) (by decide) (by decide) (by decide) (ad := "[I") (by decide +kernel)
  obtain ⟨b34, g34⟩ : ∃ z, z = h33.size := ⟨_, rfl⟩
  rw [← g34] at A34 Ex34 st34
  have q35 := (Nat.le_trans (Nat.le_trans q30 E29.1) (Keep.of_wr W33).1)
  have g_b34 : n0 ≤ b34 := Nat.le_trans q35 (Nat.le_of_eq g34.symm)
  have q36 := (Nat.le_trans (Nat.le_trans q31 E29.1) (Keep.of_wr W33).1)
  have sz_b34 : h0.size ≤ b34 := Nat.le_trans q36 (Nat.le_of_eq g34.symm)
  have V_b34 : Arv Z h34 b34 k34 .int (1 : Int32) [(.int (0 : Int32))] (.int (0 : Int32)) := (Arv.new A34 (by decide)).pad (pad_rep [] (.int (0 : Int32)) 1)
  refine own_of st34 ?_
  show own_Out p e below _ (T34.setTop (mkF m 104 #[rv o0, rv o1, rv o2, iv 1, rv b11, iv 1, iv 3, iv 3, iv 0] [.ref b34]))
  refine o_astore X34 hx hby d3_104 rfl (l' := #[rv o0, rv o1, rv o2, iv 1, rv b11, rv b34, iv 3, iv 3, iv 0]) rfl (q := 106) rfl ?_
  refine o_iconst X34 hx hby d3_106 (z := 0) rfl (q := 107) rfl ?_
  refine o_istore X34 hx hby d3_107 (l' := #[rv o0, rv o1, rv o2, iv 1, rv b11, rv b34, iv 0, iv 3, iv 0]) rfl (q := 109) rfl ?_
  have ne_o2_b20 : o2 ≠ b20 := Nat.ne_of_lt (Nat.lt_of_lt_of_le V.lt sz_b20)
  have q39 := ((((((q18.other W19 ne_o2_b11).ext E20).other W23 n2).ext E29).other W33 ne_o2_b20).ext E34)
  have q40 := (((Fw23.ext E29).other W33 (Or.inl ne_o0_b20)).ext E34)
  have q41 := (V33.ext E34)
  have ne_b20_b29 : b20 ≠ b29 := Nat.ne_of_lt (Nat.lt_of_lt_of_le (Nat.lt_of_lt_of_le A20.lt (Keep.of_wr W23).1) (Nat.le_of_eq g29.symm))
  have q42 := ((V_b29.other W33 (Ne.symm ne_b20_b29)).ext E34)
  have ne_b29_b34 : b29 ≠ b34 := Nat.ne_of_lt (Nat.lt_of_lt_of_le (Nat.lt_of_lt_of_le A29.lt (Keep.of_wr W33).1) (Nat.le_of_eq g34.symm))
  refine t3 X34 hx hby hZ e34 hw hown q39 q40 q41 V_b34 q42 ne_b29_b34 ⟨by decide, by decide⟩ (x := 0) rfl ⟨by decide, by decide⟩ rfl (f := 0) rfl ⟨by decide, by decide⟩ (f' := 1) rfl (i' := 1) rfl (iN := 0) rfl (Nat.le_of_ble_eq_true rfl) (jN := 0) rfl (Nat.le_of_ble_eq_true rfl) fun T38 h37 h38 X38 e38 W37 W38 V37 V38 => ?_
  have ne_o2_b34 : o2 ≠ b34 := Nat.ne_of_lt (Nat.lt_of_lt_of_le V.lt sz_b34)
  have ne_o2_b29 : o2 ≠ b29 := Nat.ne_of_lt (Nat.lt_of_lt_of_le V.lt sz_b29)
  have q45 := ((q39.other W37 ne_o2_b34).other W38 ne_o2_b29)
  have ne_o0_b34 : o0 ≠ b34 := Nat.ne_of_lt (Nat.lt_of_lt_of_le E.lt sz_b34)
  have ne_o0_b29 : o0 ≠ b29 := Nat.ne_of_lt (Nat.lt_of_lt_of_le E.lt sz_b29)
  have q46 := ((q40.other W37 (Or.inl ne_o0_b34)).other W38 (Or.inl ne_o0_b29))
  have ne_b20_b34 : b20 ≠ b34 := Nat.ne_of_lt (Nat.lt_of_lt_of_le (Nat.lt_of_lt_of_le (Nat.lt_of_lt_of_le (Nat.lt_of_lt_of_le A20.lt (Keep.of_wr W23).1) E29.1) (Keep.of_wr W33).1) (Nat.le_of_eq g34.symm))
  have q47 := ((q41.other W37 ne_b20_b34).other W38 ne_b20_b29)
  have q48 := (V37.other W38 (Ne.symm ne_b29_b34))
  refine t3 X38 hx hby hZ e38 hw hown q45 q46 q47 q48 V38 ne_b29_b34 ⟨by decide, by decide⟩ (x := 0) rfl ⟨by decide, by decide⟩ rfl (f := 1) rfl ⟨by decide, by decide⟩ (f' := 2) rfl (i' := 2) rfl (iN := 0) rfl (Nat.le_of_ble_eq_true rfl) (jN := 1) rfl (Nat.le_of_ble_eq_true rfl) fun T44 h43 h44 X44 e44 W43 W44 V43 V44 => ?_
  have q51 := ((q45.other W43 ne_o2_b34).other W44 ne_o2_b29)
  have q52 := ((q46.other W43 (Or.inl ne_o0_b34)).other W44 (Or.inl ne_o0_b29))
  have q53 := ((q47.other W43 ne_b20_b34).other W44 ne_b20_b29)
  have q54 := (V43.other W44 (Ne.symm ne_b29_b34))
  refine t3 X44 hx hby hZ e44 hw hown q51 q52 q53 q54 V44 ne_b29_b34 ⟨by decide, by decide⟩ (x := 0) rfl ⟨by decide, by decide⟩ rfl (f := 2) rfl ⟨by decide, by decide⟩ (f' := 3) rfl (i' := 3) rfl (iN := 0) rfl (Nat.le_of_ble_eq_true rfl) (jN := 2) rfl (Nat.le_of_ble_eq_true rfl) fun T50 h49 h50 X50 e50 W49 W50 V49 V50 => ?_
  refine o_iload X50 hx hby d3_109 rfl (q := 111) rfl ?_
  refine o_aloadN X50 hx hby d3_111 rfl rfl (q := 112) rfl ?_
  have q55 := ((q51.other W49 ne_o2_b34).other W50 ne_o2_b29)
  refine o_lenV X50 hx hby hZ e50 q55 d3_112 (q := 113) rfl ?_
  refine o_icY X50 hx hby d3_113 (flt (by decide : ¬ ((3 : Int32) < (3 : Int32)))).2.1 (by decide) (q := 146) (by decide) ?_
  have q56 := (((((((((((((((((((Keep.refl h0 [o0]).wr W2 (Or.inl (List.mem_of_getElem? (i := 0) rfl))).wr W3 (Or.inl (List.mem_of_getElem? (i := 0) rfl))).wr W7 (Or.inl (List.mem_of_getElem? (i := 0) rfl))).ext E11).wr W15 (Or.inr sz_b11)).wr W17 (Or.inr sz_b11)).wr W19 (Or.inr sz_b11)).ext E20).wr W23 (Or.inl (List.mem_of_getElem? (i := 0) rfl))).ext E29).wr W33 (Or.inr sz_b20)).ext E34).wr W37 (Or.inr sz_b34)).wr W38 (Or.inr sz_b29)).wr W43 (Or.inr sz_b34)).wr W44 (Or.inr sz_b29)).wr W49 (Or.inr sz_b34)).wr W50 (Or.inr sz_b29))
  have q57 := ((((((((((q25.wr W23).ext E29).wr W33).ext E34).wr W37).wr W38).wr W43).wr W44).wr W49).wr W50)
  have q58 := ((((((((((((((((Fw3.other W7 (Or.inr (slot_ne (Or.inr (w_ hw 30 rfl)) (Or.inr (w_ hw 32 rfl)) (by decide) (t := (.array .int)) (t' := .int) (by decide) (by decide)))).ext E11).other W15 (Or.inl ne_o0_b11)).other W17 (Or.inl ne_o0_b11)).other W19 (Or.inl ne_o0_b11)).ext E20).other W23 (Or.inr (slot_ne (Or.inr (w_ hw 30 rfl)) (Or.inr (w_ hw 36 rfl)) (by decide) (t := (.array .int)) (t' := (.array (.array .int))) (by decide) (by decide)))).ext E29).other W33 (Or.inl ne_o0_b20)).ext E34).other W37 (Or.inl ne_o0_b34)).other W38 (Or.inl ne_o0_b29)).other W43 (Or.inl ne_o0_b34)).other W44 (Or.inl ne_o0_b29)).other W49 (Or.inl ne_o0_b34)).other W50 (Or.inl ne_o0_b29))
  have q59 := (((((((((((((((Fw7.ext E11).other W15 (Or.inl ne_o0_b11)).other W17 (Or.inl ne_o0_b11)).other W19 (Or.inl ne_o0_b11)).ext E20).other W23 (Or.inr (slot_ne (Or.inr (w_ hw 32 rfl)) (Or.inr (w_ hw 36 rfl)) (by decide) (t := .int) (t' := (.array (.array .int))) (by decide) (by decide)))).ext E29).other W33 (Or.inl ne_o0_b20)).ext E34).other W37 (Or.inl ne_o0_b34)).other W38 (Or.inl ne_o0_b29)).other W43 (Or.inl ne_o0_b34)).other W44 (Or.inl ne_o0_b29)).other W49 (Or.inl ne_o0_b34)).other W50 (Or.inl ne_o0_b29))
  exact own_outV X50 hx hlk hret (hb hby d3_146) (Q := Q3c000n1 Z o0 o1 o2 k2 h0 n0) (by rw [e50]; exact ⟨rfl, (Fr.snoc X50 (own_snoc (Fr.snoc X44 (own_snoc (Fr.snoc X38 (own_snoc (Fr.snoc X33 (Fr.snoc X23 (Fr.snoc X19 (Fr.snoc X17 (Fr.snoc X15 (Fr.snoc X7 (Fr.snoc X3 (Fr.snoc X2 N0 g_o0) g_o0) g_o0) g_b11) g_b11) g_b11) g_o0) g_b20) g_b34) g_b29) g_b34) g_b29) g_b34) g_b29), q56, q57, q58, q59⟩) (by decide) (by decide)
theorem ef_3c0000n1 (m : MethodId) (x0 : Addr) (x1 : Addr) (x2 : Addr) : entryFrame m #[(.ref x0), (.ref x1), (.ref x2), (.int (1 : Int32))] 9 = mkF m 0 #[.val (.ref x0), .val (.ref x1), .val (.ref x2), .val (.int (1 : Int32)), .unset, .unset, .unset, .unset, .unset] [] := by first | (simp [entryFrame, mkF, argsToLocals, Value.category]; done) | rfl
def Q3c0000n1 (Z : State) (o0 : Addr) (o1 : Addr) (o2 : Addr) (k2 : ClassId) (h0 : Heap) (n0 : Nat) (v : Option Value) (h : Heap) (L : List Loc) : Prop := v = none ∧ Fr n0 L ∧ Keep h0 h [o0] ∧ Exa Z h o0 "com/example/slimc/slimc/game/Observation" ∧ Fld Z h o0 "com/example/slimc/slimc/game/Observation" "classOf" "[I" (.ref o2) ∧ Fld Z h o0 "com/example/slimc/slimc/game/Observation" "classCount" "I" (.int (1 : Int32))
set_option maxRecDepth 65536 in
set_option maxHeartbeats 40000000 in
theorem rm3c0000n1 (l : Launch) (Z : State) (a0 : Array Value) (hw : ∀ d ∈ tables_1, d.before a0 Z = true) (ws : List Jvm.Cond) (o0 : Addr) (o1 : Addr) (o2 : Addr) (k2 : ClassId) (h0 : Heap) (n0 : Nat) (Z0 : n0 ≤ h0.size) (E : Exa Z h0 o0 "com/example/slimc/slimc/game/Observation") (F_name : Fld Z h0 o0 "com/example/slimc/slimc/game/Observation" "name" "Ljava/lang/String;" .null) (F_classOf : Fld Z h0 o0 "com/example/slimc/slimc/game/Observation" "classOf" "[I" .null) (F_classCount : Fld Z h0 o0 "com/example/slimc/slimc/game/Observation" "classCount" "I" (.int (0 : Int32))) (F_classes : Fld Z h0 o0 "com/example/slimc/slimc/game/Observation" "classes" "[[I" .null) (g_o0 : n0 ≤ o0) (V : Arv Z h0 o2 k2 .int (4 : Int32) [(.int (0 : Int32)), (.int (0 : Int32)), (.int (0 : Int32)), (.int (0 : Int32))] (.int (0 : Int32))) (n2 : o2 ≠ o0) :
    MetFree l (⟨"com/example/slimc/slimc/game/Observation", "<init>", "(Ljava/lang/String;[II)V"⟩ : MethodName) (head1 (Jvm.Cond.code (⟨"com/example/slimc/slimc/game/Observation", "<init>", "(Ljava/lang/String;[II)V"⟩ : MethodName) prog_66_method_1_code 9 none :: ws) ({ frames := 1, cells := 7, slots := 16, locals := 14 } : Room)) (fun a U => a = #[(.ref o0), (.ref o1), (.ref o2), (.int (1 : Int32))] ∧ Z.Warmed39 U.vm ∧ U.heap = h0) (fun _ _ _ _ _ => True) (fun _ U o U' => ∃ v L, o = .returned v ∧ Q3c0000n1 Z o0 o1 o2 k2 h0 n0 v U'.heap L ∧ FrameEnd U o U' L ({ frames := 1, cells := 7, slots := 16, locals := 14 } : Room).cells ({ frames := 1, cells := 7, slots := 16, locals := 14 } : Room).slots) := by
  refine MetFree.of_bodySF (plainFor_of_name pn_1) hisR ?_
  intro p e s m args below meth c s₁ Bd hml0 hP hK
  obtain ⟨rfl, hZ, hh⟩ := hP
  have hx := Bd.exec
  have hby := Bd.bytes
  have hml : c.maxLocals = 9 := hml0
  have hown : s.vm.findClass "com/example/slimc/slimc/game/Observation" = some m.cls := findClass_of_methodNamed Bd.named
  have hnm := (name_of_methodNamed Bd.named Bd.method).1
  have X0 : Stand p l e ({ frames := 1, cells := 7, slots := 16, locals := 14 } : Room) s m #[(.ref o0), (.ref o1), (.ref o2), (.int (1 : Int32))] below meth c s₁ [] 0 0 := Stand.of_body Bd
  have e0 : s₁.heap = h0 := by rw [← hh, Bd.state]; rfl
  have N0 := Fr.nil n0
  have hret := Bd.returns
  have hlk := BodyLoose.notSynchronized Bd
  show own_Out p e below (fun o U' => ∃ v L, o = .returned v ∧ Q3c0000n1 Z o0 o1 o2 k2 h0 n0 v U'.heap L ∧ FrameEnd s o U' L ({ frames := 1, cells := 7, slots := 16, locals := 14 } : Room).cells ({ frames := 1, cells := 7, slots := 16, locals := 14 } : Room).slots) (s₁.setTop (entryFrame m #[(.ref o0), (.ref o1), (.ref o2), (.int (1 : Int32))] 9))
  refine own_of (fun t k => castTop (ef_3c0000n1 m o0 o1 o2) k) ?_
  show own_Out p e below _ (s₁.setTop (mkF m 0 #[rv o0, rv o1, rv o2, iv 1, .unset, .unset, .unset, .unset, .unset] []))
  refine o_aloadN X0 hx hby d3_0 rfl rfl (q := 1) rfl ?_
  obtain ⟨T1, X1, e1, st1⟩ := initO X0 hx hZ hown (w_ hw 24 rfl) (w_ hw 25 rfl) (w_ hw 26 rfl) e0 (g := (mkF m 1 #[rv o0, rv o1, rv o2, iv 1, .unset, .unset, .unset, .unset, .unset] [.ref o0])) rfl (by rw [hml]; rfl) rfl (hb hby d3_1) (by decide) (W := 0) (by show 2 * 0 + _ ≤ _; exact Nat.le_of_eq rfl) (by decide)
  refine own_of st1 ?_
  show own_Out p e below _ (T1.setTop (mkF m 4 #[rv o0, rv o1, rv o2, iv 1, .unset, .unset, .unset, .unset, .unset] []))
  refine o_aloadN X1 hx hby d3_4 rfl rfl (q := 5) rfl ?_
  refine o_aloadN X1 hx hby d3_5 rfl rfl (q := 6) rfl ?_
  obtain ⟨T2, h2, X2, e2, W2, st2⟩ := putF X1 hx hZ hown (host := "") (Or.inl (w_ hw 27 rfl)) Via.refl e1 F_name E (Or.inr ⟨(w_ hw 28 rfl), rfl, hnm⟩) (w_ hw 11 rfl) (ty := (.object "java/lang/String")) (by decide) rfl rfl (g := (mkF m 6 #[rv o0, rv o1, rv o2, iv 1, .unset, .unset, .unset, .unset, .unset] [.ref o1, .ref o0])) rfl rfl (hb hby d3_6)
  have Fw2 := F_name.same W2
  refine own_of st2 ?_
  show own_Out p e below _ (T2.setTop (mkF m 9 #[rv o0, rv o1, rv o2, iv 1, .unset, .unset, .unset, .unset, .unset] []))
  refine o_aloadN X2 hx hby d3_9 rfl rfl (q := 10) rfl ?_
  refine o_aloadN X2 hx hby d3_10 rfl rfl (q := 11) rfl ?_
  have q4 := (F_classOf.other W2 (Or.inr (slot_ne (Or.inr (w_ hw 30 rfl)) (Or.inr (w_ hw 28 rfl)) (by decide) (t := (.array .int)) (t' := (.object "java/lang/String")) (by decide) (by decide))))
  have q5 := (E.wr W2)
  obtain ⟨T3, h3, X3, e3, W3, st3⟩ := putF X2 hx hZ hown (host := "") (Or.inl (w_ hw 29 rfl)) Via.refl e2 q4 q5 (Or.inr ⟨(w_ hw 30 rfl), rfl, hnm⟩) (w_ hw 11 rfl) (ty := (.array .int)) (by decide) rfl rfl (g := (mkF m 11 #[rv o0, rv o1, rv o2, iv 1, .unset, .unset, .unset, .unset, .unset] [.ref o2, .ref o0])) rfl rfl (hb hby d3_11)
  have q6 := (F_classOf.other W2 (Or.inr (slot_ne (Or.inr (w_ hw 30 rfl)) (Or.inr (w_ hw 28 rfl)) (by decide) (t := (.array .int)) (t' := (.object "java/lang/String")) (by decide) (by decide))))
  have Fw3 := q6.same W3
  refine own_of st3 ?_
  show own_Out p e below _ (T3.setTop (mkF m 14 #[rv o0, rv o1, rv o2, iv 1, .unset, .unset, .unset, .unset, .unset] []))
  refine o_aloadN X3 hx hby d3_14 rfl rfl (q := 15) rfl ?_
  refine o_iloadN X3 hx hby d3_15 rfl (q := 16) rfl ?_
  have q8 := ((F_classCount.other W2 (Or.inr (slot_ne (Or.inr (w_ hw 32 rfl)) (Or.inr (w_ hw 28 rfl)) (by decide) (t := .int) (t' := (.object "java/lang/String")) (by decide) (by decide)))).other W3 (Or.inr (slot_ne (Or.inr (w_ hw 32 rfl)) (Or.inr (w_ hw 30 rfl)) (by decide) (t := .int) (t' := (.array .int)) (by decide) (by decide))))
  have q9 := (q5.wr W3)
  obtain ⟨T7, h7, X7, e7, W7, st7⟩ := putF X3 hx hZ hown (host := "") (Or.inl (w_ hw 31 rfl)) Via.refl e3 q8 q9 (Or.inr ⟨(w_ hw 32 rfl), rfl, hnm⟩) (w_ hw 11 rfl) (ty := .int) (by decide) rfl rfl (g := (mkF m 16 #[rv o0, rv o1, rv o2, iv 1, .unset, .unset, .unset, .unset, .unset] [.int 1, .ref o0])) rfl rfl (hb hby d3_16)
  have q10 := ((F_classCount.other W2 (Or.inr (slot_ne (Or.inr (w_ hw 32 rfl)) (Or.inr (w_ hw 28 rfl)) (by decide) (t := .int) (t' := (.object "java/lang/String")) (by decide) (by decide)))).other W3 (Or.inr (slot_ne (Or.inr (w_ hw 32 rfl)) (Or.inr (w_ hw 30 rfl)) (by decide) (t := .int) (t' := (.array .int)) (by decide) (by decide))))
  have Fw7 := q10.same W7
  refine own_of st7 ?_
  show own_Out p e below _ (T7.setTop (mkF m 19 #[rv o0, rv o1, rv o2, iv 1, .unset, .unset, .unset, .unset, .unset] []))
  refine o_iloadN X7 hx hby d3_19 rfl (q := 20) rfl ?_
  obtain ⟨T11, h11, k11, X11, e11, E11, A11, Ex11, st11⟩ := newPE X7 hx hZ (w_ hw 5 rfl) e7 (g := (mkF m 20 #[rv o0, rv o1, rv o2, iv 1, .unset, .unset, .unset, .unset, .unset] [.int 1])) rfl (hb hby d3_20) rfl (by decide) (cap := 1) (by decide) (by decide) (by decide) (by decide) (ad := "[I") (by decide +kernel)
  obtain ⟨b11, g11⟩ : ∃ z, z = h7.size := ⟨_, rfl⟩
  rw [← g11] at A11 Ex11 st11
  have q12 := (Nat.le_trans (Nat.le_trans (Nat.le_trans Z0 (Keep.of_wr W2).1) (Keep.of_wr W3).1) (Keep.of_wr W7).1)
  have g_b11 : n0 ≤ b11 := Nat.le_trans q12 (Nat.le_of_eq g11.symm)
  have q13 := (Nat.le_trans (Nat.le_trans (Nat.le_trans (Nat.le_refl h0.size) (Keep.of_wr W2).1) (Keep.of_wr W3).1) (Keep.of_wr W7).1)
  have sz_b11 : h0.size ≤ b11 := Nat.le_trans q13 (Nat.le_of_eq g11.symm)
  have V_b11 : Arv Z h11 b11 k11 .int (1 : Int32) [(.int (0 : Int32))] (.int (0 : Int32)) := (Arv.new A11 (by decide)).pad (pad_rep [] (.int (0 : Int32)) 1)
  refine own_of st11 ?_
  show own_Out p e below _ (T11.setTop (mkF m 22 #[rv o0, rv o1, rv o2, iv 1, .unset, .unset, .unset, .unset, .unset] [.ref b11]))
  refine o_astore X11 hx hby d3_22 rfl (l' := #[rv o0, rv o1, rv o2, iv 1, rv b11, .unset, .unset, .unset, .unset]) rfl (q := 24) rfl ?_
  refine o_aloadN X11 hx hby d3_24 rfl rfl (q := 25) rfl ?_
  refine o_astore X11 hx hby d3_25 rfl (l' := #[rv o0, rv o1, rv o2, iv 1, rv b11, rv o2, .unset, .unset, .unset]) rfl (q := 27) rfl ?_
  refine o_aload X11 hx hby d3_27 rfl rfl (q := 29) rfl ?_
  have q14 := ((((V.other W2 n2).other W3 n2).other W7 n2).ext E11)
  refine o_lenV X11 hx hby hZ e11 q14 d3_29 (q := 30) rfl ?_
  refine o_istore X11 hx hby d3_30 (l' := #[rv o0, rv o1, rv o2, iv 1, rv b11, rv o2, iv 4, .unset, .unset]) rfl (q := 32) rfl ?_
  refine o_iconst X11 hx hby d3_32 (z := 0) rfl (q := 33) rfl ?_
  refine o_istore X11 hx hby d3_33 (l' := #[rv o0, rv o1, rv o2, iv 1, rv b11, rv o2, iv 4, iv 0, .unset]) rfl (q := 35) rfl ?_
  refine t1 X11 hx hby hZ e11 q14 V_b11 rfl ⟨by decide, by decide⟩ (cc := 0) rfl ⟨by decide, by decide⟩ (y := 0) rfl (y' := 1) rfl (i' := 1) rfl (iN := 0) rfl (Nat.le_of_ble_eq_true rfl) fun T15 h15 X15 e15 W15 V15 => ?_
  have ne_o2_b11 : o2 ≠ b11 := Nat.ne_of_lt (Nat.lt_of_lt_of_le V.lt sz_b11)
  have q16 := (q14.other W15 ne_o2_b11)
  refine t1 X15 hx hby hZ e15 q16 V15 rfl ⟨by decide, by decide⟩ (cc := 0) rfl ⟨by decide, by decide⟩ (y := 1) rfl (y' := 2) rfl (i' := 2) rfl (iN := 0) rfl (Nat.le_of_ble_eq_true rfl) fun T17 h17 X17 e17 W17 V17 => ?_
  have q18 := (q16.other W17 ne_o2_b11)
  refine t1 X17 hx hby hZ e17 q18 V17 rfl ⟨by decide, by decide⟩ (cc := 0) rfl ⟨by decide, by decide⟩ (y := 2) rfl (y' := 3) rfl (i' := 3) rfl (iN := 0) rfl (Nat.le_of_ble_eq_true rfl) fun T19 h19 X19 e19 W19 V19 => ?_
  have q20 := (q18.other W19 ne_o2_b11)
  refine t1 X19 hx hby hZ e19 q20 V19 rfl ⟨by decide, by decide⟩ (cc := 0) rfl ⟨by decide, by decide⟩ (y := 3) rfl (y' := 4) rfl (i' := 4) rfl (iN := 0) rfl (Nat.le_of_ble_eq_true rfl) fun T21 h21 X21 e21 W21 V21 => ?_
  refine o_iload X21 hx hby d3_35 rfl (q := 37) rfl ?_
  refine o_iload X21 hx hby d3_37 rfl (q := 39) rfl ?_
  refine o_icY X21 hx hby d3_39 (flt (by decide : ¬ ((4 : Int32) < (4 : Int32)))).2.1 (by decide) (q := 64) (by decide) ?_
  refine o_aloadN X21 hx hby d3_64 rfl rfl (q := 65) rfl ?_
  refine o_iloadN X21 hx hby d3_65 rfl (q := 66) rfl ?_
  obtain ⟨T22, h22, k22, X22, e22, E22, A22, Ex22, O22, st22⟩ := newRA X21 hx hZ hown (ty := .int) (by decide +kernel) (w_ hw 33 rfl) (w_ hw 34 rfl) e21 (g := (mkF m 66 #[rv o0, rv o1, rv o2, iv 1, rv b11, rv o2, iv 4, iv 4, iv 0] [.int 1, .ref o0])) rfl (hb hby d3_66) rfl (by decide) (cap := 1) (by decide) (by decide) (by decide) (by decide) (ad := "[[I") (by decide +kernel)
  obtain ⟨b22, g22⟩ : ∃ z, z = h21.size := ⟨_, rfl⟩
  rw [← g22] at A22 Ex22 st22
  have q23 := (Nat.le_trans (Nat.le_trans (Nat.le_trans (Nat.le_trans (Nat.le_trans q12 E11.1) (Keep.of_wr W15).1) (Keep.of_wr W17).1) (Keep.of_wr W19).1) (Keep.of_wr W21).1)
  have g_b22 : n0 ≤ b22 := Nat.le_trans q23 (Nat.le_of_eq g22.symm)
  have q24 := (Nat.le_trans (Nat.le_trans (Nat.le_trans (Nat.le_trans (Nat.le_trans q13 E11.1) (Keep.of_wr W15).1) (Keep.of_wr W17).1) (Keep.of_wr W19).1) (Keep.of_wr W21).1)
  have sz_b22 : h0.size ≤ b22 := Nat.le_trans q24 (Nat.le_of_eq g22.symm)
  have V_b22 : Arv Z h22 b22 k22 (.array .int) (1 : Int32) [.null] .null := (Arv.new A22 (by decide)).pad (pad_rep [] .null 1)
  refine own_of st22 ?_
  show own_Out p e below _ (T22.setTop (mkF m 69 #[rv o0, rv o1, rv o2, iv 1, rv b11, rv o2, iv 4, iv 4, iv 0] [.ref b22, .ref o0]))
  have ne_o0_b11 : o0 ≠ b11 := Nat.ne_of_lt (Nat.lt_of_lt_of_le E.lt sz_b11)
  have q26 := (((((((((F_classes.other W2 (Or.inr (slot_ne (Or.inr (w_ hw 36 rfl)) (Or.inr (w_ hw 28 rfl)) (by decide) (t := (.array (.array .int))) (t' := (.object "java/lang/String")) (by decide) (by decide)))).other W3 (Or.inr (slot_ne (Or.inr (w_ hw 36 rfl)) (Or.inr (w_ hw 30 rfl)) (by decide) (t := (.array (.array .int))) (t' := (.array .int)) (by decide) (by decide)))).other W7 (Or.inr (slot_ne (Or.inr (w_ hw 36 rfl)) (Or.inr (w_ hw 32 rfl)) (by decide) (t := (.array (.array .int))) (t' := .int) (by decide) (by decide)))).ext E11).other W15 (Or.inl ne_o0_b11)).other W17 (Or.inl ne_o0_b11)).other W19 (Or.inl ne_o0_b11)).other W21 (Or.inl ne_o0_b11)).ext E22)
  have q27 := (((((((q9.wr W7).ext E11).wr W15).wr W17).wr W19).wr W21).ext E22)
  obtain ⟨T25, h25, X25, e25, W25, st25⟩ := putF X22 hx hZ hown (host := "") (Or.inl (w_ hw 35 rfl)) Via.refl e22 q26 q27 (Or.inr ⟨(w_ hw 36 rfl), rfl, hnm⟩) (w_ hw 11 rfl) (ty := (.array (.array .int))) (by decide) rfl rfl (g := (mkF m 69 #[rv o0, rv o1, rv o2, iv 1, rv b11, rv o2, iv 4, iv 4, iv 0] [.ref b22, .ref o0])) rfl rfl (hb hby d3_69)
  have q28 := (((((((((F_classes.other W2 (Or.inr (slot_ne (Or.inr (w_ hw 36 rfl)) (Or.inr (w_ hw 28 rfl)) (by decide) (t := (.array (.array .int))) (t' := (.object "java/lang/String")) (by decide) (by decide)))).other W3 (Or.inr (slot_ne (Or.inr (w_ hw 36 rfl)) (Or.inr (w_ hw 30 rfl)) (by decide) (t := (.array (.array .int))) (t' := (.array .int)) (by decide) (by decide)))).other W7 (Or.inr (slot_ne (Or.inr (w_ hw 36 rfl)) (Or.inr (w_ hw 32 rfl)) (by decide) (t := (.array (.array .int))) (t' := .int) (by decide) (by decide)))).ext E11).other W15 (Or.inl ne_o0_b11)).other W17 (Or.inl ne_o0_b11)).other W19 (Or.inl ne_o0_b11)).other W21 (Or.inl ne_o0_b11)).ext E22)
  have Fw25 := q28.same W25
  refine own_of st25 ?_
  show own_Out p e below _ (T25.setTop (mkF m 72 #[rv o0, rv o1, rv o2, iv 1, rv b11, rv o2, iv 4, iv 4, iv 0] []))
  refine o_iconst X25 hx hby d3_72 (z := 0) rfl (q := 73) rfl ?_
  refine o_istore X25 hx hby d3_73 (l' := #[rv o0, rv o1, rv o2, iv 1, rv b11, iv 0, iv 4, iv 4, iv 0]) rfl (q := 75) rfl ?_
  refine o_iload X25 hx hby d3_75 rfl (q := 77) rfl ?_
  refine o_iloadN X25 hx hby d3_77 rfl (q := 78) rfl ?_
  refine o_icN X25 hx hby d3_78 (tlt (by decide : (0 : Int32) < (1 : Int32))).2.1 (q := 81) rfl ?_
  refine o_aloadN X25 hx hby d3_81 rfl rfl (q := 82) rfl ?_
  refine o_getF X25 hx hZ hown hby (w_ hw 35 rfl) Via.refl e25 Fw25 d3_82 (q := 85) rfl fun T29 X29 e29 => ?_
  refine o_iload X29 hx hby d3_85 rfl (q := 87) rfl ?_
  refine o_aload X29 hx hby d3_87 rfl rfl (q := 89) rfl ?_
  refine o_iload X29 hx hby d3_89 rfl (q := 91) rfl ?_
  have q30 := ((V21.ext E22).other W25 (Ne.symm ne_o0_b11))
  refine o_iaV X29 hx hby hZ e29 q30 ⟨by decide, by decide⟩ (v := .int 4) rfl d3_91 (q := 92) rfl ?_
  obtain ⟨T31, h31, k31, X31, e31, E31, A31, Ex31, st31⟩ := newPE X29 hx hZ (w_ hw 5 rfl) e29 (g := (mkF m 92 #[rv o0, rv o1, rv o2, iv 1, rv b11, iv 0, iv 4, iv 4, iv 0] [.int 4, .int 0, .ref b22])) rfl (hb hby d3_92) rfl (by decide) (cap := 4) (by decide) (by decide) (by decide) (by decide) (ad := "[I") (by decide +kernel)
  obtain ⟨b31, g31⟩ : ∃ z, z = h25.size := ⟨_, rfl⟩
  rw [← g31] at A31 Ex31 st31
  have q32 := (Nat.le_trans (Nat.le_trans q23 E22.1) (Keep.of_wr W25).1)
  have g_b31 : n0 ≤ b31 := Nat.le_trans q32 (Nat.le_of_eq g31.symm)
  have q33 := (Nat.le_trans (Nat.le_trans q24 E22.1) (Keep.of_wr W25).1)
  have sz_b31 : h0.size ≤ b31 := Nat.le_trans q33 (Nat.le_of_eq g31.symm)
  have V_b31 : Arv Z h31 b31 k31 .int (4 : Int32) [(.int (0 : Int32)), (.int (0 : Int32)), (.int (0 : Int32)), (.int (0 : Int32))] (.int (0 : Int32)) := (Arv.new A31 (by decide)).pad (pad_rep [] (.int (0 : Int32)) 4)
  refine own_of st31 ?_
  show own_Out p e below _ (T31.setTop (mkF m 94 #[rv o0, rv o1, rv o2, iv 1, rv b11, iv 0, iv 4, iv 4, iv 0] [.ref b31, .int 0, .ref b22]))
  have ne_o0_b22 : o0 ≠ b22 := Nat.ne_of_lt (Nat.lt_of_lt_of_le E.lt sz_b22)
  have q34 := ((V_b22.other W25 (Ne.symm ne_o0_b22)).ext E31)
  refine o_stVR X31 hx hby hZ e31 q34 ⟨by decide, by decide⟩ 0 rfl (Nat.le_of_ble_eq_true rfl) O22 (Ins.self Ex31) d3_94 (q := 95) rfl fun T35 h35 X35 e35 W35 V35 => ?_
  refine o_iinc X35 hx hby d3_95 rfl (l' := #[rv o0, rv o1, rv o2, iv 1, rv b11, iv 1, iv 4, iv 4, iv 0]) rfl (q := 98) rfl ?_
  refine o_goto X35 hx hby d3_98 (by decide) (q := 75) (by decide) ?_
  refine o_iload X35 hx hby d3_75 rfl (q := 77) rfl ?_
  refine o_iloadN X35 hx hby d3_77 rfl (q := 78) rfl ?_
  refine o_icY X35 hx hby d3_78 (flt (by decide : ¬ ((1 : Int32) < (1 : Int32)))).2.1 (by decide) (q := 101) (by decide) ?_
  refine o_iloadN X35 hx hby d3_101 rfl (q := 102) rfl ?_
  obtain ⟨T36, h36, k36, X36, e36, E36, A36, Ex36, st36⟩ := newPE X35 hx hZ (w_ hw 5 rfl) e35 (g := (mkF m 102 #[rv o0, rv o1, rv o2, iv 1, rv b11, iv 1, iv 4, iv 4, iv 0] [.int 1])) rfl (hb hby d3_102) rfl (by decide) (cap := 1) (by decide) (by decide) (by decide) (by decide) (ad := "[I") (by decide +kernel)
  obtain ⟨b36, g36⟩ : ∃ z, z = h35.size := ⟨_, rfl⟩
  rw [← g36] at A36 Ex36 st36
  have q37 := (Nat.le_trans (Nat.le_trans q32 E31.1) (Keep.of_wr W35).1)
  have g_b36 : n0 ≤ b36 := Nat.le_trans q37 (Nat.le_of_eq g36.symm)
  have q38 := (Nat.le_trans (Nat.le_trans q33 E31.1) (Keep.of_wr W35).1)
  have sz_b36 : h0.size ≤ b36 := Nat.le_trans q38 (Nat.le_of_eq g36.symm)
  have V_b36 : Arv Z h36 b36 k36 .int (1 : Int32) [(.int (0 : Int32))] (.int (0 : Int32)) := (Arv.new A36 (by decide)).pad (pad_rep [] (.int (0 : Int32)) 1)
  refine own_of st36 ?_
  show own_Out p e below _ (T36.setTop (mkF m 104 #[rv o0, rv o1, rv o2, iv 1, rv b11, iv 1, iv 4, iv 4, iv 0] [.ref b36]))
  refine o_astore X36 hx hby d3_104 rfl (l' := #[rv o0, rv o1, rv o2, iv 1, rv b11, rv b36, iv 4, iv 4, iv 0]) rfl (q := 106) rfl ?_
  refine o_iconst X36 hx hby d3_106 (z := 0) rfl (q := 107) rfl ?_
  refine o_istore X36 hx hby d3_107 (l' := #[rv o0, rv o1, rv o2, iv 1, rv b11, rv b36, iv 0, iv 4, iv 0]) rfl (q := 109) rfl ?_
  have ne_o2_b22 : o2 ≠ b22 := Nat.ne_of_lt (Nat.lt_of_lt_of_le V.lt sz_b22)
  have q41 := ((((((q20.other W21 ne_o2_b11).ext E22).other W25 n2).ext E31).other W35 ne_o2_b22).ext E36)
  have q42 := (((Fw25.ext E31).other W35 (Or.inl ne_o0_b22)).ext E36)
  have q43 := (V35.ext E36)
  have ne_b22_b31 : b22 ≠ b31 := Nat.ne_of_lt (Nat.lt_of_lt_of_le (Nat.lt_of_lt_of_le A22.lt (Keep.of_wr W25).1) (Nat.le_of_eq g31.symm))
  have q44 := ((V_b31.other W35 (Ne.symm ne_b22_b31)).ext E36)
  have ne_b31_b36 : b31 ≠ b36 := Nat.ne_of_lt (Nat.lt_of_lt_of_le (Nat.lt_of_lt_of_le A31.lt (Keep.of_wr W35).1) (Nat.le_of_eq g36.symm))
  refine t3 X36 hx hby hZ e36 hw hown q41 q42 q43 V_b36 q44 ne_b31_b36 ⟨by decide, by decide⟩ (x := 0) rfl ⟨by decide, by decide⟩ rfl (f := 0) rfl ⟨by decide, by decide⟩ (f' := 1) rfl (i' := 1) rfl (iN := 0) rfl (Nat.le_of_ble_eq_true rfl) (jN := 0) rfl (Nat.le_of_ble_eq_true rfl) fun T40 h39 h40 X40 e40 W39 W40 V39 V40 => ?_
  have ne_o2_b36 : o2 ≠ b36 := Nat.ne_of_lt (Nat.lt_of_lt_of_le V.lt sz_b36)
  have ne_o2_b31 : o2 ≠ b31 := Nat.ne_of_lt (Nat.lt_of_lt_of_le V.lt sz_b31)
  have q47 := ((q41.other W39 ne_o2_b36).other W40 ne_o2_b31)
  have ne_o0_b36 : o0 ≠ b36 := Nat.ne_of_lt (Nat.lt_of_lt_of_le E.lt sz_b36)
  have ne_o0_b31 : o0 ≠ b31 := Nat.ne_of_lt (Nat.lt_of_lt_of_le E.lt sz_b31)
  have q48 := ((q42.other W39 (Or.inl ne_o0_b36)).other W40 (Or.inl ne_o0_b31))
  have ne_b22_b36 : b22 ≠ b36 := Nat.ne_of_lt (Nat.lt_of_lt_of_le (Nat.lt_of_lt_of_le (Nat.lt_of_lt_of_le (Nat.lt_of_lt_of_le A22.lt (Keep.of_wr W25).1) E31.1) (Keep.of_wr W35).1) (Nat.le_of_eq g36.symm))
  have q49 := ((q43.other W39 ne_b22_b36).other W40 ne_b22_b31)
  have q50 := (V39.other W40 (Ne.symm ne_b31_b36))
  refine t3 X40 hx hby hZ e40 hw hown q47 q48 q49 q50 V40 ne_b31_b36 ⟨by decide, by decide⟩ (x := 0) rfl ⟨by decide, by decide⟩ rfl (f := 1) rfl ⟨by decide, by decide⟩ (f' := 2) rfl (i' := 2) rfl (iN := 0) rfl (Nat.le_of_ble_eq_true rfl) (jN := 1) rfl (Nat.le_of_ble_eq_true rfl) fun T46 h45 h46 X46 e46 W45 W46 V45 V46 => ?_
  have q53 := ((q47.other W45 ne_o2_b36).other W46 ne_o2_b31)
  have q54 := ((q48.other W45 (Or.inl ne_o0_b36)).other W46 (Or.inl ne_o0_b31))
  have q55 := ((q49.other W45 ne_b22_b36).other W46 ne_b22_b31)
  have q56 := (V45.other W46 (Ne.symm ne_b31_b36))
  refine t3 X46 hx hby hZ e46 hw hown q53 q54 q55 q56 V46 ne_b31_b36 ⟨by decide, by decide⟩ (x := 0) rfl ⟨by decide, by decide⟩ rfl (f := 2) rfl ⟨by decide, by decide⟩ (f' := 3) rfl (i' := 3) rfl (iN := 0) rfl (Nat.le_of_ble_eq_true rfl) (jN := 2) rfl (Nat.le_of_ble_eq_true rfl) fun T52 h51 h52 X52 e52 W51 W52 V51 V52 => ?_
  have q59 := ((q53.other W51 ne_o2_b36).other W52 ne_o2_b31)
  have q60 := ((q54.other W51 (Or.inl ne_o0_b36)).other W52 (Or.inl ne_o0_b31))
  have q61 := ((q55.other W51 ne_b22_b36).other W52 ne_b22_b31)
  have q62 := (V51.other W52 (Ne.symm ne_b31_b36))
  refine t3 X52 hx hby hZ e52 hw hown q59 q60 q61 q62 V52 ne_b31_b36 ⟨by decide, by decide⟩ (x := 0) rfl ⟨by decide, by decide⟩ rfl (f := 3) rfl ⟨by decide, by decide⟩ (f' := 4) rfl (i' := 4) rfl (iN := 0) rfl (Nat.le_of_ble_eq_true rfl) (jN := 3) rfl (Nat.le_of_ble_eq_true rfl) fun T58 h57 h58 X58 e58 W57 W58 V57 V58 => ?_
  refine o_iload X58 hx hby d3_109 rfl (q := 111) rfl ?_
  refine o_aloadN X58 hx hby d3_111 rfl rfl (q := 112) rfl ?_
  have q63 := ((q59.other W57 ne_o2_b36).other W58 ne_o2_b31)
  refine o_lenV X58 hx hby hZ e58 q63 d3_112 (q := 113) rfl ?_
  refine o_icY X58 hx hby d3_113 (flt (by decide : ¬ ((4 : Int32) < (4 : Int32)))).2.1 (by decide) (q := 146) (by decide) ?_
  have q64 := ((((((((((((((((((((((Keep.refl h0 [o0]).wr W2 (Or.inl (List.mem_of_getElem? (i := 0) rfl))).wr W3 (Or.inl (List.mem_of_getElem? (i := 0) rfl))).wr W7 (Or.inl (List.mem_of_getElem? (i := 0) rfl))).ext E11).wr W15 (Or.inr sz_b11)).wr W17 (Or.inr sz_b11)).wr W19 (Or.inr sz_b11)).wr W21 (Or.inr sz_b11)).ext E22).wr W25 (Or.inl (List.mem_of_getElem? (i := 0) rfl))).ext E31).wr W35 (Or.inr sz_b22)).ext E36).wr W39 (Or.inr sz_b36)).wr W40 (Or.inr sz_b31)).wr W45 (Or.inr sz_b36)).wr W46 (Or.inr sz_b31)).wr W51 (Or.inr sz_b36)).wr W52 (Or.inr sz_b31)).wr W57 (Or.inr sz_b36)).wr W58 (Or.inr sz_b31))
  have q65 := ((((((((((((q27.wr W25).ext E31).wr W35).ext E36).wr W39).wr W40).wr W45).wr W46).wr W51).wr W52).wr W57).wr W58)
  have q66 := (((((((((((((((((((Fw3.other W7 (Or.inr (slot_ne (Or.inr (w_ hw 30 rfl)) (Or.inr (w_ hw 32 rfl)) (by decide) (t := (.array .int)) (t' := .int) (by decide) (by decide)))).ext E11).other W15 (Or.inl ne_o0_b11)).other W17 (Or.inl ne_o0_b11)).other W19 (Or.inl ne_o0_b11)).other W21 (Or.inl ne_o0_b11)).ext E22).other W25 (Or.inr (slot_ne (Or.inr (w_ hw 30 rfl)) (Or.inr (w_ hw 36 rfl)) (by decide) (t := (.array .int)) (t' := (.array (.array .int))) (by decide) (by decide)))).ext E31).other W35 (Or.inl ne_o0_b22)).ext E36).other W39 (Or.inl ne_o0_b36)).other W40 (Or.inl ne_o0_b31)).other W45 (Or.inl ne_o0_b36)).other W46 (Or.inl ne_o0_b31)).other W51 (Or.inl ne_o0_b36)).other W52 (Or.inl ne_o0_b31)).other W57 (Or.inl ne_o0_b36)).other W58 (Or.inl ne_o0_b31))
  have q67 := ((((((((((((((((((Fw7.ext E11).other W15 (Or.inl ne_o0_b11)).other W17 (Or.inl ne_o0_b11)).other W19 (Or.inl ne_o0_b11)).other W21 (Or.inl ne_o0_b11)).ext E22).other W25 (Or.inr (slot_ne (Or.inr (w_ hw 32 rfl)) (Or.inr (w_ hw 36 rfl)) (by decide) (t := .int) (t' := (.array (.array .int))) (by decide) (by decide)))).ext E31).other W35 (Or.inl ne_o0_b22)).ext E36).other W39 (Or.inl ne_o0_b36)).other W40 (Or.inl ne_o0_b31)).other W45 (Or.inl ne_o0_b36)).other W46 (Or.inl ne_o0_b31)).other W51 (Or.inl ne_o0_b36)).other W52 (Or.inl ne_o0_b31)).other W57 (Or.inl ne_o0_b36)).other W58 (Or.inl ne_o0_b31))
  exact own_outV X58 hx hlk hret (hb hby d3_146) (Q := Q3c0000n1 Z o0 o1 o2 k2 h0 n0) (by rw [e58]; exact ⟨rfl, (Fr.snoc X58 (own_snoc (Fr.snoc X52 (own_snoc (Fr.snoc X46 (own_snoc (Fr.snoc X40 (own_snoc (Fr.snoc X35 (Fr.snoc X25 (Fr.snoc X21 (Fr.snoc X19 (Fr.snoc X17 (Fr.snoc X15 (Fr.snoc X7 (Fr.snoc X3 (Fr.snoc X2 N0 g_o0) g_o0) g_o0) g_b11) g_b11) g_b11) g_b11) g_o0) g_b22) g_b36) g_b31) g_b36) g_b31) g_b36) g_b31) g_b36) g_b31), q64, q65, q66, q67⟩) (by decide) (by decide)
theorem ef_3c0001n2 (m : MethodId) (x0 : Addr) (x1 : Addr) (x2 : Addr) : entryFrame m #[(.ref x0), (.ref x1), (.ref x2), (.int (2 : Int32))] 9 = mkF m 0 #[.val (.ref x0), .val (.ref x1), .val (.ref x2), .val (.int (2 : Int32)), .unset, .unset, .unset, .unset, .unset] [] := by first | (simp [entryFrame, mkF, argsToLocals, Value.category]; done) | rfl
def Q3c0001n2 (Z : State) (o0 : Addr) (o1 : Addr) (o2 : Addr) (k2 : ClassId) (h0 : Heap) (n0 : Nat) (v : Option Value) (h : Heap) (L : List Loc) : Prop := v = none ∧ Fr n0 L ∧ Keep h0 h [o0] ∧ Exa Z h o0 "com/example/slimc/slimc/game/Observation" ∧ Fld Z h o0 "com/example/slimc/slimc/game/Observation" "classOf" "[I" (.ref o2) ∧ Fld Z h o0 "com/example/slimc/slimc/game/Observation" "classCount" "I" (.int (2 : Int32))
set_option maxRecDepth 65536 in
set_option maxHeartbeats 40000000 in
theorem rm3c0001n2 (l : Launch) (Z : State) (a0 : Array Value) (hw : ∀ d ∈ tables_1, d.before a0 Z = true) (ws : List Jvm.Cond) (o0 : Addr) (o1 : Addr) (o2 : Addr) (k2 : ClassId) (h0 : Heap) (n0 : Nat) (Z0 : n0 ≤ h0.size) (E : Exa Z h0 o0 "com/example/slimc/slimc/game/Observation") (F_name : Fld Z h0 o0 "com/example/slimc/slimc/game/Observation" "name" "Ljava/lang/String;" .null) (F_classOf : Fld Z h0 o0 "com/example/slimc/slimc/game/Observation" "classOf" "[I" .null) (F_classCount : Fld Z h0 o0 "com/example/slimc/slimc/game/Observation" "classCount" "I" (.int (0 : Int32))) (F_classes : Fld Z h0 o0 "com/example/slimc/slimc/game/Observation" "classes" "[[I" .null) (g_o0 : n0 ≤ o0) (V : Arv Z h0 o2 k2 .int (4 : Int32) [(.int (0 : Int32)), (.int (0 : Int32)), (.int (0 : Int32)), (.int (1 : Int32))] (.int (0 : Int32))) (n2 : o2 ≠ o0) :
    MetFree l (⟨"com/example/slimc/slimc/game/Observation", "<init>", "(Ljava/lang/String;[II)V"⟩ : MethodName) (head1 (Jvm.Cond.code (⟨"com/example/slimc/slimc/game/Observation", "<init>", "(Ljava/lang/String;[II)V"⟩ : MethodName) prog_66_method_1_code 9 none :: ws) ({ frames := 1, cells := 7, slots := 16, locals := 14 } : Room)) (fun a U => a = #[(.ref o0), (.ref o1), (.ref o2), (.int (2 : Int32))] ∧ Z.Warmed39 U.vm ∧ U.heap = h0) (fun _ _ _ _ _ => True) (fun _ U o U' => ∃ v L, o = .returned v ∧ Q3c0001n2 Z o0 o1 o2 k2 h0 n0 v U'.heap L ∧ FrameEnd U o U' L ({ frames := 1, cells := 7, slots := 16, locals := 14 } : Room).cells ({ frames := 1, cells := 7, slots := 16, locals := 14 } : Room).slots) := by
  refine MetFree.of_bodySF (plainFor_of_name pn_1) hisR ?_
  intro p e s m args below meth c s₁ Bd hml0 hP hK
  obtain ⟨rfl, hZ, hh⟩ := hP
  have hx := Bd.exec
  have hby := Bd.bytes
  have hml : c.maxLocals = 9 := hml0
  have hown : s.vm.findClass "com/example/slimc/slimc/game/Observation" = some m.cls := findClass_of_methodNamed Bd.named
  have hnm := (name_of_methodNamed Bd.named Bd.method).1
  have X0 : Stand p l e ({ frames := 1, cells := 7, slots := 16, locals := 14 } : Room) s m #[(.ref o0), (.ref o1), (.ref o2), (.int (2 : Int32))] below meth c s₁ [] 0 0 := Stand.of_body Bd
  have e0 : s₁.heap = h0 := by rw [← hh, Bd.state]; rfl
  have N0 := Fr.nil n0
  have hret := Bd.returns
  have hlk := BodyLoose.notSynchronized Bd
  show own_Out p e below (fun o U' => ∃ v L, o = .returned v ∧ Q3c0001n2 Z o0 o1 o2 k2 h0 n0 v U'.heap L ∧ FrameEnd s o U' L ({ frames := 1, cells := 7, slots := 16, locals := 14 } : Room).cells ({ frames := 1, cells := 7, slots := 16, locals := 14 } : Room).slots) (s₁.setTop (entryFrame m #[(.ref o0), (.ref o1), (.ref o2), (.int (2 : Int32))] 9))
  refine own_of (fun t k => castTop (ef_3c0001n2 m o0 o1 o2) k) ?_
  show own_Out p e below _ (s₁.setTop (mkF m 0 #[rv o0, rv o1, rv o2, iv 2, .unset, .unset, .unset, .unset, .unset] []))
  refine o_aloadN X0 hx hby d3_0 rfl rfl (q := 1) rfl ?_
  obtain ⟨T1, X1, e1, st1⟩ := initO X0 hx hZ hown (w_ hw 24 rfl) (w_ hw 25 rfl) (w_ hw 26 rfl) e0 (g := (mkF m 1 #[rv o0, rv o1, rv o2, iv 2, .unset, .unset, .unset, .unset, .unset] [.ref o0])) rfl (by rw [hml]; rfl) rfl (hb hby d3_1) (by decide) (W := 0) (by show 2 * 0 + _ ≤ _; exact Nat.le_of_eq rfl) (by decide)
  refine own_of st1 ?_
  show own_Out p e below _ (T1.setTop (mkF m 4 #[rv o0, rv o1, rv o2, iv 2, .unset, .unset, .unset, .unset, .unset] []))
  refine o_aloadN X1 hx hby d3_4 rfl rfl (q := 5) rfl ?_
  refine o_aloadN X1 hx hby d3_5 rfl rfl (q := 6) rfl ?_
  obtain ⟨T2, h2, X2, e2, W2, st2⟩ := putF X1 hx hZ hown (host := "") (Or.inl (w_ hw 27 rfl)) Via.refl e1 F_name E (Or.inr ⟨(w_ hw 28 rfl), rfl, hnm⟩) (w_ hw 11 rfl) (ty := (.object "java/lang/String")) (by decide) rfl rfl (g := (mkF m 6 #[rv o0, rv o1, rv o2, iv 2, .unset, .unset, .unset, .unset, .unset] [.ref o1, .ref o0])) rfl rfl (hb hby d3_6)
  have Fw2 := F_name.same W2
  refine own_of st2 ?_
  show own_Out p e below _ (T2.setTop (mkF m 9 #[rv o0, rv o1, rv o2, iv 2, .unset, .unset, .unset, .unset, .unset] []))
  refine o_aloadN X2 hx hby d3_9 rfl rfl (q := 10) rfl ?_
  refine o_aloadN X2 hx hby d3_10 rfl rfl (q := 11) rfl ?_
  have q4 := (F_classOf.other W2 (Or.inr (slot_ne (Or.inr (w_ hw 30 rfl)) (Or.inr (w_ hw 28 rfl)) (by decide) (t := (.array .int)) (t' := (.object "java/lang/String")) (by decide) (by decide))))
  have q5 := (E.wr W2)
  obtain ⟨T3, h3, X3, e3, W3, st3⟩ := putF X2 hx hZ hown (host := "") (Or.inl (w_ hw 29 rfl)) Via.refl e2 q4 q5 (Or.inr ⟨(w_ hw 30 rfl), rfl, hnm⟩) (w_ hw 11 rfl) (ty := (.array .int)) (by decide) rfl rfl (g := (mkF m 11 #[rv o0, rv o1, rv o2, iv 2, .unset, .unset, .unset, .unset, .unset] [.ref o2, .ref o0])) rfl rfl (hb hby d3_11)
  have q6 := (F_classOf.other W2 (Or.inr (slot_ne (Or.inr (w_ hw 30 rfl)) (Or.inr (w_ hw 28 rfl)) (by decide) (t := (.array .int)) (t' := (.object "java/lang/String")) (by decide) (by decide))))
  have Fw3 := q6.same W3
  refine own_of st3 ?_
  show own_Out p e below _ (T3.setTop (mkF m 14 #[rv o0, rv o1, rv o2, iv 2, .unset, .unset, .unset, .unset, .unset] []))
  refine o_aloadN X3 hx hby d3_14 rfl rfl (q := 15) rfl ?_
  refine o_iloadN X3 hx hby d3_15 rfl (q := 16) rfl ?_
  have q8 := ((F_classCount.other W2 (Or.inr (slot_ne (Or.inr (w_ hw 32 rfl)) (Or.inr (w_ hw 28 rfl)) (by decide) (t := .int) (t' := (.object "java/lang/String")) (by decide) (by decide)))).other W3 (Or.inr (slot_ne (Or.inr (w_ hw 32 rfl)) (Or.inr (w_ hw 30 rfl)) (by decide) (t := .int) (t' := (.array .int)) (by decide) (by decide))))
  have q9 := (q5.wr W3)
  obtain ⟨T7, h7, X7, e7, W7, st7⟩ := putF X3 hx hZ hown (host := "") (Or.inl (w_ hw 31 rfl)) Via.refl e3 q8 q9 (Or.inr ⟨(w_ hw 32 rfl), rfl, hnm⟩) (w_ hw 11 rfl) (ty := .int) (by decide) rfl rfl (g := (mkF m 16 #[rv o0, rv o1, rv o2, iv 2, .unset, .unset, .unset, .unset, .unset] [.int 2, .ref o0])) rfl rfl (hb hby d3_16)
  have q10 := ((F_classCount.other W2 (Or.inr (slot_ne (Or.inr (w_ hw 32 rfl)) (Or.inr (w_ hw 28 rfl)) (by decide) (t := .int) (t' := (.object "java/lang/String")) (by decide) (by decide)))).other W3 (Or.inr (slot_ne (Or.inr (w_ hw 32 rfl)) (Or.inr (w_ hw 30 rfl)) (by decide) (t := .int) (t' := (.array .int)) (by decide) (by decide))))
  have Fw7 := q10.same W7
  refine own_of st7 ?_
  show own_Out p e below _ (T7.setTop (mkF m 19 #[rv o0, rv o1, rv o2, iv 2, .unset, .unset, .unset, .unset, .unset] []))
  refine o_iloadN X7 hx hby d3_19 rfl (q := 20) rfl ?_
  obtain ⟨T11, h11, k11, X11, e11, E11, A11, Ex11, st11⟩ := newPE X7 hx hZ (w_ hw 5 rfl) e7 (g := (mkF m 20 #[rv o0, rv o1, rv o2, iv 2, .unset, .unset, .unset, .unset, .unset] [.int 2])) rfl (hb hby d3_20) rfl (by decide) (cap := 2) (by decide) (by decide) (by decide) (by decide) (ad := "[I") (by decide +kernel)
  obtain ⟨b11, g11⟩ : ∃ z, z = h7.size := ⟨_, rfl⟩
  rw [← g11] at A11 Ex11 st11
  have q12 := (Nat.le_trans (Nat.le_trans (Nat.le_trans Z0 (Keep.of_wr W2).1) (Keep.of_wr W3).1) (Keep.of_wr W7).1)
  have g_b11 : n0 ≤ b11 := Nat.le_trans q12 (Nat.le_of_eq g11.symm)
  have q13 := (Nat.le_trans (Nat.le_trans (Nat.le_trans (Nat.le_refl h0.size) (Keep.of_wr W2).1) (Keep.of_wr W3).1) (Keep.of_wr W7).1)
  have sz_b11 : h0.size ≤ b11 := Nat.le_trans q13 (Nat.le_of_eq g11.symm)
  have V_b11 : Arv Z h11 b11 k11 .int (2 : Int32) [(.int (0 : Int32)), (.int (0 : Int32))] (.int (0 : Int32)) := (Arv.new A11 (by decide)).pad (pad_rep [] (.int (0 : Int32)) 2)
  refine own_of st11 ?_
  show own_Out p e below _ (T11.setTop (mkF m 22 #[rv o0, rv o1, rv o2, iv 2, .unset, .unset, .unset, .unset, .unset] [.ref b11]))
  refine o_astore X11 hx hby d3_22 rfl (l' := #[rv o0, rv o1, rv o2, iv 2, rv b11, .unset, .unset, .unset, .unset]) rfl (q := 24) rfl ?_
  refine o_aloadN X11 hx hby d3_24 rfl rfl (q := 25) rfl ?_
  refine o_astore X11 hx hby d3_25 rfl (l' := #[rv o0, rv o1, rv o2, iv 2, rv b11, rv o2, .unset, .unset, .unset]) rfl (q := 27) rfl ?_
  refine o_aload X11 hx hby d3_27 rfl rfl (q := 29) rfl ?_
  have q14 := ((((V.other W2 n2).other W3 n2).other W7 n2).ext E11)
  refine o_lenV X11 hx hby hZ e11 q14 d3_29 (q := 30) rfl ?_
  refine o_istore X11 hx hby d3_30 (l' := #[rv o0, rv o1, rv o2, iv 2, rv b11, rv o2, iv 4, .unset, .unset]) rfl (q := 32) rfl ?_
  refine o_iconst X11 hx hby d3_32 (z := 0) rfl (q := 33) rfl ?_
  refine o_istore X11 hx hby d3_33 (l' := #[rv o0, rv o1, rv o2, iv 2, rv b11, rv o2, iv 4, iv 0, .unset]) rfl (q := 35) rfl ?_
  refine t1 X11 hx hby hZ e11 q14 V_b11 rfl ⟨by decide, by decide⟩ (cc := 0) rfl ⟨by decide, by decide⟩ (y := 0) rfl (y' := 1) rfl (i' := 1) rfl (iN := 0) rfl (Nat.le_of_ble_eq_true rfl) fun T15 h15 X15 e15 W15 V15 => ?_
  have ne_o2_b11 : o2 ≠ b11 := Nat.ne_of_lt (Nat.lt_of_lt_of_le V.lt sz_b11)
  have q16 := (q14.other W15 ne_o2_b11)
  refine t1 X15 hx hby hZ e15 q16 V15 rfl ⟨by decide, by decide⟩ (cc := 0) rfl ⟨by decide, by decide⟩ (y := 1) rfl (y' := 2) rfl (i' := 2) rfl (iN := 0) rfl (Nat.le_of_ble_eq_true rfl) fun T17 h17 X17 e17 W17 V17 => ?_
  have q18 := (q16.other W17 ne_o2_b11)
  refine t1 X17 hx hby hZ e17 q18 V17 rfl ⟨by decide, by decide⟩ (cc := 0) rfl ⟨by decide, by decide⟩ (y := 2) rfl (y' := 3) rfl (i' := 3) rfl (iN := 0) rfl (Nat.le_of_ble_eq_true rfl) fun T19 h19 X19 e19 W19 V19 => ?_
  have q20 := (q18.other W19 ne_o2_b11)
  refine t1 X19 hx hby hZ e19 q20 V19 rfl ⟨by decide, by decide⟩ (cc := 1) rfl ⟨by decide, by decide⟩ (y := 0) rfl (y' := 1) rfl (i' := 4) rfl (iN := 1) rfl (Nat.le_of_ble_eq_true rfl) fun T21 h21 X21 e21 W21 V21 => ?_
  refine o_iload X21 hx hby d3_35 rfl (q := 37) rfl ?_
  refine o_iload X21 hx hby d3_37 rfl (q := 39) rfl ?_
  refine o_icY X21 hx hby d3_39 (flt (by decide : ¬ ((4 : Int32) < (4 : Int32)))).2.1 (by decide) (q := 64) (by decide) ?_
  refine o_aloadN X21 hx hby d3_64 rfl rfl (q := 65) rfl ?_
  refine o_iloadN X21 hx hby d3_65 rfl (q := 66) rfl ?_
  obtain ⟨T22, h22, k22, X22, e22, E22, A22, Ex22, O22, st22⟩ := newRA X21 hx hZ hown (ty := .int) (by decide +kernel) (w_ hw 33 rfl) (w_ hw 34 rfl) e21 (g := (mkF m 66 #[rv o0, rv o1, rv o2, iv 2, rv b11, rv o2, iv 4, iv 4, iv 1] [.int 2, .ref o0])) rfl (hb hby d3_66) rfl (by decide) (cap := 2) (by decide) (by decide) (by decide) (by decide) (ad := "[[I") (by decide +kernel)
  obtain ⟨b22, g22⟩ : ∃ z, z = h21.size := ⟨_, rfl⟩
  rw [← g22] at A22 Ex22 st22
  have q23 := (Nat.le_trans (Nat.le_trans (Nat.le_trans (Nat.le_trans (Nat.le_trans q12 E11.1) (Keep.of_wr W15).1) (Keep.of_wr W17).1) (Keep.of_wr W19).1) (Keep.of_wr W21).1)
  have g_b22 : n0 ≤ b22 := Nat.le_trans q23 (Nat.le_of_eq g22.symm)
  have q24 := (Nat.le_trans (Nat.le_trans (Nat.le_trans (Nat.le_trans (Nat.le_trans q13 E11.1) (Keep.of_wr W15).1) (Keep.of_wr W17).1) (Keep.of_wr W19).1) (Keep.of_wr W21).1)
  have sz_b22 : h0.size ≤ b22 := Nat.le_trans q24 (Nat.le_of_eq g22.symm)
  have V_b22 : Arv Z h22 b22 k22 (.array .int) (2 : Int32) [.null, .null] .null := (Arv.new A22 (by decide)).pad (pad_rep [] .null 2)
  refine own_of st22 ?_
  show own_Out p e below _ (T22.setTop (mkF m 69 #[rv o0, rv o1, rv o2, iv 2, rv b11, rv o2, iv 4, iv 4, iv 1] [.ref b22, .ref o0]))
  have ne_o0_b11 : o0 ≠ b11 := Nat.ne_of_lt (Nat.lt_of_lt_of_le E.lt sz_b11)
  have q26 := (((((((((F_classes.other W2 (Or.inr (slot_ne (Or.inr (w_ hw 36 rfl)) (Or.inr (w_ hw 28 rfl)) (by decide) (t := (.array (.array .int))) (t' := (.object "java/lang/String")) (by decide) (by decide)))).other W3 (Or.inr (slot_ne (Or.inr (w_ hw 36 rfl)) (Or.inr (w_ hw 30 rfl)) (by decide) (t := (.array (.array .int))) (t' := (.array .int)) (by decide) (by decide)))).other W7 (Or.inr (slot_ne (Or.inr (w_ hw 36 rfl)) (Or.inr (w_ hw 32 rfl)) (by decide) (t := (.array (.array .int))) (t' := .int) (by decide) (by decide)))).ext E11).other W15 (Or.inl ne_o0_b11)).other W17 (Or.inl ne_o0_b11)).other W19 (Or.inl ne_o0_b11)).other W21 (Or.inl ne_o0_b11)).ext E22)
  have q27 := (((((((q9.wr W7).ext E11).wr W15).wr W17).wr W19).wr W21).ext E22)
  obtain ⟨T25, h25, X25, e25, W25, st25⟩ := putF X22 hx hZ hown (host := "") (Or.inl (w_ hw 35 rfl)) Via.refl e22 q26 q27 (Or.inr ⟨(w_ hw 36 rfl), rfl, hnm⟩) (w_ hw 11 rfl) (ty := (.array (.array .int))) (by decide) rfl rfl (g := (mkF m 69 #[rv o0, rv o1, rv o2, iv 2, rv b11, rv o2, iv 4, iv 4, iv 1] [.ref b22, .ref o0])) rfl rfl (hb hby d3_69)
  have q28 := (((((((((F_classes.other W2 (Or.inr (slot_ne (Or.inr (w_ hw 36 rfl)) (Or.inr (w_ hw 28 rfl)) (by decide) (t := (.array (.array .int))) (t' := (.object "java/lang/String")) (by decide) (by decide)))).other W3 (Or.inr (slot_ne (Or.inr (w_ hw 36 rfl)) (Or.inr (w_ hw 30 rfl)) (by decide) (t := (.array (.array .int))) (t' := (.array .int)) (by decide) (by decide)))).other W7 (Or.inr (slot_ne (Or.inr (w_ hw 36 rfl)) (Or.inr (w_ hw 32 rfl)) (by decide) (t := (.array (.array .int))) (t' := .int) (by decide) (by decide)))).ext E11).other W15 (Or.inl ne_o0_b11)).other W17 (Or.inl ne_o0_b11)).other W19 (Or.inl ne_o0_b11)).other W21 (Or.inl ne_o0_b11)).ext E22)
  have Fw25 := q28.same W25
  refine own_of st25 ?_
  show own_Out p e below _ (T25.setTop (mkF m 72 #[rv o0, rv o1, rv o2, iv 2, rv b11, rv o2, iv 4, iv 4, iv 1] []))
  refine o_iconst X25 hx hby d3_72 (z := 0) rfl (q := 73) rfl ?_
  refine o_istore X25 hx hby d3_73 (l' := #[rv o0, rv o1, rv o2, iv 2, rv b11, iv 0, iv 4, iv 4, iv 1]) rfl (q := 75) rfl ?_
  refine o_iload X25 hx hby d3_75 rfl (q := 77) rfl ?_
  refine o_iloadN X25 hx hby d3_77 rfl (q := 78) rfl ?_
  refine o_icN X25 hx hby d3_78 (tlt (by decide : (0 : Int32) < (2 : Int32))).2.1 (q := 81) rfl ?_
  refine o_aloadN X25 hx hby d3_81 rfl rfl (q := 82) rfl ?_
  refine o_getF X25 hx hZ hown hby (w_ hw 35 rfl) Via.refl e25 Fw25 d3_82 (q := 85) rfl fun T29 X29 e29 => ?_
  refine o_iload X29 hx hby d3_85 rfl (q := 87) rfl ?_
  refine o_aload X29 hx hby d3_87 rfl rfl (q := 89) rfl ?_
  refine o_iload X29 hx hby d3_89 rfl (q := 91) rfl ?_
  have q30 := ((V21.ext E22).other W25 (Ne.symm ne_o0_b11))
  refine o_iaV X29 hx hby hZ e29 q30 ⟨by decide, by decide⟩ (v := .int 3) rfl d3_91 (q := 92) rfl ?_
  obtain ⟨T31, h31, k31, X31, e31, E31, A31, Ex31, st31⟩ := newPE X29 hx hZ (w_ hw 5 rfl) e29 (g := (mkF m 92 #[rv o0, rv o1, rv o2, iv 2, rv b11, iv 0, iv 4, iv 4, iv 1] [.int 3, .int 0, .ref b22])) rfl (hb hby d3_92) rfl (by decide) (cap := 3) (by decide) (by decide) (by decide) (by decide) (ad := "[I") (by decide +kernel)
  obtain ⟨b31, g31⟩ : ∃ z, z = h25.size := ⟨_, rfl⟩
  rw [← g31] at A31 Ex31 st31
  have q32 := (Nat.le_trans (Nat.le_trans q23 E22.1) (Keep.of_wr W25).1)
  have g_b31 : n0 ≤ b31 := Nat.le_trans q32 (Nat.le_of_eq g31.symm)
  have q33 := (Nat.le_trans (Nat.le_trans q24 E22.1) (Keep.of_wr W25).1)
  have sz_b31 : h0.size ≤ b31 := Nat.le_trans q33 (Nat.le_of_eq g31.symm)
  have V_b31 : Arv Z h31 b31 k31 .int (3 : Int32) [(.int (0 : Int32)), (.int (0 : Int32)), (.int (0 : Int32))] (.int (0 : Int32)) := (Arv.new A31 (by decide)).pad (pad_rep [] (.int (0 : Int32)) 3)
  refine own_of st31 ?_
  show own_Out p e below _ (T31.setTop (mkF m 94 #[rv o0, rv o1, rv o2, iv 2, rv b11, iv 0, iv 4, iv 4, iv 1] [.ref b31, .int 0, .ref b22]))
  have ne_o0_b22 : o0 ≠ b22 := Nat.ne_of_lt (Nat.lt_of_lt_of_le E.lt sz_b22)
  have q34 := ((V_b22.other W25 (Ne.symm ne_o0_b22)).ext E31)
  refine o_stVR X31 hx hby hZ e31 q34 ⟨by decide, by decide⟩ 0 rfl (Nat.le_of_ble_eq_true rfl) O22 (Ins.self Ex31) d3_94 (q := 95) rfl fun T35 h35 X35 e35 W35 V35 => ?_
  refine o_iinc X35 hx hby d3_95 rfl (l' := #[rv o0, rv o1, rv o2, iv 2, rv b11, iv 1, iv 4, iv 4, iv 1]) rfl (q := 98) rfl ?_
  refine o_goto X35 hx hby d3_98 (by decide) (q := 75) (by decide) ?_
  refine o_iload X35 hx hby d3_75 rfl (q := 77) rfl ?_
  refine o_iloadN X35 hx hby d3_77 rfl (q := 78) rfl ?_
  refine o_icN X35 hx hby d3_78 (tlt (by decide : (1 : Int32) < (2 : Int32))).2.1 (q := 81) rfl ?_
  refine o_aloadN X35 hx hby d3_81 rfl rfl (q := 82) rfl ?_
  have q37 := ((Fw25.ext E31).other W35 (Or.inl ne_o0_b22))
  refine o_getF X35 hx hZ hown hby (w_ hw 35 rfl) Via.refl e35 q37 d3_82 (q := 85) rfl fun T36 X36 e36 => ?_
  refine o_iload X36 hx hby d3_85 rfl (q := 87) rfl ?_
  refine o_aload X36 hx hby d3_87 rfl rfl (q := 89) rfl ?_
  refine o_iload X36 hx hby d3_89 rfl (q := 91) rfl ?_
  have ne_b11_b22 : b11 ≠ b22 := Nat.ne_of_lt (Nat.lt_of_lt_of_le (Nat.lt_of_lt_of_le (Nat.lt_of_lt_of_le (Nat.lt_of_lt_of_le (Nat.lt_of_lt_of_le A11.lt (Keep.of_wr W15).1) (Keep.of_wr W17).1) (Keep.of_wr W19).1) (Keep.of_wr W21).1) (Nat.le_of_eq g22.symm))
  have q38 := ((q30.ext E31).other W35 ne_b11_b22)
  refine o_iaV X36 hx hby hZ e36 q38 ⟨by decide, by decide⟩ (v := .int 1) rfl d3_91 (q := 92) rfl ?_
  obtain ⟨T39, h39, k39, X39, e39, E39, A39, Ex39, st39⟩ := newPE X36 hx hZ (w_ hw 5 rfl) e36 (g := (mkF m 92 #[rv o0, rv o1, rv o2, iv 2, rv b11, iv 1, iv 4, iv 4, iv 1] [.int 1, .int 1, .ref b22])) rfl (hb hby d3_92) rfl (by decide) (cap := 1) (by decide) (by decide) (by decide) (by decide) (ad := "[I") (by decide +kernel)
  obtain ⟨b39, g39⟩ : ∃ z, z = h35.size := ⟨_, rfl⟩
  rw [← g39] at A39 Ex39 st39
  have q40 := (Nat.le_trans (Nat.le_trans q32 E31.1) (Keep.of_wr W35).1)
  have g_b39 : n0 ≤ b39 := Nat.le_trans q40 (Nat.le_of_eq g39.symm)
  have q41 := (Nat.le_trans (Nat.le_trans q33 E31.1) (Keep.of_wr W35).1)
  have sz_b39 : h0.size ≤ b39 := Nat.le_trans q41 (Nat.le_of_eq g39.symm)
  have V_b39 : Arv Z h39 b39 k39 .int (1 : Int32) [(.int (0 : Int32))] (.int (0 : Int32)) := (Arv.new A39 (by decide)).pad (pad_rep [] (.int (0 : Int32)) 1)
  refine own_of st39 ?_
  show own_Out p e below _ (T39.setTop (mkF m 94 #[rv o0, rv o1, rv o2, iv 2, rv b11, iv 1, iv 4, iv 4, iv 1] [.ref b39, .int 1, .ref b22]))
  have q42 := (V35.ext E39)
  refine o_stVR X39 hx hby hZ e39 q42 ⟨by decide, by decide⟩ 1 rfl (Nat.le_of_ble_eq_true rfl) O22 (Ins.self Ex39) d3_94 (q := 95) rfl fun T43 h43 X43 e43 W43 V43 => ?_
  refine o_iinc X43 hx hby d3_95 rfl (l' := #[rv o0, rv o1, rv o2, iv 2, rv b11, iv 2, iv 4, iv 4, iv 1]) rfl (q := 98) rfl ?_
  refine o_goto X43 hx hby d3_98 (by decide) (q := 75) (by decide) ?_
  refine o_iload X43 hx hby d3_75 rfl (q := 77) rfl ?_
  refine o_iloadN X43 hx hby d3_77 rfl (q := 78) rfl ?_
  refine o_icY X43 hx hby d3_78 (flt (by decide : ¬ ((2 : Int32) < (2 : Int32)))).2.1 (by decide) (q := 101) (by decide) ?_
  refine o_iloadN X43 hx hby d3_101 rfl (q := 102) rfl ?_
  obtain ⟨T44, h44, k44, X44, e44, E44, A44, Ex44, st44⟩ := newPE X43 hx hZ (w_ hw 5 rfl) e43 (g := (mkF m 102 #[rv o0, rv o1, rv o2, iv 2, rv b11, iv 2, iv 4, iv 4, iv 1] [.int 2])) rfl (hb hby d3_102) rfl (by decide) (cap := 2) (by decide) (by decide) (by decide) (by decide) (ad := "[I") (by decide +kernel)
  obtain ⟨b44, g44⟩ : ∃ z, z = h43.size := ⟨_, rfl⟩
  rw [← g44] at A44 Ex44 st44
  have q45 := (Nat.le_trans (Nat.le_trans q40 E39.1) (Keep.of_wr W43).1)
  have g_b44 : n0 ≤ b44 := Nat.le_trans q45 (Nat.le_of_eq g44.symm)
  have q46 := (Nat.le_trans (Nat.le_trans q41 E39.1) (Keep.of_wr W43).1)
  have sz_b44 : h0.size ≤ b44 := Nat.le_trans q46 (Nat.le_of_eq g44.symm)
  have V_b44 : Arv Z h44 b44 k44 .int (2 : Int32) [(.int (0 : Int32)), (.int (0 : Int32))] (.int (0 : Int32)) := (Arv.new A44 (by decide)).pad (pad_rep [] (.int (0 : Int32)) 2)
  refine own_of st44 ?_
  show own_Out p e below _ (T44.setTop (mkF m 104 #[rv o0, rv o1, rv o2, iv 2, rv b11, iv 2, iv 4, iv 4, iv 1] [.ref b44]))
  refine o_astore X44 hx hby d3_104 rfl (l' := #[rv o0, rv o1, rv o2, iv 2, rv b11, rv b44, iv 4, iv 4, iv 1]) rfl (q := 106) rfl ?_
  refine o_iconst X44 hx hby d3_106 (z := 0) rfl (q := 107) rfl ?_
  refine o_istore X44 hx hby d3_107 (l' := #[rv o0, rv o1, rv o2, iv 2, rv b11, rv b44, iv 0, iv 4, iv 1]) rfl (q := 109) rfl ?_
  have ne_o2_b22 : o2 ≠ b22 := Nat.ne_of_lt (Nat.lt_of_lt_of_le V.lt sz_b22)
  have q49 := ((((((((q20.other W21 ne_o2_b11).ext E22).other W25 n2).ext E31).other W35 ne_o2_b22).ext E39).other W43 ne_o2_b22).ext E44)
  have q50 := (((q37.ext E39).other W43 (Or.inl ne_o0_b22)).ext E44)
  have q51 := (V43.ext E44)
  have ne_b22_b31 : b22 ≠ b31 := Nat.ne_of_lt (Nat.lt_of_lt_of_le (Nat.lt_of_lt_of_le A22.lt (Keep.of_wr W25).1) (Nat.le_of_eq g31.symm))
  have q52 := ((((V_b31.other W35 (Ne.symm ne_b22_b31)).ext E39).other W43 (Ne.symm ne_b22_b31)).ext E44)
  have ne_b31_b44 : b31 ≠ b44 := Nat.ne_of_lt (Nat.lt_of_lt_of_le (Nat.lt_of_lt_of_le (Nat.lt_of_lt_of_le (Nat.lt_of_lt_of_le A31.lt (Keep.of_wr W35).1) E39.1) (Keep.of_wr W43).1) (Nat.le_of_eq g44.symm))
  refine t3 X44 hx hby hZ e44 hw hown q49 q50 q51 V_b44 q52 ne_b31_b44 ⟨by decide, by decide⟩ (x := 0) rfl ⟨by decide, by decide⟩ rfl (f := 0) rfl ⟨by decide, by decide⟩ (f' := 1) rfl (i' := 1) rfl (iN := 0) rfl (Nat.le_of_ble_eq_true rfl) (jN := 0) rfl (Nat.le_of_ble_eq_true rfl) fun T48 h47 h48 X48 e48 W47 W48 V47 V48 => ?_
  have ne_o2_b44 : o2 ≠ b44 := Nat.ne_of_lt (Nat.lt_of_lt_of_le V.lt sz_b44)
  have ne_o2_b31 : o2 ≠ b31 := Nat.ne_of_lt (Nat.lt_of_lt_of_le V.lt sz_b31)
  have q55 := ((q49.other W47 ne_o2_b44).other W48 ne_o2_b31)
  have ne_o0_b44 : o0 ≠ b44 := Nat.ne_of_lt (Nat.lt_of_lt_of_le E.lt sz_b44)
  have ne_o0_b31 : o0 ≠ b31 := Nat.ne_of_lt (Nat.lt_of_lt_of_le E.lt sz_b31)
  have q56 := ((q50.other W47 (Or.inl ne_o0_b44)).other W48 (Or.inl ne_o0_b31))
  have ne_b22_b44 : b22 ≠ b44 := Nat.ne_of_lt (Nat.lt_of_lt_of_le (Nat.lt_of_lt_of_le (Nat.lt_of_lt_of_le (Nat.lt_of_lt_of_le (Nat.lt_of_lt_of_le (Nat.lt_of_lt_of_le A22.lt (Keep.of_wr W25).1) E31.1) (Keep.of_wr W35).1) E39.1) (Keep.of_wr W43).1) (Nat.le_of_eq g44.symm))
  have q57 := ((q51.other W47 ne_b22_b44).other W48 ne_b22_b31)
  have q58 := (V47.other W48 (Ne.symm ne_b31_b44))
  refine t3 X48 hx hby hZ e48 hw hown q55 q56 q57 q58 V48 ne_b31_b44 ⟨by decide, by decide⟩ (x := 0) rfl ⟨by decide, by decide⟩ rfl (f := 1) rfl ⟨by decide, by decide⟩ (f' := 2) rfl (i' := 2) rfl (iN := 0) rfl (Nat.le_of_ble_eq_true rfl) (jN := 1) rfl (Nat.le_of_ble_eq_true rfl) fun T54 h53 h54 X54 e54 W53 W54 V53 V54 => ?_
  have q61 := ((q55.other W53 ne_o2_b44).other W54 ne_o2_b31)
  have q62 := ((q56.other W53 (Or.inl ne_o0_b44)).other W54 (Or.inl ne_o0_b31))
  have q63 := ((q57.other W53 ne_b22_b44).other W54 ne_b22_b31)
  have q64 := (V53.other W54 (Ne.symm ne_b31_b44))
  refine t3 X54 hx hby hZ e54 hw hown q61 q62 q63 q64 V54 ne_b31_b44 ⟨by decide, by decide⟩ (x := 0) rfl ⟨by decide, by decide⟩ rfl (f := 2) rfl ⟨by decide, by decide⟩ (f' := 3) rfl (i' := 3) rfl (iN := 0) rfl (Nat.le_of_ble_eq_true rfl) (jN := 2) rfl (Nat.le_of_ble_eq_true rfl) fun T60 h59 h60 X60 e60 W59 W60 V59 V60 => ?_
  have q67 := ((q61.other W59 ne_o2_b44).other W60 ne_o2_b31)
  have q68 := ((q62.other W59 (Or.inl ne_o0_b44)).other W60 (Or.inl ne_o0_b31))
  have q69 := ((q63.other W59 ne_b22_b44).other W60 ne_b22_b31)
  have q70 := (V59.other W60 (Ne.symm ne_b31_b44))
  have ne_b22_b39 : b22 ≠ b39 := Nat.ne_of_lt (Nat.lt_of_lt_of_le (Nat.lt_of_lt_of_le (Nat.lt_of_lt_of_le (Nat.lt_of_lt_of_le A22.lt (Keep.of_wr W25).1) E31.1) (Keep.of_wr W35).1) (Nat.le_of_eq g39.symm))
  have ne_b39_b44 : b39 ≠ b44 := Nat.ne_of_lt (Nat.lt_of_lt_of_le (Nat.lt_of_lt_of_le A39.lt (Keep.of_wr W43).1) (Nat.le_of_eq g44.symm))
  have ne_b31_b39 : b31 ≠ b39 := Nat.ne_of_lt (Nat.lt_of_lt_of_le (Nat.lt_of_lt_of_le A31.lt (Keep.of_wr W35).1) (Nat.le_of_eq g39.symm))
  have q71 := ((((((((V_b39.other W43 (Ne.symm ne_b22_b39)).ext E44).other W47 ne_b39_b44).other W48 (Ne.symm ne_b31_b39)).other W53 ne_b39_b44).other W54 (Ne.symm ne_b31_b39)).other W59 ne_b39_b44).other W60 (Ne.symm ne_b31_b39))
  refine t3 X60 hx hby hZ e60 hw hown q67 q68 q69 q70 q71 ne_b39_b44 ⟨by decide, by decide⟩ (x := 1) rfl ⟨by decide, by decide⟩ rfl (f := 0) rfl ⟨by decide, by decide⟩ (f' := 1) rfl (i' := 4) rfl (iN := 1) rfl (Nat.le_of_ble_eq_true rfl) (jN := 0) rfl (Nat.le_of_ble_eq_true rfl) fun T66 h65 h66 X66 e66 W65 W66 V65 V66 => ?_
  refine o_iload X66 hx hby d3_109 rfl (q := 111) rfl ?_
  refine o_aloadN X66 hx hby d3_111 rfl rfl (q := 112) rfl ?_
  have ne_o2_b39 : o2 ≠ b39 := Nat.ne_of_lt (Nat.lt_of_lt_of_le V.lt sz_b39)
  have q72 := ((q67.other W65 ne_o2_b44).other W66 ne_o2_b39)
  refine o_lenV X66 hx hby hZ e66 q72 d3_112 (q := 113) rfl ?_
  refine o_icY X66 hx hby d3_113 (flt (by decide : ¬ ((4 : Int32) < (4 : Int32)))).2.1 (by decide) (q := 146) (by decide) ?_
  have q73 := ((((((((((((((((((((((((Keep.refl h0 [o0]).wr W2 (Or.inl (List.mem_of_getElem? (i := 0) rfl))).wr W3 (Or.inl (List.mem_of_getElem? (i := 0) rfl))).wr W7 (Or.inl (List.mem_of_getElem? (i := 0) rfl))).ext E11).wr W15 (Or.inr sz_b11)).wr W17 (Or.inr sz_b11)).wr W19 (Or.inr sz_b11)).wr W21 (Or.inr sz_b11)).ext E22).wr W25 (Or.inl (List.mem_of_getElem? (i := 0) rfl))).ext E31).wr W35 (Or.inr sz_b22)).ext E39).wr W43 (Or.inr sz_b22)).ext E44).wr W47 (Or.inr sz_b44)).wr W48 (Or.inr sz_b31)).wr W53 (Or.inr sz_b44)).wr W54 (Or.inr sz_b31)).wr W59 (Or.inr sz_b44)).wr W60 (Or.inr sz_b31)).wr W65 (Or.inr sz_b44)).wr W66 (Or.inr sz_b39))
  have q74 := ((((((((((((((q27.wr W25).ext E31).wr W35).ext E39).wr W43).ext E44).wr W47).wr W48).wr W53).wr W54).wr W59).wr W60).wr W65).wr W66)
  have ne_o0_b39 : o0 ≠ b39 := Nat.ne_of_lt (Nat.lt_of_lt_of_le E.lt sz_b39)
  have q75 := (((((((((((((((((((((Fw3.other W7 (Or.inr (slot_ne (Or.inr (w_ hw 30 rfl)) (Or.inr (w_ hw 32 rfl)) (by decide) (t := (.array .int)) (t' := .int) (by decide) (by decide)))).ext E11).other W15 (Or.inl ne_o0_b11)).other W17 (Or.inl ne_o0_b11)).other W19 (Or.inl ne_o0_b11)).other W21 (Or.inl ne_o0_b11)).ext E22).other W25 (Or.inr (slot_ne (Or.inr (w_ hw 30 rfl)) (Or.inr (w_ hw 36 rfl)) (by decide) (t := (.array .int)) (t' := (.array (.array .int))) (by decide) (by decide)))).ext E31).other W35 (Or.inl ne_o0_b22)).ext E39).other W43 (Or.inl ne_o0_b22)).ext E44).other W47 (Or.inl ne_o0_b44)).other W48 (Or.inl ne_o0_b31)).other W53 (Or.inl ne_o0_b44)).other W54 (Or.inl ne_o0_b31)).other W59 (Or.inl ne_o0_b44)).other W60 (Or.inl ne_o0_b31)).other W65 (Or.inl ne_o0_b44)).other W66 (Or.inl ne_o0_b39))
  have q76 := ((((((((((((((((((((Fw7.ext E11).other W15 (Or.inl ne_o0_b11)).other W17 (Or.inl ne_o0_b11)).other W19 (Or.inl ne_o0_b11)).other W21 (Or.inl ne_o0_b11)).ext E22).other W25 (Or.inr (slot_ne (Or.inr (w_ hw 32 rfl)) (Or.inr (w_ hw 36 rfl)) (by decide) (t := .int) (t' := (.array (.array .int))) (by decide) (by decide)))).ext E31).other W35 (Or.inl ne_o0_b22)).ext E39).other W43 (Or.inl ne_o0_b22)).ext E44).other W47 (Or.inl ne_o0_b44)).other W48 (Or.inl ne_o0_b31)).other W53 (Or.inl ne_o0_b44)).other W54 (Or.inl ne_o0_b31)).other W59 (Or.inl ne_o0_b44)).other W60 (Or.inl ne_o0_b31)).other W65 (Or.inl ne_o0_b44)).other W66 (Or.inl ne_o0_b39))
  exact own_outV X66 hx hlk hret (hb hby d3_146) (Q := Q3c0001n2 Z o0 o1 o2 k2 h0 n0) (by rw [e66]; exact ⟨rfl, (Fr.snoc X66 (own_snoc (Fr.snoc X60 (own_snoc (Fr.snoc X54 (own_snoc (Fr.snoc X48 (own_snoc (Fr.snoc X43 (Fr.snoc X35 (Fr.snoc X25 (Fr.snoc X21 (Fr.snoc X19 (Fr.snoc X17 (Fr.snoc X15 (Fr.snoc X7 (Fr.snoc X3 (Fr.snoc X2 N0 g_o0) g_o0) g_o0) g_b11) g_b11) g_b11) g_b11) g_o0) g_b22) g_b22) g_b44) g_b31) g_b44) g_b31) g_b44) g_b31) g_b44) g_b39), q73, q74, q75, q76⟩) (by decide) (by decide)
theorem ef_3c001n2 (m : MethodId) (x0 : Addr) (x1 : Addr) (x2 : Addr) : entryFrame m #[(.ref x0), (.ref x1), (.ref x2), (.int (2 : Int32))] 9 = mkF m 0 #[.val (.ref x0), .val (.ref x1), .val (.ref x2), .val (.int (2 : Int32)), .unset, .unset, .unset, .unset, .unset] [] := by first | (simp [entryFrame, mkF, argsToLocals, Value.category]; done) | rfl
def Q3c001n2 (Z : State) (o0 : Addr) (o1 : Addr) (o2 : Addr) (k2 : ClassId) (h0 : Heap) (n0 : Nat) (v : Option Value) (h : Heap) (L : List Loc) : Prop := v = none ∧ Fr n0 L ∧ Keep h0 h [o0] ∧ Exa Z h o0 "com/example/slimc/slimc/game/Observation" ∧ Fld Z h o0 "com/example/slimc/slimc/game/Observation" "classOf" "[I" (.ref o2) ∧ Fld Z h o0 "com/example/slimc/slimc/game/Observation" "classCount" "I" (.int (2 : Int32))
set_option maxRecDepth 65536 in
set_option maxHeartbeats 40000000 in
theorem rm3c001n2 (l : Launch) (Z : State) (a0 : Array Value) (hw : ∀ d ∈ tables_1, d.before a0 Z = true) (ws : List Jvm.Cond) (o0 : Addr) (o1 : Addr) (o2 : Addr) (k2 : ClassId) (h0 : Heap) (n0 : Nat) (Z0 : n0 ≤ h0.size) (E : Exa Z h0 o0 "com/example/slimc/slimc/game/Observation") (F_name : Fld Z h0 o0 "com/example/slimc/slimc/game/Observation" "name" "Ljava/lang/String;" .null) (F_classOf : Fld Z h0 o0 "com/example/slimc/slimc/game/Observation" "classOf" "[I" .null) (F_classCount : Fld Z h0 o0 "com/example/slimc/slimc/game/Observation" "classCount" "I" (.int (0 : Int32))) (F_classes : Fld Z h0 o0 "com/example/slimc/slimc/game/Observation" "classes" "[[I" .null) (g_o0 : n0 ≤ o0) (V : Arv Z h0 o2 k2 .int (3 : Int32) [(.int (0 : Int32)), (.int (0 : Int32)), (.int (1 : Int32))] (.int (0 : Int32))) (n2 : o2 ≠ o0) :
    MetFree l (⟨"com/example/slimc/slimc/game/Observation", "<init>", "(Ljava/lang/String;[II)V"⟩ : MethodName) (head1 (Jvm.Cond.code (⟨"com/example/slimc/slimc/game/Observation", "<init>", "(Ljava/lang/String;[II)V"⟩ : MethodName) prog_66_method_1_code 9 none :: ws) ({ frames := 1, cells := 7, slots := 16, locals := 14 } : Room)) (fun a U => a = #[(.ref o0), (.ref o1), (.ref o2), (.int (2 : Int32))] ∧ Z.Warmed39 U.vm ∧ U.heap = h0) (fun _ _ _ _ _ => True) (fun _ U o U' => ∃ v L, o = .returned v ∧ Q3c001n2 Z o0 o1 o2 k2 h0 n0 v U'.heap L ∧ FrameEnd U o U' L ({ frames := 1, cells := 7, slots := 16, locals := 14 } : Room).cells ({ frames := 1, cells := 7, slots := 16, locals := 14 } : Room).slots) := by
  refine MetFree.of_bodySF (plainFor_of_name pn_1) hisR ?_
  intro p e s m args below meth c s₁ Bd hml0 hP hK
  obtain ⟨rfl, hZ, hh⟩ := hP
  have hx := Bd.exec
  have hby := Bd.bytes
  have hml : c.maxLocals = 9 := hml0
  have hown : s.vm.findClass "com/example/slimc/slimc/game/Observation" = some m.cls := findClass_of_methodNamed Bd.named
  have hnm := (name_of_methodNamed Bd.named Bd.method).1
  have X0 : Stand p l e ({ frames := 1, cells := 7, slots := 16, locals := 14 } : Room) s m #[(.ref o0), (.ref o1), (.ref o2), (.int (2 : Int32))] below meth c s₁ [] 0 0 := Stand.of_body Bd
  have e0 : s₁.heap = h0 := by rw [← hh, Bd.state]; rfl
  have N0 := Fr.nil n0
  have hret := Bd.returns
  have hlk := BodyLoose.notSynchronized Bd
  show own_Out p e below (fun o U' => ∃ v L, o = .returned v ∧ Q3c001n2 Z o0 o1 o2 k2 h0 n0 v U'.heap L ∧ FrameEnd s o U' L ({ frames := 1, cells := 7, slots := 16, locals := 14 } : Room).cells ({ frames := 1, cells := 7, slots := 16, locals := 14 } : Room).slots) (s₁.setTop (entryFrame m #[(.ref o0), (.ref o1), (.ref o2), (.int (2 : Int32))] 9))
  refine own_of (fun t k => castTop (ef_3c001n2 m o0 o1 o2) k) ?_
  show own_Out p e below _ (s₁.setTop (mkF m 0 #[rv o0, rv o1, rv o2, iv 2, .unset, .unset, .unset, .unset, .unset] []))
  refine o_aloadN X0 hx hby d3_0 rfl rfl (q := 1) rfl ?_
  obtain ⟨T1, X1, e1, st1⟩ := initO X0 hx hZ hown (w_ hw 24 rfl) (w_ hw 25 rfl) (w_ hw 26 rfl) e0 (g := (mkF m 1 #[rv o0, rv o1, rv o2, iv 2, .unset, .unset, .unset, .unset, .unset] [.ref o0])) rfl (by rw [hml]; rfl) rfl (hb hby d3_1) (by decide) (W := 0) (by show 2 * 0 + _ ≤ _; exact Nat.le_of_eq rfl) (by decide)
  refine own_of st1 ?_
  show own_Out p e below _ (T1.setTop (mkF m 4 #[rv o0, rv o1, rv o2, iv 2, .unset, .unset, .unset, .unset, .unset] []))
  refine o_aloadN X1 hx hby d3_4 rfl rfl (q := 5) rfl ?_
  refine o_aloadN X1 hx hby d3_5 rfl rfl (q := 6) rfl ?_
  obtain ⟨T2, h2, X2, e2, W2, st2⟩ := putF X1 hx hZ hown (host := "") (Or.inl (w_ hw 27 rfl)) Via.refl e1 F_name E (Or.inr ⟨(w_ hw 28 rfl), rfl, hnm⟩) (w_ hw 11 rfl) (ty := (.object "java/lang/String")) (by decide) rfl rfl (g := (mkF m 6 #[rv o0, rv o1, rv o2, iv 2, .unset, .unset, .unset, .unset, .unset] [.ref o1, .ref o0])) rfl rfl (hb hby d3_6)
  have Fw2 := F_name.same W2
  refine own_of st2 ?_
  show own_Out p e below _ (T2.setTop (mkF m 9 #[rv o0, rv o1, rv o2, iv 2, .unset, .unset, .unset, .unset, .unset] []))
  refine o_aloadN X2 hx hby d3_9 rfl rfl (q := 10) rfl ?_
  refine o_aloadN X2 hx hby d3_10 rfl rfl (q := 11) rfl ?_
  have q4 := (F_classOf.other W2 (Or.inr (slot_ne (Or.inr (w_ hw 30 rfl)) (Or.inr (w_ hw 28 rfl)) (by decide) (t := (.array .int)) (t' := (.object "java/lang/String")) (by decide) (by decide))))
  have q5 := (E.wr W2)
  obtain ⟨T3, h3, X3, e3, W3, st3⟩ := putF X2 hx hZ hown (host := "") (Or.inl (w_ hw 29 rfl)) Via.refl e2 q4 q5 (Or.inr ⟨(w_ hw 30 rfl), rfl, hnm⟩) (w_ hw 11 rfl) (ty := (.array .int)) (by decide) rfl rfl (g := (mkF m 11 #[rv o0, rv o1, rv o2, iv 2, .unset, .unset, .unset, .unset, .unset] [.ref o2, .ref o0])) rfl rfl (hb hby d3_11)
  have q6 := (F_classOf.other W2 (Or.inr (slot_ne (Or.inr (w_ hw 30 rfl)) (Or.inr (w_ hw 28 rfl)) (by decide) (t := (.array .int)) (t' := (.object "java/lang/String")) (by decide) (by decide))))
  have Fw3 := q6.same W3
  refine own_of st3 ?_
  show own_Out p e below _ (T3.setTop (mkF m 14 #[rv o0, rv o1, rv o2, iv 2, .unset, .unset, .unset, .unset, .unset] []))
  refine o_aloadN X3 hx hby d3_14 rfl rfl (q := 15) rfl ?_
  refine o_iloadN X3 hx hby d3_15 rfl (q := 16) rfl ?_
  have q8 := ((F_classCount.other W2 (Or.inr (slot_ne (Or.inr (w_ hw 32 rfl)) (Or.inr (w_ hw 28 rfl)) (by decide) (t := .int) (t' := (.object "java/lang/String")) (by decide) (by decide)))).other W3 (Or.inr (slot_ne (Or.inr (w_ hw 32 rfl)) (Or.inr (w_ hw 30 rfl)) (by decide) (t := .int) (t' := (.array .int)) (by decide) (by decide))))
  have q9 := (q5.wr W3)
  obtain ⟨T7, h7, X7, e7, W7, st7⟩ := putF X3 hx hZ hown (host := "") (Or.inl (w_ hw 31 rfl)) Via.refl e3 q8 q9 (Or.inr ⟨(w_ hw 32 rfl), rfl, hnm⟩) (w_ hw 11 rfl) (ty := .int) (by decide) rfl rfl (g := (mkF m 16 #[rv o0, rv o1, rv o2, iv 2, .unset, .unset, .unset, .unset, .unset] [.int 2, .ref o0])) rfl rfl (hb hby d3_16)
  have q10 := ((F_classCount.other W2 (Or.inr (slot_ne (Or.inr (w_ hw 32 rfl)) (Or.inr (w_ hw 28 rfl)) (by decide) (t := .int) (t' := (.object "java/lang/String")) (by decide) (by decide)))).other W3 (Or.inr (slot_ne (Or.inr (w_ hw 32 rfl)) (Or.inr (w_ hw 30 rfl)) (by decide) (t := .int) (t' := (.array .int)) (by decide) (by decide))))
  have Fw7 := q10.same W7
  refine own_of st7 ?_
  show own_Out p e below _ (T7.setTop (mkF m 19 #[rv o0, rv o1, rv o2, iv 2, .unset, .unset, .unset, .unset, .unset] []))
  refine o_iloadN X7 hx hby d3_19 rfl (q := 20) rfl ?_
  obtain ⟨T11, h11, k11, X11, e11, E11, A11, Ex11, st11⟩ := newPE X7 hx hZ (w_ hw 5 rfl) e7 (g := (mkF m 20 #[rv o0, rv o1, rv o2, iv 2, .unset, .unset, .unset, .unset, .unset] [.int 2])) rfl (hb hby d3_20) rfl (by decide) (cap := 2) (by decide) (by decide) (by decide) (by decide) (ad := "[I") (by decide +kernel)
  obtain ⟨b11, g11⟩ : ∃ z, z = h7.size := ⟨_, rfl⟩
  rw [← g11] at A11 Ex11 st11
  have q12 := (Nat.le_trans (Nat.le_trans (Nat.le_trans Z0 (Keep.of_wr W2).1) (Keep.of_wr W3).1) (Keep.of_wr W7).1)
  have g_b11 : n0 ≤ b11 := Nat.le_trans q12 (Nat.le_of_eq g11.symm)
  have q13 := (Nat.le_trans (Nat.le_trans (Nat.le_trans (Nat.le_refl h0.size) (Keep.of_wr W2).1) (Keep.of_wr W3).1) (Keep.of_wr W7).1)
  have sz_b11 : h0.size ≤ b11 := Nat.le_trans q13 (Nat.le_of_eq g11.symm)
  have V_b11 : Arv Z h11 b11 k11 .int (2 : Int32) [(.int (0 : Int32)), (.int (0 : Int32))] (.int (0 : Int32)) := (Arv.new A11 (by decide)).pad (pad_rep [] (.int (0 : Int32)) 2)
  refine own_of st11 ?_
  show own_Out p e below _ (T11.setTop (mkF m 22 #[rv o0, rv o1, rv o2, iv 2, .unset, .unset, .unset, .unset, .unset] [.ref b11]))
  refine o_astore X11 hx hby d3_22 rfl (l' := #[rv o0, rv o1, rv o2, iv 2, rv b11, .unset, .unset, .unset, .unset]) rfl (q := 24) rfl ?_
  refine o_aloadN X11 hx hby d3_24 rfl rfl (q := 25) rfl ?_
  refine o_astore X11 hx hby d3_25 rfl (l' := #[rv o0, rv o1, rv o2, iv 2, rv b11, rv o2, .unset, .unset, .unset]) rfl (q := 27) rfl ?_
  refine o_aload X11 hx hby d3_27 rfl rfl (q := 29) rfl ?_
  have q14 := ((((V.other W2 n2).other W3 n2).other W7 n2).ext E11)
  refine o_lenV X11 hx hby hZ e11 q14 d3_29 (q := 30) rfl ?_
  refine o_istore X11 hx hby d3_30 (l' := #[rv o0, rv o1, rv o2, iv 2, rv b11, rv o2, iv 3, .unset, .unset]) rfl (q := 32) rfl ?_
  refine o_iconst X11 hx hby d3_32 (z := 0) rfl (q := 33) rfl ?_
  refine o_istore X11 hx hby d3_33 (l' := #[rv o0, rv o1, rv o2, iv 2, rv b11, rv o2, iv 3, iv 0, .unset]) rfl (q := 35) rfl ?_
  refine t1 X11 hx hby hZ e11 q14 V_b11 rfl ⟨by decide, by decide⟩ (cc := 0) rfl ⟨by decide, by decide⟩ (y := 0) rfl (y' := 1) rfl (i' := 1) rfl (iN := 0) rfl (Nat.le_of_ble_eq_true rfl) fun T15 h15 X15 e15 W15 V15 => ?_
  have ne_o2_b11 : o2 ≠ b11 := Nat.ne_of_lt (Nat.lt_of_lt_of_le V.lt sz_b11)
  have q16 := (q14.other W15 ne_o2_b11)
  refine t1 X15 hx hby hZ e15 q16 V15 rfl ⟨by decide, by decide⟩ (cc := 0) rfl ⟨by decide, by decide⟩ (y := 1) rfl (y' := 2) rfl (i' := 2) rfl (iN := 0) rfl (Nat.le_of_ble_eq_true rfl) fun T17 h17 X17 e17 W17 V17 => ?_
  have q18 := (q16.other W17 ne_o2_b11)
  refine t1 X17 hx hby hZ e17 q18 V17 rfl ⟨by decide, by decide⟩ (cc := 1) rfl ⟨by decide, by decide⟩ (y := 0) rfl (y' := 1) rfl (i' := 3) rfl (iN := 1) rfl (Nat.le_of_ble_eq_true rfl) fun T19 h19 X19 e19 W19 V19 => ?_
  refine o_iload X19 hx hby d3_35 rfl (q := 37) rfl ?_
  refine o_iload X19 hx hby d3_37 rfl (q := 39) rfl ?_
  refine o_icY X19 hx hby d3_39 (flt (by decide : ¬ ((3 : Int32) < (3 : Int32)))).2.1 (by decide) (q := 64) (by decide) ?_
  refine o_aloadN X19 hx hby d3_64 rfl rfl (q := 65) rfl ?_
  refine o_iloadN X19 hx hby d3_65 rfl (q := 66) rfl ?_
  obtain ⟨T20, h20, k20, X20, e20, E20, A20, Ex20, O20, st20⟩ := newRA X19 hx hZ hown (ty := .int) (by decide +kernel) (w_ hw 33 rfl) (w_ hw 34 rfl) e19 (g := (mkF m 66 #[rv o0, rv o1, rv o2, iv 2, rv b11, rv o2, iv 3, iv 3, iv 1] [.int 2, .ref o0])) rfl (hb hby d3_66) rfl (by decide) (cap := 2) (by decide) (by decide) (by decide) (by decide) (ad := "[[I") (by decide +kernel)
  obtain ⟨b20, g20⟩ : ∃ z, z = h19.size := ⟨_, rfl⟩
  rw [← g20] at A20 Ex20 st20
  have q21 := (Nat.le_trans (Nat.le_trans (Nat.le_trans (Nat.le_trans q12 E11.1) (Keep.of_wr W15).1) (Keep.of_wr W17).1) (Keep.of_wr W19).1)
  have g_b20 : n0 ≤ b20 := Nat.le_trans q21 (Nat.le_of_eq g20.symm)
  have q22 := (Nat.le_trans (Nat.le_trans (Nat.le_trans (Nat.le_trans q13 E11.1) (Keep.of_wr W15).1) (Keep.of_wr W17).1) (Keep.of_wr W19).1)
  have sz_b20 : h0.size ≤ b20 := Nat.le_trans q22 (Nat.le_of_eq g20.symm)
  have V_b20 : Arv Z h20 b20 k20 (.array .int) (2 : Int32) [.null, .null] .null := (Arv.new A20 (by decide)).pad (pad_rep [] .null 2)
  refine own_of st20 ?_
  show own_Out p e below _ (T20.setTop (mkF m 69 #[rv o0, rv o1, rv o2, iv 2, rv b11, rv o2, iv 3, iv 3, iv 1] [.ref b20, .ref o0]))
  have ne_o0_b11 : o0 ≠ b11 := Nat.ne_of_lt (Nat.lt_of_lt_of_le E.lt sz_b11)
  have q24 := ((((((((F_classes.other W2 (Or.inr (slot_ne (Or.inr (w_ hw 36 rfl)) (Or.inr (w_ hw 28 rfl)) (by decide) (t := (.array (.array .int))) (t' := (.object "java/lang/String")) (by decide) (by decide)))).other W3 (Or.inr (slot_ne (Or.inr (w_ hw 36 rfl)) (Or.inr (w_ hw 30 rfl)) (by decide) (t := (.array (.array .int))) (t' := (.array .int)) (by decide) (by decide)))).other W7 (Or.inr (slot_ne (Or.inr (w_ hw 36 rfl)) (Or.inr (w_ hw 32 rfl)) (by decide) (t := (.array (.array .int))) (t' := .int) (by decide) (by decide)))).ext E11).other W15 (Or.inl ne_o0_b11)).other W17 (Or.inl ne_o0_b11)).other W19 (Or.inl ne_o0_b11)).ext E20)
  have q25 := ((((((q9.wr W7).ext E11).wr W15).wr W17).wr W19).ext E20)
  obtain ⟨T23, h23, X23, e23, W23, st23⟩ := putF X20 hx hZ hown (host := "") (Or.inl (w_ hw 35 rfl)) Via.refl e20 q24 q25 (Or.inr ⟨(w_ hw 36 rfl), rfl, hnm⟩) (w_ hw 11 rfl) (ty := (.array (.array .int))) (by decide) rfl rfl (g := (mkF m 69 #[rv o0, rv o1, rv o2, iv 2, rv b11, rv o2, iv 3, iv 3, iv 1] [.ref b20, .ref o0])) rfl rfl (hb hby d3_69)
  have q26 := ((((((((F_classes.other W2 (Or.inr (slot_ne (Or.inr (w_ hw 36 rfl)) (Or.inr (w_ hw 28 rfl)) (by decide) (t := (.array (.array .int))) (t' := (.object "java/lang/String")) (by decide) (by decide)))).other W3 (Or.inr (slot_ne (Or.inr (w_ hw 36 rfl)) (Or.inr (w_ hw 30 rfl)) (by decide) (t := (.array (.array .int))) (t' := (.array .int)) (by decide) (by decide)))).other W7 (Or.inr (slot_ne (Or.inr (w_ hw 36 rfl)) (Or.inr (w_ hw 32 rfl)) (by decide) (t := (.array (.array .int))) (t' := .int) (by decide) (by decide)))).ext E11).other W15 (Or.inl ne_o0_b11)).other W17 (Or.inl ne_o0_b11)).other W19 (Or.inl ne_o0_b11)).ext E20)
  have Fw23 := q26.same W23
  refine own_of st23 ?_
  show own_Out p e below _ (T23.setTop (mkF m 72 #[rv o0, rv o1, rv o2, iv 2, rv b11, rv o2, iv 3, iv 3, iv 1] []))
  refine o_iconst X23 hx hby d3_72 (z := 0) rfl (q := 73) rfl ?_
  refine o_istore X23 hx hby d3_73 (l' := #[rv o0, rv o1, rv o2, iv 2, rv b11, iv 0, iv 3, iv 3, iv 1]) rfl (q := 75) rfl ?_
  refine o_iload X23 hx hby d3_75 rfl (q := 77) rfl ?_
  refine o_iloadN X23 hx hby d3_77 rfl (q := 78) rfl ?_
  refine o_icN X23 hx hby d3_78 (tlt (by decide : (0 : Int32) < (2 : Int32))).2.1 (q := 81) rfl ?_
  refine o_aloadN X23 hx hby d3_81 rfl rfl (q := 82) rfl ?_
  refine o_getF X23 hx hZ hown hby (w_ hw 35 rfl) Via.refl e23 Fw23 d3_82 (q := 85) rfl fun T27 X27 e27 => ?_
  refine o_iload X27 hx hby d3_85 rfl (q := 87) rfl ?_
  refine o_aload X27 hx hby d3_87 rfl rfl (q := 89) rfl ?_
  refine o_iload X27 hx hby d3_89 rfl (q := 91) rfl ?_
  have q28 := ((V19.ext E20).other W23 (Ne.symm ne_o0_b11))
  refine o_iaV X27 hx hby hZ e27 q28 ⟨by decide, by decide⟩ (v := .int 2) rfl d3_91 (q := 92) rfl ?_
  obtain ⟨T29, h29, k29, X29, e29, E29, A29, Ex29, st29⟩ := newPE X27 hx hZ (w_ hw 5 rfl) e27 (g := (mkF m 92 #[rv o0, rv o1, rv o2, iv 2, rv b11, iv 0, iv 3, iv 3, iv 1] [.int 2, .int 0, .ref b20])) rfl (hb hby d3_92) rfl (by decide) (cap := 2) (by decide) (by decide) (by decide) (by decide) (ad := "[I") (by decide +kernel)
  obtain ⟨b29, g29⟩ : ∃ z, z = h23.size := ⟨_, rfl⟩
  rw [← g29] at A29 Ex29 st29
  have q30 := (Nat.le_trans (Nat.le_trans q21 E20.1) (Keep.of_wr W23).1)
  have g_b29 : n0 ≤ b29 := Nat.le_trans q30 (Nat.le_of_eq g29.symm)
  have q31 := (Nat.le_trans (Nat.le_trans q22 E20.1) (Keep.of_wr W23).1)
  have sz_b29 : h0.size ≤ b29 := Nat.le_trans q31 (Nat.le_of_eq g29.symm)
  have V_b29 : Arv Z h29 b29 k29 .int (2 : Int32) [(.int (0 : Int32)), (.int (0 : Int32))] (.int (0 : Int32)) := (Arv.new A29 (by decide)).pad (pad_rep [] (.int (0 : Int32)) 2)
  refine own_of st29 ?_
  show own_Out p e below _ (T29.setTop (mkF m 94 #[rv o0, rv o1, rv o2, iv 2, rv b11, iv 0, iv 3, iv 3, iv 1] [.ref b29, .int 0, .ref b20]))
  have ne_o0_b20 : o0 ≠ b20 := Nat.ne_of_lt (Nat.lt_of_lt_of_le E.lt sz_b20)
  have q32 := ((V_b20.other W23 (Ne.symm ne_o0_b20)).ext E29)
  refine o_stVR X29 hx hby hZ e29 q32 ⟨by decide, by decide⟩ 0 rfl (Nat.le_of_ble_eq_true rfl) O20 (Ins.self Ex29) d3_94 (q := 95) rfl fun T33 h33 X33 e33 W33 V33 => ?_
  refine o_iinc X33 hx hby d3_95 rfl (l' := #[rv o0, rv o1, rv o2, iv 2, rv b11, iv 1, iv 3, iv 3, iv 1]) rfl (q := 98) rfl ?_
  refine o_goto X33 hx hby d3_98 (by decide) (q := 75) (by decide) ?_
  refine o_iload X33 hx hby d3_75 rfl (q := 77) rfl ?_
  refine o_iloadN X33 hx hby d3_77 rfl (q := 78) rfl ?_
  refine o_icN X33 hx hby d3_78 (tlt (by decide : (1 : Int32) < (2 : Int32))).2.1 (q := 81) rfl ?_
  refine o_aloadN X33 hx hby d3_81 rfl rfl (q := 82) rfl ?_
  have q35 := ((Fw23.ext E29).other W33 (Or.inl ne_o0_b20))
  refine o_getF X33 hx hZ hown hby (w_ hw 35 rfl) Via.refl e33 q35 d3_82 (q := 85) rfl fun T34 X34 e34 => ?_
  refine o_iload X34 hx hby d3_85 rfl (q := 87) rfl ?_
  refine o_aload X34 hx hby d3_87 rfl rfl (q := 89) rfl ?_
  refine o_iload X34 hx hby d3_89 rfl (q := 91) rfl ?_
  have ne_b11_b20 : b11 ≠ b20 := Nat.ne_of_lt (Nat.lt_of_lt_of_le (Nat.lt_of_lt_of_le (Nat.lt_of_lt_of_le (Nat.lt_of_lt_of_le A11.lt (Keep.of_wr W15).1) (Keep.of_wr W17).1) (Keep.of_wr W19).1) (Nat.le_of_eq g20.symm))
  have q36 := ((q28.ext E29).other W33 ne_b11_b20)
  refine o_iaV X34 hx hby hZ e34 q36 ⟨by decide, by decide⟩ (v := .int 1) rfl d3_91 (q := 92) rfl ?_
  obtain ⟨T37, h37, k37, X37, e37, E37, A37, Ex37, st37⟩ := newPE X34 hx hZ (w_ hw 5 rfl) e34 (g := (mkF m 92 #[rv o0, rv o1, rv o2, iv 2, rv b11, iv 1, iv 3, iv 3, iv 1] [.int 1, .int 1, .ref b20])) rfl (hb hby d3_92) rfl (by decide) (cap := 1) (by decide) (by decide) (by decide) (by decide) (ad := "[I") (by decide +kernel)
  obtain ⟨b37, g37⟩ : ∃ z, z = h33.size := ⟨_, rfl⟩
  rw [← g37] at A37 Ex37 st37
  have q38 := (Nat.le_trans (Nat.le_trans q30 E29.1) (Keep.of_wr W33).1)
  have g_b37 : n0 ≤ b37 := Nat.le_trans q38 (Nat.le_of_eq g37.symm)
  have q39 := (Nat.le_trans (Nat.le_trans q31 E29.1) (Keep.of_wr W33).1)
  have sz_b37 : h0.size ≤ b37 := Nat.le_trans q39 (Nat.le_of_eq g37.symm)
  have V_b37 : Arv Z h37 b37 k37 .int (1 : Int32) [(.int (0 : Int32))] (.int (0 : Int32)) := (Arv.new A37 (by decide)).pad (pad_rep [] (.int (0 : Int32)) 1)
  refine own_of st37 ?_
  show own_Out p e below _ (T37.setTop (mkF m 94 #[rv o0, rv o1, rv o2, iv 2, rv b11, iv 1, iv 3, iv 3, iv 1] [.ref b37, .int 1, .ref b20]))
  have q40 := (V33.ext E37)
  refine o_stVR X37 hx hby hZ e37 q40 ⟨by decide, by decide⟩ 1 rfl (Nat.le_of_ble_eq_true rfl) O20 (Ins.self Ex37) d3_94 (q := 95) rfl fun T41 h41 X41 e41 W41 V41 => ?_
  refine o_iinc X41 hx hby d3_95 rfl (l' := #[rv o0, rv o1, rv o2, iv 2, rv b11, iv 2, iv 3, iv 3, iv 1]) rfl (q := 98) rfl ?_
  refine o_goto X41 hx hby d3_98 (by decide) (q := 75) (by decide) ?_
  refine o_iload X41 hx hby d3_75 rfl (q := 77) rfl ?_
  refine o_iloadN X41 hx hby d3_77 rfl (q := 78) rfl ?_
  refine o_icY X41 hx hby d3_78 (flt (by decide : ¬ ((2 : Int32) < (2 : Int32)))).2.1 (by decide) (q := 101) (by decide) ?_
  refine o_iloadN X41 hx hby d3_101 rfl (q := 102) rfl ?_
  obtain ⟨T42, h42, k42, X42, e42, E42, A42, Ex42, st42⟩ := newPE X41 hx hZ (w_ hw 5 rfl) e41 (g := (mkF m 102 #[rv o0, rv o1, rv o2, iv 2, rv b11, iv 2, iv 3, iv 3, iv 1] [.int 2])) rfl (hb hby d3_102) rfl (by decide) (cap := 2) (by decide) (by decide) (by decide) (by decide) (ad := "[I") (by decide +kernel)
  obtain ⟨b42, g42⟩ : ∃ z, z = h41.size := ⟨_, rfl⟩
  rw [← g42] at A42 Ex42 st42
  have q43 := (Nat.le_trans (Nat.le_trans q38 E37.1) (Keep.of_wr W41).1)
  have g_b42 : n0 ≤ b42 := Nat.le_trans q43 (Nat.le_of_eq g42.symm)
  have q44 := (Nat.le_trans (Nat.le_trans q39 E37.1) (Keep.of_wr W41).1)
  have sz_b42 : h0.size ≤ b42 := Nat.le_trans q44 (Nat.le_of_eq g42.symm)
  have V_b42 : Arv Z h42 b42 k42 .int (2 : Int32) [(.int (0 : Int32)), (.int (0 : Int32))] (.int (0 : Int32)) := (Arv.new A42 (by decide)).pad (pad_rep [] (.int (0 : Int32)) 2)
  refine own_of st42 ?_
  show own_Out p e below _ (T42.setTop (mkF m 104 #[rv o0, rv o1, rv o2, iv 2, rv b11, iv 2, iv 3, iv 3, iv 1] [.ref b42]))
  refine o_astore X42 hx hby d3_104 rfl (l' := #[rv o0, rv o1, rv o2, iv 2, rv b11, rv b42, iv 3, iv 3, iv 1]) rfl (q := 106) rfl ?_
  refine o_iconst X42 hx hby d3_106 (z := 0) rfl (q := 107) rfl ?_
  refine o_istore X42 hx hby d3_107 (l' := #[rv o0, rv o1, rv o2, iv 2, rv b11, rv b42, iv 0, iv 3, iv 1]) rfl (q := 109) rfl ?_
  have ne_o2_b20 : o2 ≠ b20 := Nat.ne_of_lt (Nat.lt_of_lt_of_le V.lt sz_b20)
  have q47 := ((((((((q18.other W19 ne_o2_b11).ext E20).other W23 n2).ext E29).other W33 ne_o2_b20).ext E37).other W41 ne_o2_b20).ext E42)
  have q48 := (((q35.ext E37).other W41 (Or.inl ne_o0_b20)).ext E42)
  have q49 := (V41.ext E42)
  have ne_b20_b29 : b20 ≠ b29 := Nat.ne_of_lt (Nat.lt_of_lt_of_le (Nat.lt_of_lt_of_le A20.lt (Keep.of_wr W23).1) (Nat.le_of_eq g29.symm))
  have q50 := ((((V_b29.other W33 (Ne.symm ne_b20_b29)).ext E37).other W41 (Ne.symm ne_b20_b29)).ext E42)
  have ne_b29_b42 : b29 ≠ b42 := Nat.ne_of_lt (Nat.lt_of_lt_of_le (Nat.lt_of_lt_of_le (Nat.lt_of_lt_of_le (Nat.lt_of_lt_of_le A29.lt (Keep.of_wr W33).1) E37.1) (Keep.of_wr W41).1) (Nat.le_of_eq g42.symm))
  refine t3 X42 hx hby hZ e42 hw hown q47 q48 q49 V_b42 q50 ne_b29_b42 ⟨by decide, by decide⟩ (x := 0) rfl ⟨by decide, by decide⟩ rfl (f := 0) rfl ⟨by decide, by decide⟩ (f' := 1) rfl (i' := 1) rfl (iN := 0) rfl (Nat.le_of_ble_eq_true rfl) (jN := 0) rfl (Nat.le_of_ble_eq_true rfl) fun T46 h45 h46 X46 e46 W45 W46 V45 V46 => ?_
  have ne_o2_b42 : o2 ≠ b42 := Nat.ne_of_lt (Nat.lt_of_lt_of_le V.lt sz_b42)
  have ne_o2_b29 : o2 ≠ b29 := Nat.ne_of_lt (Nat.lt_of_lt_of_le V.lt sz_b29)
  have q53 := ((q47.other W45 ne_o2_b42).other W46 ne_o2_b29)
  have ne_o0_b42 : o0 ≠ b42 := Nat.ne_of_lt (Nat.lt_of_lt_of_le E.lt sz_b42)
  have ne_o0_b29 : o0 ≠ b29 := Nat.ne_of_lt (Nat.lt_of_lt_of_le E.lt sz_b29)
  have q54 := ((q48.other W45 (Or.inl ne_o0_b42)).other W46 (Or.inl ne_o0_b29))
  have ne_b20_b42 : b20 ≠ b42 := Nat.ne_of_lt (Nat.lt_of_lt_of_le (Nat.lt_of_lt_of_le (Nat.lt_of_lt_of_le (Nat.lt_of_lt_of_le (Nat.lt_of_lt_of_le (Nat.lt_of_lt_of_le A20.lt (Keep.of_wr W23).1) E29.1) (Keep.of_wr W33).1) E37.1) (Keep.of_wr W41).1) (Nat.le_of_eq g42.symm))
  have q55 := ((q49.other W45 ne_b20_b42).other W46 ne_b20_b29)
  have q56 := (V45.other W46 (Ne.symm ne_b29_b42))
  refine t3 X46 hx hby hZ e46 hw hown q53 q54 q55 q56 V46 ne_b29_b42 ⟨by decide, by decide⟩ (x := 0) rfl ⟨by decide, by decide⟩ rfl (f := 1) rfl ⟨by decide, by decide⟩ (f' := 2) rfl (i' := 2) rfl (iN := 0) rfl (Nat.le_of_ble_eq_true rfl) (jN := 1) rfl (Nat.le_of_ble_eq_true rfl) fun T52 h51 h52 X52 e52 W51 W52 V51 V52 => ?_
  have q59 := ((q53.other W51 ne_o2_b42).other W52 ne_o2_b29)
  have q60 := ((q54.other W51 (Or.inl ne_o0_b42)).other W52 (Or.inl ne_o0_b29))
  have q61 := ((q55.other W51 ne_b20_b42).other W52 ne_b20_b29)
  have q62 := (V51.other W52 (Ne.symm ne_b29_b42))
  have ne_b20_b37 : b20 ≠ b37 := Nat.ne_of_lt (Nat.lt_of_lt_of_le (Nat.lt_of_lt_of_le (Nat.lt_of_lt_of_le (Nat.lt_of_lt_of_le A20.lt (Keep.of_wr W23).1) E29.1) (Keep.of_wr W33).1) (Nat.le_of_eq g37.symm))
  have ne_b37_b42 : b37 ≠ b42 := Nat.ne_of_lt (Nat.lt_of_lt_of_le (Nat.lt_of_lt_of_le A37.lt (Keep.of_wr W41).1) (Nat.le_of_eq g42.symm))
  have ne_b29_b37 : b29 ≠ b37 := Nat.ne_of_lt (Nat.lt_of_lt_of_le (Nat.lt_of_lt_of_le A29.lt (Keep.of_wr W33).1) (Nat.le_of_eq g37.symm))
  have q63 := ((((((V_b37.other W41 (Ne.symm ne_b20_b37)).ext E42).other W45 ne_b37_b42).other W46 (Ne.symm ne_b29_b37)).other W51 ne_b37_b42).other W52 (Ne.symm ne_b29_b37))
  refine t3 X52 hx hby hZ e52 hw hown q59 q60 q61 q62 q63 ne_b37_b42 ⟨by decide, by decide⟩ (x := 1) rfl ⟨by decide, by decide⟩ rfl (f := 0) rfl ⟨by decide, by decide⟩ (f' := 1) rfl (i' := 3) rfl (iN := 1) rfl (Nat.le_of_ble_eq_true rfl) (jN := 0) rfl (Nat.le_of_ble_eq_true rfl) fun T58 h57 h58 X58 e58 W57 W58 V57 V58 => ?_
  refine o_iload X58 hx hby d3_109 rfl (q := 111) rfl ?_
  refine o_aloadN X58 hx hby d3_111 rfl rfl (q := 112) rfl ?_
  have ne_o2_b37 : o2 ≠ b37 := Nat.ne_of_lt (Nat.lt_of_lt_of_le V.lt sz_b37)
  have q64 := ((q59.other W57 ne_o2_b42).other W58 ne_o2_b37)
  refine o_lenV X58 hx hby hZ e58 q64 d3_112 (q := 113) rfl ?_
  refine o_icY X58 hx hby d3_113 (flt (by decide : ¬ ((3 : Int32) < (3 : Int32)))).2.1 (by decide) (q := 146) (by decide) ?_
  have q65 := (((((((((((((((((((((Keep.refl h0 [o0]).wr W2 (Or.inl (List.mem_of_getElem? (i := 0) rfl))).wr W3 (Or.inl (List.mem_of_getElem? (i := 0) rfl))).wr W7 (Or.inl (List.mem_of_getElem? (i := 0) rfl))).ext E11).wr W15 (Or.inr sz_b11)).wr W17 (Or.inr sz_b11)).wr W19 (Or.inr sz_b11)).ext E20).wr W23 (Or.inl (List.mem_of_getElem? (i := 0) rfl))).ext E29).wr W33 (Or.inr sz_b20)).ext E37).wr W41 (Or.inr sz_b20)).ext E42).wr W45 (Or.inr sz_b42)).wr W46 (Or.inr sz_b29)).wr W51 (Or.inr sz_b42)).wr W52 (Or.inr sz_b29)).wr W57 (Or.inr sz_b42)).wr W58 (Or.inr sz_b37))
  have q66 := ((((((((((((q25.wr W23).ext E29).wr W33).ext E37).wr W41).ext E42).wr W45).wr W46).wr W51).wr W52).wr W57).wr W58)
  have ne_o0_b37 : o0 ≠ b37 := Nat.ne_of_lt (Nat.lt_of_lt_of_le E.lt sz_b37)
  have q67 := ((((((((((((((((((Fw3.other W7 (Or.inr (slot_ne (Or.inr (w_ hw 30 rfl)) (Or.inr (w_ hw 32 rfl)) (by decide) (t := (.array .int)) (t' := .int) (by decide) (by decide)))).ext E11).other W15 (Or.inl ne_o0_b11)).other W17 (Or.inl ne_o0_b11)).other W19 (Or.inl ne_o0_b11)).ext E20).other W23 (Or.inr (slot_ne (Or.inr (w_ hw 30 rfl)) (Or.inr (w_ hw 36 rfl)) (by decide) (t := (.array .int)) (t' := (.array (.array .int))) (by decide) (by decide)))).ext E29).other W33 (Or.inl ne_o0_b20)).ext E37).other W41 (Or.inl ne_o0_b20)).ext E42).other W45 (Or.inl ne_o0_b42)).other W46 (Or.inl ne_o0_b29)).other W51 (Or.inl ne_o0_b42)).other W52 (Or.inl ne_o0_b29)).other W57 (Or.inl ne_o0_b42)).other W58 (Or.inl ne_o0_b37))
  have q68 := (((((((((((((((((Fw7.ext E11).other W15 (Or.inl ne_o0_b11)).other W17 (Or.inl ne_o0_b11)).other W19 (Or.inl ne_o0_b11)).ext E20).other W23 (Or.inr (slot_ne (Or.inr (w_ hw 32 rfl)) (Or.inr (w_ hw 36 rfl)) (by decide) (t := .int) (t' := (.array (.array .int))) (by decide) (by decide)))).ext E29).other W33 (Or.inl ne_o0_b20)).ext E37).other W41 (Or.inl ne_o0_b20)).ext E42).other W45 (Or.inl ne_o0_b42)).other W46 (Or.inl ne_o0_b29)).other W51 (Or.inl ne_o0_b42)).other W52 (Or.inl ne_o0_b29)).other W57 (Or.inl ne_o0_b42)).other W58 (Or.inl ne_o0_b37))
  exact own_outV X58 hx hlk hret (hb hby d3_146) (Q := Q3c001n2 Z o0 o1 o2 k2 h0 n0) (by rw [e58]; exact ⟨rfl, (Fr.snoc X58 (own_snoc (Fr.snoc X52 (own_snoc (Fr.snoc X46 (own_snoc (Fr.snoc X41 (Fr.snoc X33 (Fr.snoc X23 (Fr.snoc X19 (Fr.snoc X17 (Fr.snoc X15 (Fr.snoc X7 (Fr.snoc X3 (Fr.snoc X2 N0 g_o0) g_o0) g_o0) g_b11) g_b11) g_b11) g_o0) g_b20) g_b20) g_b42) g_b29) g_b42) g_b29) g_b42) g_b37), q65, q66, q67, q68⟩) (by decide) (by decide)
theorem ef_3c0010n2 (m : MethodId) (x0 : Addr) (x1 : Addr) (x2 : Addr) : entryFrame m #[(.ref x0), (.ref x1), (.ref x2), (.int (2 : Int32))] 9 = mkF m 0 #[.val (.ref x0), .val (.ref x1), .val (.ref x2), .val (.int (2 : Int32)), .unset, .unset, .unset, .unset, .unset] [] := by first | (simp [entryFrame, mkF, argsToLocals, Value.category]; done) | rfl
def Q3c0010n2 (Z : State) (o0 : Addr) (o1 : Addr) (o2 : Addr) (k2 : ClassId) (h0 : Heap) (n0 : Nat) (v : Option Value) (h : Heap) (L : List Loc) : Prop := v = none ∧ Fr n0 L ∧ Keep h0 h [o0] ∧ Exa Z h o0 "com/example/slimc/slimc/game/Observation" ∧ Fld Z h o0 "com/example/slimc/slimc/game/Observation" "classOf" "[I" (.ref o2) ∧ Fld Z h o0 "com/example/slimc/slimc/game/Observation" "classCount" "I" (.int (2 : Int32))
set_option maxRecDepth 65536 in
set_option maxHeartbeats 40000000 in
theorem rm3c0010n2 (l : Launch) (Z : State) (a0 : Array Value) (hw : ∀ d ∈ tables_1, d.before a0 Z = true) (ws : List Jvm.Cond) (o0 : Addr) (o1 : Addr) (o2 : Addr) (k2 : ClassId) (h0 : Heap) (n0 : Nat) (Z0 : n0 ≤ h0.size) (E : Exa Z h0 o0 "com/example/slimc/slimc/game/Observation") (F_name : Fld Z h0 o0 "com/example/slimc/slimc/game/Observation" "name" "Ljava/lang/String;" .null) (F_classOf : Fld Z h0 o0 "com/example/slimc/slimc/game/Observation" "classOf" "[I" .null) (F_classCount : Fld Z h0 o0 "com/example/slimc/slimc/game/Observation" "classCount" "I" (.int (0 : Int32))) (F_classes : Fld Z h0 o0 "com/example/slimc/slimc/game/Observation" "classes" "[[I" .null) (g_o0 : n0 ≤ o0) (V : Arv Z h0 o2 k2 .int (4 : Int32) [(.int (0 : Int32)), (.int (0 : Int32)), (.int (1 : Int32)), (.int (0 : Int32))] (.int (0 : Int32))) (n2 : o2 ≠ o0) :
    MetFree l (⟨"com/example/slimc/slimc/game/Observation", "<init>", "(Ljava/lang/String;[II)V"⟩ : MethodName) (head1 (Jvm.Cond.code (⟨"com/example/slimc/slimc/game/Observation", "<init>", "(Ljava/lang/String;[II)V"⟩ : MethodName) prog_66_method_1_code 9 none :: ws) ({ frames := 1, cells := 7, slots := 16, locals := 14 } : Room)) (fun a U => a = #[(.ref o0), (.ref o1), (.ref o2), (.int (2 : Int32))] ∧ Z.Warmed39 U.vm ∧ U.heap = h0) (fun _ _ _ _ _ => True) (fun _ U o U' => ∃ v L, o = .returned v ∧ Q3c0010n2 Z o0 o1 o2 k2 h0 n0 v U'.heap L ∧ FrameEnd U o U' L ({ frames := 1, cells := 7, slots := 16, locals := 14 } : Room).cells ({ frames := 1, cells := 7, slots := 16, locals := 14 } : Room).slots) := by
  refine MetFree.of_bodySF (plainFor_of_name pn_1) hisR ?_
  intro p e s m args below meth c s₁ Bd hml0 hP hK
  obtain ⟨rfl, hZ, hh⟩ := hP
  have hx := Bd.exec
  have hby := Bd.bytes
  have hml : c.maxLocals = 9 := hml0
  have hown : s.vm.findClass "com/example/slimc/slimc/game/Observation" = some m.cls := findClass_of_methodNamed Bd.named
  have hnm := (name_of_methodNamed Bd.named Bd.method).1
  have X0 : Stand p l e ({ frames := 1, cells := 7, slots := 16, locals := 14 } : Room) s m #[(.ref o0), (.ref o1), (.ref o2), (.int (2 : Int32))] below meth c s₁ [] 0 0 := Stand.of_body Bd
  have e0 : s₁.heap = h0 := by rw [← hh, Bd.state]; rfl
  have N0 := Fr.nil n0
  have hret := Bd.returns
  have hlk := BodyLoose.notSynchronized Bd
  show own_Out p e below (fun o U' => ∃ v L, o = .returned v ∧ Q3c0010n2 Z o0 o1 o2 k2 h0 n0 v U'.heap L ∧ FrameEnd s o U' L ({ frames := 1, cells := 7, slots := 16, locals := 14 } : Room).cells ({ frames := 1, cells := 7, slots := 16, locals := 14 } : Room).slots) (s₁.setTop (entryFrame m #[(.ref o0), (.ref o1), (.ref o2), (.int (2 : Int32))] 9))
  refine own_of (fun t k => castTop (ef_3c0010n2 m o0 o1 o2) k) ?_
  show own_Out p e below _ (s₁.setTop (mkF m 0 #[rv o0, rv o1, rv o2, iv 2, .unset, .unset, .unset, .unset, .unset] []))
  refine o_aloadN X0 hx hby d3_0 rfl rfl (q := 1) rfl ?_
  obtain ⟨T1, X1, e1, st1⟩ := initO X0 hx hZ hown (w_ hw 24 rfl) (w_ hw 25 rfl) (w_ hw 26 rfl) e0 (g := (mkF m 1 #[rv o0, rv o1, rv o2, iv 2, .unset, .unset, .unset, .unset, .unset] [.ref o0])) rfl (by rw [hml]; rfl) rfl (hb hby d3_1) (by decide) (W := 0) (by show 2 * 0 + _ ≤ _; exact Nat.le_of_eq rfl) (by decide)
  refine own_of st1 ?_
  show own_Out p e below _ (T1.setTop (mkF m 4 #[rv o0, rv o1, rv o2, iv 2, .unset, .unset, .unset, .unset, .unset] []))
  refine o_aloadN X1 hx hby d3_4 rfl rfl (q := 5) rfl ?_
  refine o_aloadN X1 hx hby d3_5 rfl rfl (q := 6) rfl ?_
  obtain ⟨T2, h2, X2, e2, W2, st2⟩ := putF X1 hx hZ hown (host := "") (Or.inl (w_ hw 27 rfl)) Via.refl e1 F_name E (Or.inr ⟨(w_ hw 28 rfl), rfl, hnm⟩) (w_ hw 11 rfl) (ty := (.object "java/lang/String")) (by decide) rfl rfl (g := (mkF m 6 #[rv o0, rv o1, rv o2, iv 2, .unset, .unset, .unset, .unset, .unset] [.ref o1, .ref o0])) rfl rfl (hb hby d3_6)
  have Fw2 := F_name.same W2
  refine own_of st2 ?_
  show own_Out p e below _ (T2.setTop (mkF m 9 #[rv o0, rv o1, rv o2, iv 2, .unset, .unset, .unset, .unset, .unset] []))
  refine o_aloadN X2 hx hby d3_9 rfl rfl (q := 10) rfl ?_
  refine o_aloadN X2 hx hby d3_10 rfl rfl (q := 11) rfl ?_
  have q4 := (F_classOf.other W2 (Or.inr (slot_ne (Or.inr (w_ hw 30 rfl)) (Or.inr (w_ hw 28 rfl)) (by decide) (t := (.array .int)) (t' := (.object "java/lang/String")) (by decide) (by decide))))
  have q5 := (E.wr W2)
  obtain ⟨T3, h3, X3, e3, W3, st3⟩ := putF X2 hx hZ hown (host := "") (Or.inl (w_ hw 29 rfl)) Via.refl e2 q4 q5 (Or.inr ⟨(w_ hw 30 rfl), rfl, hnm⟩) (w_ hw 11 rfl) (ty := (.array .int)) (by decide) rfl rfl (g := (mkF m 11 #[rv o0, rv o1, rv o2, iv 2, .unset, .unset, .unset, .unset, .unset] [.ref o2, .ref o0])) rfl rfl (hb hby d3_11)
  have q6 := (F_classOf.other W2 (Or.inr (slot_ne (Or.inr (w_ hw 30 rfl)) (Or.inr (w_ hw 28 rfl)) (by decide) (t := (.array .int)) (t' := (.object "java/lang/String")) (by decide) (by decide))))
  have Fw3 := q6.same W3
  refine own_of st3 ?_
  show own_Out p e below _ (T3.setTop (mkF m 14 #[rv o0, rv o1, rv o2, iv 2, .unset, .unset, .unset, .unset, .unset] []))
  refine o_aloadN X3 hx hby d3_14 rfl rfl (q := 15) rfl ?_
  refine o_iloadN X3 hx hby d3_15 rfl (q := 16) rfl ?_
  have q8 := ((F_classCount.other W2 (Or.inr (slot_ne (Or.inr (w_ hw 32 rfl)) (Or.inr (w_ hw 28 rfl)) (by decide) (t := .int) (t' := (.object "java/lang/String")) (by decide) (by decide)))).other W3 (Or.inr (slot_ne (Or.inr (w_ hw 32 rfl)) (Or.inr (w_ hw 30 rfl)) (by decide) (t := .int) (t' := (.array .int)) (by decide) (by decide))))
  have q9 := (q5.wr W3)
  obtain ⟨T7, h7, X7, e7, W7, st7⟩ := putF X3 hx hZ hown (host := "") (Or.inl (w_ hw 31 rfl)) Via.refl e3 q8 q9 (Or.inr ⟨(w_ hw 32 rfl), rfl, hnm⟩) (w_ hw 11 rfl) (ty := .int) (by decide) rfl rfl (g := (mkF m 16 #[rv o0, rv o1, rv o2, iv 2, .unset, .unset, .unset, .unset, .unset] [.int 2, .ref o0])) rfl rfl (hb hby d3_16)
  have q10 := ((F_classCount.other W2 (Or.inr (slot_ne (Or.inr (w_ hw 32 rfl)) (Or.inr (w_ hw 28 rfl)) (by decide) (t := .int) (t' := (.object "java/lang/String")) (by decide) (by decide)))).other W3 (Or.inr (slot_ne (Or.inr (w_ hw 32 rfl)) (Or.inr (w_ hw 30 rfl)) (by decide) (t := .int) (t' := (.array .int)) (by decide) (by decide))))
  have Fw7 := q10.same W7
  refine own_of st7 ?_
  show own_Out p e below _ (T7.setTop (mkF m 19 #[rv o0, rv o1, rv o2, iv 2, .unset, .unset, .unset, .unset, .unset] []))
  refine o_iloadN X7 hx hby d3_19 rfl (q := 20) rfl ?_
  obtain ⟨T11, h11, k11, X11, e11, E11, A11, Ex11, st11⟩ := newPE X7 hx hZ (w_ hw 5 rfl) e7 (g := (mkF m 20 #[rv o0, rv o1, rv o2, iv 2, .unset, .unset, .unset, .unset, .unset] [.int 2])) rfl (hb hby d3_20) rfl (by decide) (cap := 2) (by decide) (by decide) (by decide) (by decide) (ad := "[I") (by decide +kernel)
  obtain ⟨b11, g11⟩ : ∃ z, z = h7.size := ⟨_, rfl⟩
  rw [← g11] at A11 Ex11 st11
  have q12 := (Nat.le_trans (Nat.le_trans (Nat.le_trans Z0 (Keep.of_wr W2).1) (Keep.of_wr W3).1) (Keep.of_wr W7).1)
  have g_b11 : n0 ≤ b11 := Nat.le_trans q12 (Nat.le_of_eq g11.symm)
  have q13 := (Nat.le_trans (Nat.le_trans (Nat.le_trans (Nat.le_refl h0.size) (Keep.of_wr W2).1) (Keep.of_wr W3).1) (Keep.of_wr W7).1)
  have sz_b11 : h0.size ≤ b11 := Nat.le_trans q13 (Nat.le_of_eq g11.symm)
  have V_b11 : Arv Z h11 b11 k11 .int (2 : Int32) [(.int (0 : Int32)), (.int (0 : Int32))] (.int (0 : Int32)) := (Arv.new A11 (by decide)).pad (pad_rep [] (.int (0 : Int32)) 2)
  refine own_of st11 ?_
  show own_Out p e below _ (T11.setTop (mkF m 22 #[rv o0, rv o1, rv o2, iv 2, .unset, .unset, .unset, .unset, .unset] [.ref b11]))
  refine o_astore X11 hx hby d3_22 rfl (l' := #[rv o0, rv o1, rv o2, iv 2, rv b11, .unset, .unset, .unset, .unset]) rfl (q := 24) rfl ?_
  refine o_aloadN X11 hx hby d3_24 rfl rfl (q := 25) rfl ?_
  refine o_astore X11 hx hby d3_25 rfl (l' := #[rv o0, rv o1, rv o2, iv 2, rv b11, rv o2, .unset, .unset, .unset]) rfl (q := 27) rfl ?_
  refine o_aload X11 hx hby d3_27 rfl rfl (q := 29) rfl ?_
  have q14 := ((((V.other W2 n2).other W3 n2).other W7 n2).ext E11)
  refine o_lenV X11 hx hby hZ e11 q14 d3_29 (q := 30) rfl ?_
  refine o_istore X11 hx hby d3_30 (l' := #[rv o0, rv o1, rv o2, iv 2, rv b11, rv o2, iv 4, .unset, .unset]) rfl (q := 32) rfl ?_
  refine o_iconst X11 hx hby d3_32 (z := 0) rfl (q := 33) rfl ?_
  refine o_istore X11 hx hby d3_33 (l' := #[rv o0, rv o1, rv o2, iv 2, rv b11, rv o2, iv 4, iv 0, .unset]) rfl (q := 35) rfl ?_
  refine t1 X11 hx hby hZ e11 q14 V_b11 rfl ⟨by decide, by decide⟩ (cc := 0) rfl ⟨by decide, by decide⟩ (y := 0) rfl (y' := 1) rfl (i' := 1) rfl (iN := 0) rfl (Nat.le_of_ble_eq_true rfl) fun T15 h15 X15 e15 W15 V15 => ?_
  have ne_o2_b11 : o2 ≠ b11 := Nat.ne_of_lt (Nat.lt_of_lt_of_le V.lt sz_b11)
  have q16 := (q14.other W15 ne_o2_b11)
  refine t1 X15 hx hby hZ e15 q16 V15 rfl ⟨by decide, by decide⟩ (cc := 0) rfl ⟨by decide, by decide⟩ (y := 1) rfl (y' := 2) rfl (i' := 2) rfl (iN := 0) rfl (Nat.le_of_ble_eq_true rfl) fun T17 h17 X17 e17 W17 V17 => ?_
  have q18 := (q16.other W17 ne_o2_b11)
  refine t1 X17 hx hby hZ e17 q18 V17 rfl ⟨by decide, by decide⟩ (cc := 1) rfl ⟨by decide, by decide⟩ (y := 0) rfl (y' := 1) rfl (i' := 3) rfl (iN := 1) rfl (Nat.le_of_ble_eq_true rfl) fun T19 h19 X19 e19 W19 V19 => ?_
  have q20 := (q18.other W19 ne_o2_b11)
  refine t1 X19 hx hby hZ e19 q20 V19 rfl ⟨by decide, by decide⟩ (cc := 0) rfl ⟨by decide, by decide⟩ (y := 2) rfl (y' := 3) rfl (i' := 4) rfl (iN := 0) rfl (Nat.le_of_ble_eq_true rfl) fun T21 h21 X21 e21 W21 V21 => ?_
  refine o_iload X21 hx hby d3_35 rfl (q := 37) rfl ?_
  refine o_iload X21 hx hby d3_37 rfl (q := 39) rfl ?_
  refine o_icY X21 hx hby d3_39 (flt (by decide : ¬ ((4 : Int32) < (4 : Int32)))).2.1 (by decide) (q := 64) (by decide) ?_
  refine o_aloadN X21 hx hby d3_64 rfl rfl (q := 65) rfl ?_
  refine o_iloadN X21 hx hby d3_65 rfl (q := 66) rfl ?_
  obtain ⟨T22, h22, k22, X22, e22, E22, A22, Ex22, O22, st22⟩ := newRA X21 hx hZ hown (ty := .int) (by decide +kernel) (w_ hw 33 rfl) (w_ hw 34 rfl) e21 (g := (mkF m 66 #[rv o0, rv o1, rv o2, iv 2, rv b11, rv o2, iv 4, iv 4, iv 0] [.int 2, .ref o0])) rfl (hb hby d3_66) rfl (by decide) (cap := 2) (by decide) (by decide) (by decide) (by decide) (ad := "[[I") (by decide +kernel)
  obtain ⟨b22, g22⟩ : ∃ z, z = h21.size := ⟨_, rfl⟩
  rw [← g22] at A22 Ex22 st22
  have q23 := (Nat.le_trans (Nat.le_trans (Nat.le_trans (Nat.le_trans (Nat.le_trans q12 E11.1) (Keep.of_wr W15).1) (Keep.of_wr W17).1) (Keep.of_wr W19).1) (Keep.of_wr W21).1)
  have g_b22 : n0 ≤ b22 := Nat.le_trans q23 (Nat.le_of_eq g22.symm)
  have q24 := (Nat.le_trans (Nat.le_trans (Nat.le_trans (Nat.le_trans (Nat.le_trans q13 E11.1) (Keep.of_wr W15).1) (Keep.of_wr W17).1) (Keep.of_wr W19).1) (Keep.of_wr W21).1)
  have sz_b22 : h0.size ≤ b22 := Nat.le_trans q24 (Nat.le_of_eq g22.symm)
  have V_b22 : Arv Z h22 b22 k22 (.array .int) (2 : Int32) [.null, .null] .null := (Arv.new A22 (by decide)).pad (pad_rep [] .null 2)
  refine own_of st22 ?_
  show own_Out p e below _ (T22.setTop (mkF m 69 #[rv o0, rv o1, rv o2, iv 2, rv b11, rv o2, iv 4, iv 4, iv 0] [.ref b22, .ref o0]))
  have ne_o0_b11 : o0 ≠ b11 := Nat.ne_of_lt (Nat.lt_of_lt_of_le E.lt sz_b11)
  have q26 := (((((((((F_classes.other W2 (Or.inr (slot_ne (Or.inr (w_ hw 36 rfl)) (Or.inr (w_ hw 28 rfl)) (by decide) (t := (.array (.array .int))) (t' := (.object "java/lang/String")) (by decide) (by decide)))).other W3 (Or.inr (slot_ne (Or.inr (w_ hw 36 rfl)) (Or.inr (w_ hw 30 rfl)) (by decide) (t := (.array (.array .int))) (t' := (.array .int)) (by decide) (by decide)))).other W7 (Or.inr (slot_ne (Or.inr (w_ hw 36 rfl)) (Or.inr (w_ hw 32 rfl)) (by decide) (t := (.array (.array .int))) (t' := .int) (by decide) (by decide)))).ext E11).other W15 (Or.inl ne_o0_b11)).other W17 (Or.inl ne_o0_b11)).other W19 (Or.inl ne_o0_b11)).other W21 (Or.inl ne_o0_b11)).ext E22)
  have q27 := (((((((q9.wr W7).ext E11).wr W15).wr W17).wr W19).wr W21).ext E22)
  obtain ⟨T25, h25, X25, e25, W25, st25⟩ := putF X22 hx hZ hown (host := "") (Or.inl (w_ hw 35 rfl)) Via.refl e22 q26 q27 (Or.inr ⟨(w_ hw 36 rfl), rfl, hnm⟩) (w_ hw 11 rfl) (ty := (.array (.array .int))) (by decide) rfl rfl (g := (mkF m 69 #[rv o0, rv o1, rv o2, iv 2, rv b11, rv o2, iv 4, iv 4, iv 0] [.ref b22, .ref o0])) rfl rfl (hb hby d3_69)
  have q28 := (((((((((F_classes.other W2 (Or.inr (slot_ne (Or.inr (w_ hw 36 rfl)) (Or.inr (w_ hw 28 rfl)) (by decide) (t := (.array (.array .int))) (t' := (.object "java/lang/String")) (by decide) (by decide)))).other W3 (Or.inr (slot_ne (Or.inr (w_ hw 36 rfl)) (Or.inr (w_ hw 30 rfl)) (by decide) (t := (.array (.array .int))) (t' := (.array .int)) (by decide) (by decide)))).other W7 (Or.inr (slot_ne (Or.inr (w_ hw 36 rfl)) (Or.inr (w_ hw 32 rfl)) (by decide) (t := (.array (.array .int))) (t' := .int) (by decide) (by decide)))).ext E11).other W15 (Or.inl ne_o0_b11)).other W17 (Or.inl ne_o0_b11)).other W19 (Or.inl ne_o0_b11)).other W21 (Or.inl ne_o0_b11)).ext E22)
  have Fw25 := q28.same W25
  refine own_of st25 ?_
  show own_Out p e below _ (T25.setTop (mkF m 72 #[rv o0, rv o1, rv o2, iv 2, rv b11, rv o2, iv 4, iv 4, iv 0] []))
  refine o_iconst X25 hx hby d3_72 (z := 0) rfl (q := 73) rfl ?_
  refine o_istore X25 hx hby d3_73 (l' := #[rv o0, rv o1, rv o2, iv 2, rv b11, iv 0, iv 4, iv 4, iv 0]) rfl (q := 75) rfl ?_
  refine o_iload X25 hx hby d3_75 rfl (q := 77) rfl ?_
  refine o_iloadN X25 hx hby d3_77 rfl (q := 78) rfl ?_
  refine o_icN X25 hx hby d3_78 (tlt (by decide : (0 : Int32) < (2 : Int32))).2.1 (q := 81) rfl ?_
  refine o_aloadN X25 hx hby d3_81 rfl rfl (q := 82) rfl ?_
  refine o_getF X25 hx hZ hown hby (w_ hw 35 rfl) Via.refl e25 Fw25 d3_82 (q := 85) rfl fun T29 X29 e29 => ?_
  refine o_iload X29 hx hby d3_85 rfl (q := 87) rfl ?_
  refine o_aload X29 hx hby d3_87 rfl rfl (q := 89) rfl ?_
  refine o_iload X29 hx hby d3_89 rfl (q := 91) rfl ?_
  have q30 := ((V21.ext E22).other W25 (Ne.symm ne_o0_b11))
  refine o_iaV X29 hx hby hZ e29 q30 ⟨by decide, by decide⟩ (v := .int 3) rfl d3_91 (q := 92) rfl ?_
  obtain ⟨T31, h31, k31, X31, e31, E31, A31, Ex31, st31⟩ := newPE X29 hx hZ (w_ hw 5 rfl) e29 (g := (mkF m 92 #[rv o0, rv o1, rv o2, iv 2, rv b11, iv 0, iv 4, iv 4, iv 0] [.int 3, .int 0, .ref b22])) rfl (hb hby d3_92) rfl (by decide) (cap := 3) (by decide) (by decide) (by decide) (by decide) (ad := "[I") (by decide +kernel)
  obtain ⟨b31, g31⟩ : ∃ z, z = h25.size := ⟨_, rfl⟩
  rw [← g31] at A31 Ex31 st31
  have q32 := (Nat.le_trans (Nat.le_trans q23 E22.1) (Keep.of_wr W25).1)
  have g_b31 : n0 ≤ b31 := Nat.le_trans q32 (Nat.le_of_eq g31.symm)
  have q33 := (Nat.le_trans (Nat.le_trans q24 E22.1) (Keep.of_wr W25).1)
  have sz_b31 : h0.size ≤ b31 := Nat.le_trans q33 (Nat.le_of_eq g31.symm)
  have V_b31 : Arv Z h31 b31 k31 .int (3 : Int32) [(.int (0 : Int32)), (.int (0 : Int32)), (.int (0 : Int32))] (.int (0 : Int32)) := (Arv.new A31 (by decide)).pad (pad_rep [] (.int (0 : Int32)) 3)
  refine own_of st31 ?_
  show own_Out p e below _ (T31.setTop (mkF m 94 #[rv o0, rv o1, rv o2, iv 2, rv b11, iv 0, iv 4, iv 4, iv 0] [.ref b31, .int 0, .ref b22]))
  have ne_o0_b22 : o0 ≠ b22 := Nat.ne_of_lt (Nat.lt_of_lt_of_le E.lt sz_b22)
  have q34 := ((V_b22.other W25 (Ne.symm ne_o0_b22)).ext E31)
  refine o_stVR X31 hx hby hZ e31 q34 ⟨by decide, by decide⟩ 0 rfl (Nat.le_of_ble_eq_true rfl) O22 (Ins.self Ex31) d3_94 (q := 95) rfl fun T35 h35 X35 e35 W35 V35 => ?_
  refine o_iinc X35 hx hby d3_95 rfl (l' := #[rv o0, rv o1, rv o2, iv 2, rv b11, iv 1, iv 4, iv 4, iv 0]) rfl (q := 98) rfl ?_
  refine o_goto X35 hx hby d3_98 (by decide) (q := 75) (by decide) ?_
  refine o_iload X35 hx hby d3_75 rfl (q := 77) rfl ?_
  refine o_iloadN X35 hx hby d3_77 rfl (q := 78) rfl ?_
  refine o_icN X35 hx hby d3_78 (tlt (by decide : (1 : Int32) < (2 : Int32))).2.1 (q := 81) rfl ?_
  refine o_aloadN X35 hx hby d3_81 rfl rfl (q := 82) rfl ?_
  have q37 := ((Fw25.ext E31).other W35 (Or.inl ne_o0_b22))
  refine o_getF X35 hx hZ hown hby (w_ hw 35 rfl) Via.refl e35 q37 d3_82 (q := 85) rfl fun T36 X36 e36 => ?_
  refine o_iload X36 hx hby d3_85 rfl (q := 87) rfl ?_
  refine o_aload X36 hx hby d3_87 rfl rfl (q := 89) rfl ?_
  refine o_iload X36 hx hby d3_89 rfl (q := 91) rfl ?_
  have ne_b11_b22 : b11 ≠ b22 := Nat.ne_of_lt (Nat.lt_of_lt_of_le (Nat.lt_of_lt_of_le (Nat.lt_of_lt_of_le (Nat.lt_of_lt_of_le (Nat.lt_of_lt_of_le A11.lt (Keep.of_wr W15).1) (Keep.of_wr W17).1) (Keep.of_wr W19).1) (Keep.of_wr W21).1) (Nat.le_of_eq g22.symm))
  have q38 := ((q30.ext E31).other W35 ne_b11_b22)
  refine o_iaV X36 hx hby hZ e36 q38 ⟨by decide, by decide⟩ (v := .int 1) rfl d3_91 (q := 92) rfl ?_
  obtain ⟨T39, h39, k39, X39, e39, E39, A39, Ex39, st39⟩ := newPE X36 hx hZ (w_ hw 5 rfl) e36 (g := (mkF m 92 #[rv o0, rv o1, rv o2, iv 2, rv b11, iv 1, iv 4, iv 4, iv 0] [.int 1, .int 1, .ref b22])) rfl (hb hby d3_92) rfl (by decide) (cap := 1) (by decide) (by decide) (by decide) (by decide) (ad := "[I") (by decide +kernel)
  obtain ⟨b39, g39⟩ : ∃ z, z = h35.size := ⟨_, rfl⟩
  rw [← g39] at A39 Ex39 st39
  have q40 := (Nat.le_trans (Nat.le_trans q32 E31.1) (Keep.of_wr W35).1)
  have g_b39 : n0 ≤ b39 := Nat.le_trans q40 (Nat.le_of_eq g39.symm)
  have q41 := (Nat.le_trans (Nat.le_trans q33 E31.1) (Keep.of_wr W35).1)
  have sz_b39 : h0.size ≤ b39 := Nat.le_trans q41 (Nat.le_of_eq g39.symm)
  have V_b39 : Arv Z h39 b39 k39 .int (1 : Int32) [(.int (0 : Int32))] (.int (0 : Int32)) := (Arv.new A39 (by decide)).pad (pad_rep [] (.int (0 : Int32)) 1)
  refine own_of st39 ?_
  show own_Out p e below _ (T39.setTop (mkF m 94 #[rv o0, rv o1, rv o2, iv 2, rv b11, iv 1, iv 4, iv 4, iv 0] [.ref b39, .int 1, .ref b22]))
  have q42 := (V35.ext E39)
  refine o_stVR X39 hx hby hZ e39 q42 ⟨by decide, by decide⟩ 1 rfl (Nat.le_of_ble_eq_true rfl) O22 (Ins.self Ex39) d3_94 (q := 95) rfl fun T43 h43 X43 e43 W43 V43 => ?_
  refine o_iinc X43 hx hby d3_95 rfl (l' := #[rv o0, rv o1, rv o2, iv 2, rv b11, iv 2, iv 4, iv 4, iv 0]) rfl (q := 98) rfl ?_
  refine o_goto X43 hx hby d3_98 (by decide) (q := 75) (by decide) ?_
  refine o_iload X43 hx hby d3_75 rfl (q := 77) rfl ?_
  refine o_iloadN X43 hx hby d3_77 rfl (q := 78) rfl ?_
  refine o_icY X43 hx hby d3_78 (flt (by decide : ¬ ((2 : Int32) < (2 : Int32)))).2.1 (by decide) (q := 101) (by decide) ?_
  refine o_iloadN X43 hx hby d3_101 rfl (q := 102) rfl ?_
  obtain ⟨T44, h44, k44, X44, e44, E44, A44, Ex44, st44⟩ := newPE X43 hx hZ (w_ hw 5 rfl) e43 (g := (mkF m 102 #[rv o0, rv o1, rv o2, iv 2, rv b11, iv 2, iv 4, iv 4, iv 0] [.int 2])) rfl (hb hby d3_102) rfl (by decide) (cap := 2) (by decide) (by decide) (by decide) (by decide) (ad := "[I") (by decide +kernel)
  obtain ⟨b44, g44⟩ : ∃ z, z = h43.size := ⟨_, rfl⟩
  rw [← g44] at A44 Ex44 st44
  have q45 := (Nat.le_trans (Nat.le_trans q40 E39.1) (Keep.of_wr W43).1)
  have g_b44 : n0 ≤ b44 := Nat.le_trans q45 (Nat.le_of_eq g44.symm)
  have q46 := (Nat.le_trans (Nat.le_trans q41 E39.1) (Keep.of_wr W43).1)
  have sz_b44 : h0.size ≤ b44 := Nat.le_trans q46 (Nat.le_of_eq g44.symm)
  have V_b44 : Arv Z h44 b44 k44 .int (2 : Int32) [(.int (0 : Int32)), (.int (0 : Int32))] (.int (0 : Int32)) := (Arv.new A44 (by decide)).pad (pad_rep [] (.int (0 : Int32)) 2)
  refine own_of st44 ?_
  show own_Out p e below _ (T44.setTop (mkF m 104 #[rv o0, rv o1, rv o2, iv 2, rv b11, iv 2, iv 4, iv 4, iv 0] [.ref b44]))
  refine o_astore X44 hx hby d3_104 rfl (l' := #[rv o0, rv o1, rv o2, iv 2, rv b11, rv b44, iv 4, iv 4, iv 0]) rfl (q := 106) rfl ?_
  refine o_iconst X44 hx hby d3_106 (z := 0) rfl (q := 107) rfl ?_
  refine o_istore X44 hx hby d3_107 (l' := #[rv o0, rv o1, rv o2, iv 2, rv b11, rv b44, iv 0, iv 4, iv 0]) rfl (q := 109) rfl ?_
  have ne_o2_b22 : o2 ≠ b22 := Nat.ne_of_lt (Nat.lt_of_lt_of_le V.lt sz_b22)
  have q49 := ((((((((q20.other W21 ne_o2_b11).ext E22).other W25 n2).ext E31).other W35 ne_o2_b22).ext E39).other W43 ne_o2_b22).ext E44)
  have q50 := (((q37.ext E39).other W43 (Or.inl ne_o0_b22)).ext E44)
  have q51 := (V43.ext E44)
  have ne_b22_b31 : b22 ≠ b31 := Nat.ne_of_lt (Nat.lt_of_lt_of_le (Nat.lt_of_lt_of_le A22.lt (Keep.of_wr W25).1) (Nat.le_of_eq g31.symm))
  have q52 := ((((V_b31.other W35 (Ne.symm ne_b22_b31)).ext E39).other W43 (Ne.symm ne_b22_b31)).ext E44)
  have ne_b31_b44 : b31 ≠ b44 := Nat.ne_of_lt (Nat.lt_of_lt_of_le (Nat.lt_of_lt_of_le (Nat.lt_of_lt_of_le (Nat.lt_of_lt_of_le A31.lt (Keep.of_wr W35).1) E39.1) (Keep.of_wr W43).1) (Nat.le_of_eq g44.symm))
  refine t3 X44 hx hby hZ e44 hw hown q49 q50 q51 V_b44 q52 ne_b31_b44 ⟨by decide, by decide⟩ (x := 0) rfl ⟨by decide, by decide⟩ rfl (f := 0) rfl ⟨by decide, by decide⟩ (f' := 1) rfl (i' := 1) rfl (iN := 0) rfl (Nat.le_of_ble_eq_true rfl) (jN := 0) rfl (Nat.le_of_ble_eq_true rfl) fun T48 h47 h48 X48 e48 W47 W48 V47 V48 => ?_
  have ne_o2_b44 : o2 ≠ b44 := Nat.ne_of_lt (Nat.lt_of_lt_of_le V.lt sz_b44)
  have ne_o2_b31 : o2 ≠ b31 := Nat.ne_of_lt (Nat.lt_of_lt_of_le V.lt sz_b31)
  have q55 := ((q49.other W47 ne_o2_b44).other W48 ne_o2_b31)
  have ne_o0_b44 : o0 ≠ b44 := Nat.ne_of_lt (Nat.lt_of_lt_of_le E.lt sz_b44)
  have ne_o0_b31 : o0 ≠ b31 := Nat.ne_of_lt (Nat.lt_of_lt_of_le E.lt sz_b31)
  have q56 := ((q50.other W47 (Or.inl ne_o0_b44)).other W48 (Or.inl ne_o0_b31))
  have ne_b22_b44 : b22 ≠ b44 := Nat.ne_of_lt (Nat.lt_of_lt_of_le (Nat.lt_of_lt_of_le (Nat.lt_of_lt_of_le (Nat.lt_of_lt_of_le (Nat.lt_of_lt_of_le (Nat.lt_of_lt_of_le A22.lt (Keep.of_wr W25).1) E31.1) (Keep.of_wr W35).1) E39.1) (Keep.of_wr W43).1) (Nat.le_of_eq g44.symm))
  have q57 := ((q51.other W47 ne_b22_b44).other W48 ne_b22_b31)
  have q58 := (V47.other W48 (Ne.symm ne_b31_b44))
  refine t3 X48 hx hby hZ e48 hw hown q55 q56 q57 q58 V48 ne_b31_b44 ⟨by decide, by decide⟩ (x := 0) rfl ⟨by decide, by decide⟩ rfl (f := 1) rfl ⟨by decide, by decide⟩ (f' := 2) rfl (i' := 2) rfl (iN := 0) rfl (Nat.le_of_ble_eq_true rfl) (jN := 1) rfl (Nat.le_of_ble_eq_true rfl) fun T54 h53 h54 X54 e54 W53 W54 V53 V54 => ?_
  have q61 := ((q55.other W53 ne_o2_b44).other W54 ne_o2_b31)
  have q62 := ((q56.other W53 (Or.inl ne_o0_b44)).other W54 (Or.inl ne_o0_b31))
  have q63 := ((q57.other W53 ne_b22_b44).other W54 ne_b22_b31)
  have q64 := (V53.other W54 (Ne.symm ne_b31_b44))
  have ne_b22_b39 : b22 ≠ b39 := Nat.ne_of_lt (Nat.lt_of_lt_of_le (Nat.lt_of_lt_of_le (Nat.lt_of_lt_of_le (Nat.lt_of_lt_of_le A22.lt (Keep.of_wr W25).1) E31.1) (Keep.of_wr W35).1) (Nat.le_of_eq g39.symm))
  have ne_b39_b44 : b39 ≠ b44 := Nat.ne_of_lt (Nat.lt_of_lt_of_le (Nat.lt_of_lt_of_le A39.lt (Keep.of_wr W43).1) (Nat.le_of_eq g44.symm))
  have ne_b31_b39 : b31 ≠ b39 := Nat.ne_of_lt (Nat.lt_of_lt_of_le (Nat.lt_of_lt_of_le A31.lt (Keep.of_wr W35).1) (Nat.le_of_eq g39.symm))
  have q65 := ((((((V_b39.other W43 (Ne.symm ne_b22_b39)).ext E44).other W47 ne_b39_b44).other W48 (Ne.symm ne_b31_b39)).other W53 ne_b39_b44).other W54 (Ne.symm ne_b31_b39))
  refine t3 X54 hx hby hZ e54 hw hown q61 q62 q63 q64 q65 ne_b39_b44 ⟨by decide, by decide⟩ (x := 1) rfl ⟨by decide, by decide⟩ rfl (f := 0) rfl ⟨by decide, by decide⟩ (f' := 1) rfl (i' := 3) rfl (iN := 1) rfl (Nat.le_of_ble_eq_true rfl) (jN := 0) rfl (Nat.le_of_ble_eq_true rfl) fun T60 h59 h60 X60 e60 W59 W60 V59 V60 => ?_
  have ne_o2_b39 : o2 ≠ b39 := Nat.ne_of_lt (Nat.lt_of_lt_of_le V.lt sz_b39)
  have q68 := ((q61.other W59 ne_o2_b44).other W60 ne_o2_b39)
  have ne_o0_b39 : o0 ≠ b39 := Nat.ne_of_lt (Nat.lt_of_lt_of_le E.lt sz_b39)
  have q69 := ((q62.other W59 (Or.inl ne_o0_b44)).other W60 (Or.inl ne_o0_b39))
  have q70 := ((q63.other W59 ne_b22_b44).other W60 ne_b22_b39)
  have q71 := (V59.other W60 (Ne.symm ne_b39_b44))
  have q72 := ((V54.other W59 ne_b31_b44).other W60 ne_b31_b39)
  refine t3 X60 hx hby hZ e60 hw hown q68 q69 q70 q71 q72 ne_b31_b44 ⟨by decide, by decide⟩ (x := 0) rfl ⟨by decide, by decide⟩ rfl (f := 2) rfl ⟨by decide, by decide⟩ (f' := 3) rfl (i' := 4) rfl (iN := 0) rfl (Nat.le_of_ble_eq_true rfl) (jN := 2) rfl (Nat.le_of_ble_eq_true rfl) fun T67 h66 h67 X67 e67 W66 W67 V66 V67 => ?_
  refine o_iload X67 hx hby d3_109 rfl (q := 111) rfl ?_
  refine o_aloadN X67 hx hby d3_111 rfl rfl (q := 112) rfl ?_
  have q73 := ((q68.other W66 ne_o2_b44).other W67 ne_o2_b31)
  refine o_lenV X67 hx hby hZ e67 q73 d3_112 (q := 113) rfl ?_
  refine o_icY X67 hx hby d3_113 (flt (by decide : ¬ ((4 : Int32) < (4 : Int32)))).2.1 (by decide) (q := 146) (by decide) ?_
  have q74 := ((((((((((((((((((((((((Keep.refl h0 [o0]).wr W2 (Or.inl (List.mem_of_getElem? (i := 0) rfl))).wr W3 (Or.inl (List.mem_of_getElem? (i := 0) rfl))).wr W7 (Or.inl (List.mem_of_getElem? (i := 0) rfl))).ext E11).wr W15 (Or.inr sz_b11)).wr W17 (Or.inr sz_b11)).wr W19 (Or.inr sz_b11)).wr W21 (Or.inr sz_b11)).ext E22).wr W25 (Or.inl (List.mem_of_getElem? (i := 0) rfl))).ext E31).wr W35 (Or.inr sz_b22)).ext E39).wr W43 (Or.inr sz_b22)).ext E44).wr W47 (Or.inr sz_b44)).wr W48 (Or.inr sz_b31)).wr W53 (Or.inr sz_b44)).wr W54 (Or.inr sz_b31)).wr W59 (Or.inr sz_b44)).wr W60 (Or.inr sz_b39)).wr W66 (Or.inr sz_b44)).wr W67 (Or.inr sz_b31))
  have q75 := ((((((((((((((q27.wr W25).ext E31).wr W35).ext E39).wr W43).ext E44).wr W47).wr W48).wr W53).wr W54).wr W59).wr W60).wr W66).wr W67)
  have q76 := (((((((((((((((((((((Fw3.other W7 (Or.inr (slot_ne (Or.inr (w_ hw 30 rfl)) (Or.inr (w_ hw 32 rfl)) (by decide) (t := (.array .int)) (t' := .int) (by decide) (by decide)))).ext E11).other W15 (Or.inl ne_o0_b11)).other W17 (Or.inl ne_o0_b11)).other W19 (Or.inl ne_o0_b11)).other W21 (Or.inl ne_o0_b11)).ext E22).other W25 (Or.inr (slot_ne (Or.inr (w_ hw 30 rfl)) (Or.inr (w_ hw 36 rfl)) (by decide) (t := (.array .int)) (t' := (.array (.array .int))) (by decide) (by decide)))).ext E31).other W35 (Or.inl ne_o0_b22)).ext E39).other W43 (Or.inl ne_o0_b22)).ext E44).other W47 (Or.inl ne_o0_b44)).other W48 (Or.inl ne_o0_b31)).other W53 (Or.inl ne_o0_b44)).other W54 (Or.inl ne_o0_b31)).other W59 (Or.inl ne_o0_b44)).other W60 (Or.inl ne_o0_b39)).other W66 (Or.inl ne_o0_b44)).other W67 (Or.inl ne_o0_b31))
  have q77 := ((((((((((((((((((((Fw7.ext E11).other W15 (Or.inl ne_o0_b11)).other W17 (Or.inl ne_o0_b11)).other W19 (Or.inl ne_o0_b11)).other W21 (Or.inl ne_o0_b11)).ext E22).other W25 (Or.inr (slot_ne (Or.inr (w_ hw 32 rfl)) (Or.inr (w_ hw 36 rfl)) (by decide) (t := .int) (t' := (.array (.array .int))) (by decide) (by decide)))).ext E31).other W35 (Or.inl ne_o0_b22)).ext E39).other W43 (Or.inl ne_o0_b22)).ext E44).other W47 (Or.inl ne_o0_b44)).other W48 (Or.inl ne_o0_b31)).other W53 (Or.inl ne_o0_b44)).other W54 (Or.inl ne_o0_b31)).other W59 (Or.inl ne_o0_b44)).other W60 (Or.inl ne_o0_b39)).other W66 (Or.inl ne_o0_b44)).other W67 (Or.inl ne_o0_b31))
  exact own_outV X67 hx hlk hret (hb hby d3_146) (Q := Q3c0010n2 Z o0 o1 o2 k2 h0 n0) (by rw [e67]; exact ⟨rfl, (Fr.snoc X67 (own_snoc (Fr.snoc X60 (own_snoc (Fr.snoc X54 (own_snoc (Fr.snoc X48 (own_snoc (Fr.snoc X43 (Fr.snoc X35 (Fr.snoc X25 (Fr.snoc X21 (Fr.snoc X19 (Fr.snoc X17 (Fr.snoc X15 (Fr.snoc X7 (Fr.snoc X3 (Fr.snoc X2 N0 g_o0) g_o0) g_o0) g_b11) g_b11) g_b11) g_b11) g_o0) g_b22) g_b22) g_b44) g_b31) g_b44) g_b31) g_b44) g_b39) g_b44) g_b31), q74, q75, q76, q77⟩) (by decide) (by decide)
theorem ef_3c0011n2 (m : MethodId) (x0 : Addr) (x1 : Addr) (x2 : Addr) : entryFrame m #[(.ref x0), (.ref x1), (.ref x2), (.int (2 : Int32))] 9 = mkF m 0 #[.val (.ref x0), .val (.ref x1), .val (.ref x2), .val (.int (2 : Int32)), .unset, .unset, .unset, .unset, .unset] [] := by first | (simp [entryFrame, mkF, argsToLocals, Value.category]; done) | rfl
def Q3c0011n2 (Z : State) (o0 : Addr) (o1 : Addr) (o2 : Addr) (k2 : ClassId) (h0 : Heap) (n0 : Nat) (v : Option Value) (h : Heap) (L : List Loc) : Prop := v = none ∧ Fr n0 L ∧ Keep h0 h [o0] ∧ Exa Z h o0 "com/example/slimc/slimc/game/Observation" ∧ Fld Z h o0 "com/example/slimc/slimc/game/Observation" "classOf" "[I" (.ref o2) ∧ Fld Z h o0 "com/example/slimc/slimc/game/Observation" "classCount" "I" (.int (2 : Int32))
set_option maxRecDepth 65536 in
set_option maxHeartbeats 40000000 in
theorem rm3c0011n2 (l : Launch) (Z : State) (a0 : Array Value) (hw : ∀ d ∈ tables_1, d.before a0 Z = true) (ws : List Jvm.Cond) (o0 : Addr) (o1 : Addr) (o2 : Addr) (k2 : ClassId) (h0 : Heap) (n0 : Nat) (Z0 : n0 ≤ h0.size) (E : Exa Z h0 o0 "com/example/slimc/slimc/game/Observation") (F_name : Fld Z h0 o0 "com/example/slimc/slimc/game/Observation" "name" "Ljava/lang/String;" .null) (F_classOf : Fld Z h0 o0 "com/example/slimc/slimc/game/Observation" "classOf" "[I" .null) (F_classCount : Fld Z h0 o0 "com/example/slimc/slimc/game/Observation" "classCount" "I" (.int (0 : Int32))) (F_classes : Fld Z h0 o0 "com/example/slimc/slimc/game/Observation" "classes" "[[I" .null) (g_o0 : n0 ≤ o0) (V : Arv Z h0 o2 k2 .int (4 : Int32) [(.int (0 : Int32)), (.int (0 : Int32)), (.int (1 : Int32)), (.int (1 : Int32))] (.int (0 : Int32))) (n2 : o2 ≠ o0) :
    MetFree l (⟨"com/example/slimc/slimc/game/Observation", "<init>", "(Ljava/lang/String;[II)V"⟩ : MethodName) (head1 (Jvm.Cond.code (⟨"com/example/slimc/slimc/game/Observation", "<init>", "(Ljava/lang/String;[II)V"⟩ : MethodName) prog_66_method_1_code 9 none :: ws) ({ frames := 1, cells := 7, slots := 16, locals := 14 } : Room)) (fun a U => a = #[(.ref o0), (.ref o1), (.ref o2), (.int (2 : Int32))] ∧ Z.Warmed39 U.vm ∧ U.heap = h0) (fun _ _ _ _ _ => True) (fun _ U o U' => ∃ v L, o = .returned v ∧ Q3c0011n2 Z o0 o1 o2 k2 h0 n0 v U'.heap L ∧ FrameEnd U o U' L ({ frames := 1, cells := 7, slots := 16, locals := 14 } : Room).cells ({ frames := 1, cells := 7, slots := 16, locals := 14 } : Room).slots) := by
  refine MetFree.of_bodySF (plainFor_of_name pn_1) hisR ?_
  intro p e s m args below meth c s₁ Bd hml0 hP hK
  obtain ⟨rfl, hZ, hh⟩ := hP
  have hx := Bd.exec
  have hby := Bd.bytes
  have hml : c.maxLocals = 9 := hml0
  have hown : s.vm.findClass "com/example/slimc/slimc/game/Observation" = some m.cls := findClass_of_methodNamed Bd.named
  have hnm := (name_of_methodNamed Bd.named Bd.method).1
  have X0 : Stand p l e ({ frames := 1, cells := 7, slots := 16, locals := 14 } : Room) s m #[(.ref o0), (.ref o1), (.ref o2), (.int (2 : Int32))] below meth c s₁ [] 0 0 := Stand.of_body Bd
  have e0 : s₁.heap = h0 := by rw [← hh, Bd.state]; rfl
  have N0 := Fr.nil n0
  have hret := Bd.returns
  have hlk := BodyLoose.notSynchronized Bd
  show own_Out p e below (fun o U' => ∃ v L, o = .returned v ∧ Q3c0011n2 Z o0 o1 o2 k2 h0 n0 v U'.heap L ∧ FrameEnd s o U' L ({ frames := 1, cells := 7, slots := 16, locals := 14 } : Room).cells ({ frames := 1, cells := 7, slots := 16, locals := 14 } : Room).slots) (s₁.setTop (entryFrame m #[(.ref o0), (.ref o1), (.ref o2), (.int (2 : Int32))] 9))
  refine own_of (fun t k => castTop (ef_3c0011n2 m o0 o1 o2) k) ?_
  show own_Out p e below _ (s₁.setTop (mkF m 0 #[rv o0, rv o1, rv o2, iv 2, .unset, .unset, .unset, .unset, .unset] []))
  refine o_aloadN X0 hx hby d3_0 rfl rfl (q := 1) rfl ?_
  obtain ⟨T1, X1, e1, st1⟩ := initO X0 hx hZ hown (w_ hw 24 rfl) (w_ hw 25 rfl) (w_ hw 26 rfl) e0 (g := (mkF m 1 #[rv o0, rv o1, rv o2, iv 2, .unset, .unset, .unset, .unset, .unset] [.ref o0])) rfl (by rw [hml]; rfl) rfl (hb hby d3_1) (by decide) (W := 0) (by show 2 * 0 + _ ≤ _; exact Nat.le_of_eq rfl) (by decide)
  refine own_of st1 ?_
  show own_Out p e below _ (T1.setTop (mkF m 4 #[rv o0, rv o1, rv o2, iv 2, .unset, .unset, .unset, .unset, .unset] []))
  refine o_aloadN X1 hx hby d3_4 rfl rfl (q := 5) rfl ?_
  refine o_aloadN X1 hx hby d3_5 rfl rfl (q := 6) rfl ?_
  obtain ⟨T2, h2, X2, e2, W2, st2⟩ := putF X1 hx hZ hown (host := "") (Or.inl (w_ hw 27 rfl)) Via.refl e1 F_name E (Or.inr ⟨(w_ hw 28 rfl), rfl, hnm⟩) (w_ hw 11 rfl) (ty := (.object "java/lang/String")) (by decide) rfl rfl (g := (mkF m 6 #[rv o0, rv o1, rv o2, iv 2, .unset, .unset, .unset, .unset, .unset] [.ref o1, .ref o0])) rfl rfl (hb hby d3_6)
  have Fw2 := F_name.same W2
  refine own_of st2 ?_
  show own_Out p e below _ (T2.setTop (mkF m 9 #[rv o0, rv o1, rv o2, iv 2, .unset, .unset, .unset, .unset, .unset] []))
  refine o_aloadN X2 hx hby d3_9 rfl rfl (q := 10) rfl ?_
  refine o_aloadN X2 hx hby d3_10 rfl rfl (q := 11) rfl ?_
  have q4 := (F_classOf.other W2 (Or.inr (slot_ne (Or.inr (w_ hw 30 rfl)) (Or.inr (w_ hw 28 rfl)) (by decide) (t := (.array .int)) (t' := (.object "java/lang/String")) (by decide) (by decide))))
  have q5 := (E.wr W2)
  obtain ⟨T3, h3, X3, e3, W3, st3⟩ := putF X2 hx hZ hown (host := "") (Or.inl (w_ hw 29 rfl)) Via.refl e2 q4 q5 (Or.inr ⟨(w_ hw 30 rfl), rfl, hnm⟩) (w_ hw 11 rfl) (ty := (.array .int)) (by decide) rfl rfl (g := (mkF m 11 #[rv o0, rv o1, rv o2, iv 2, .unset, .unset, .unset, .unset, .unset] [.ref o2, .ref o0])) rfl rfl (hb hby d3_11)
  have q6 := (F_classOf.other W2 (Or.inr (slot_ne (Or.inr (w_ hw 30 rfl)) (Or.inr (w_ hw 28 rfl)) (by decide) (t := (.array .int)) (t' := (.object "java/lang/String")) (by decide) (by decide))))
  have Fw3 := q6.same W3
  refine own_of st3 ?_
  show own_Out p e below _ (T3.setTop (mkF m 14 #[rv o0, rv o1, rv o2, iv 2, .unset, .unset, .unset, .unset, .unset] []))
  refine o_aloadN X3 hx hby d3_14 rfl rfl (q := 15) rfl ?_
  refine o_iloadN X3 hx hby d3_15 rfl (q := 16) rfl ?_
  have q8 := ((F_classCount.other W2 (Or.inr (slot_ne (Or.inr (w_ hw 32 rfl)) (Or.inr (w_ hw 28 rfl)) (by decide) (t := .int) (t' := (.object "java/lang/String")) (by decide) (by decide)))).other W3 (Or.inr (slot_ne (Or.inr (w_ hw 32 rfl)) (Or.inr (w_ hw 30 rfl)) (by decide) (t := .int) (t' := (.array .int)) (by decide) (by decide))))
  have q9 := (q5.wr W3)
  obtain ⟨T7, h7, X7, e7, W7, st7⟩ := putF X3 hx hZ hown (host := "") (Or.inl (w_ hw 31 rfl)) Via.refl e3 q8 q9 (Or.inr ⟨(w_ hw 32 rfl), rfl, hnm⟩) (w_ hw 11 rfl) (ty := .int) (by decide) rfl rfl (g := (mkF m 16 #[rv o0, rv o1, rv o2, iv 2, .unset, .unset, .unset, .unset, .unset] [.int 2, .ref o0])) rfl rfl (hb hby d3_16)
  have q10 := ((F_classCount.other W2 (Or.inr (slot_ne (Or.inr (w_ hw 32 rfl)) (Or.inr (w_ hw 28 rfl)) (by decide) (t := .int) (t' := (.object "java/lang/String")) (by decide) (by decide)))).other W3 (Or.inr (slot_ne (Or.inr (w_ hw 32 rfl)) (Or.inr (w_ hw 30 rfl)) (by decide) (t := .int) (t' := (.array .int)) (by decide) (by decide))))
  have Fw7 := q10.same W7
  refine own_of st7 ?_
  show own_Out p e below _ (T7.setTop (mkF m 19 #[rv o0, rv o1, rv o2, iv 2, .unset, .unset, .unset, .unset, .unset] []))
  refine o_iloadN X7 hx hby d3_19 rfl (q := 20) rfl ?_
  obtain ⟨T11, h11, k11, X11, e11, E11, A11, Ex11, st11⟩ := newPE X7 hx hZ (w_ hw 5 rfl) e7 (g := (mkF m 20 #[rv o0, rv o1, rv o2, iv 2, .unset, .unset, .unset, .unset, .unset] [.int 2])) rfl (hb hby d3_20) rfl (by decide) (cap := 2) (by decide) (by decide) (by decide) (by decide) (ad := "[I") (by decide +kernel)
  obtain ⟨b11, g11⟩ : ∃ z, z = h7.size := ⟨_, rfl⟩
  rw [← g11] at A11 Ex11 st11
  have q12 := (Nat.le_trans (Nat.le_trans (Nat.le_trans Z0 (Keep.of_wr W2).1) (Keep.of_wr W3).1) (Keep.of_wr W7).1)
  have g_b11 : n0 ≤ b11 := Nat.le_trans q12 (Nat.le_of_eq g11.symm)
  have q13 := (Nat.le_trans (Nat.le_trans (Nat.le_trans (Nat.le_refl h0.size) (Keep.of_wr W2).1) (Keep.of_wr W3).1) (Keep.of_wr W7).1)
  have sz_b11 : h0.size ≤ b11 := Nat.le_trans q13 (Nat.le_of_eq g11.symm)
  have V_b11 : Arv Z h11 b11 k11 .int (2 : Int32) [(.int (0 : Int32)), (.int (0 : Int32))] (.int (0 : Int32)) := (Arv.new A11 (by decide)).pad (pad_rep [] (.int (0 : Int32)) 2)
  refine own_of st11 ?_
  show own_Out p e below _ (T11.setTop (mkF m 22 #[rv o0, rv o1, rv o2, iv 2, .unset, .unset, .unset, .unset, .unset] [.ref b11]))
  refine o_astore X11 hx hby d3_22 rfl (l' := #[rv o0, rv o1, rv o2, iv 2, rv b11, .unset, .unset, .unset, .unset]) rfl (q := 24) rfl ?_
  refine o_aloadN X11 hx hby d3_24 rfl rfl (q := 25) rfl ?_
  refine o_astore X11 hx hby d3_25 rfl (l' := #[rv o0, rv o1, rv o2, iv 2, rv b11, rv o2, .unset, .unset, .unset]) rfl (q := 27) rfl ?_
  refine o_aload X11 hx hby d3_27 rfl rfl (q := 29) rfl ?_
  have q14 := ((((V.other W2 n2).other W3 n2).other W7 n2).ext E11)
  refine o_lenV X11 hx hby hZ e11 q14 d3_29 (q := 30) rfl ?_
  refine o_istore X11 hx hby d3_30 (l' := #[rv o0, rv o1, rv o2, iv 2, rv b11, rv o2, iv 4, .unset, .unset]) rfl (q := 32) rfl ?_
  refine o_iconst X11 hx hby d3_32 (z := 0) rfl (q := 33) rfl ?_
  refine o_istore X11 hx hby d3_33 (l' := #[rv o0, rv o1, rv o2, iv 2, rv b11, rv o2, iv 4, iv 0, .unset]) rfl (q := 35) rfl ?_
  refine t1 X11 hx hby hZ e11 q14 V_b11 rfl ⟨by decide, by decide⟩ (cc := 0) rfl ⟨by decide, by decide⟩ (y := 0) rfl (y' := 1) rfl (i' := 1) rfl (iN := 0) rfl (Nat.le_of_ble_eq_true rfl) fun T15 h15 X15 e15 W15 V15 => ?_
  have ne_o2_b11 : o2 ≠ b11 := Nat.ne_of_lt (Nat.lt_of_lt_of_le V.lt sz_b11)
  have q16 := (q14.other W15 ne_o2_b11)
  refine t1 X15 hx hby hZ e15 q16 V15 rfl ⟨by decide, by decide⟩ (cc := 0) rfl ⟨by decide, by decide⟩ (y := 1) rfl (y' := 2) rfl (i' := 2) rfl (iN := 0) rfl (Nat.le_of_ble_eq_true rfl) fun T17 h17 X17 e17 W17 V17 => ?_
  have q18 := (q16.other W17 ne_o2_b11)
  refine t1 X17 hx hby hZ e17 q18 V17 rfl ⟨by decide, by decide⟩ (cc := 1) rfl ⟨by decide, by decide⟩ (y := 0) rfl (y' := 1) rfl (i' := 3) rfl (iN := 1) rfl (Nat.le_of_ble_eq_true rfl) fun T19 h19 X19 e19 W19 V19 => ?_
  have q20 := (q18.other W19 ne_o2_b11)
  refine t1 X19 hx hby hZ e19 q20 V19 rfl ⟨by decide, by decide⟩ (cc := 1) rfl ⟨by decide, by decide⟩ (y := 1) rfl (y' := 2) rfl (i' := 4) rfl (iN := 1) rfl (Nat.le_of_ble_eq_true rfl) fun T21 h21 X21 e21 W21 V21 => ?_
  refine o_iload X21 hx hby d3_35 rfl (q := 37) rfl ?_
  refine o_iload X21 hx hby d3_37 rfl (q := 39) rfl ?_
  refine o_icY X21 hx hby d3_39 (flt (by decide : ¬ ((4 : Int32) < (4 : Int32)))).2.1 (by decide) (q := 64) (by decide) ?_
  refine o_aloadN X21 hx hby d3_64 rfl rfl (q := 65) rfl ?_
  refine o_iloadN X21 hx hby d3_65 rfl (q := 66) rfl ?_
  obtain ⟨T22, h22, k22, X22, e22, E22, A22, Ex22, O22, st22⟩ := newRA X21 hx hZ hown (ty := .int) (by decide +kernel) (w_ hw 33 rfl) (w_ hw 34 rfl) e21 (g := (mkF m 66 #[rv o0, rv o1, rv o2, iv 2, rv b11, rv o2, iv 4, iv 4, iv 1] [.int 2, .ref o0])) rfl (hb hby d3_66) rfl (by decide) (cap := 2) (by decide) (by decide) (by decide) (by decide) (ad := "[[I") (by decide +kernel)
  obtain ⟨b22, g22⟩ : ∃ z, z = h21.size := ⟨_, rfl⟩
  rw [← g22] at A22 Ex22 st22
  have q23 := (Nat.le_trans (Nat.le_trans (Nat.le_trans (Nat.le_trans (Nat.le_trans q12 E11.1) (Keep.of_wr W15).1) (Keep.of_wr W17).1) (Keep.of_wr W19).1) (Keep.of_wr W21).1)
  have g_b22 : n0 ≤ b22 := Nat.le_trans q23 (Nat.le_of_eq g22.symm)
  have q24 := (Nat.le_trans (Nat.le_trans (Nat.le_trans (Nat.le_trans (Nat.le_trans q13 E11.1) (Keep.of_wr W15).1) (Keep.of_wr W17).1) (Keep.of_wr W19).1) (Keep.of_wr W21).1)
  have sz_b22 : h0.size ≤ b22 := Nat.le_trans q24 (Nat.le_of_eq g22.symm)
  have V_b22 : Arv Z h22 b22 k22 (.array .int) (2 : Int32) [.null, .null] .null := (Arv.new A22 (by decide)).pad (pad_rep [] .null 2)
  refine own_of st22 ?_
  show own_Out p e below _ (T22.setTop (mkF m 69 #[rv o0, rv o1, rv o2, iv 2, rv b11, rv o2, iv 4, iv 4, iv 1] [.ref b22, .ref o0]))
  have ne_o0_b11 : o0 ≠ b11 := Nat.ne_of_lt (Nat.lt_of_lt_of_le E.lt sz_b11)
  have q26 := (((((((((F_classes.other W2 (Or.inr (slot_ne (Or.inr (w_ hw 36 rfl)) (Or.inr (w_ hw 28 rfl)) (by decide) (t := (.array (.array .int))) (t' := (.object "java/lang/String")) (by decide) (by decide)))).other W3 (Or.inr (slot_ne (Or.inr (w_ hw 36 rfl)) (Or.inr (w_ hw 30 rfl)) (by decide) (t := (.array (.array .int))) (t' := (.array .int)) (by decide) (by decide)))).other W7 (Or.inr (slot_ne (Or.inr (w_ hw 36 rfl)) (Or.inr (w_ hw 32 rfl)) (by decide) (t := (.array (.array .int))) (t' := .int) (by decide) (by decide)))).ext E11).other W15 (Or.inl ne_o0_b11)).other W17 (Or.inl ne_o0_b11)).other W19 (Or.inl ne_o0_b11)).other W21 (Or.inl ne_o0_b11)).ext E22)
  have q27 := (((((((q9.wr W7).ext E11).wr W15).wr W17).wr W19).wr W21).ext E22)
  obtain ⟨T25, h25, X25, e25, W25, st25⟩ := putF X22 hx hZ hown (host := "") (Or.inl (w_ hw 35 rfl)) Via.refl e22 q26 q27 (Or.inr ⟨(w_ hw 36 rfl), rfl, hnm⟩) (w_ hw 11 rfl) (ty := (.array (.array .int))) (by decide) rfl rfl (g := (mkF m 69 #[rv o0, rv o1, rv o2, iv 2, rv b11, rv o2, iv 4, iv 4, iv 1] [.ref b22, .ref o0])) rfl rfl (hb hby d3_69)
  have q28 := (((((((((F_classes.other W2 (Or.inr (slot_ne (Or.inr (w_ hw 36 rfl)) (Or.inr (w_ hw 28 rfl)) (by decide) (t := (.array (.array .int))) (t' := (.object "java/lang/String")) (by decide) (by decide)))).other W3 (Or.inr (slot_ne (Or.inr (w_ hw 36 rfl)) (Or.inr (w_ hw 30 rfl)) (by decide) (t := (.array (.array .int))) (t' := (.array .int)) (by decide) (by decide)))).other W7 (Or.inr (slot_ne (Or.inr (w_ hw 36 rfl)) (Or.inr (w_ hw 32 rfl)) (by decide) (t := (.array (.array .int))) (t' := .int) (by decide) (by decide)))).ext E11).other W15 (Or.inl ne_o0_b11)).other W17 (Or.inl ne_o0_b11)).other W19 (Or.inl ne_o0_b11)).other W21 (Or.inl ne_o0_b11)).ext E22)
  have Fw25 := q28.same W25
  refine own_of st25 ?_
  show own_Out p e below _ (T25.setTop (mkF m 72 #[rv o0, rv o1, rv o2, iv 2, rv b11, rv o2, iv 4, iv 4, iv 1] []))
  refine o_iconst X25 hx hby d3_72 (z := 0) rfl (q := 73) rfl ?_
  refine o_istore X25 hx hby d3_73 (l' := #[rv o0, rv o1, rv o2, iv 2, rv b11, iv 0, iv 4, iv 4, iv 1]) rfl (q := 75) rfl ?_
  refine o_iload X25 hx hby d3_75 rfl (q := 77) rfl ?_
  refine o_iloadN X25 hx hby d3_77 rfl (q := 78) rfl ?_
  refine o_icN X25 hx hby d3_78 (tlt (by decide : (0 : Int32) < (2 : Int32))).2.1 (q := 81) rfl ?_
  refine o_aloadN X25 hx hby d3_81 rfl rfl (q := 82) rfl ?_
  refine o_getF X25 hx hZ hown hby (w_ hw 35 rfl) Via.refl e25 Fw25 d3_82 (q := 85) rfl fun T29 X29 e29 => ?_
  refine o_iload X29 hx hby d3_85 rfl (q := 87) rfl ?_
  refine o_aload X29 hx hby d3_87 rfl rfl (q := 89) rfl ?_
  refine o_iload X29 hx hby d3_89 rfl (q := 91) rfl ?_
  have q30 := ((V21.ext E22).other W25 (Ne.symm ne_o0_b11))
  refine o_iaV X29 hx hby hZ e29 q30 ⟨by decide, by decide⟩ (v := .int 2) rfl d3_91 (q := 92) rfl ?_
  obtain ⟨T31, h31, k31, X31, e31, E31, A31, Ex31, st31⟩ := newPE X29 hx hZ (w_ hw 5 rfl) e29 (g := (mkF m 92 #[rv o0, rv o1, rv o2, iv 2, rv b11, iv 0, iv 4, iv 4, iv 1] [.int 2, .int 0, .ref b22])) rfl (hb hby d3_92) rfl (by decide) (cap := 2) (by decide) (by decide) (by decide) (by decide) (ad := "[I") (by decide +kernel)
  obtain ⟨b31, g31⟩ : ∃ z, z = h25.size := ⟨_, rfl⟩
  rw [← g31] at A31 Ex31 st31
  have q32 := (Nat.le_trans (Nat.le_trans q23 E22.1) (Keep.of_wr W25).1)
  have g_b31 : n0 ≤ b31 := Nat.le_trans q32 (Nat.le_of_eq g31.symm)
  have q33 := (Nat.le_trans (Nat.le_trans q24 E22.1) (Keep.of_wr W25).1)
  have sz_b31 : h0.size ≤ b31 := Nat.le_trans q33 (Nat.le_of_eq g31.symm)
  have V_b31 : Arv Z h31 b31 k31 .int (2 : Int32) [(.int (0 : Int32)), (.int (0 : Int32))] (.int (0 : Int32)) := (Arv.new A31 (by decide)).pad (pad_rep [] (.int (0 : Int32)) 2)
  refine own_of st31 ?_
  show own_Out p e below _ (T31.setTop (mkF m 94 #[rv o0, rv o1, rv o2, iv 2, rv b11, iv 0, iv 4, iv 4, iv 1] [.ref b31, .int 0, .ref b22]))
  have ne_o0_b22 : o0 ≠ b22 := Nat.ne_of_lt (Nat.lt_of_lt_of_le E.lt sz_b22)
  have q34 := ((V_b22.other W25 (Ne.symm ne_o0_b22)).ext E31)
  refine o_stVR X31 hx hby hZ e31 q34 ⟨by decide, by decide⟩ 0 rfl (Nat.le_of_ble_eq_true rfl) O22 (Ins.self Ex31) d3_94 (q := 95) rfl fun T35 h35 X35 e35 W35 V35 => ?_
  refine o_iinc X35 hx hby d3_95 rfl (l' := #[rv o0, rv o1, rv o2, iv 2, rv b11, iv 1, iv 4, iv 4, iv 1]) rfl (q := 98) rfl ?_
  refine o_goto X35 hx hby d3_98 (by decide) (q := 75) (by decide) ?_
  refine o_iload X35 hx hby d3_75 rfl (q := 77) rfl ?_
  refine o_iloadN X35 hx hby d3_77 rfl (q := 78) rfl ?_
  refine o_icN X35 hx hby d3_78 (tlt (by decide : (1 : Int32) < (2 : Int32))).2.1 (q := 81) rfl ?_
  refine o_aloadN X35 hx hby d3_81 rfl rfl (q := 82) rfl ?_
  have q37 := ((Fw25.ext E31).other W35 (Or.inl ne_o0_b22))
  refine o_getF X35 hx hZ hown hby (w_ hw 35 rfl) Via.refl e35 q37 d3_82 (q := 85) rfl fun T36 X36 e36 => ?_
  refine o_iload X36 hx hby d3_85 rfl (q := 87) rfl ?_
  refine o_aload X36 hx hby d3_87 rfl rfl (q := 89) rfl ?_
  refine o_iload X36 hx hby d3_89 rfl (q := 91) rfl ?_
  have ne_b11_b22 : b11 ≠ b22 := Nat.ne_of_lt (Nat.lt_of_lt_of_le (Nat.lt_of_lt_of_le (Nat.lt_of_lt_of_le (Nat.lt_of_lt_of_le (Nat.lt_of_lt_of_le A11.lt (Keep.of_wr W15).1) (Keep.of_wr W17).1) (Keep.of_wr W19).1) (Keep.of_wr W21).1) (Nat.le_of_eq g22.symm))
  have q38 := ((q30.ext E31).other W35 ne_b11_b22)
  refine o_iaV X36 hx hby hZ e36 q38 ⟨by decide, by decide⟩ (v := .int 2) rfl d3_91 (q := 92) rfl ?_
  obtain ⟨T39, h39, k39, X39, e39, E39, A39, Ex39, st39⟩ := newPE X36 hx hZ (w_ hw 5 rfl) e36 (g := (mkF m 92 #[rv o0, rv o1, rv o2, iv 2, rv b11, iv 1, iv 4, iv 4, iv 1] [.int 2, .int 1, .ref b22])) rfl (hb hby d3_92) rfl (by decide) (cap := 2) (by decide) (by decide) (by decide) (by decide) (ad := "[I") (by decide +kernel)
  obtain ⟨b39, g39⟩ : ∃ z, z = h35.size := ⟨_, rfl⟩
  rw [← g39] at A39 Ex39 st39
  have q40 := (Nat.le_trans (Nat.le_trans q32 E31.1) (Keep.of_wr W35).1)
  have g_b39 : n0 ≤ b39 := Nat.le_trans q40 (Nat.le_of_eq g39.symm)
  have q41 := (Nat.le_trans (Nat.le_trans q33 E31.1) (Keep.of_wr W35).1)
  have sz_b39 : h0.size ≤ b39 := Nat.le_trans q41 (Nat.le_of_eq g39.symm)
  have V_b39 : Arv Z h39 b39 k39 .int (2 : Int32) [(.int (0 : Int32)), (.int (0 : Int32))] (.int (0 : Int32)) := (Arv.new A39 (by decide)).pad (pad_rep [] (.int (0 : Int32)) 2)
  refine own_of st39 ?_
  show own_Out p e below _ (T39.setTop (mkF m 94 #[rv o0, rv o1, rv o2, iv 2, rv b11, iv 1, iv 4, iv 4, iv 1] [.ref b39, .int 1, .ref b22]))
  have q42 := (V35.ext E39)
  refine o_stVR X39 hx hby hZ e39 q42 ⟨by decide, by decide⟩ 1 rfl (Nat.le_of_ble_eq_true rfl) O22 (Ins.self Ex39) d3_94 (q := 95) rfl fun T43 h43 X43 e43 W43 V43 => ?_
  refine o_iinc X43 hx hby d3_95 rfl (l' := #[rv o0, rv o1, rv o2, iv 2, rv b11, iv 2, iv 4, iv 4, iv 1]) rfl (q := 98) rfl ?_
  refine o_goto X43 hx hby d3_98 (by decide) (q := 75) (by decide) ?_
  refine o_iload X43 hx hby d3_75 rfl (q := 77) rfl ?_
  refine o_iloadN X43 hx hby d3_77 rfl (q := 78) rfl ?_
  refine o_icY X43 hx hby d3_78 (flt (by decide : ¬ ((2 : Int32) < (2 : Int32)))).2.1 (by decide) (q := 101) (by decide) ?_
  refine o_iloadN X43 hx hby d3_101 rfl (q := 102) rfl ?_
  obtain ⟨T44, h44, k44, X44, e44, E44, A44, Ex44, st44⟩ := newPE X43 hx hZ (w_ hw 5 rfl) e43 (g := (mkF m 102 #[rv o0, rv o1, rv o2, iv 2, rv b11, iv 2, iv 4, iv 4, iv 1] [.int 2])) rfl (hb hby d3_102) rfl (by decide) (cap := 2) (by decide) (by decide) (by decide) (by decide) (ad := "[I") (by decide +kernel)
  obtain ⟨b44, g44⟩ : ∃ z, z = h43.size := ⟨_, rfl⟩
  rw [← g44] at A44 Ex44 st44
  have q45 := (Nat.le_trans (Nat.le_trans q40 E39.1) (Keep.of_wr W43).1)
  have g_b44 : n0 ≤ b44 := Nat.le_trans q45 (Nat.le_of_eq g44.symm)
  have q46 := (Nat.le_trans (Nat.le_trans q41 E39.1) (Keep.of_wr W43).1)
  have sz_b44 : h0.size ≤ b44 := Nat.le_trans q46 (Nat.le_of_eq g44.symm)
  have V_b44 : Arv Z h44 b44 k44 .int (2 : Int32) [(.int (0 : Int32)), (.int (0 : Int32))] (.int (0 : Int32)) := (Arv.new A44 (by decide)).pad (pad_rep [] (.int (0 : Int32)) 2)
  refine own_of st44 ?_
  show own_Out p e below _ (T44.setTop (mkF m 104 #[rv o0, rv o1, rv o2, iv 2, rv b11, iv 2, iv 4, iv 4, iv 1] [.ref b44]))
  refine o_astore X44 hx hby d3_104 rfl (l' := #[rv o0, rv o1, rv o2, iv 2, rv b11, rv b44, iv 4, iv 4, iv 1]) rfl (q := 106) rfl ?_
  refine o_iconst X44 hx hby d3_106 (z := 0) rfl (q := 107) rfl ?_
  refine o_istore X44 hx hby d3_107 (l' := #[rv o0, rv o1, rv o2, iv 2, rv b11, rv b44, iv 0, iv 4, iv 1]) rfl (q := 109) rfl ?_
  have ne_o2_b22 : o2 ≠ b22 := Nat.ne_of_lt (Nat.lt_of_lt_of_le V.lt sz_b22)
  have q49 := ((((((((q20.other W21 ne_o2_b11).ext E22).other W25 n2).ext E31).other W35 ne_o2_b22).ext E39).other W43 ne_o2_b22).ext E44)
  have q50 := (((q37.ext E39).other W43 (Or.inl ne_o0_b22)).ext E44)
  have q51 := (V43.ext E44)
  have ne_b22_b31 : b22 ≠ b31 := Nat.ne_of_lt (Nat.lt_of_lt_of_le (Nat.lt_of_lt_of_le A22.lt (Keep.of_wr W25).1) (Nat.le_of_eq g31.symm))
  have q52 := ((((V_b31.other W35 (Ne.symm ne_b22_b31)).ext E39).other W43 (Ne.symm ne_b22_b31)).ext E44)
  have ne_b31_b44 : b31 ≠ b44 := Nat.ne_of_lt (Nat.lt_of_lt_of_le (Nat.lt_of_lt_of_le (Nat.lt_of_lt_of_le (Nat.lt_of_lt_of_le A31.lt (Keep.of_wr W35).1) E39.1) (Keep.of_wr W43).1) (Nat.le_of_eq g44.symm))
  refine t3 X44 hx hby hZ e44 hw hown q49 q50 q51 V_b44 q52 ne_b31_b44 ⟨by decide, by decide⟩ (x := 0) rfl ⟨by decide, by decide⟩ rfl (f := 0) rfl ⟨by decide, by decide⟩ (f' := 1) rfl (i' := 1) rfl (iN := 0) rfl (Nat.le_of_ble_eq_true rfl) (jN := 0) rfl (Nat.le_of_ble_eq_true rfl) fun T48 h47 h48 X48 e48 W47 W48 V47 V48 => ?_
  have ne_o2_b44 : o2 ≠ b44 := Nat.ne_of_lt (Nat.lt_of_lt_of_le V.lt sz_b44)
  have ne_o2_b31 : o2 ≠ b31 := Nat.ne_of_lt (Nat.lt_of_lt_of_le V.lt sz_b31)
  have q55 := ((q49.other W47 ne_o2_b44).other W48 ne_o2_b31)
  have ne_o0_b44 : o0 ≠ b44 := Nat.ne_of_lt (Nat.lt_of_lt_of_le E.lt sz_b44)
  have ne_o0_b31 : o0 ≠ b31 := Nat.ne_of_lt (Nat.lt_of_lt_of_le E.lt sz_b31)
  have q56 := ((q50.other W47 (Or.inl ne_o0_b44)).other W48 (Or.inl ne_o0_b31))
  have ne_b22_b44 : b22 ≠ b44 := Nat.ne_of_lt (Nat.lt_of_lt_of_le (Nat.lt_of_lt_of_le (Nat.lt_of_lt_of_le (Nat.lt_of_lt_of_le (Nat.lt_of_lt_of_le (Nat.lt_of_lt_of_le A22.lt (Keep.of_wr W25).1) E31.1) (Keep.of_wr W35).1) E39.1) (Keep.of_wr W43).1) (Nat.le_of_eq g44.symm))
  have q57 := ((q51.other W47 ne_b22_b44).other W48 ne_b22_b31)
  have q58 := (V47.other W48 (Ne.symm ne_b31_b44))
  refine t3 X48 hx hby hZ e48 hw hown q55 q56 q57 q58 V48 ne_b31_b44 ⟨by decide, by decide⟩ (x := 0) rfl ⟨by decide, by decide⟩ rfl (f := 1) rfl ⟨by decide, by decide⟩ (f' := 2) rfl (i' := 2) rfl (iN := 0) rfl (Nat.le_of_ble_eq_true rfl) (jN := 1) rfl (Nat.le_of_ble_eq_true rfl) fun T54 h53 h54 X54 e54 W53 W54 V53 V54 => ?_
  have q61 := ((q55.other W53 ne_o2_b44).other W54 ne_o2_b31)
  have q62 := ((q56.other W53 (Or.inl ne_o0_b44)).other W54 (Or.inl ne_o0_b31))
  have q63 := ((q57.other W53 ne_b22_b44).other W54 ne_b22_b31)
  have q64 := (V53.other W54 (Ne.symm ne_b31_b44))
  have ne_b22_b39 : b22 ≠ b39 := Nat.ne_of_lt (Nat.lt_of_lt_of_le (Nat.lt_of_lt_of_le (Nat.lt_of_lt_of_le (Nat.lt_of_lt_of_le A22.lt (Keep.of_wr W25).1) E31.1) (Keep.of_wr W35).1) (Nat.le_of_eq g39.symm))
  have ne_b39_b44 : b39 ≠ b44 := Nat.ne_of_lt (Nat.lt_of_lt_of_le (Nat.lt_of_lt_of_le A39.lt (Keep.of_wr W43).1) (Nat.le_of_eq g44.symm))
  have ne_b31_b39 : b31 ≠ b39 := Nat.ne_of_lt (Nat.lt_of_lt_of_le (Nat.lt_of_lt_of_le A31.lt (Keep.of_wr W35).1) (Nat.le_of_eq g39.symm))
  have q65 := ((((((V_b39.other W43 (Ne.symm ne_b22_b39)).ext E44).other W47 ne_b39_b44).other W48 (Ne.symm ne_b31_b39)).other W53 ne_b39_b44).other W54 (Ne.symm ne_b31_b39))
  refine t3 X54 hx hby hZ e54 hw hown q61 q62 q63 q64 q65 ne_b39_b44 ⟨by decide, by decide⟩ (x := 1) rfl ⟨by decide, by decide⟩ rfl (f := 0) rfl ⟨by decide, by decide⟩ (f' := 1) rfl (i' := 3) rfl (iN := 1) rfl (Nat.le_of_ble_eq_true rfl) (jN := 0) rfl (Nat.le_of_ble_eq_true rfl) fun T60 h59 h60 X60 e60 W59 W60 V59 V60 => ?_
  have ne_o2_b39 : o2 ≠ b39 := Nat.ne_of_lt (Nat.lt_of_lt_of_le V.lt sz_b39)
  have q68 := ((q61.other W59 ne_o2_b44).other W60 ne_o2_b39)
  have ne_o0_b39 : o0 ≠ b39 := Nat.ne_of_lt (Nat.lt_of_lt_of_le E.lt sz_b39)
  have q69 := ((q62.other W59 (Or.inl ne_o0_b44)).other W60 (Or.inl ne_o0_b39))
  have q70 := ((q63.other W59 ne_b22_b44).other W60 ne_b22_b39)
  have q71 := (V59.other W60 (Ne.symm ne_b39_b44))
  refine t3 X60 hx hby hZ e60 hw hown q68 q69 q70 q71 V60 ne_b39_b44 ⟨by decide, by decide⟩ (x := 1) rfl ⟨by decide, by decide⟩ rfl (f := 1) rfl ⟨by decide, by decide⟩ (f' := 2) rfl (i' := 4) rfl (iN := 1) rfl (Nat.le_of_ble_eq_true rfl) (jN := 1) rfl (Nat.le_of_ble_eq_true rfl) fun T67 h66 h67 X67 e67 W66 W67 V66 V67 => ?_
  refine o_iload X67 hx hby d3_109 rfl (q := 111) rfl ?_
  refine o_aloadN X67 hx hby d3_111 rfl rfl (q := 112) rfl ?_
  have q72 := ((q68.other W66 ne_o2_b44).other W67 ne_o2_b39)
  refine o_lenV X67 hx hby hZ e67 q72 d3_112 (q := 113) rfl ?_
  refine o_icY X67 hx hby d3_113 (flt (by decide : ¬ ((4 : Int32) < (4 : Int32)))).2.1 (by decide) (q := 146) (by decide) ?_
  have q73 := ((((((((((((((((((((((((Keep.refl h0 [o0]).wr W2 (Or.inl (List.mem_of_getElem? (i := 0) rfl))).wr W3 (Or.inl (List.mem_of_getElem? (i := 0) rfl))).wr W7 (Or.inl (List.mem_of_getElem? (i := 0) rfl))).ext E11).wr W15 (Or.inr sz_b11)).wr W17 (Or.inr sz_b11)).wr W19 (Or.inr sz_b11)).wr W21 (Or.inr sz_b11)).ext E22).wr W25 (Or.inl (List.mem_of_getElem? (i := 0) rfl))).ext E31).wr W35 (Or.inr sz_b22)).ext E39).wr W43 (Or.inr sz_b22)).ext E44).wr W47 (Or.inr sz_b44)).wr W48 (Or.inr sz_b31)).wr W53 (Or.inr sz_b44)).wr W54 (Or.inr sz_b31)).wr W59 (Or.inr sz_b44)).wr W60 (Or.inr sz_b39)).wr W66 (Or.inr sz_b44)).wr W67 (Or.inr sz_b39))
  have q74 := ((((((((((((((q27.wr W25).ext E31).wr W35).ext E39).wr W43).ext E44).wr W47).wr W48).wr W53).wr W54).wr W59).wr W60).wr W66).wr W67)
  have q75 := (((((((((((((((((((((Fw3.other W7 (Or.inr (slot_ne (Or.inr (w_ hw 30 rfl)) (Or.inr (w_ hw 32 rfl)) (by decide) (t := (.array .int)) (t' := .int) (by decide) (by decide)))).ext E11).other W15 (Or.inl ne_o0_b11)).other W17 (Or.inl ne_o0_b11)).other W19 (Or.inl ne_o0_b11)).other W21 (Or.inl ne_o0_b11)).ext E22).other W25 (Or.inr (slot_ne (Or.inr (w_ hw 30 rfl)) (Or.inr (w_ hw 36 rfl)) (by decide) (t := (.array .int)) (t' := (.array (.array .int))) (by decide) (by decide)))).ext E31).other W35 (Or.inl ne_o0_b22)).ext E39).other W43 (Or.inl ne_o0_b22)).ext E44).other W47 (Or.inl ne_o0_b44)).other W48 (Or.inl ne_o0_b31)).other W53 (Or.inl ne_o0_b44)).other W54 (Or.inl ne_o0_b31)).other W59 (Or.inl ne_o0_b44)).other W60 (Or.inl ne_o0_b39)).other W66 (Or.inl ne_o0_b44)).other W67 (Or.inl ne_o0_b39))
  have q76 := ((((((((((((((((((((Fw7.ext E11).other W15 (Or.inl ne_o0_b11)).other W17 (Or.inl ne_o0_b11)).other W19 (Or.inl ne_o0_b11)).other W21 (Or.inl ne_o0_b11)).ext E22).other W25 (Or.inr (slot_ne (Or.inr (w_ hw 32 rfl)) (Or.inr (w_ hw 36 rfl)) (by decide) (t := .int) (t' := (.array (.array .int))) (by decide) (by decide)))).ext E31).other W35 (Or.inl ne_o0_b22)).ext E39).other W43 (Or.inl ne_o0_b22)).ext E44).other W47 (Or.inl ne_o0_b44)).other W48 (Or.inl ne_o0_b31)).other W53 (Or.inl ne_o0_b44)).other W54 (Or.inl ne_o0_b31)).other W59 (Or.inl ne_o0_b44)).other W60 (Or.inl ne_o0_b39)).other W66 (Or.inl ne_o0_b44)).other W67 (Or.inl ne_o0_b39))
  exact own_outV X67 hx hlk hret (hb hby d3_146) (Q := Q3c0011n2 Z o0 o1 o2 k2 h0 n0) (by rw [e67]; exact ⟨rfl, (Fr.snoc X67 (own_snoc (Fr.snoc X60 (own_snoc (Fr.snoc X54 (own_snoc (Fr.snoc X48 (own_snoc (Fr.snoc X43 (Fr.snoc X35 (Fr.snoc X25 (Fr.snoc X21 (Fr.snoc X19 (Fr.snoc X17 (Fr.snoc X15 (Fr.snoc X7 (Fr.snoc X3 (Fr.snoc X2 N0 g_o0) g_o0) g_o0) g_b11) g_b11) g_b11) g_b11) g_o0) g_b22) g_b22) g_b44) g_b31) g_b44) g_b31) g_b44) g_b39) g_b44) g_b39), q73, q74, q75, q76⟩) (by decide) (by decide)
theorem ef_3c0012n3 (m : MethodId) (x0 : Addr) (x1 : Addr) (x2 : Addr) : entryFrame m #[(.ref x0), (.ref x1), (.ref x2), (.int (3 : Int32))] 9 = mkF m 0 #[.val (.ref x0), .val (.ref x1), .val (.ref x2), .val (.int (3 : Int32)), .unset, .unset, .unset, .unset, .unset] [] := by first | (simp [entryFrame, mkF, argsToLocals, Value.category]; done) | rfl
def Q3c0012n3 (Z : State) (o0 : Addr) (o1 : Addr) (o2 : Addr) (k2 : ClassId) (h0 : Heap) (n0 : Nat) (v : Option Value) (h : Heap) (L : List Loc) : Prop := v = none ∧ Fr n0 L ∧ Keep h0 h [o0] ∧ Exa Z h o0 "com/example/slimc/slimc/game/Observation" ∧ Fld Z h o0 "com/example/slimc/slimc/game/Observation" "classOf" "[I" (.ref o2) ∧ Fld Z h o0 "com/example/slimc/slimc/game/Observation" "classCount" "I" (.int (3 : Int32))
set_option maxRecDepth 65536 in
set_option maxHeartbeats 40000000 in
theorem rm3c0012n3 (l : Launch) (Z : State) (a0 : Array Value) (hw : ∀ d ∈ tables_1, d.before a0 Z = true) (ws : List Jvm.Cond) (o0 : Addr) (o1 : Addr) (o2 : Addr) (k2 : ClassId) (h0 : Heap) (n0 : Nat) (Z0 : n0 ≤ h0.size) (E : Exa Z h0 o0 "com/example/slimc/slimc/game/Observation") (F_name : Fld Z h0 o0 "com/example/slimc/slimc/game/Observation" "name" "Ljava/lang/String;" .null) (F_classOf : Fld Z h0 o0 "com/example/slimc/slimc/game/Observation" "classOf" "[I" .null) (F_classCount : Fld Z h0 o0 "com/example/slimc/slimc/game/Observation" "classCount" "I" (.int (0 : Int32))) (F_classes : Fld Z h0 o0 "com/example/slimc/slimc/game/Observation" "classes" "[[I" .null) (g_o0 : n0 ≤ o0) (V : Arv Z h0 o2 k2 .int (4 : Int32) [(.int (0 : Int32)), (.int (0 : Int32)), (.int (1 : Int32)), (.int (2 : Int32))] (.int (0 : Int32))) (n2 : o2 ≠ o0) :
    MetFree l (⟨"com/example/slimc/slimc/game/Observation", "<init>", "(Ljava/lang/String;[II)V"⟩ : MethodName) (head1 (Jvm.Cond.code (⟨"com/example/slimc/slimc/game/Observation", "<init>", "(Ljava/lang/String;[II)V"⟩ : MethodName) prog_66_method_1_code 9 none :: ws) ({ frames := 1, cells := 7, slots := 16, locals := 14 } : Room)) (fun a U => a = #[(.ref o0), (.ref o1), (.ref o2), (.int (3 : Int32))] ∧ Z.Warmed39 U.vm ∧ U.heap = h0) (fun _ _ _ _ _ => True) (fun _ U o U' => ∃ v L, o = .returned v ∧ Q3c0012n3 Z o0 o1 o2 k2 h0 n0 v U'.heap L ∧ FrameEnd U o U' L ({ frames := 1, cells := 7, slots := 16, locals := 14 } : Room).cells ({ frames := 1, cells := 7, slots := 16, locals := 14 } : Room).slots) := by
  refine MetFree.of_bodySF (plainFor_of_name pn_1) hisR ?_
  intro p e s m args below meth c s₁ Bd hml0 hP hK
  obtain ⟨rfl, hZ, hh⟩ := hP
  have hx := Bd.exec
  have hby := Bd.bytes
  have hml : c.maxLocals = 9 := hml0
  have hown : s.vm.findClass "com/example/slimc/slimc/game/Observation" = some m.cls := findClass_of_methodNamed Bd.named
  have hnm := (name_of_methodNamed Bd.named Bd.method).1
  have X0 : Stand p l e ({ frames := 1, cells := 7, slots := 16, locals := 14 } : Room) s m #[(.ref o0), (.ref o1), (.ref o2), (.int (3 : Int32))] below meth c s₁ [] 0 0 := Stand.of_body Bd
  have e0 : s₁.heap = h0 := by rw [← hh, Bd.state]; rfl
  have N0 := Fr.nil n0
  have hret := Bd.returns
  have hlk := BodyLoose.notSynchronized Bd
  show own_Out p e below (fun o U' => ∃ v L, o = .returned v ∧ Q3c0012n3 Z o0 o1 o2 k2 h0 n0 v U'.heap L ∧ FrameEnd s o U' L ({ frames := 1, cells := 7, slots := 16, locals := 14 } : Room).cells ({ frames := 1, cells := 7, slots := 16, locals := 14 } : Room).slots) (s₁.setTop (entryFrame m #[(.ref o0), (.ref o1), (.ref o2), (.int (3 : Int32))] 9))
  refine own_of (fun t k => castTop (ef_3c0012n3 m o0 o1 o2) k) ?_
  show own_Out p e below _ (s₁.setTop (mkF m 0 #[rv o0, rv o1, rv o2, iv 3, .unset, .unset, .unset, .unset, .unset] []))
  refine o_aloadN X0 hx hby d3_0 rfl rfl (q := 1) rfl ?_
  obtain ⟨T1, X1, e1, st1⟩ := initO X0 hx hZ hown (w_ hw 24 rfl) (w_ hw 25 rfl) (w_ hw 26 rfl) e0 (g := (mkF m 1 #[rv o0, rv o1, rv o2, iv 3, .unset, .unset, .unset, .unset, .unset] [.ref o0])) rfl (by rw [hml]; rfl) rfl (hb hby d3_1) (by decide) (W := 0) (by show 2 * 0 + _ ≤ _; exact Nat.le_of_eq rfl) (by decide)
  refine own_of st1 ?_
  show own_Out p e below _ (T1.setTop (mkF m 4 #[rv o0, rv o1, rv o2, iv 3, .unset, .unset, .unset, .unset, .unset] []))
  refine o_aloadN X1 hx hby d3_4 rfl rfl (q := 5) rfl ?_
  refine o_aloadN X1 hx hby d3_5 rfl rfl (q := 6) rfl ?_
  obtain ⟨T2, h2, X2, e2, W2, st2⟩ := putF X1 hx hZ hown (host := "") (Or.inl (w_ hw 27 rfl)) Via.refl e1 F_name E (Or.inr ⟨(w_ hw 28 rfl), rfl, hnm⟩) (w_ hw 11 rfl) (ty := (.object "java/lang/String")) (by decide) rfl rfl (g := (mkF m 6 #[rv o0, rv o1, rv o2, iv 3, .unset, .unset, .unset, .unset, .unset] [.ref o1, .ref o0])) rfl rfl (hb hby d3_6)
  have Fw2 := F_name.same W2
  refine own_of st2 ?_
  show own_Out p e below _ (T2.setTop (mkF m 9 #[rv o0, rv o1, rv o2, iv 3, .unset, .unset, .unset, .unset, .unset] []))
  refine o_aloadN X2 hx hby d3_9 rfl rfl (q := 10) rfl ?_
  refine o_aloadN X2 hx hby d3_10 rfl rfl (q := 11) rfl ?_
  have q4 := (F_classOf.other W2 (Or.inr (slot_ne (Or.inr (w_ hw 30 rfl)) (Or.inr (w_ hw 28 rfl)) (by decide) (t := (.array .int)) (t' := (.object "java/lang/String")) (by decide) (by decide))))
  have q5 := (E.wr W2)
  obtain ⟨T3, h3, X3, e3, W3, st3⟩ := putF X2 hx hZ hown (host := "") (Or.inl (w_ hw 29 rfl)) Via.refl e2 q4 q5 (Or.inr ⟨(w_ hw 30 rfl), rfl, hnm⟩) (w_ hw 11 rfl) (ty := (.array .int)) (by decide) rfl rfl (g := (mkF m 11 #[rv o0, rv o1, rv o2, iv 3, .unset, .unset, .unset, .unset, .unset] [.ref o2, .ref o0])) rfl rfl (hb hby d3_11)
  have q6 := (F_classOf.other W2 (Or.inr (slot_ne (Or.inr (w_ hw 30 rfl)) (Or.inr (w_ hw 28 rfl)) (by decide) (t := (.array .int)) (t' := (.object "java/lang/String")) (by decide) (by decide))))
  have Fw3 := q6.same W3
  refine own_of st3 ?_
  show own_Out p e below _ (T3.setTop (mkF m 14 #[rv o0, rv o1, rv o2, iv 3, .unset, .unset, .unset, .unset, .unset] []))
  refine o_aloadN X3 hx hby d3_14 rfl rfl (q := 15) rfl ?_
  refine o_iloadN X3 hx hby d3_15 rfl (q := 16) rfl ?_
  have q8 := ((F_classCount.other W2 (Or.inr (slot_ne (Or.inr (w_ hw 32 rfl)) (Or.inr (w_ hw 28 rfl)) (by decide) (t := .int) (t' := (.object "java/lang/String")) (by decide) (by decide)))).other W3 (Or.inr (slot_ne (Or.inr (w_ hw 32 rfl)) (Or.inr (w_ hw 30 rfl)) (by decide) (t := .int) (t' := (.array .int)) (by decide) (by decide))))
  have q9 := (q5.wr W3)
  obtain ⟨T7, h7, X7, e7, W7, st7⟩ := putF X3 hx hZ hown (host := "") (Or.inl (w_ hw 31 rfl)) Via.refl e3 q8 q9 (Or.inr ⟨(w_ hw 32 rfl), rfl, hnm⟩) (w_ hw 11 rfl) (ty := .int) (by decide) rfl rfl (g := (mkF m 16 #[rv o0, rv o1, rv o2, iv 3, .unset, .unset, .unset, .unset, .unset] [.int 3, .ref o0])) rfl rfl (hb hby d3_16)
  have q10 := ((F_classCount.other W2 (Or.inr (slot_ne (Or.inr (w_ hw 32 rfl)) (Or.inr (w_ hw 28 rfl)) (by decide) (t := .int) (t' := (.object "java/lang/String")) (by decide) (by decide)))).other W3 (Or.inr (slot_ne (Or.inr (w_ hw 32 rfl)) (Or.inr (w_ hw 30 rfl)) (by decide) (t := .int) (t' := (.array .int)) (by decide) (by decide))))
  have Fw7 := q10.same W7
  refine own_of st7 ?_
  show own_Out p e below _ (T7.setTop (mkF m 19 #[rv o0, rv o1, rv o2, iv 3, .unset, .unset, .unset, .unset, .unset] []))
  refine o_iloadN X7 hx hby d3_19 rfl (q := 20) rfl ?_
  obtain ⟨T11, h11, k11, X11, e11, E11, A11, Ex11, st11⟩ := newPE X7 hx hZ (w_ hw 5 rfl) e7 (g := (mkF m 20 #[rv o0, rv o1, rv o2, iv 3, .unset, .unset, .unset, .unset, .unset] [.int 3])) rfl (hb hby d3_20) rfl (by decide) (cap := 3) (by decide) (by decide) (by decide) (by decide) (ad := "[I") (by decide +kernel)
  obtain ⟨b11, g11⟩ : ∃ z, z = h7.size := ⟨_, rfl⟩
  rw [← g11] at A11 Ex11 st11
  have q12 := (Nat.le_trans (Nat.le_trans (Nat.le_trans Z0 (Keep.of_wr W2).1) (Keep.of_wr W3).1) (Keep.of_wr W7).1)
  have g_b11 : n0 ≤ b11 := Nat.le_trans q12 (Nat.le_of_eq g11.symm)
  have q13 := (Nat.le_trans (Nat.le_trans (Nat.le_trans (Nat.le_refl h0.size) (Keep.of_wr W2).1) (Keep.of_wr W3).1) (Keep.of_wr W7).1)
  have sz_b11 : h0.size ≤ b11 := Nat.le_trans q13 (Nat.le_of_eq g11.symm)
  have V_b11 : Arv Z h11 b11 k11 .int (3 : Int32) [(.int (0 : Int32)), (.int (0 : Int32)), (.int (0 : Int32))] (.int (0 : Int32)) := (Arv.new A11 (by decide)).pad (pad_rep [] (.int (0 : Int32)) 3)
  refine own_of st11 ?_
  show own_Out p e below _ (T11.setTop (mkF m 22 #[rv o0, rv o1, rv o2, iv 3, .unset, .unset, .unset, .unset, .unset] [.ref b11]))
  refine o_astore X11 hx hby d3_22 rfl (l' := #[rv o0, rv o1, rv o2, iv 3, rv b11, .unset, .unset, .unset, .unset]) rfl (q := 24) rfl ?_
  refine o_aloadN X11 hx hby d3_24 rfl rfl (q := 25) rfl ?_
  refine o_astore X11 hx hby d3_25 rfl (l' := #[rv o0, rv o1, rv o2, iv 3, rv b11, rv o2, .unset, .unset, .unset]) rfl (q := 27) rfl ?_
  refine o_aload X11 hx hby d3_27 rfl rfl (q := 29) rfl ?_
  have q14 := ((((V.other W2 n2).other W3 n2).other W7 n2).ext E11)
  refine o_lenV X11 hx hby hZ e11 q14 d3_29 (q := 30) rfl ?_
  refine o_istore X11 hx hby d3_30 (l' := #[rv o0, rv o1, rv o2, iv 3, rv b11, rv o2, iv 4, .unset, .unset]) rfl (q := 32) rfl ?_
  refine o_iconst X11 hx hby d3_32 (z := 0) rfl (q := 33) rfl ?_
  refine o_istore X11 hx hby d3_33 (l' := #[rv o0, rv o1, rv o2, iv 3, rv b11, rv o2, iv 4, iv 0, .unset]) rfl (q := 35) rfl ?_
  refine t1 X11 hx hby hZ e11 q14 V_b11 rfl ⟨by decide, by decide⟩ (cc := 0) rfl ⟨by decide, by decide⟩ (y := 0) rfl (y' := 1) rfl (i' := 1) rfl (iN := 0) rfl (Nat.le_of_ble_eq_true rfl) fun T15 h15 X15 e15 W15 V15 => ?_
  have ne_o2_b11 : o2 ≠ b11 := Nat.ne_of_lt (Nat.lt_of_lt_of_le V.lt sz_b11)
  have q16 := (q14.other W15 ne_o2_b11)
  refine t1 X15 hx hby hZ e15 q16 V15 rfl ⟨by decide, by decide⟩ (cc := 0) rfl ⟨by decide, by decide⟩ (y := 1) rfl (y' := 2) rfl (i' := 2) rfl (iN := 0) rfl (Nat.le_of_ble_eq_true rfl) fun T17 h17 X17 e17 W17 V17 => ?_
  have q18 := (q16.other W17 ne_o2_b11)
  refine t1 X17 hx hby hZ e17 q18 V17 rfl ⟨by decide, by decide⟩ (cc := 1) rfl ⟨by decide, by decide⟩ (y := 0) rfl (y' := 1) rfl (i' := 3) rfl (iN := 1) rfl (Nat.le_of_ble_eq_true rfl) fun T19 h19 X19 e19 W19 V19 => ?_
  have q20 := (q18.other W19 ne_o2_b11)
  refine t1 X19 hx hby hZ e19 q20 V19 rfl ⟨by decide, by decide⟩ (cc := 2) rfl ⟨by decide, by decide⟩ (y := 0) rfl (y' := 1) rfl (i' := 4) rfl (iN := 2) rfl (Nat.le_of_ble_eq_true rfl) fun T21 h21 X21 e21 W21 V21 => ?_
  refine o_iload X21 hx hby d3_35 rfl (q := 37) rfl ?_
  refine o_iload X21 hx hby d3_37 rfl (q := 39) rfl ?_
  refine o_icY X21 hx hby d3_39 (flt (by decide : ¬ ((4 : Int32) < (4 : Int32)))).2.1 (by decide) (q := 64) (by decide) ?_
  refine o_aloadN X21 hx hby d3_64 rfl rfl (q := 65) rfl ?_
  refine o_iloadN X21 hx hby d3_65 rfl (q := 66) rfl ?_
  obtain ⟨T22, h22, k22, X22, e22, E22, A22, Ex22, O22, st22⟩ := newRA X21 hx hZ hown (ty := .int) (by decide +kernel) (w_ hw 33 rfl) (w_ hw 34 rfl) e21 (g := (mkF m 66 #[rv o0, rv o1, rv o2, iv 3, rv b11, rv o2, iv 4, iv 4, iv 2] [.int 3, .ref o0])) rfl (hb hby d3_66) rfl (by decide) (cap := 3) (by decide) (by decide) (by decide) (by decide) (ad := "[[I") (by decide +kernel)
  obtain ⟨b22, g22⟩ : ∃ z, z = h21.size := ⟨_, rfl⟩
  rw [← g22] at A22 Ex22 st22
  have q23 := (Nat.le_trans (Nat.le_trans (Nat.le_trans (Nat.le_trans (Nat.le_trans q12 E11.1) (Keep.of_wr W15).1) (Keep.of_wr W17).1) (Keep.of_wr W19).1) (Keep.of_wr W21).1)
  have g_b22 : n0 ≤ b22 := Nat.le_trans q23 (Nat.le_of_eq g22.symm)
  have q24 := (Nat.le_trans (Nat.le_trans (Nat.le_trans (Nat.le_trans (Nat.le_trans q13 E11.1) (Keep.of_wr W15).1) (Keep.of_wr W17).1) (Keep.of_wr W19).1) (Keep.of_wr W21).1)
  have sz_b22 : h0.size ≤ b22 := Nat.le_trans q24 (Nat.le_of_eq g22.symm)
  have V_b22 : Arv Z h22 b22 k22 (.array .int) (3 : Int32) [.null, .null, .null] .null := (Arv.new A22 (by decide)).pad (pad_rep [] .null 3)
  refine own_of st22 ?_
  show own_Out p e below _ (T22.setTop (mkF m 69 #[rv o0, rv o1, rv o2, iv 3, rv b11, rv o2, iv 4, iv 4, iv 2] [.ref b22, .ref o0]))
  have ne_o0_b11 : o0 ≠ b11 := Nat.ne_of_lt (Nat.lt_of_lt_of_le E.lt sz_b11)
  have q26 := (((((((((F_classes.other W2 (Or.inr (slot_ne (Or.inr (w_ hw 36 rfl)) (Or.inr (w_ hw 28 rfl)) (by decide) (t := (.array (.array .int))) (t' := (.object "java/lang/String")) (by decide) (by decide)))).other W3 (Or.inr (slot_ne (Or.inr (w_ hw 36 rfl)) (Or.inr (w_ hw 30 rfl)) (by decide) (t := (.array (.array .int))) (t' := (.array .int)) (by decide) (by decide)))).other W7 (Or.inr (slot_ne (Or.inr (w_ hw 36 rfl)) (Or.inr (w_ hw 32 rfl)) (by decide) (t := (.array (.array .int))) (t' := .int) (by decide) (by decide)))).ext E11).other W15 (Or.inl ne_o0_b11)).other W17 (Or.inl ne_o0_b11)).other W19 (Or.inl ne_o0_b11)).other W21 (Or.inl ne_o0_b11)).ext E22)
  have q27 := (((((((q9.wr W7).ext E11).wr W15).wr W17).wr W19).wr W21).ext E22)
  obtain ⟨T25, h25, X25, e25, W25, st25⟩ := putF X22 hx hZ hown (host := "") (Or.inl (w_ hw 35 rfl)) Via.refl e22 q26 q27 (Or.inr ⟨(w_ hw 36 rfl), rfl, hnm⟩) (w_ hw 11 rfl) (ty := (.array (.array .int))) (by decide) rfl rfl (g := (mkF m 69 #[rv o0, rv o1, rv o2, iv 3, rv b11, rv o2, iv 4, iv 4, iv 2] [.ref b22, .ref o0])) rfl rfl (hb hby d3_69)
  have q28 := (((((((((F_classes.other W2 (Or.inr (slot_ne (Or.inr (w_ hw 36 rfl)) (Or.inr (w_ hw 28 rfl)) (by decide) (t := (.array (.array .int))) (t' := (.object "java/lang/String")) (by decide) (by decide)))).other W3 (Or.inr (slot_ne (Or.inr (w_ hw 36 rfl)) (Or.inr (w_ hw 30 rfl)) (by decide) (t := (.array (.array .int))) (t' := (.array .int)) (by decide) (by decide)))).other W7 (Or.inr (slot_ne (Or.inr (w_ hw 36 rfl)) (Or.inr (w_ hw 32 rfl)) (by decide) (t := (.array (.array .int))) (t' := .int) (by decide) (by decide)))).ext E11).other W15 (Or.inl ne_o0_b11)).other W17 (Or.inl ne_o0_b11)).other W19 (Or.inl ne_o0_b11)).other W21 (Or.inl ne_o0_b11)).ext E22)
  have Fw25 := q28.same W25
  refine own_of st25 ?_
  show own_Out p e below _ (T25.setTop (mkF m 72 #[rv o0, rv o1, rv o2, iv 3, rv b11, rv o2, iv 4, iv 4, iv 2] []))
  refine o_iconst X25 hx hby d3_72 (z := 0) rfl (q := 73) rfl ?_
  refine o_istore X25 hx hby d3_73 (l' := #[rv o0, rv o1, rv o2, iv 3, rv b11, iv 0, iv 4, iv 4, iv 2]) rfl (q := 75) rfl ?_
  refine o_iload X25 hx hby d3_75 rfl (q := 77) rfl ?_
  refine o_iloadN X25 hx hby d3_77 rfl (q := 78) rfl ?_
  refine o_icN X25 hx hby d3_78 (tlt (by decide : (0 : Int32) < (3 : Int32))).2.1 (q := 81) rfl ?_
  refine o_aloadN X25 hx hby d3_81 rfl rfl (q := 82) rfl ?_
  refine o_getF X25 hx hZ hown hby (w_ hw 35 rfl) Via.refl e25 Fw25 d3_82 (q := 85) rfl fun T29 X29 e29 => ?_
  refine o_iload X29 hx hby d3_85 rfl (q := 87) rfl ?_
  refine o_aload X29 hx hby d3_87 rfl rfl (q := 89) rfl ?_
  refine o_iload X29 hx hby d3_89 rfl (q := 91) rfl ?_
  have q30 := ((V21.ext E22).other W25 (Ne.symm ne_o0_b11))
  refine o_iaV X29 hx hby hZ e29 q30 ⟨by decide, by decide⟩ (v := .int 2) rfl d3_91 (q := 92) rfl ?_
  obtain ⟨T31, h31, k31, X31, e31, E31, A31, Ex31, st31⟩ := newPE X29 hx hZ (w_ hw 5 rfl) e29 (g := (mkF m 92 #[rv o0, rv o1, rv o2, iv 3, rv b11, iv 0, iv 4, iv 4, iv 2] [.int 2, .int 0, .ref b22])) rfl (hb hby d3_92) rfl (by decide) (cap := 2) (by decide) (by decide) (by decide) (by decide) (ad := "[I") (by decide +kernel)
  obtain ⟨b31, g31⟩ : ∃ z, z = h25.size := ⟨_, rfl⟩
  rw [← g31] at A31 Ex31 st31
  have q32 := (Nat.le_trans (Nat.le_trans q23 E22.1) (Keep.of_wr W25).1)
  have g_b31 : n0 ≤ b31 := Nat.le_trans q32 (Nat.le_of_eq g31.symm)
  have q33 := (Nat.le_trans (Nat.le_trans q24 E22.1) (Keep.of_wr W25).1)
  have sz_b31 : h0.size ≤ b31 := Nat.le_trans q33 (Nat.le_of_eq g31.symm)
  have V_b31 : Arv Z h31 b31 k31 .int (2 : Int32) [(.int (0 : Int32)), (.int (0 : Int32))] (.int (0 : Int32)) := (Arv.new A31 (by decide)).pad (pad_rep [] (.int (0 : Int32)) 2)
  refine own_of st31 ?_
  show own_Out p e below _ (T31.setTop (mkF m 94 #[rv o0, rv o1, rv o2, iv 3, rv b11, iv 0, iv 4, iv 4, iv 2] [.ref b31, .int 0, .ref b22]))
  have ne_o0_b22 : o0 ≠ b22 := Nat.ne_of_lt (Nat.lt_of_lt_of_le E.lt sz_b22)
  have q34 := ((V_b22.other W25 (Ne.symm ne_o0_b22)).ext E31)
  refine o_stVR X31 hx hby hZ e31 q34 ⟨by decide, by decide⟩ 0 rfl (Nat.le_of_ble_eq_true rfl) O22 (Ins.self Ex31) d3_94 (q := 95) rfl fun T35 h35 X35 e35 W35 V35 => ?_
  refine o_iinc X35 hx hby d3_95 rfl (l' := #[rv o0, rv o1, rv o2, iv 3, rv b11, iv 1, iv 4, iv 4, iv 2]) rfl (q := 98) rfl ?_
  refine o_goto X35 hx hby d3_98 (by decide) (q := 75) (by decide) ?_
  refine o_iload X35 hx hby d3_75 rfl (q := 77) rfl ?_
  refine o_iloadN X35 hx hby d3_77 rfl (q := 78) rfl ?_
  refine o_icN X35 hx hby d3_78 (tlt (by decide : (1 : Int32) < (3 : Int32))).2.1 (q := 81) rfl ?_
  refine o_aloadN X35 hx hby d3_81 rfl rfl (q := 82) rfl ?_
  have q37 := ((Fw25.ext E31).other W35 (Or.inl ne_o0_b22))
  refine o_getF X35 hx hZ hown hby (w_ hw 35 rfl) Via.refl e35 q37 d3_82 (q := 85) rfl fun T36 X36 e36 => ?_
  refine o_iload X36 hx hby d3_85 rfl (q := 87) rfl ?_
  refine o_aload X36 hx hby d3_87 rfl rfl (q := 89) rfl ?_
  refine o_iload X36 hx hby d3_89 rfl (q := 91) rfl ?_
  have ne_b11_b22 : b11 ≠ b22 := Nat.ne_of_lt (Nat.lt_of_lt_of_le (Nat.lt_of_lt_of_le (Nat.lt_of_lt_of_le (Nat.lt_of_lt_of_le (Nat.lt_of_lt_of_le A11.lt (Keep.of_wr W15).1) (Keep.of_wr W17).1) (Keep.of_wr W19).1) (Keep.of_wr W21).1) (Nat.le_of_eq g22.symm))
  have q38 := ((q30.ext E31).other W35 ne_b11_b22)
  refine o_iaV X36 hx hby hZ e36 q38 ⟨by decide, by decide⟩ (v := .int 1) rfl d3_91 (q := 92) rfl ?_
  obtain ⟨T39, h39, k39, X39, e39, E39, A39, Ex39, st39⟩ := newPE X36 hx hZ (w_ hw 5 rfl) e36 (g := (mkF m 92 #[rv o0, rv o1, rv o2, iv 3, rv b11, iv 1, iv 4, iv 4, iv 2] [.int 1, .int 1, .ref b22])) rfl (hb hby d3_92) rfl (by decide) (cap := 1) (by decide) (by decide) (by decide) (by decide) (ad := "[I") (by decide +kernel)
  obtain ⟨b39, g39⟩ : ∃ z, z = h35.size := ⟨_, rfl⟩
  rw [← g39] at A39 Ex39 st39
  have q40 := (Nat.le_trans (Nat.le_trans q32 E31.1) (Keep.of_wr W35).1)
  have g_b39 : n0 ≤ b39 := Nat.le_trans q40 (Nat.le_of_eq g39.symm)
  have q41 := (Nat.le_trans (Nat.le_trans q33 E31.1) (Keep.of_wr W35).1)
  have sz_b39 : h0.size ≤ b39 := Nat.le_trans q41 (Nat.le_of_eq g39.symm)
  have V_b39 : Arv Z h39 b39 k39 .int (1 : Int32) [(.int (0 : Int32))] (.int (0 : Int32)) := (Arv.new A39 (by decide)).pad (pad_rep [] (.int (0 : Int32)) 1)
  refine own_of st39 ?_
  show own_Out p e below _ (T39.setTop (mkF m 94 #[rv o0, rv o1, rv o2, iv 3, rv b11, iv 1, iv 4, iv 4, iv 2] [.ref b39, .int 1, .ref b22]))
  have q42 := (V35.ext E39)
  refine o_stVR X39 hx hby hZ e39 q42 ⟨by decide, by decide⟩ 1 rfl (Nat.le_of_ble_eq_true rfl) O22 (Ins.self Ex39) d3_94 (q := 95) rfl fun T43 h43 X43 e43 W43 V43 => ?_
  refine o_iinc X43 hx hby d3_95 rfl (l' := #[rv o0, rv o1, rv o2, iv 3, rv b11, iv 2, iv 4, iv 4, iv 2]) rfl (q := 98) rfl ?_
  refine o_goto X43 hx hby d3_98 (by decide) (q := 75) (by decide) ?_
  refine o_iload X43 hx hby d3_75 rfl (q := 77) rfl ?_
  refine o_iloadN X43 hx hby d3_77 rfl (q := 78) rfl ?_
  refine o_icN X43 hx hby d3_78 (tlt (by decide : (2 : Int32) < (3 : Int32))).2.1 (q := 81) rfl ?_
  refine o_aloadN X43 hx hby d3_81 rfl rfl (q := 82) rfl ?_
  have q45 := ((q37.ext E39).other W43 (Or.inl ne_o0_b22))
  refine o_getF X43 hx hZ hown hby (w_ hw 35 rfl) Via.refl e43 q45 d3_82 (q := 85) rfl fun T44 X44 e44 => ?_
  refine o_iload X44 hx hby d3_85 rfl (q := 87) rfl ?_
  refine o_aload X44 hx hby d3_87 rfl rfl (q := 89) rfl ?_
  refine o_iload X44 hx hby d3_89 rfl (q := 91) rfl ?_
  have q46 := ((q38.ext E39).other W43 ne_b11_b22)
  refine o_iaV X44 hx hby hZ e44 q46 ⟨by decide, by decide⟩ (v := .int 1) rfl d3_91 (q := 92) rfl ?_
  obtain ⟨T47, h47, k47, X47, e47, E47, A47, Ex47, st47⟩ := newPE X44 hx hZ (w_ hw 5 rfl) e44 (g := (mkF m 92 #[rv o0, rv o1, rv o2, iv 3, rv b11, iv 2, iv 4, iv 4, iv 2] [.int 1, .int 2, .ref b22])) rfl (hb hby d3_92) rfl (by decide) (cap := 1) (by decide) (by decide) (by decide) (by decide) (ad := "[I") (by decide +kernel)
  obtain ⟨b47, g47⟩ : ∃ z, z = h43.size := ⟨_, rfl⟩
  rw [← g47] at A47 Ex47 st47
  have q48 := (Nat.le_trans (Nat.le_trans q40 E39.1) (Keep.of_wr W43).1)
  have g_b47 : n0 ≤ b47 := Nat.le_trans q48 (Nat.le_of_eq g47.symm)
  have q49 := (Nat.le_trans (Nat.le_trans q41 E39.1) (Keep.of_wr W43).1)
  have sz_b47 : h0.size ≤ b47 := Nat.le_trans q49 (Nat.le_of_eq g47.symm)
  have V_b47 : Arv Z h47 b47 k47 .int (1 : Int32) [(.int (0 : Int32))] (.int (0 : Int32)) := (Arv.new A47 (by decide)).pad (pad_rep [] (.int (0 : Int32)) 1)
  refine own_of st47 ?_
  show own_Out p e below _ (T47.setTop (mkF m 94 #[rv o0, rv o1, rv o2, iv 3, rv b11, iv 2, iv 4, iv 4, iv 2] [.ref b47, .int 2, .ref b22]))
  have q50 := (V43.ext E47)
  refine o_stVR X47 hx hby hZ e47 q50 ⟨by decide, by decide⟩ 2 rfl (Nat.le_of_ble_eq_true rfl) O22 (Ins.self Ex47) d3_94 (q := 95) rfl fun T51 h51 X51 e51 W51 V51 => ?_
  refine o_iinc X51 hx hby d3_95 rfl (l' := #[rv o0, rv o1, rv o2, iv 3, rv b11, iv 3, iv 4, iv 4, iv 2]) rfl (q := 98) rfl ?_
  refine o_goto X51 hx hby d3_98 (by decide) (q := 75) (by decide) ?_
  refine o_iload X51 hx hby d3_75 rfl (q := 77) rfl ?_
  refine o_iloadN X51 hx hby d3_77 rfl (q := 78) rfl ?_
  refine o_icY X51 hx hby d3_78 (flt (by decide : ¬ ((3 : Int32) < (3 : Int32)))).2.1 (by decide) (q := 101) (by decide) ?_
  refine o_iloadN X51 hx hby d3_101 rfl (q := 102) rfl ?_
  obtain ⟨T52, h52, k52, X52, e52, E52, A52, Ex52, st52⟩ := newPE X51 hx hZ (w_ hw 5 rfl) e51 (g := (mkF m 102 #[rv o0, rv o1, rv o2, iv 3, rv b11, iv 3, iv 4, iv 4, iv 2] [.int 3])) rfl (hb hby d3_102) rfl (by decide) (cap := 3) (by decide) (by decide) (by decide) (by decide) (ad := "[I") (by decide +kernel)
  obtain ⟨b52, g52⟩ : ∃ z, z = h51.size := ⟨_, rfl⟩
  rw [← g52] at A52 Ex52 st52
  have q53 := (Nat.le_trans (Nat.le_trans q48 E47.1) (Keep.of_wr W51).1)
  have g_b52 : n0 ≤ b52 := Nat.le_trans q53 (Nat.le_of_eq g52.symm)
  have q54 := (Nat.le_trans (Nat.le_trans q49 E47.1) (Keep.of_wr W51).1)
  have sz_b52 : h0.size ≤ b52 := Nat.le_trans q54 (Nat.le_of_eq g52.symm)
  have V_b52 : Arv Z h52 b52 k52 .int (3 : Int32) [(.int (0 : Int32)), (.int (0 : Int32)), (.int (0 : Int32))] (.int (0 : Int32)) := (Arv.new A52 (by decide)).pad (pad_rep [] (.int (0 : Int32)) 3)
  refine own_of st52 ?_
  show own_Out p e below _ (T52.setTop (mkF m 104 #[rv o0, rv o1, rv o2, iv 3, rv b11, iv 3, iv 4, iv 4, iv 2] [.ref b52]))
  refine o_astore X52 hx hby d3_104 rfl (l' := #[rv o0, rv o1, rv o2, iv 3, rv b11, rv b52, iv 4, iv 4, iv 2]) rfl (q := 106) rfl ?_
  refine o_iconst X52 hx hby d3_106 (z := 0) rfl (q := 107) rfl ?_
  refine o_istore X52 hx hby d3_107 (l' := #[rv o0, rv o1, rv o2, iv 3, rv b11, rv b52, iv 0, iv 4, iv 2]) rfl (q := 109) rfl ?_
  have ne_o2_b22 : o2 ≠ b22 := Nat.ne_of_lt (Nat.lt_of_lt_of_le V.lt sz_b22)
  have q57 := ((((((((((q20.other W21 ne_o2_b11).ext E22).other W25 n2).ext E31).other W35 ne_o2_b22).ext E39).other W43 ne_o2_b22).ext E47).other W51 ne_o2_b22).ext E52)
  have q58 := (((q45.ext E47).other W51 (Or.inl ne_o0_b22)).ext E52)
  have q59 := (V51.ext E52)
  have ne_b22_b31 : b22 ≠ b31 := Nat.ne_of_lt (Nat.lt_of_lt_of_le (Nat.lt_of_lt_of_le A22.lt (Keep.of_wr W25).1) (Nat.le_of_eq g31.symm))
  have q60 := ((((((V_b31.other W35 (Ne.symm ne_b22_b31)).ext E39).other W43 (Ne.symm ne_b22_b31)).ext E47).other W51 (Ne.symm ne_b22_b31)).ext E52)
  have ne_b31_b52 : b31 ≠ b52 := Nat.ne_of_lt (Nat.lt_of_lt_of_le (Nat.lt_of_lt_of_le (Nat.lt_of_lt_of_le (Nat.lt_of_lt_of_le (Nat.lt_of_lt_of_le (Nat.lt_of_lt_of_le A31.lt (Keep.of_wr W35).1) E39.1) (Keep.of_wr W43).1) E47.1) (Keep.of_wr W51).1) (Nat.le_of_eq g52.symm))
  refine t3 X52 hx hby hZ e52 hw hown q57 q58 q59 V_b52 q60 ne_b31_b52 ⟨by decide, by decide⟩ (x := 0) rfl ⟨by decide, by decide⟩ rfl (f := 0) rfl ⟨by decide, by decide⟩ (f' := 1) rfl (i' := 1) rfl (iN := 0) rfl (Nat.le_of_ble_eq_true rfl) (jN := 0) rfl (Nat.le_of_ble_eq_true rfl) fun T56 h55 h56 X56 e56 W55 W56 V55 V56 => ?_
  have ne_o2_b52 : o2 ≠ b52 := Nat.ne_of_lt (Nat.lt_of_lt_of_le V.lt sz_b52)
  have ne_o2_b31 : o2 ≠ b31 := Nat.ne_of_lt (Nat.lt_of_lt_of_le V.lt sz_b31)
  have q63 := ((q57.other W55 ne_o2_b52).other W56 ne_o2_b31)
  have ne_o0_b52 : o0 ≠ b52 := Nat.ne_of_lt (Nat.lt_of_lt_of_le E.lt sz_b52)
  have ne_o0_b31 : o0 ≠ b31 := Nat.ne_of_lt (Nat.lt_of_lt_of_le E.lt sz_b31)
  have q64 := ((q58.other W55 (Or.inl ne_o0_b52)).other W56 (Or.inl ne_o0_b31))
  have ne_b22_b52 : b22 ≠ b52 := Nat.ne_of_lt (Nat.lt_of_lt_of_le (Nat.lt_of_lt_of_le (Nat.lt_of_lt_of_le (Nat.lt_of_lt_of_le (Nat.lt_of_lt_of_le (Nat.lt_of_lt_of_le (Nat.lt_of_lt_of_le (Nat.lt_of_lt_of_le A22.lt (Keep.of_wr W25).1) E31.1) (Keep.of_wr W35).1) E39.1) (Keep.of_wr W43).1) E47.1) (Keep.of_wr W51).1) (Nat.le_of_eq g52.symm))
  have q65 := ((q59.other W55 ne_b22_b52).other W56 ne_b22_b31)
  have q66 := (V55.other W56 (Ne.symm ne_b31_b52))
  refine t3 X56 hx hby hZ e56 hw hown q63 q64 q65 q66 V56 ne_b31_b52 ⟨by decide, by decide⟩ (x := 0) rfl ⟨by decide, by decide⟩ rfl (f := 1) rfl ⟨by decide, by decide⟩ (f' := 2) rfl (i' := 2) rfl (iN := 0) rfl (Nat.le_of_ble_eq_true rfl) (jN := 1) rfl (Nat.le_of_ble_eq_true rfl) fun T62 h61 h62 X62 e62 W61 W62 V61 V62 => ?_
  have q69 := ((q63.other W61 ne_o2_b52).other W62 ne_o2_b31)
  have q70 := ((q64.other W61 (Or.inl ne_o0_b52)).other W62 (Or.inl ne_o0_b31))
  have q71 := ((q65.other W61 ne_b22_b52).other W62 ne_b22_b31)
  have q72 := (V61.other W62 (Ne.symm ne_b31_b52))
  have ne_b22_b39 : b22 ≠ b39 := Nat.ne_of_lt (Nat.lt_of_lt_of_le (Nat.lt_of_lt_of_le (Nat.lt_of_lt_of_le (Nat.lt_of_lt_of_le A22.lt (Keep.of_wr W25).1) E31.1) (Keep.of_wr W35).1) (Nat.le_of_eq g39.symm))
  have ne_b39_b52 : b39 ≠ b52 := Nat.ne_of_lt (Nat.lt_of_lt_of_le (Nat.lt_of_lt_of_le (Nat.lt_of_lt_of_le (Nat.lt_of_lt_of_le A39.lt (Keep.of_wr W43).1) E47.1) (Keep.of_wr W51).1) (Nat.le_of_eq g52.symm))
  have ne_b31_b39 : b31 ≠ b39 := Nat.ne_of_lt (Nat.lt_of_lt_of_le (Nat.lt_of_lt_of_le A31.lt (Keep.of_wr W35).1) (Nat.le_of_eq g39.symm))
  have q73 := ((((((((V_b39.other W43 (Ne.symm ne_b22_b39)).ext E47).other W51 (Ne.symm ne_b22_b39)).ext E52).other W55 ne_b39_b52).other W56 (Ne.symm ne_b31_b39)).other W61 ne_b39_b52).other W62 (Ne.symm ne_b31_b39))
  refine t3 X62 hx hby hZ e62 hw hown q69 q70 q71 q72 q73 ne_b39_b52 ⟨by decide, by decide⟩ (x := 1) rfl ⟨by decide, by decide⟩ rfl (f := 0) rfl ⟨by decide, by decide⟩ (f' := 1) rfl (i' := 3) rfl (iN := 1) rfl (Nat.le_of_ble_eq_true rfl) (jN := 0) rfl (Nat.le_of_ble_eq_true rfl) fun T68 h67 h68 X68 e68 W67 W68 V67 V68 => ?_
  have ne_o2_b39 : o2 ≠ b39 := Nat.ne_of_lt (Nat.lt_of_lt_of_le V.lt sz_b39)
  have q76 := ((q69.other W67 ne_o2_b52).other W68 ne_o2_b39)
  have ne_o0_b39 : o0 ≠ b39 := Nat.ne_of_lt (Nat.lt_of_lt_of_le E.lt sz_b39)
  have q77 := ((q70.other W67 (Or.inl ne_o0_b52)).other W68 (Or.inl ne_o0_b39))
  have q78 := ((q71.other W67 ne_b22_b52).other W68 ne_b22_b39)
  have q79 := (V67.other W68 (Ne.symm ne_b39_b52))
  have ne_b22_b47 : b22 ≠ b47 := Nat.ne_of_lt (Nat.lt_of_lt_of_le (Nat.lt_of_lt_of_le (Nat.lt_of_lt_of_le (Nat.lt_of_lt_of_le (Nat.lt_of_lt_of_le (Nat.lt_of_lt_of_le A22.lt (Keep.of_wr W25).1) E31.1) (Keep.of_wr W35).1) E39.1) (Keep.of_wr W43).1) (Nat.le_of_eq g47.symm))
  have ne_b47_b52 : b47 ≠ b52 := Nat.ne_of_lt (Nat.lt_of_lt_of_le (Nat.lt_of_lt_of_le A47.lt (Keep.of_wr W51).1) (Nat.le_of_eq g52.symm))
  have ne_b31_b47 : b31 ≠ b47 := Nat.ne_of_lt (Nat.lt_of_lt_of_le (Nat.lt_of_lt_of_le (Nat.lt_of_lt_of_le (Nat.lt_of_lt_of_le A31.lt (Keep.of_wr W35).1) E39.1) (Keep.of_wr W43).1) (Nat.le_of_eq g47.symm))
  have ne_b39_b47 : b39 ≠ b47 := Nat.ne_of_lt (Nat.lt_of_lt_of_le (Nat.lt_of_lt_of_le A39.lt (Keep.of_wr W43).1) (Nat.le_of_eq g47.symm))
  have q80 := ((((((((V_b47.other W51 (Ne.symm ne_b22_b47)).ext E52).other W55 ne_b47_b52).other W56 (Ne.symm ne_b31_b47)).other W61 ne_b47_b52).other W62 (Ne.symm ne_b31_b47)).other W67 ne_b47_b52).other W68 (Ne.symm ne_b39_b47))
  refine t3 X68 hx hby hZ e68 hw hown q76 q77 q78 q79 q80 ne_b47_b52 ⟨by decide, by decide⟩ (x := 2) rfl ⟨by decide, by decide⟩ rfl (f := 0) rfl ⟨by decide, by decide⟩ (f' := 1) rfl (i' := 4) rfl (iN := 2) rfl (Nat.le_of_ble_eq_true rfl) (jN := 0) rfl (Nat.le_of_ble_eq_true rfl) fun T75 h74 h75 X75 e75 W74 W75 V74 V75 => ?_
  refine o_iload X75 hx hby d3_109 rfl (q := 111) rfl ?_
  refine o_aloadN X75 hx hby d3_111 rfl rfl (q := 112) rfl ?_
  have ne_o2_b47 : o2 ≠ b47 := Nat.ne_of_lt (Nat.lt_of_lt_of_le V.lt sz_b47)
  have q81 := ((q76.other W74 ne_o2_b52).other W75 ne_o2_b47)
  refine o_lenV X75 hx hby hZ e75 q81 d3_112 (q := 113) rfl ?_
  refine o_icY X75 hx hby d3_113 (flt (by decide : ¬ ((4 : Int32) < (4 : Int32)))).2.1 (by decide) (q := 146) (by decide) ?_
  have q82 := ((((((((((((((((((((((((((Keep.refl h0 [o0]).wr W2 (Or.inl (List.mem_of_getElem? (i := 0) rfl))).wr W3 (Or.inl (List.mem_of_getElem? (i := 0) rfl))).wr W7 (Or.inl (List.mem_of_getElem? (i := 0) rfl))).ext E11).wr W15 (Or.inr sz_b11)).wr W17 (Or.inr sz_b11)).wr W19 (Or.inr sz_b11)).wr W21 (Or.inr sz_b11)).ext E22).wr W25 (Or.inl (List.mem_of_getElem? (i := 0) rfl))).ext E31).wr W35 (Or.inr sz_b22)).ext E39).wr W43 (Or.inr sz_b22)).ext E47).wr W51 (Or.inr sz_b22)).ext E52).wr W55 (Or.inr sz_b52)).wr W56 (Or.inr sz_b31)).wr W61 (Or.inr sz_b52)).wr W62 (Or.inr sz_b31)).wr W67 (Or.inr sz_b52)).wr W68 (Or.inr sz_b39)).wr W74 (Or.inr sz_b52)).wr W75 (Or.inr sz_b47))
  have q83 := ((((((((((((((((q27.wr W25).ext E31).wr W35).ext E39).wr W43).ext E47).wr W51).ext E52).wr W55).wr W56).wr W61).wr W62).wr W67).wr W68).wr W74).wr W75)
  have ne_o0_b47 : o0 ≠ b47 := Nat.ne_of_lt (Nat.lt_of_lt_of_le E.lt sz_b47)
  have q84 := (((((((((((((((((((((((Fw3.other W7 (Or.inr (slot_ne (Or.inr (w_ hw 30 rfl)) (Or.inr (w_ hw 32 rfl)) (by decide) (t := (.array .int)) (t' := .int) (by decide) (by decide)))).ext E11).other W15 (Or.inl ne_o0_b11)).other W17 (Or.inl ne_o0_b11)).other W19 (Or.inl ne_o0_b11)).other W21 (Or.inl ne_o0_b11)).ext E22).other W25 (Or.inr (slot_ne (Or.inr (w_ hw 30 rfl)) (Or.inr (w_ hw 36 rfl)) (by decide) (t := (.array .int)) (t' := (.array (.array .int))) (by decide) (by decide)))).ext E31).other W35 (Or.inl ne_o0_b22)).ext E39).other W43 (Or.inl ne_o0_b22)).ext E47).other W51 (Or.inl ne_o0_b22)).ext E52).other W55 (Or.inl ne_o0_b52)).other W56 (Or.inl ne_o0_b31)).other W61 (Or.inl ne_o0_b52)).other W62 (Or.inl ne_o0_b31)).other W67 (Or.inl ne_o0_b52)).other W68 (Or.inl ne_o0_b39)).other W74 (Or.inl ne_o0_b52)).other W75 (Or.inl ne_o0_b47))
  have q85 := ((((((((((((((((((((((Fw7.ext E11).other W15 (Or.inl ne_o0_b11)).other W17 (Or.inl ne_o0_b11)).other W19 (Or.inl ne_o0_b11)).other W21 (Or.inl ne_o0_b11)).ext E22).other W25 (Or.inr (slot_ne (Or.inr (w_ hw 32 rfl)) (Or.inr (w_ hw 36 rfl)) (by decide) (t := .int) (t' := (.array (.array .int))) (by decide) (by decide)))).ext E31).other W35 (Or.inl ne_o0_b22)).ext E39).other W43 (Or.inl ne_o0_b22)).ext E47).other W51 (Or.inl ne_o0_b22)).ext E52).other W55 (Or.inl ne_o0_b52)).other W56 (Or.inl ne_o0_b31)).other W61 (Or.inl ne_o0_b52)).other W62 (Or.inl ne_o0_b31)).other W67 (Or.inl ne_o0_b52)).other W68 (Or.inl ne_o0_b39)).other W74 (Or.inl ne_o0_b52)).other W75 (Or.inl ne_o0_b47))
  exact own_outV X75 hx hlk hret (hb hby d3_146) (Q := Q3c0012n3 Z o0 o1 o2 k2 h0 n0) (by rw [e75]; exact ⟨rfl, (Fr.snoc X75 (own_snoc (Fr.snoc X68 (own_snoc (Fr.snoc X62 (own_snoc (Fr.snoc X56 (own_snoc (Fr.snoc X51 (Fr.snoc X43 (Fr.snoc X35 (Fr.snoc X25 (Fr.snoc X21 (Fr.snoc X19 (Fr.snoc X17 (Fr.snoc X15 (Fr.snoc X7 (Fr.snoc X3 (Fr.snoc X2 N0 g_o0) g_o0) g_o0) g_b11) g_b11) g_b11) g_b11) g_o0) g_b22) g_b22) g_b22) g_b52) g_b31) g_b52) g_b31) g_b52) g_b39) g_b52) g_b47), q82, q83, q84, q85⟩) (by decide) (by decide)
theorem ef_3c01n2 (m : MethodId) (x0 : Addr) (x1 : Addr) (x2 : Addr) : entryFrame m #[(.ref x0), (.ref x1), (.ref x2), (.int (2 : Int32))] 9 = mkF m 0 #[.val (.ref x0), .val (.ref x1), .val (.ref x2), .val (.int (2 : Int32)), .unset, .unset, .unset, .unset, .unset] [] := by first | (simp [entryFrame, mkF, argsToLocals, Value.category]; done) | rfl
def Q3c01n2 (Z : State) (o0 : Addr) (o1 : Addr) (o2 : Addr) (k2 : ClassId) (h0 : Heap) (n0 : Nat) (v : Option Value) (h : Heap) (L : List Loc) : Prop := v = none ∧ Fr n0 L ∧ Keep h0 h [o0] ∧ Exa Z h o0 "com/example/slimc/slimc/game/Observation" ∧ Fld Z h o0 "com/example/slimc/slimc/game/Observation" "classOf" "[I" (.ref o2) ∧ Fld Z h o0 "com/example/slimc/slimc/game/Observation" "classCount" "I" (.int (2 : Int32))
set_option maxRecDepth 65536 in
set_option maxHeartbeats 40000000 in
theorem rm3c01n2 (l : Launch) (Z : State) (a0 : Array Value) (hw : ∀ d ∈ tables_1, d.before a0 Z = true) (ws : List Jvm.Cond) (o0 : Addr) (o1 : Addr) (o2 : Addr) (k2 : ClassId) (h0 : Heap) (n0 : Nat) (Z0 : n0 ≤ h0.size) (E : Exa Z h0 o0 "com/example/slimc/slimc/game/Observation") (F_name : Fld Z h0 o0 "com/example/slimc/slimc/game/Observation" "name" "Ljava/lang/String;" .null) (F_classOf : Fld Z h0 o0 "com/example/slimc/slimc/game/Observation" "classOf" "[I" .null) (F_classCount : Fld Z h0 o0 "com/example/slimc/slimc/game/Observation" "classCount" "I" (.int (0 : Int32))) (F_classes : Fld Z h0 o0 "com/example/slimc/slimc/game/Observation" "classes" "[[I" .null) (g_o0 : n0 ≤ o0) (V : Arv Z h0 o2 k2 .int (2 : Int32) [(.int (0 : Int32)), (.int (1 : Int32))] (.int (0 : Int32))) (n2 : o2 ≠ o0) :
    MetFree l (⟨"com/example/slimc/slimc/game/Observation", "<init>", "(Ljava/lang/String;[II)V"⟩ : MethodName) (head1 (Jvm.Cond.code (⟨"com/example/slimc/slimc/game/Observation", "<init>", "(Ljava/lang/String;[II)V"⟩ : MethodName) prog_66_method_1_code 9 none :: ws) ({ frames := 1, cells := 7, slots := 16, locals := 14 } : Room)) (fun a U => a = #[(.ref o0), (.ref o1), (.ref o2), (.int (2 : Int32))] ∧ Z.Warmed39 U.vm ∧ U.heap = h0) (fun _ _ _ _ _ => True) (fun _ U o U' => ∃ v L, o = .returned v ∧ Q3c01n2 Z o0 o1 o2 k2 h0 n0 v U'.heap L ∧ FrameEnd U o U' L ({ frames := 1, cells := 7, slots := 16, locals := 14 } : Room).cells ({ frames := 1, cells := 7, slots := 16, locals := 14 } : Room).slots) := by
  refine MetFree.of_bodySF (plainFor_of_name pn_1) hisR ?_
  intro p e s m args below meth c s₁ Bd hml0 hP hK
  obtain ⟨rfl, hZ, hh⟩ := hP
  have hx := Bd.exec
  have hby := Bd.bytes
  have hml : c.maxLocals = 9 := hml0
  have hown : s.vm.findClass "com/example/slimc/slimc/game/Observation" = some m.cls := findClass_of_methodNamed Bd.named
  have hnm := (name_of_methodNamed Bd.named Bd.method).1
  have X0 : Stand p l e ({ frames := 1, cells := 7, slots := 16, locals := 14 } : Room) s m #[(.ref o0), (.ref o1), (.ref o2), (.int (2 : Int32))] below meth c s₁ [] 0 0 := Stand.of_body Bd
  have e0 : s₁.heap = h0 := by rw [← hh, Bd.state]; rfl
  have N0 := Fr.nil n0
  have hret := Bd.returns
  have hlk := BodyLoose.notSynchronized Bd
  show own_Out p e below (fun o U' => ∃ v L, o = .returned v ∧ Q3c01n2 Z o0 o1 o2 k2 h0 n0 v U'.heap L ∧ FrameEnd s o U' L ({ frames := 1, cells := 7, slots := 16, locals := 14 } : Room).cells ({ frames := 1, cells := 7, slots := 16, locals := 14 } : Room).slots) (s₁.setTop (entryFrame m #[(.ref o0), (.ref o1), (.ref o2), (.int (2 : Int32))] 9))
  refine own_of (fun t k => castTop (ef_3c01n2 m o0 o1 o2) k) ?_
  show own_Out p e below _ (s₁.setTop (mkF m 0 #[rv o0, rv o1, rv o2, iv 2, .unset, .unset, .unset, .unset, .unset] []))
  refine o_aloadN X0 hx hby d3_0 rfl rfl (q := 1) rfl ?_
  obtain ⟨T1, X1, e1, st1⟩ := initO X0 hx hZ hown (w_ hw 24 rfl) (w_ hw 25 rfl) (w_ hw 26 rfl) e0 (g := (mkF m 1 #[rv o0, rv o1, rv o2, iv 2, .unset, .unset, .unset, .unset, .unset] [.ref o0])) rfl (by rw [hml]; rfl) rfl (hb hby d3_1) (by decide) (W := 0) (by show 2 * 0 + _ ≤ _; exact Nat.le_of_eq rfl) (by decide)
  refine own_of st1 ?_
  show own_Out p e below _ (T1.setTop (mkF m 4 #[rv o0, rv o1, rv o2, iv 2, .unset, .unset, .unset, .unset, .unset] []))
  refine o_aloadN X1 hx hby d3_4 rfl rfl (q := 5) rfl ?_
  refine o_aloadN X1 hx hby d3_5 rfl rfl (q := 6) rfl ?_
  obtain ⟨T2, h2, X2, e2, W2, st2⟩ := putF X1 hx hZ hown (host := "") (Or.inl (w_ hw 27 rfl)) Via.refl e1 F_name E (Or.inr ⟨(w_ hw 28 rfl), rfl, hnm⟩) (w_ hw 11 rfl) (ty := (.object "java/lang/String")) (by decide) rfl rfl (g := (mkF m 6 #[rv o0, rv o1, rv o2, iv 2, .unset, .unset, .unset, .unset, .unset] [.ref o1, .ref o0])) rfl rfl (hb hby d3_6)
  have Fw2 := F_name.same W2
  refine own_of st2 ?_
  show own_Out p e below _ (T2.setTop (mkF m 9 #[rv o0, rv o1, rv o2, iv 2, .unset, .unset, .unset, .unset, .unset] []))
  refine o_aloadN X2 hx hby d3_9 rfl rfl (q := 10) rfl ?_
  refine o_aloadN X2 hx hby d3_10 rfl rfl (q := 11) rfl ?_
  have q4 := (F_classOf.other W2 (Or.inr (slot_ne (Or.inr (w_ hw 30 rfl)) (Or.inr (w_ hw 28 rfl)) (by decide) (t := (.array .int)) (t' := (.object "java/lang/String")) (by decide) (by decide))))
  have q5 := (E.wr W2)
  obtain ⟨T3, h3, X3, e3, W3, st3⟩ := putF X2 hx hZ hown (host := "") (Or.inl (w_ hw 29 rfl)) Via.refl e2 q4 q5 (Or.inr ⟨(w_ hw 30 rfl), rfl, hnm⟩) (w_ hw 11 rfl) (ty := (.array .int)) (by decide) rfl rfl (g := (mkF m 11 #[rv o0, rv o1, rv o2, iv 2, .unset, .unset, .unset, .unset, .unset] [.ref o2, .ref o0])) rfl rfl (hb hby d3_11)
  have q6 := (F_classOf.other W2 (Or.inr (slot_ne (Or.inr (w_ hw 30 rfl)) (Or.inr (w_ hw 28 rfl)) (by decide) (t := (.array .int)) (t' := (.object "java/lang/String")) (by decide) (by decide))))
  have Fw3 := q6.same W3
  refine own_of st3 ?_
  show own_Out p e below _ (T3.setTop (mkF m 14 #[rv o0, rv o1, rv o2, iv 2, .unset, .unset, .unset, .unset, .unset] []))
  refine o_aloadN X3 hx hby d3_14 rfl rfl (q := 15) rfl ?_
  refine o_iloadN X3 hx hby d3_15 rfl (q := 16) rfl ?_
  have q8 := ((F_classCount.other W2 (Or.inr (slot_ne (Or.inr (w_ hw 32 rfl)) (Or.inr (w_ hw 28 rfl)) (by decide) (t := .int) (t' := (.object "java/lang/String")) (by decide) (by decide)))).other W3 (Or.inr (slot_ne (Or.inr (w_ hw 32 rfl)) (Or.inr (w_ hw 30 rfl)) (by decide) (t := .int) (t' := (.array .int)) (by decide) (by decide))))
  have q9 := (q5.wr W3)
  obtain ⟨T7, h7, X7, e7, W7, st7⟩ := putF X3 hx hZ hown (host := "") (Or.inl (w_ hw 31 rfl)) Via.refl e3 q8 q9 (Or.inr ⟨(w_ hw 32 rfl), rfl, hnm⟩) (w_ hw 11 rfl) (ty := .int) (by decide) rfl rfl (g := (mkF m 16 #[rv o0, rv o1, rv o2, iv 2, .unset, .unset, .unset, .unset, .unset] [.int 2, .ref o0])) rfl rfl (hb hby d3_16)
  have q10 := ((F_classCount.other W2 (Or.inr (slot_ne (Or.inr (w_ hw 32 rfl)) (Or.inr (w_ hw 28 rfl)) (by decide) (t := .int) (t' := (.object "java/lang/String")) (by decide) (by decide)))).other W3 (Or.inr (slot_ne (Or.inr (w_ hw 32 rfl)) (Or.inr (w_ hw 30 rfl)) (by decide) (t := .int) (t' := (.array .int)) (by decide) (by decide))))
  have Fw7 := q10.same W7
  refine own_of st7 ?_
  show own_Out p e below _ (T7.setTop (mkF m 19 #[rv o0, rv o1, rv o2, iv 2, .unset, .unset, .unset, .unset, .unset] []))
  refine o_iloadN X7 hx hby d3_19 rfl (q := 20) rfl ?_
  obtain ⟨T11, h11, k11, X11, e11, E11, A11, Ex11, st11⟩ := newPE X7 hx hZ (w_ hw 5 rfl) e7 (g := (mkF m 20 #[rv o0, rv o1, rv o2, iv 2, .unset, .unset, .unset, .unset, .unset] [.int 2])) rfl (hb hby d3_20) rfl (by decide) (cap := 2) (by decide) (by decide) (by decide) (by decide) (ad := "[I") (by decide +kernel)
  obtain ⟨b11, g11⟩ : ∃ z, z = h7.size := ⟨_, rfl⟩
  rw [← g11] at A11 Ex11 st11
  have q12 := (Nat.le_trans (Nat.le_trans (Nat.le_trans Z0 (Keep.of_wr W2).1) (Keep.of_wr W3).1) (Keep.of_wr W7).1)
  have g_b11 : n0 ≤ b11 := Nat.le_trans q12 (Nat.le_of_eq g11.symm)
  have q13 := (Nat.le_trans (Nat.le_trans (Nat.le_trans (Nat.le_refl h0.size) (Keep.of_wr W2).1) (Keep.of_wr W3).1) (Keep.of_wr W7).1)
  have sz_b11 : h0.size ≤ b11 := Nat.le_trans q13 (Nat.le_of_eq g11.symm)
  have V_b11 : Arv Z h11 b11 k11 .int (2 : Int32) [(.int (0 : Int32)), (.int (0 : Int32))] (.int (0 : Int32)) := (Arv.new A11 (by decide)).pad (pad_rep [] (.int (0 : Int32)) 2)
  refine own_of st11 ?_
  show own_Out p e below _ (T11.setTop (mkF m 22 #[rv o0, rv o1, rv o2, iv 2, .unset, .unset, .unset, .unset, .unset] [.ref b11]))
  refine o_astore X11 hx hby d3_22 rfl (l' := #[rv o0, rv o1, rv o2, iv 2, rv b11, .unset, .unset, .unset, .unset]) rfl (q := 24) rfl ?_
  refine o_aloadN X11 hx hby d3_24 rfl rfl (q := 25) rfl ?_
  refine o_astore X11 hx hby d3_25 rfl (l' := #[rv o0, rv o1, rv o2, iv 2, rv b11, rv o2, .unset, .unset, .unset]) rfl (q := 27) rfl ?_
  refine o_aload X11 hx hby d3_27 rfl rfl (q := 29) rfl ?_
  have q14 := ((((V.other W2 n2).other W3 n2).other W7 n2).ext E11)
  refine o_lenV X11 hx hby hZ e11 q14 d3_29 (q := 30) rfl ?_
  refine o_istore X11 hx hby d3_30 (l' := #[rv o0, rv o1, rv o2, iv 2, rv b11, rv o2, iv 2, .unset, .unset]) rfl (q := 32) rfl ?_
  refine o_iconst X11 hx hby d3_32 (z := 0) rfl (q := 33) rfl ?_
  refine o_istore X11 hx hby d3_33 (l' := #[rv o0, rv o1, rv o2, iv 2, rv b11, rv o2, iv 2, iv 0, .unset]) rfl (q := 35) rfl ?_
  refine t1 X11 hx hby hZ e11 q14 V_b11 rfl ⟨by decide, by decide⟩ (cc := 0) rfl ⟨by decide, by decide⟩ (y := 0) rfl (y' := 1) rfl (i' := 1) rfl (iN := 0) rfl (Nat.le_of_ble_eq_true rfl) fun T15 h15 X15 e15 W15 V15 => ?_
  have ne_o2_b11 : o2 ≠ b11 := Nat.ne_of_lt (Nat.lt_of_lt_of_le V.lt sz_b11)
  have q16 := (q14.other W15 ne_o2_b11)
  refine t1 X15 hx hby hZ e15 q16 V15 rfl ⟨by decide, by decide⟩ (cc := 1) rfl ⟨by decide, by decide⟩ (y := 0) rfl (y' := 1) rfl (i' := 2) rfl (iN := 1) rfl (Nat.le_of_ble_eq_true rfl) fun T17 h17 X17 e17 W17 V17 => ?_
  refine o_iload X17 hx hby d3_35 rfl (q := 37) rfl ?_
  refine o_iload X17 hx hby d3_37 rfl (q := 39) rfl ?_
  refine o_icY X17 hx hby d3_39 (flt (by decide : ¬ ((2 : Int32) < (2 : Int32)))).2.1 (by decide) (q := 64) (by decide) ?_
  refine o_aloadN X17 hx hby d3_64 rfl rfl (q := 65) rfl ?_
  refine o_iloadN X17 hx hby d3_65 rfl (q := 66) rfl ?_
  obtain ⟨T18, h18, k18, X18, e18, E18, A18, Ex18, O18, st18⟩ := newRA X17 hx hZ hown (ty := .int) (by decide +kernel) (w_ hw 33 rfl) (w_ hw 34 rfl) e17 (g := (mkF m 66 #[rv o0, rv o1, rv o2, iv 2, rv b11, rv o2, iv 2, iv 2, iv 1] [.int 2, .ref o0])) rfl (hb hby d3_66) rfl (by decide) (cap := 2) (by decide) (by decide) (by decide) (by decide) (ad := "[[I") (by decide +kernel)
  obtain ⟨b18, g18⟩ : ∃ z, z = h17.size := ⟨_, rfl⟩
  rw [← g18] at A18 Ex18 st18
  have q19 := (Nat.le_trans (Nat.le_trans (Nat.le_trans q12 E11.1) (Keep.of_wr W15).1) (Keep.of_wr W17).1)
  have g_b18 : n0 ≤ b18 := Nat.le_trans q19 (Nat.le_of_eq g18.symm)
  have q20 := (Nat.le_trans (Nat.le_trans (Nat.le_trans q13 E11.1) (Keep.of_wr W15).1) (Keep.of_wr W17).1)
  have sz_b18 : h0.size ≤ b18 := Nat.le_trans q20 (Nat.le_of_eq g18.symm)
  have V_b18 : Arv Z h18 b18 k18 (.array .int) (2 : Int32) [.null, .null] .null := (Arv.new A18 (by decide)).pad (pad_rep [] .null 2)
  refine own_of st18 ?_
  show own_Out p e below _ (T18.setTop (mkF m 69 #[rv o0, rv o1, rv o2, iv 2, rv b11, rv o2, iv 2, iv 2, iv 1] [.ref b18, .ref o0]))
  have ne_o0_b11 : o0 ≠ b11 := Nat.ne_of_lt (Nat.lt_of_lt_of_le E.lt sz_b11)
  have q22 := (((((((F_classes.other W2 (Or.inr (slot_ne (Or.inr (w_ hw 36 rfl)) (Or.inr (w_ hw 28 rfl)) (by decide) (t := (.array (.array .int))) (t' := (.object "java/lang/String")) (by decide) (by decide)))).other W3 (Or.inr (slot_ne (Or.inr (w_ hw 36 rfl)) (Or.inr (w_ hw 30 rfl)) (by decide) (t := (.array (.array .int))) (t' := (.array .int)) (by decide) (by decide)))).other W7 (Or.inr (slot_ne (Or.inr (w_ hw 36 rfl)) (Or.inr (w_ hw 32 rfl)) (by decide) (t := (.array (.array .int))) (t' := .int) (by decide) (by decide)))).ext E11).other W15 (Or.inl ne_o0_b11)).other W17 (Or.inl ne_o0_b11)).ext E18)
  have q23 := (((((q9.wr W7).ext E11).wr W15).wr W17).ext E18)
  obtain ⟨T21, h21, X21, e21, W21, st21⟩ := putF X18 hx hZ hown (host := "") (Or.inl (w_ hw 35 rfl)) Via.refl e18 q22 q23 (Or.inr ⟨(w_ hw 36 rfl), rfl, hnm⟩) (w_ hw 11 rfl) (ty := (.array (.array .int))) (by decide) rfl rfl (g := (mkF m 69 #[rv o0, rv o1, rv o2, iv 2, rv b11, rv o2, iv 2, iv 2, iv 1] [.ref b18, .ref o0])) rfl rfl (hb hby d3_69)
  have q24 := (((((((F_classes.other W2 (Or.inr (slot_ne (Or.inr (w_ hw 36 rfl)) (Or.inr (w_ hw 28 rfl)) (by decide) (t := (.array (.array .int))) (t' := (.object "java/lang/String")) (by decide) (by decide)))).other W3 (Or.inr (slot_ne (Or.inr (w_ hw 36 rfl)) (Or.inr (w_ hw 30 rfl)) (by decide) (t := (.array (.array .int))) (t' := (.array .int)) (by decide) (by decide)))).other W7 (Or.inr (slot_ne (Or.inr (w_ hw 36 rfl)) (Or.inr (w_ hw 32 rfl)) (by decide) (t := (.array (.array .int))) (t' := .int) (by decide) (by decide)))).ext E11).other W15 (Or.inl ne_o0_b11)).other W17 (Or.inl ne_o0_b11)).ext E18)
  have Fw21 := q24.same W21
  refine own_of st21 ?_
  show own_Out p e below _ (T21.setTop (mkF m 72 #[rv o0, rv o1, rv o2, iv 2, rv b11, rv o2, iv 2, iv 2, iv 1] []))
  refine o_iconst X21 hx hby d3_72 (z := 0) rfl (q := 73) rfl ?_
  refine o_istore X21 hx hby d3_73 (l' := #[rv o0, rv o1, rv o2, iv 2, rv b11, iv 0, iv 2, iv 2, iv 1]) rfl (q := 75) rfl ?_
  refine o_iload X21 hx hby d3_75 rfl (q := 77) rfl ?_
  refine o_iloadN X21 hx hby d3_77 rfl (q := 78) rfl ?_
  refine o_icN X21 hx hby d3_78 (tlt (by decide : (0 : Int32) < (2 : Int32))).2.1 (q := 81) rfl ?_
  refine o_aloadN X21 hx hby d3_81 rfl rfl (q := 82) rfl ?_
  refine o_getF X21 hx hZ hown hby (w_ hw 35 rfl) Via.refl e21 Fw21 d3_82 (q := 85) rfl fun T25 X25 e25 => ?_
  refine o_iload X25 hx hby d3_85 rfl (q := 87) rfl ?_
  refine o_aload X25 hx hby d3_87 rfl rfl (q := 89) rfl ?_
  refine o_iload X25 hx hby d3_89 rfl (q := 91) rfl ?_
  have q26 := ((V17.ext E18).other W21 (Ne.symm ne_o0_b11))
  refine o_iaV X25 hx hby hZ e25 q26 ⟨by decide, by decide⟩ (v := .int 1) rfl d3_91 (q := 92) rfl ?_
  obtain ⟨T27, h27, k27, X27, e27, E27, A27, Ex27, st27⟩ := newPE X25 hx hZ (w_ hw 5 rfl) e25 (g := (mkF m 92 #[rv o0, rv o1, rv o2, iv 2, rv b11, iv 0, iv 2, iv 2, iv 1] [.int 1, .int 0, .ref b18])) rfl (hb hby d3_92) rfl (by decide) (cap := 1) (by decide) (by decide) (by decide) (by decide) (ad := "[I") (by decide +kernel)
  obtain ⟨b27, g27⟩ : ∃ z, z = h21.size := ⟨_, rfl⟩
  rw [← g27] at A27 Ex27 st27
  have q28 := (Nat.le_trans (Nat.le_trans q19 E18.1) (Keep.of_wr W21).1)
  have g_b27 : n0 ≤ b27 := Nat.le_trans q28 (Nat.le_of_eq g27.symm)
  have q29 := (Nat.le_trans (Nat.le_trans q20 E18.1) (Keep.of_wr W21).1)
  have sz_b27 : h0.size ≤ b27 := Nat.le_trans q29 (Nat.le_of_eq g27.symm)
  have V_b27 : Arv Z h27 b27 k27 .int (1 : Int32) [(.int (0 : Int32))] (.int (0 : Int32)) := (Arv.new A27 (by decide)).pad (pad_rep [] (.int (0 : Int32)) 1)
  refine own_of st27 ?_
  show own_Out p e below _ (T27.setTop (mkF m 94 #[rv o0, rv o1, rv o2, iv 2, rv b11, iv 0, iv 2, iv 2, iv 1] [.ref b27, .int 0, .ref b18]))
  have ne_o0_b18 : o0 ≠ b18 := Nat.ne_of_lt (Nat.lt_of_lt_of_le E.lt sz_b18)
  have q30 := ((V_b18.other W21 (Ne.symm ne_o0_b18)).ext E27)
  refine o_stVR X27 hx hby hZ e27 q30 ⟨by decide, by decide⟩ 0 rfl (Nat.le_of_ble_eq_true rfl) O18 (Ins.self Ex27) d3_94 (q := 95) rfl fun T31 h31 X31 e31 W31 V31 => ?_
  refine o_iinc X31 hx hby d3_95 rfl (l' := #[rv o0, rv o1, rv o2, iv 2, rv b11, iv 1, iv 2, iv 2, iv 1]) rfl (q := 98) rfl ?_
  refine o_goto X31 hx hby d3_98 (by decide) (q := 75) (by decide) ?_
  refine o_iload X31 hx hby d3_75 rfl (q := 77) rfl ?_
  refine o_iloadN X31 hx hby d3_77 rfl (q := 78) rfl ?_
  refine o_icN X31 hx hby d3_78 (tlt (by decide : (1 : Int32) < (2 : Int32))).2.1 (q := 81) rfl ?_
  refine o_aloadN X31 hx hby d3_81 rfl rfl (q := 82) rfl ?_
  have q33 := ((Fw21.ext E27).other W31 (Or.inl ne_o0_b18))
  refine o_getF X31 hx hZ hown hby (w_ hw 35 rfl) Via.refl e31 q33 d3_82 (q := 85) rfl fun T32 X32 e32 => ?_
  refine o_iload X32 hx hby d3_85 rfl (q := 87) rfl ?_
  refine o_aload X32 hx hby d3_87 rfl rfl (q := 89) rfl ?_
  refine o_iload X32 hx hby d3_89 rfl (q := 91) rfl ?_
  have ne_b11_b18 : b11 ≠ b18 := Nat.ne_of_lt (Nat.lt_of_lt_of_le (Nat.lt_of_lt_of_le (Nat.lt_of_lt_of_le A11.lt (Keep.of_wr W15).1) (Keep.of_wr W17).1) (Nat.le_of_eq g18.symm))
  have q34 := ((q26.ext E27).other W31 ne_b11_b18)
  refine o_iaV X32 hx hby hZ e32 q34 ⟨by decide, by decide⟩ (v := .int 1) rfl d3_91 (q := 92) rfl ?_
  obtain ⟨T35, h35, k35, X35, e35, E35, A35, Ex35, st35⟩ := newPE X32 hx hZ (w_ hw 5 rfl) e32 (g := (mkF m 92 #[rv o0, rv o1, rv o2, iv 2, rv b11, iv 1, iv 2, iv 2, iv 1] [.int 1, .int 1, .ref b18])) rfl (hb hby d3_92) rfl (by decide) (cap := 1) (by decide) (by decide) (by decide) (by decide) (ad := "[I") (by decide +kernel)
  obtain ⟨b35, g35⟩ : ∃ z, z = h31.size := ⟨_, rfl⟩
  rw [← g35] at A35 Ex35 st35
  have q36 := (Nat.le_trans (Nat.le_trans q28 E27.1) (Keep.of_wr W31).1)
  have g_b35 : n0 ≤ b35 := Nat.le_trans q36 (Nat.le_of_eq g35.symm)
  have q37 := (Nat.le_trans (Nat.le_trans q29 E27.1) (Keep.of_wr W31).1)
  have sz_b35 : h0.size ≤ b35 := Nat.le_trans q37 (Nat.le_of_eq g35.symm)
  have V_b35 : Arv Z h35 b35 k35 .int (1 : Int32) [(.int (0 : Int32))] (.int (0 : Int32)) := (Arv.new A35 (by decide)).pad (pad_rep [] (.int (0 : Int32)) 1)
  refine own_of st35 ?_
  show own_Out p e below _ (T35.setTop (mkF m 94 #[rv o0, rv o1, rv o2, iv 2, rv b11, iv 1, iv 2, iv 2, iv 1] [.ref b35, .int 1, .ref b18]))
  have q38 := (V31.ext E35)
  refine o_stVR X35 hx hby hZ e35 q38 ⟨by decide, by decide⟩ 1 rfl (Nat.le_of_ble_eq_true rfl) O18 (Ins.self Ex35) d3_94 (q := 95) rfl fun T39 h39 X39 e39 W39 V39 => ?_
  refine o_iinc X39 hx hby d3_95 rfl (l' := #[rv o0, rv o1, rv o2, iv 2, rv b11, iv 2, iv 2, iv 2, iv 1]) rfl (q := 98) rfl ?_
  refine o_goto X39 hx hby d3_98 (by decide) (q := 75) (by decide) ?_
  refine o_iload X39 hx hby d3_75 rfl (q := 77) rfl ?_
  refine o_iloadN X39 hx hby d3_77 rfl (q := 78) rfl ?_
  refine o_icY X39 hx hby d3_78 (flt (by decide : ¬ ((2 : Int32) < (2 : Int32)))).2.1 (by decide) (q := 101) (by decide) ?_
  refine o_iloadN X39 hx hby d3_101 rfl (q := 102) rfl ?_
  obtain ⟨T40, h40, k40, X40, e40, E40, A40, Ex40, st40⟩ := newPE X39 hx hZ (w_ hw 5 rfl) e39 (g := (mkF m 102 #[rv o0, rv o1, rv o2, iv 2, rv b11, iv 2, iv 2, iv 2, iv 1] [.int 2])) rfl (hb hby d3_102) rfl (by decide) (cap := 2) (by decide) (by decide) (by decide) (by decide) (ad := "[I") (by decide +kernel)
  obtain ⟨b40, g40⟩ : ∃ z, z = h39.size := ⟨_, rfl⟩
  rw [← g40] at A40 Ex40 st40
  have q41 := (Nat.le_trans (Nat.le_trans q36 E35.1) (Keep.of_wr W39).1)
  have g_b40 : n0 ≤ b40 := Nat.le_trans q41 (Nat.le_of_eq g40.symm)
  have q42 := (Nat.le_trans (Nat.le_trans q37 E35.1) (Keep.of_wr W39).1)
  have sz_b40 : h0.size ≤ b40 := Nat.le_trans q42 (Nat.le_of_eq g40.symm)
  have V_b40 : Arv Z h40 b40 k40 .int (2 : Int32) [(.int (0 : Int32)), (.int (0 : Int32))] (.int (0 : Int32)) := (Arv.new A40 (by decide)).pad (pad_rep [] (.int (0 : Int32)) 2)
  refine own_of st40 ?_
  show own_Out p e below _ (T40.setTop (mkF m 104 #[rv o0, rv o1, rv o2, iv 2, rv b11, iv 2, iv 2, iv 2, iv 1] [.ref b40]))
  refine o_astore X40 hx hby d3_104 rfl (l' := #[rv o0, rv o1, rv o2, iv 2, rv b11, rv b40, iv 2, iv 2, iv 1]) rfl (q := 106) rfl ?_
  refine o_iconst X40 hx hby d3_106 (z := 0) rfl (q := 107) rfl ?_
  refine o_istore X40 hx hby d3_107 (l' := #[rv o0, rv o1, rv o2, iv 2, rv b11, rv b40, iv 0, iv 2, iv 1]) rfl (q := 109) rfl ?_
  have ne_o2_b18 : o2 ≠ b18 := Nat.ne_of_lt (Nat.lt_of_lt_of_le V.lt sz_b18)
  have q45 := ((((((((q16.other W17 ne_o2_b11).ext E18).other W21 n2).ext E27).other W31 ne_o2_b18).ext E35).other W39 ne_o2_b18).ext E40)
  have q46 := (((q33.ext E35).other W39 (Or.inl ne_o0_b18)).ext E40)
  have q47 := (V39.ext E40)
  have ne_b18_b27 : b18 ≠ b27 := Nat.ne_of_lt (Nat.lt_of_lt_of_le (Nat.lt_of_lt_of_le A18.lt (Keep.of_wr W21).1) (Nat.le_of_eq g27.symm))
  have q48 := ((((V_b27.other W31 (Ne.symm ne_b18_b27)).ext E35).other W39 (Ne.symm ne_b18_b27)).ext E40)
  have ne_b27_b40 : b27 ≠ b40 := Nat.ne_of_lt (Nat.lt_of_lt_of_le (Nat.lt_of_lt_of_le (Nat.lt_of_lt_of_le (Nat.lt_of_lt_of_le A27.lt (Keep.of_wr W31).1) E35.1) (Keep.of_wr W39).1) (Nat.le_of_eq g40.symm))
  refine t3 X40 hx hby hZ e40 hw hown q45 q46 q47 V_b40 q48 ne_b27_b40 ⟨by decide, by decide⟩ (x := 0) rfl ⟨by decide, by decide⟩ rfl (f := 0) rfl ⟨by decide, by decide⟩ (f' := 1) rfl (i' := 1) rfl (iN := 0) rfl (Nat.le_of_ble_eq_true rfl) (jN := 0) rfl (Nat.le_of_ble_eq_true rfl) fun T44 h43 h44 X44 e44 W43 W44 V43 V44 => ?_
  have ne_o2_b40 : o2 ≠ b40 := Nat.ne_of_lt (Nat.lt_of_lt_of_le V.lt sz_b40)
  have ne_o2_b27 : o2 ≠ b27 := Nat.ne_of_lt (Nat.lt_of_lt_of_le V.lt sz_b27)
  have q51 := ((q45.other W43 ne_o2_b40).other W44 ne_o2_b27)
  have ne_o0_b40 : o0 ≠ b40 := Nat.ne_of_lt (Nat.lt_of_lt_of_le E.lt sz_b40)
  have ne_o0_b27 : o0 ≠ b27 := Nat.ne_of_lt (Nat.lt_of_lt_of_le E.lt sz_b27)
  have q52 := ((q46.other W43 (Or.inl ne_o0_b40)).other W44 (Or.inl ne_o0_b27))
  have ne_b18_b40 : b18 ≠ b40 := Nat.ne_of_lt (Nat.lt_of_lt_of_le (Nat.lt_of_lt_of_le (Nat.lt_of_lt_of_le (Nat.lt_of_lt_of_le (Nat.lt_of_lt_of_le (Nat.lt_of_lt_of_le A18.lt (Keep.of_wr W21).1) E27.1) (Keep.of_wr W31).1) E35.1) (Keep.of_wr W39).1) (Nat.le_of_eq g40.symm))
  have q53 := ((q47.other W43 ne_b18_b40).other W44 ne_b18_b27)
  have q54 := (V43.other W44 (Ne.symm ne_b27_b40))
  have ne_b18_b35 : b18 ≠ b35 := Nat.ne_of_lt (Nat.lt_of_lt_of_le (Nat.lt_of_lt_of_le (Nat.lt_of_lt_of_le (Nat.lt_of_lt_of_le A18.lt (Keep.of_wr W21).1) E27.1) (Keep.of_wr W31).1) (Nat.le_of_eq g35.symm))
  have ne_b35_b40 : b35 ≠ b40 := Nat.ne_of_lt (Nat.lt_of_lt_of_le (Nat.lt_of_lt_of_le A35.lt (Keep.of_wr W39).1) (Nat.le_of_eq g40.symm))
  have ne_b27_b35 : b27 ≠ b35 := Nat.ne_of_lt (Nat.lt_of_lt_of_le (Nat.lt_of_lt_of_le A27.lt (Keep.of_wr W31).1) (Nat.le_of_eq g35.symm))
  have q55 := ((((V_b35.other W39 (Ne.symm ne_b18_b35)).ext E40).other W43 ne_b35_b40).other W44 (Ne.symm ne_b27_b35))
  refine t3 X44 hx hby hZ e44 hw hown q51 q52 q53 q54 q55 ne_b35_b40 ⟨by decide, by decide⟩ (x := 1) rfl ⟨by decide, by decide⟩ rfl (f := 0) rfl ⟨by decide, by decide⟩ (f' := 1) rfl (i' := 2) rfl (iN := 1) rfl (Nat.le_of_ble_eq_true rfl) (jN := 0) rfl (Nat.le_of_ble_eq_true rfl) fun T50 h49 h50 X50 e50 W49 W50 V49 V50 => ?_
  refine o_iload X50 hx hby d3_109 rfl (q := 111) rfl ?_
  refine o_aloadN X50 hx hby d3_111 rfl rfl (q := 112) rfl ?_
  have ne_o2_b35 : o2 ≠ b35 := Nat.ne_of_lt (Nat.lt_of_lt_of_le V.lt sz_b35)
  have q56 := ((q51.other W49 ne_o2_b40).other W50 ne_o2_b35)
  refine o_lenV X50 hx hby hZ e50 q56 d3_112 (q := 113) rfl ?_
  refine o_icY X50 hx hby d3_113 (flt (by decide : ¬ ((2 : Int32) < (2 : Int32)))).2.1 (by decide) (q := 146) (by decide) ?_
  have q57 := ((((((((((((((((((Keep.refl h0 [o0]).wr W2 (Or.inl (List.mem_of_getElem? (i := 0) rfl))).wr W3 (Or.inl (List.mem_of_getElem? (i := 0) rfl))).wr W7 (Or.inl (List.mem_of_getElem? (i := 0) rfl))).ext E11).wr W15 (Or.inr sz_b11)).wr W17 (Or.inr sz_b11)).ext E18).wr W21 (Or.inl (List.mem_of_getElem? (i := 0) rfl))).ext E27).wr W31 (Or.inr sz_b18)).ext E35).wr W39 (Or.inr sz_b18)).ext E40).wr W43 (Or.inr sz_b40)).wr W44 (Or.inr sz_b27)).wr W49 (Or.inr sz_b40)).wr W50 (Or.inr sz_b35))
  have q58 := ((((((((((q23.wr W21).ext E27).wr W31).ext E35).wr W39).ext E40).wr W43).wr W44).wr W49).wr W50)
  have ne_o0_b35 : o0 ≠ b35 := Nat.ne_of_lt (Nat.lt_of_lt_of_le E.lt sz_b35)
  have q59 := (((((((((((((((Fw3.other W7 (Or.inr (slot_ne (Or.inr (w_ hw 30 rfl)) (Or.inr (w_ hw 32 rfl)) (by decide) (t := (.array .int)) (t' := .int) (by decide) (by decide)))).ext E11).other W15 (Or.inl ne_o0_b11)).other W17 (Or.inl ne_o0_b11)).ext E18).other W21 (Or.inr (slot_ne (Or.inr (w_ hw 30 rfl)) (Or.inr (w_ hw 36 rfl)) (by decide) (t := (.array .int)) (t' := (.array (.array .int))) (by decide) (by decide)))).ext E27).other W31 (Or.inl ne_o0_b18)).ext E35).other W39 (Or.inl ne_o0_b18)).ext E40).other W43 (Or.inl ne_o0_b40)).other W44 (Or.inl ne_o0_b27)).other W49 (Or.inl ne_o0_b40)).other W50 (Or.inl ne_o0_b35))
  have q60 := ((((((((((((((Fw7.ext E11).other W15 (Or.inl ne_o0_b11)).other W17 (Or.inl ne_o0_b11)).ext E18).other W21 (Or.inr (slot_ne (Or.inr (w_ hw 32 rfl)) (Or.inr (w_ hw 36 rfl)) (by decide) (t := .int) (t' := (.array (.array .int))) (by decide) (by decide)))).ext E27).other W31 (Or.inl ne_o0_b18)).ext E35).other W39 (Or.inl ne_o0_b18)).ext E40).other W43 (Or.inl ne_o0_b40)).other W44 (Or.inl ne_o0_b27)).other W49 (Or.inl ne_o0_b40)).other W50 (Or.inl ne_o0_b35))
  exact own_outV X50 hx hlk hret (hb hby d3_146) (Q := Q3c01n2 Z o0 o1 o2 k2 h0 n0) (by rw [e50]; exact ⟨rfl, (Fr.snoc X50 (own_snoc (Fr.snoc X44 (own_snoc (Fr.snoc X39 (Fr.snoc X31 (Fr.snoc X21 (Fr.snoc X17 (Fr.snoc X15 (Fr.snoc X7 (Fr.snoc X3 (Fr.snoc X2 N0 g_o0) g_o0) g_o0) g_b11) g_b11) g_o0) g_b18) g_b18) g_b40) g_b27) g_b40) g_b35), q57, q58, q59, q60⟩) (by decide) (by decide)
theorem ef_3c010n2 (m : MethodId) (x0 : Addr) (x1 : Addr) (x2 : Addr) : entryFrame m #[(.ref x0), (.ref x1), (.ref x2), (.int (2 : Int32))] 9 = mkF m 0 #[.val (.ref x0), .val (.ref x1), .val (.ref x2), .val (.int (2 : Int32)), .unset, .unset, .unset, .unset, .unset] [] := by first | (simp [entryFrame, mkF, argsToLocals, Value.category]; done) | rfl
def Q3c010n2 (Z : State) (o0 : Addr) (o1 : Addr) (o2 : Addr) (k2 : ClassId) (h0 : Heap) (n0 : Nat) (v : Option Value) (h : Heap) (L : List Loc) : Prop := v = none ∧ Fr n0 L ∧ Keep h0 h [o0] ∧ Exa Z h o0 "com/example/slimc/slimc/game/Observation" ∧ Fld Z h o0 "com/example/slimc/slimc/game/Observation" "classOf" "[I" (.ref o2) ∧ Fld Z h o0 "com/example/slimc/slimc/game/Observation" "classCount" "I" (.int (2 : Int32))
set_option maxRecDepth 65536 in
set_option maxHeartbeats 40000000 in
theorem rm3c010n2 (l : Launch) (Z : State) (a0 : Array Value) (hw : ∀ d ∈ tables_1, d.before a0 Z = true) (ws : List Jvm.Cond) (o0 : Addr) (o1 : Addr) (o2 : Addr) (k2 : ClassId) (h0 : Heap) (n0 : Nat) (Z0 : n0 ≤ h0.size) (E : Exa Z h0 o0 "com/example/slimc/slimc/game/Observation") (F_name : Fld Z h0 o0 "com/example/slimc/slimc/game/Observation" "name" "Ljava/lang/String;" .null) (F_classOf : Fld Z h0 o0 "com/example/slimc/slimc/game/Observation" "classOf" "[I" .null) (F_classCount : Fld Z h0 o0 "com/example/slimc/slimc/game/Observation" "classCount" "I" (.int (0 : Int32))) (F_classes : Fld Z h0 o0 "com/example/slimc/slimc/game/Observation" "classes" "[[I" .null) (g_o0 : n0 ≤ o0) (V : Arv Z h0 o2 k2 .int (3 : Int32) [(.int (0 : Int32)), (.int (1 : Int32)), (.int (0 : Int32))] (.int (0 : Int32))) (n2 : o2 ≠ o0) :
    MetFree l (⟨"com/example/slimc/slimc/game/Observation", "<init>", "(Ljava/lang/String;[II)V"⟩ : MethodName) (head1 (Jvm.Cond.code (⟨"com/example/slimc/slimc/game/Observation", "<init>", "(Ljava/lang/String;[II)V"⟩ : MethodName) prog_66_method_1_code 9 none :: ws) ({ frames := 1, cells := 7, slots := 16, locals := 14 } : Room)) (fun a U => a = #[(.ref o0), (.ref o1), (.ref o2), (.int (2 : Int32))] ∧ Z.Warmed39 U.vm ∧ U.heap = h0) (fun _ _ _ _ _ => True) (fun _ U o U' => ∃ v L, o = .returned v ∧ Q3c010n2 Z o0 o1 o2 k2 h0 n0 v U'.heap L ∧ FrameEnd U o U' L ({ frames := 1, cells := 7, slots := 16, locals := 14 } : Room).cells ({ frames := 1, cells := 7, slots := 16, locals := 14 } : Room).slots) := by
  refine MetFree.of_bodySF (plainFor_of_name pn_1) hisR ?_
  intro p e s m args below meth c s₁ Bd hml0 hP hK
  obtain ⟨rfl, hZ, hh⟩ := hP
  have hx := Bd.exec
  have hby := Bd.bytes
  have hml : c.maxLocals = 9 := hml0
  have hown : s.vm.findClass "com/example/slimc/slimc/game/Observation" = some m.cls := findClass_of_methodNamed Bd.named
  have hnm := (name_of_methodNamed Bd.named Bd.method).1
  have X0 : Stand p l e ({ frames := 1, cells := 7, slots := 16, locals := 14 } : Room) s m #[(.ref o0), (.ref o1), (.ref o2), (.int (2 : Int32))] below meth c s₁ [] 0 0 := Stand.of_body Bd
  have e0 : s₁.heap = h0 := by rw [← hh, Bd.state]; rfl
  have N0 := Fr.nil n0
  have hret := Bd.returns
  have hlk := BodyLoose.notSynchronized Bd
  show own_Out p e below (fun o U' => ∃ v L, o = .returned v ∧ Q3c010n2 Z o0 o1 o2 k2 h0 n0 v U'.heap L ∧ FrameEnd s o U' L ({ frames := 1, cells := 7, slots := 16, locals := 14 } : Room).cells ({ frames := 1, cells := 7, slots := 16, locals := 14 } : Room).slots) (s₁.setTop (entryFrame m #[(.ref o0), (.ref o1), (.ref o2), (.int (2 : Int32))] 9))
  refine own_of (fun t k => castTop (ef_3c010n2 m o0 o1 o2) k) ?_
  show own_Out p e below _ (s₁.setTop (mkF m 0 #[rv o0, rv o1, rv o2, iv 2, .unset, .unset, .unset, .unset, .unset] []))
  refine o_aloadN X0 hx hby d3_0 rfl rfl (q := 1) rfl ?_
  obtain ⟨T1, X1, e1, st1⟩ := initO X0 hx hZ hown (w_ hw 24 rfl) (w_ hw 25 rfl) (w_ hw 26 rfl) e0 (g := (mkF m 1 #[rv o0, rv o1, rv o2, iv 2, .unset, .unset, .unset, .unset, .unset] [.ref o0])) rfl (by rw [hml]; rfl) rfl (hb hby d3_1) (by decide) (W := 0) (by show 2 * 0 + _ ≤ _; exact Nat.le_of_eq rfl) (by decide)
  refine own_of st1 ?_
  show own_Out p e below _ (T1.setTop (mkF m 4 #[rv o0, rv o1, rv o2, iv 2, .unset, .unset, .unset, .unset, .unset] []))
  refine o_aloadN X1 hx hby d3_4 rfl rfl (q := 5) rfl ?_
  refine o_aloadN X1 hx hby d3_5 rfl rfl (q := 6) rfl ?_
  obtain ⟨T2, h2, X2, e2, W2, st2⟩ := putF X1 hx hZ hown (host := "") (Or.inl (w_ hw 27 rfl)) Via.refl e1 F_name E (Or.inr ⟨(w_ hw 28 rfl), rfl, hnm⟩) (w_ hw 11 rfl) (ty := (.object "java/lang/String")) (by decide) rfl rfl (g := (mkF m 6 #[rv o0, rv o1, rv o2, iv 2, .unset, .unset, .unset, .unset, .unset] [.ref o1, .ref o0])) rfl rfl (hb hby d3_6)
  have Fw2 := F_name.same W2
  refine own_of st2 ?_
  show own_Out p e below _ (T2.setTop (mkF m 9 #[rv o0, rv o1, rv o2, iv 2, .unset, .unset, .unset, .unset, .unset] []))
  refine o_aloadN X2 hx hby d3_9 rfl rfl (q := 10) rfl ?_
  refine o_aloadN X2 hx hby d3_10 rfl rfl (q := 11) rfl ?_
  have q4 := (F_classOf.other W2 (Or.inr (slot_ne (Or.inr (w_ hw 30 rfl)) (Or.inr (w_ hw 28 rfl)) (by decide) (t := (.array .int)) (t' := (.object "java/lang/String")) (by decide) (by decide))))
  have q5 := (E.wr W2)
  obtain ⟨T3, h3, X3, e3, W3, st3⟩ := putF X2 hx hZ hown (host := "") (Or.inl (w_ hw 29 rfl)) Via.refl e2 q4 q5 (Or.inr ⟨(w_ hw 30 rfl), rfl, hnm⟩) (w_ hw 11 rfl) (ty := (.array .int)) (by decide) rfl rfl (g := (mkF m 11 #[rv o0, rv o1, rv o2, iv 2, .unset, .unset, .unset, .unset, .unset] [.ref o2, .ref o0])) rfl rfl (hb hby d3_11)
  have q6 := (F_classOf.other W2 (Or.inr (slot_ne (Or.inr (w_ hw 30 rfl)) (Or.inr (w_ hw 28 rfl)) (by decide) (t := (.array .int)) (t' := (.object "java/lang/String")) (by decide) (by decide))))
  have Fw3 := q6.same W3
  refine own_of st3 ?_
  show own_Out p e below _ (T3.setTop (mkF m 14 #[rv o0, rv o1, rv o2, iv 2, .unset, .unset, .unset, .unset, .unset] []))
  refine o_aloadN X3 hx hby d3_14 rfl rfl (q := 15) rfl ?_
  refine o_iloadN X3 hx hby d3_15 rfl (q := 16) rfl ?_
  have q8 := ((F_classCount.other W2 (Or.inr (slot_ne (Or.inr (w_ hw 32 rfl)) (Or.inr (w_ hw 28 rfl)) (by decide) (t := .int) (t' := (.object "java/lang/String")) (by decide) (by decide)))).other W3 (Or.inr (slot_ne (Or.inr (w_ hw 32 rfl)) (Or.inr (w_ hw 30 rfl)) (by decide) (t := .int) (t' := (.array .int)) (by decide) (by decide))))
  have q9 := (q5.wr W3)
  obtain ⟨T7, h7, X7, e7, W7, st7⟩ := putF X3 hx hZ hown (host := "") (Or.inl (w_ hw 31 rfl)) Via.refl e3 q8 q9 (Or.inr ⟨(w_ hw 32 rfl), rfl, hnm⟩) (w_ hw 11 rfl) (ty := .int) (by decide) rfl rfl (g := (mkF m 16 #[rv o0, rv o1, rv o2, iv 2, .unset, .unset, .unset, .unset, .unset] [.int 2, .ref o0])) rfl rfl (hb hby d3_16)
  have q10 := ((F_classCount.other W2 (Or.inr (slot_ne (Or.inr (w_ hw 32 rfl)) (Or.inr (w_ hw 28 rfl)) (by decide) (t := .int) (t' := (.object "java/lang/String")) (by decide) (by decide)))).other W3 (Or.inr (slot_ne (Or.inr (w_ hw 32 rfl)) (Or.inr (w_ hw 30 rfl)) (by decide) (t := .int) (t' := (.array .int)) (by decide) (by decide))))
  have Fw7 := q10.same W7
  refine own_of st7 ?_
  show own_Out p e below _ (T7.setTop (mkF m 19 #[rv o0, rv o1, rv o2, iv 2, .unset, .unset, .unset, .unset, .unset] []))
  refine o_iloadN X7 hx hby d3_19 rfl (q := 20) rfl ?_
  obtain ⟨T11, h11, k11, X11, e11, E11, A11, Ex11, st11⟩ := newPE X7 hx hZ (w_ hw 5 rfl) e7 (g := (mkF m 20 #[rv o0, rv o1, rv o2, iv 2, .unset, .unset, .unset, .unset, .unset] [.int 2])) rfl (hb hby d3_20) rfl (by decide) (cap := 2) (by decide) (by decide) (by decide) (by decide) (ad := "[I") (by decide +kernel)
  obtain ⟨b11, g11⟩ : ∃ z, z = h7.size := ⟨_, rfl⟩
  rw [← g11] at A11 Ex11 st11
  have q12 := (Nat.le_trans (Nat.le_trans (Nat.le_trans Z0 (Keep.of_wr W2).1) (Keep.of_wr W3).1) (Keep.of_wr W7).1)
  have g_b11 : n0 ≤ b11 := Nat.le_trans q12 (Nat.le_of_eq g11.symm)
  have q13 := (Nat.le_trans (Nat.le_trans (Nat.le_trans (Nat.le_refl h0.size) (Keep.of_wr W2).1) (Keep.of_wr W3).1) (Keep.of_wr W7).1)
  have sz_b11 : h0.size ≤ b11 := Nat.le_trans q13 (Nat.le_of_eq g11.symm)
  have V_b11 : Arv Z h11 b11 k11 .int (2 : Int32) [(.int (0 : Int32)), (.int (0 : Int32))] (.int (0 : Int32)) := (Arv.new A11 (by decide)).pad (pad_rep [] (.int (0 : Int32)) 2)
  refine own_of st11 ?_
  show own_Out p e below _ (T11.setTop (mkF m 22 #[rv o0, rv o1, rv o2, iv 2, .unset, .unset, .unset, .unset, .unset] [.ref b11]))
  refine o_astore X11 hx hby d3_22 rfl (l' := #[rv o0, rv o1, rv o2, iv 2, rv b11, .unset, .unset, .unset, .unset]) rfl (q := 24) rfl ?_
  refine o_aloadN X11 hx hby d3_24 rfl rfl (q := 25) rfl ?_
  refine o_astore X11 hx hby d3_25 rfl (l' := #[rv o0, rv o1, rv o2, iv 2, rv b11, rv o2, .unset, .unset, .unset]) rfl (q := 27) rfl ?_
  refine o_aload X11 hx hby d3_27 rfl rfl (q := 29) rfl ?_
  have q14 := ((((V.other W2 n2).other W3 n2).other W7 n2).ext E11)
  refine o_lenV X11 hx hby hZ e11 q14 d3_29 (q := 30) rfl ?_
  refine o_istore X11 hx hby d3_30 (l' := #[rv o0, rv o1, rv o2, iv 2, rv b11, rv o2, iv 3, .unset, .unset]) rfl (q := 32) rfl ?_
  refine o_iconst X11 hx hby d3_32 (z := 0) rfl (q := 33) rfl ?_
  refine o_istore X11 hx hby d3_33 (l' := #[rv o0, rv o1, rv o2, iv 2, rv b11, rv o2, iv 3, iv 0, .unset]) rfl (q := 35) rfl ?_
  refine t1 X11 hx hby hZ e11 q14 V_b11 rfl ⟨by decide, by decide⟩ (cc := 0) rfl ⟨by decide, by decide⟩ (y := 0) rfl (y' := 1) rfl (i' := 1) rfl (iN := 0) rfl (Nat.le_of_ble_eq_true rfl) fun T15 h15 X15 e15 W15 V15 => ?_
  have ne_o2_b11 : o2 ≠ b11 := Nat.ne_of_lt (Nat.lt_of_lt_of_le V.lt sz_b11)
  have q16 := (q14.other W15 ne_o2_b11)
  refine t1 X15 hx hby hZ e15 q16 V15 rfl ⟨by decide, by decide⟩ (cc := 1) rfl ⟨by decide, by decide⟩ (y := 0) rfl (y' := 1) rfl (i' := 2) rfl (iN := 1) rfl (Nat.le_of_ble_eq_true rfl) fun T17 h17 X17 e17 W17 V17 => ?_
  have q18 := (q16.other W17 ne_o2_b11)
  refine t1 X17 hx hby hZ e17 q18 V17 rfl ⟨by decide, by decide⟩ (cc := 0) rfl ⟨by decide, by decide⟩ (y := 1) rfl (y' := 2) rfl (i' := 3) rfl (iN := 0) rfl (Nat.le_of_ble_eq_true rfl) fun T19 h19 X19 e19 W19 V19 => ?_
  refine o_iload X19 hx hby d3_35 rfl (q := 37) rfl ?_
  refine o_iload X19 hx hby d3_37 rfl (q := 39) rfl ?_
  refine o_icY X19 hx hby d3_39 (flt (by decide : ¬ ((3 : Int32) < (3 : Int32)))).2.1 (by decide) (q := 64) (by decide) ?_
  refine o_aloadN X19 hx hby d3_64 rfl rfl (q := 65) rfl ?_
  refine o_iloadN X19 hx hby d3_65 rfl (q := 66) rfl ?_
  obtain ⟨T20, h20, k20, X20, e20, E20, A20, Ex20, O20, st20⟩ := newRA X19 hx hZ hown (ty := .int) (by decide +kernel) (w_ hw 33 rfl) (w_ hw 34 rfl) e19 (g := (mkF m 66 #[rv o0, rv o1, rv o2, iv 2, rv b11, rv o2, iv 3, iv 3, iv 0] [.int 2, .ref o0])) rfl (hb hby d3_66) rfl (by decide) (cap := 2) (by decide) (by decide) (by decide) (by decide) (ad := "[[I") (by decide +kernel)
  obtain ⟨b20, g20⟩ : ∃ z, z = h19.size := ⟨_, rfl⟩
  rw [← g20] at A20 Ex20 st20
  have q21 := (Nat.le_trans (Nat.le_trans (Nat.le_trans (Nat.le_trans q12 E11.1) (Keep.of_wr W15).1) (Keep.of_wr W17).1) (Keep.of_wr W19).1)
  have g_b20 : n0 ≤ b20 := Nat.le_trans q21 (Nat.le_of_eq g20.symm)
  have q22 := (Nat.le_trans (Nat.le_trans (Nat.le_trans (Nat.le_trans q13 E11.1) (Keep.of_wr W15).1) (Keep.of_wr W17).1) (Keep.of_wr W19).1)
  have sz_b20 : h0.size ≤ b20 := Nat.le_trans q22 (Nat.le_of_eq g20.symm)
  have V_b20 : Arv Z h20 b20 k20 (.array .int) (2 : Int32) [.null, .null] .null := (Arv.new A20 (by decide)).pad (pad_rep [] .null 2)
  refine own_of st20 ?_
  show own_Out p e below _ (T20.setTop (mkF m 69 #[rv o0, rv o1, rv o2, iv 2, rv b11, rv o2, iv 3, iv 3, iv 0] [.ref b20, .ref o0]))
  have ne_o0_b11 : o0 ≠ b11 := Nat.ne_of_lt (Nat.lt_of_lt_of_le E.lt sz_b11)
  have q24 := ((((((((F_classes.other W2 (Or.inr (slot_ne (Or.inr (w_ hw 36 rfl)) (Or.inr (w_ hw 28 rfl)) (by decide) (t := (.array (.array .int))) (t' := (.object "java/lang/String")) (by decide) (by decide)))).other W3 (Or.inr (slot_ne (Or.inr (w_ hw 36 rfl)) (Or.inr (w_ hw 30 rfl)) (by decide) (t := (.array (.array .int))) (t' := (.array .int)) (by decide) (by decide)))).other W7 (Or.inr (slot_ne (Or.inr (w_ hw 36 rfl)) (Or.inr (w_ hw 32 rfl)) (by decide) (t := (.array (.array .int))) (t' := .int) (by decide) (by decide)))).ext E11).other W15 (Or.inl ne_o0_b11)).other W17 (Or.inl ne_o0_b11)).other W19 (Or.inl ne_o0_b11)).ext E20)
  have q25 := ((((((q9.wr W7).ext E11).wr W15).wr W17).wr W19).ext E20)
  obtain ⟨T23, h23, X23, e23, W23, st23⟩ := putF X20 hx hZ hown (host := "") (Or.inl (w_ hw 35 rfl)) Via.refl e20 q24 q25 (Or.inr ⟨(w_ hw 36 rfl), rfl, hnm⟩) (w_ hw 11 rfl) (ty := (.array (.array .int))) (by decide) rfl rfl (g := (mkF m 69 #[rv o0, rv o1, rv o2, iv 2, rv b11, rv o2, iv 3, iv 3, iv 0] [.ref b20, .ref o0])) rfl rfl (hb hby d3_69)
  have q26 := ((((((((F_classes.other W2 (Or.inr (slot_ne (Or.inr (w_ hw 36 rfl)) (Or.inr (w_ hw 28 rfl)) (by decide) (t := (.array (.array .int))) (t' := (.object "java/lang/String")) (by decide) (by decide)))).other W3 (Or.inr (slot_ne (Or.inr (w_ hw 36 rfl)) (Or.inr (w_ hw 30 rfl)) (by decide) (t := (.array (.array .int))) (t' := (.array .int)) (by decide) (by decide)))).other W7 (Or.inr (slot_ne (Or.inr (w_ hw 36 rfl)) (Or.inr (w_ hw 32 rfl)) (by decide) (t := (.array (.array .int))) (t' := .int) (by decide) (by decide)))).ext E11).other W15 (Or.inl ne_o0_b11)).other W17 (Or.inl ne_o0_b11)).other W19 (Or.inl ne_o0_b11)).ext E20)
  have Fw23 := q26.same W23
  refine own_of st23 ?_
  show own_Out p e below _ (T23.setTop (mkF m 72 #[rv o0, rv o1, rv o2, iv 2, rv b11, rv o2, iv 3, iv 3, iv 0] []))
  refine o_iconst X23 hx hby d3_72 (z := 0) rfl (q := 73) rfl ?_
  refine o_istore X23 hx hby d3_73 (l' := #[rv o0, rv o1, rv o2, iv 2, rv b11, iv 0, iv 3, iv 3, iv 0]) rfl (q := 75) rfl ?_
  refine o_iload X23 hx hby d3_75 rfl (q := 77) rfl ?_
  refine o_iloadN X23 hx hby d3_77 rfl (q := 78) rfl ?_
  refine o_icN X23 hx hby d3_78 (tlt (by decide : (0 : Int32) < (2 : Int32))).2.1 (q := 81) rfl ?_
  refine o_aloadN X23 hx hby d3_81 rfl rfl (q := 82) rfl ?_
  refine o_getF X23 hx hZ hown hby (w_ hw 35 rfl) Via.refl e23 Fw23 d3_82 (q := 85) rfl fun T27 X27 e27 => ?_
  refine o_iload X27 hx hby d3_85 rfl (q := 87) rfl ?_
  refine o_aload X27 hx hby d3_87 rfl rfl (q := 89) rfl ?_
  refine o_iload X27 hx hby d3_89 rfl (q := 91) rfl ?_
  have q28 := ((V19.ext E20).other W23 (Ne.symm ne_o0_b11))
  refine o_iaV X27 hx hby hZ e27 q28 ⟨by decide, by decide⟩ (v := .int 2) rfl d3_91 (q := 92) rfl ?_
  obtain ⟨T29, h29, k29, X29, e29, E29, A29, Ex29, st29⟩ := newPE X27 hx hZ (w_ hw 5 rfl) e27 (g := (mkF m 92 #[rv o0, rv o1, rv o2, iv 2, rv b11, iv 0, iv 3, iv 3, iv 0] [.int 2, .int 0, .ref b20])) rfl (hb hby d3_92) rfl (by decide) (cap := 2) (by decide) (by decide) (by decide) (by decide) (ad := "[I") (by decide +kernel)
  obtain ⟨b29, g29⟩ : ∃ z, z = h23.size := ⟨_, rfl⟩
  rw [← g29] at A29 Ex29 st29
  have q30 := (Nat.le_trans (Nat.le_trans q21 E20.1) (Keep.of_wr W23).1)
  have g_b29 : n0 ≤ b29 := Nat.le_trans q30 (Nat.le_of_eq g29.symm)
  have q31 := (Nat.le_trans (Nat.le_trans q22 E20.1) (Keep.of_wr W23).1)
  have sz_b29 : h0.size ≤ b29 := Nat.le_trans q31 (Nat.le_of_eq g29.symm)
  have V_b29 : Arv Z h29 b29 k29 .int (2 : Int32) [(.int (0 : Int32)), (.int (0 : Int32))] (.int (0 : Int32)) := (Arv.new A29 (by decide)).pad (pad_rep [] (.int (0 : Int32)) 2)
  refine own_of st29 ?_
  show own_Out p e below _ (T29.setTop (mkF m 94 #[rv o0, rv o1, rv o2, iv 2, rv b11, iv 0, iv 3, iv 3, iv 0] [.ref b29, .int 0, .ref b20]))
  have ne_o0_b20 : o0 ≠ b20 := Nat.ne_of_lt (Nat.lt_of_lt_of_le E.lt sz_b20)
  have q32 := ((V_b20.other W23 (Ne.symm ne_o0_b20)).ext E29)
  refine o_stVR X29 hx hby hZ e29 q32 ⟨by decide, by decide⟩ 0 rfl (Nat.le_of_ble_eq_true rfl) O20 (Ins.self Ex29) d3_94 (q := 95) rfl fun T33 h33 X33 e33 W33 V33 => ?_
  refine o_iinc X33 hx hby d3_95 rfl (l' := #[rv o0, rv o1, rv o2, iv 2, rv b11, iv 1, iv 3, iv 3, iv 0]) rfl (q := 98) rfl ?_
  refine o_goto X33 hx hby d3_98 (by decide) (q := 75) (by decide) ?_
  refine o_iload X33 hx hby d3_75 rfl (q := 77) rfl ?_
  refine o_iloadN X33 hx hby d3_77 rfl (q := 78) rfl ?_
  refine o_icN X33 hx hby d3_78 (tlt (by decide : (1 : Int32) < (2 : Int32))).2.1 (q := 81) rfl ?_
  refine o_aloadN X33 hx hby d3_81 rfl rfl (q := 82) rfl ?_
  have q35 := ((Fw23.ext E29).other W33 (Or.inl ne_o0_b20))
  refine o_getF X33 hx hZ hown hby (w_ hw 35 rfl) Via.refl e33 q35 d3_82 (q := 85) rfl fun T34 X34 e34 => ?_
  refine o_iload X34 hx hby d3_85 rfl (q := 87) rfl ?_
  refine o_aload X34 hx hby d3_87 rfl rfl (q := 89) rfl ?_
  refine o_iload X34 hx hby d3_89 rfl (q := 91) rfl ?_
  have ne_b11_b20 : b11 ≠ b20 := Nat.ne_of_lt (Nat.lt_of_lt_of_le (Nat.lt_of_lt_of_le (Nat.lt_of_lt_of_le (Nat.lt_of_lt_of_le A11.lt (Keep.of_wr W15).1) (Keep.of_wr W17).1) (Keep.of_wr W19).1) (Nat.le_of_eq g20.symm))
  have q36 := ((q28.ext E29).other W33 ne_b11_b20)
  refine o_iaV X34 hx hby hZ e34 q36 ⟨by decide, by decide⟩ (v := .int 1) rfl d3_91 (q := 92) rfl ?_
  obtain ⟨T37, h37, k37, X37, e37, E37, A37, Ex37, st37⟩ := newPE X34 hx hZ (w_ hw 5 rfl) e34 (g := (mkF m 92 #[rv o0, rv o1, rv o2, iv 2, rv b11, iv 1, iv 3, iv 3, iv 0] [.int 1, .int 1, .ref b20])) rfl (hb hby d3_92) rfl (by decide) (cap := 1) (by decide) (by decide) (by decide) (by decide) (ad := "[I") (by decide +kernel)
  obtain ⟨b37, g37⟩ : ∃ z, z = h33.size := ⟨_, rfl⟩
  rw [← g37] at A37 Ex37 st37
  have q38 := (Nat.le_trans (Nat.le_trans q30 E29.1) (Keep.of_wr W33).1)
  have g_b37 : n0 ≤ b37 := Nat.le_trans q38 (Nat.le_of_eq g37.symm)
  have q39 := (Nat.le_trans (Nat.le_trans q31 E29.1) (Keep.of_wr W33).1)
  have sz_b37 : h0.size ≤ b37 := Nat.le_trans q39 (Nat.le_of_eq g37.symm)
  have V_b37 : Arv Z h37 b37 k37 .int (1 : Int32) [(.int (0 : Int32))] (.int (0 : Int32)) := (Arv.new A37 (by decide)).pad (pad_rep [] (.int (0 : Int32)) 1)
  refine own_of st37 ?_
  show own_Out p e below _ (T37.setTop (mkF m 94 #[rv o0, rv o1, rv o2, iv 2, rv b11, iv 1, iv 3, iv 3, iv 0] [.ref b37, .int 1, .ref b20]))
  have q40 := (V33.ext E37)
  refine o_stVR X37 hx hby hZ e37 q40 ⟨by decide, by decide⟩ 1 rfl (Nat.le_of_ble_eq_true rfl) O20 (Ins.self Ex37) d3_94 (q := 95) rfl fun T41 h41 X41 e41 W41 V41 => ?_
  refine o_iinc X41 hx hby d3_95 rfl (l' := #[rv o0, rv o1, rv o2, iv 2, rv b11, iv 2, iv 3, iv 3, iv 0]) rfl (q := 98) rfl ?_
  refine o_goto X41 hx hby d3_98 (by decide) (q := 75) (by decide) ?_
  refine o_iload X41 hx hby d3_75 rfl (q := 77) rfl ?_
  refine o_iloadN X41 hx hby d3_77 rfl (q := 78) rfl ?_
  refine o_icY X41 hx hby d3_78 (flt (by decide : ¬ ((2 : Int32) < (2 : Int32)))).2.1 (by decide) (q := 101) (by decide) ?_
  refine o_iloadN X41 hx hby d3_101 rfl (q := 102) rfl ?_
  obtain ⟨T42, h42, k42, X42, e42, E42, A42, Ex42, st42⟩ := newPE X41 hx hZ (w_ hw 5 rfl) e41 (g := (mkF m 102 #[rv o0, rv o1, rv o2, iv 2, rv b11, iv 2, iv 3, iv 3, iv 0] [.int 2])) rfl (hb hby d3_102) rfl (by decide) (cap := 2) (by decide) (by decide) (by decide) (by decide) (ad := "[I") (by decide +kernel)
  obtain ⟨b42, g42⟩ : ∃ z, z = h41.size := ⟨_, rfl⟩
  rw [← g42] at A42 Ex42 st42
  have q43 := (Nat.le_trans (Nat.le_trans q38 E37.1) (Keep.of_wr W41).1)
  have g_b42 : n0 ≤ b42 := Nat.le_trans q43 (Nat.le_of_eq g42.symm)
  have q44 := (Nat.le_trans (Nat.le_trans q39 E37.1) (Keep.of_wr W41).1)
  have sz_b42 : h0.size ≤ b42 := Nat.le_trans q44 (Nat.le_of_eq g42.symm)
  have V_b42 : Arv Z h42 b42 k42 .int (2 : Int32) [(.int (0 : Int32)), (.int (0 : Int32))] (.int (0 : Int32)) := (Arv.new A42 (by decide)).pad (pad_rep [] (.int (0 : Int32)) 2)
  refine own_of st42 ?_
  show own_Out p e below _ (T42.setTop (mkF m 104 #[rv o0, rv o1, rv o2, iv 2, rv b11, iv 2, iv 3, iv 3, iv 0] [.ref b42]))
  refine o_astore X42 hx hby d3_104 rfl (l' := #[rv o0, rv o1, rv o2, iv 2, rv b11, rv b42, iv 3, iv 3, iv 0]) rfl (q := 106) rfl ?_
  refine o_iconst X42 hx hby d3_106 (z := 0) rfl (q := 107) rfl ?_
  refine o_istore X42 hx hby d3_107 (l' := #[rv o0, rv o1, rv o2, iv 2, rv b11, rv b42, iv 0, iv 3, iv 0]) rfl (q := 109) rfl ?_
  have ne_o2_b20 : o2 ≠ b20 := Nat.ne_of_lt (Nat.lt_of_lt_of_le V.lt sz_b20)
  have q47 := ((((((((q18.other W19 ne_o2_b11).ext E20).other W23 n2).ext E29).other W33 ne_o2_b20).ext E37).other W41 ne_o2_b20).ext E42)
  have q48 := (((q35.ext E37).other W41 (Or.inl ne_o0_b20)).ext E42)
  have q49 := (V41.ext E42)
  have ne_b20_b29 : b20 ≠ b29 := Nat.ne_of_lt (Nat.lt_of_lt_of_le (Nat.lt_of_lt_of_le A20.lt (Keep.of_wr W23).1) (Nat.le_of_eq g29.symm))
  have q50 := ((((V_b29.other W33 (Ne.symm ne_b20_b29)).ext E37).other W41 (Ne.symm ne_b20_b29)).ext E42)
  have ne_b29_b42 : b29 ≠ b42 := Nat.ne_of_lt (Nat.lt_of_lt_of_le (Nat.lt_of_lt_of_le (Nat.lt_of_lt_of_le (Nat.lt_of_lt_of_le A29.lt (Keep.of_wr W33).1) E37.1) (Keep.of_wr W41).1) (Nat.le_of_eq g42.symm))
  refine t3 X42 hx hby hZ e42 hw hown q47 q48 q49 V_b42 q50 ne_b29_b42 ⟨by decide, by decide⟩ (x := 0) rfl ⟨by decide, by decide⟩ rfl (f := 0) rfl ⟨by decide, by decide⟩ (f' := 1) rfl (i' := 1) rfl (iN := 0) rfl (Nat.le_of_ble_eq_true rfl) (jN := 0) rfl (Nat.le_of_ble_eq_true rfl) fun T46 h45 h46 X46 e46 W45 W46 V45 V46 => ?_
  have ne_o2_b42 : o2 ≠ b42 := Nat.ne_of_lt (Nat.lt_of_lt_of_le V.lt sz_b42)
  have ne_o2_b29 : o2 ≠ b29 := Nat.ne_of_lt (Nat.lt_of_lt_of_le V.lt sz_b29)
  have q53 := ((q47.other W45 ne_o2_b42).other W46 ne_o2_b29)
  have ne_o0_b42 : o0 ≠ b42 := Nat.ne_of_lt (Nat.lt_of_lt_of_le E.lt sz_b42)
  have ne_o0_b29 : o0 ≠ b29 := Nat.ne_of_lt (Nat.lt_of_lt_of_le E.lt sz_b29)
  have q54 := ((q48.other W45 (Or.inl ne_o0_b42)).other W46 (Or.inl ne_o0_b29))
  have ne_b20_b42 : b20 ≠ b42 := Nat.ne_of_lt (Nat.lt_of_lt_of_le (Nat.lt_of_lt_of_le (Nat.lt_of_lt_of_le (Nat.lt_of_lt_of_le (Nat.lt_of_lt_of_le (Nat.lt_of_lt_of_le A20.lt (Keep.of_wr W23).1) E29.1) (Keep.of_wr W33).1) E37.1) (Keep.of_wr W41).1) (Nat.le_of_eq g42.symm))
  have q55 := ((q49.other W45 ne_b20_b42).other W46 ne_b20_b29)
  have q56 := (V45.other W46 (Ne.symm ne_b29_b42))
  have ne_b20_b37 : b20 ≠ b37 := Nat.ne_of_lt (Nat.lt_of_lt_of_le (Nat.lt_of_lt_of_le (Nat.lt_of_lt_of_le (Nat.lt_of_lt_of_le A20.lt (Keep.of_wr W23).1) E29.1) (Keep.of_wr W33).1) (Nat.le_of_eq g37.symm))
  have ne_b37_b42 : b37 ≠ b42 := Nat.ne_of_lt (Nat.lt_of_lt_of_le (Nat.lt_of_lt_of_le A37.lt (Keep.of_wr W41).1) (Nat.le_of_eq g42.symm))
  have ne_b29_b37 : b29 ≠ b37 := Nat.ne_of_lt (Nat.lt_of_lt_of_le (Nat.lt_of_lt_of_le A29.lt (Keep.of_wr W33).1) (Nat.le_of_eq g37.symm))
  have q57 := ((((V_b37.other W41 (Ne.symm ne_b20_b37)).ext E42).other W45 ne_b37_b42).other W46 (Ne.symm ne_b29_b37))
  refine t3 X46 hx hby hZ e46 hw hown q53 q54 q55 q56 q57 ne_b37_b42 ⟨by decide, by decide⟩ (x := 1) rfl ⟨by decide, by decide⟩ rfl (f := 0) rfl ⟨by decide, by decide⟩ (f' := 1) rfl (i' := 2) rfl (iN := 1) rfl (Nat.le_of_ble_eq_true rfl) (jN := 0) rfl (Nat.le_of_ble_eq_true rfl) fun T52 h51 h52 X52 e52 W51 W52 V51 V52 => ?_
  have ne_o2_b37 : o2 ≠ b37 := Nat.ne_of_lt (Nat.lt_of_lt_of_le V.lt sz_b37)
  have q60 := ((q53.other W51 ne_o2_b42).other W52 ne_o2_b37)
  have ne_o0_b37 : o0 ≠ b37 := Nat.ne_of_lt (Nat.lt_of_lt_of_le E.lt sz_b37)
  have q61 := ((q54.other W51 (Or.inl ne_o0_b42)).other W52 (Or.inl ne_o0_b37))
  have q62 := ((q55.other W51 ne_b20_b42).other W52 ne_b20_b37)
  have q63 := (V51.other W52 (Ne.symm ne_b37_b42))
  have q64 := ((V46.other W51 ne_b29_b42).other W52 ne_b29_b37)
  refine t3 X52 hx hby hZ e52 hw hown q60 q61 q62 q63 q64 ne_b29_b42 ⟨by decide, by decide⟩ (x := 0) rfl ⟨by decide, by decide⟩ rfl (f := 1) rfl ⟨by decide, by decide⟩ (f' := 2) rfl (i' := 3) rfl (iN := 0) rfl (Nat.le_of_ble_eq_true rfl) (jN := 1) rfl (Nat.le_of_ble_eq_true rfl) fun T59 h58 h59 X59 e59 W58 W59 V58 V59 => ?_
  refine o_iload X59 hx hby d3_109 rfl (q := 111) rfl ?_
  refine o_aloadN X59 hx hby d3_111 rfl rfl (q := 112) rfl ?_
  have q65 := ((q60.other W58 ne_o2_b42).other W59 ne_o2_b29)
  refine o_lenV X59 hx hby hZ e59 q65 d3_112 (q := 113) rfl ?_
  refine o_icY X59 hx hby d3_113 (flt (by decide : ¬ ((3 : Int32) < (3 : Int32)))).2.1 (by decide) (q := 146) (by decide) ?_
  have q66 := (((((((((((((((((((((Keep.refl h0 [o0]).wr W2 (Or.inl (List.mem_of_getElem? (i := 0) rfl))).wr W3 (Or.inl (List.mem_of_getElem? (i := 0) rfl))).wr W7 (Or.inl (List.mem_of_getElem? (i := 0) rfl))).ext E11).wr W15 (Or.inr sz_b11)).wr W17 (Or.inr sz_b11)).wr W19 (Or.inr sz_b11)).ext E20).wr W23 (Or.inl (List.mem_of_getElem? (i := 0) rfl))).ext E29).wr W33 (Or.inr sz_b20)).ext E37).wr W41 (Or.inr sz_b20)).ext E42).wr W45 (Or.inr sz_b42)).wr W46 (Or.inr sz_b29)).wr W51 (Or.inr sz_b42)).wr W52 (Or.inr sz_b37)).wr W58 (Or.inr sz_b42)).wr W59 (Or.inr sz_b29))
  have q67 := ((((((((((((q25.wr W23).ext E29).wr W33).ext E37).wr W41).ext E42).wr W45).wr W46).wr W51).wr W52).wr W58).wr W59)
  have q68 := ((((((((((((((((((Fw3.other W7 (Or.inr (slot_ne (Or.inr (w_ hw 30 rfl)) (Or.inr (w_ hw 32 rfl)) (by decide) (t := (.array .int)) (t' := .int) (by decide) (by decide)))).ext E11).other W15 (Or.inl ne_o0_b11)).other W17 (Or.inl ne_o0_b11)).other W19 (Or.inl ne_o0_b11)).ext E20).other W23 (Or.inr (slot_ne (Or.inr (w_ hw 30 rfl)) (Or.inr (w_ hw 36 rfl)) (by decide) (t := (.array .int)) (t' := (.array (.array .int))) (by decide) (by decide)))).ext E29).other W33 (Or.inl ne_o0_b20)).ext E37).other W41 (Or.inl ne_o0_b20)).ext E42).other W45 (Or.inl ne_o0_b42)).other W46 (Or.inl ne_o0_b29)).other W51 (Or.inl ne_o0_b42)).other W52 (Or.inl ne_o0_b37)).other W58 (Or.inl ne_o0_b42)).other W59 (Or.inl ne_o0_b29))
  have q69 := (((((((((((((((((Fw7.ext E11).other W15 (Or.inl ne_o0_b11)).other W17 (Or.inl ne_o0_b11)).other W19 (Or.inl ne_o0_b11)).ext E20).other W23 (Or.inr (slot_ne (Or.inr (w_ hw 32 rfl)) (Or.inr (w_ hw 36 rfl)) (by decide) (t := .int) (t' := (.array (.array .int))) (by decide) (by decide)))).ext E29).other W33 (Or.inl ne_o0_b20)).ext E37).other W41 (Or.inl ne_o0_b20)).ext E42).other W45 (Or.inl ne_o0_b42)).other W46 (Or.inl ne_o0_b29)).other W51 (Or.inl ne_o0_b42)).other W52 (Or.inl ne_o0_b37)).other W58 (Or.inl ne_o0_b42)).other W59 (Or.inl ne_o0_b29))
  exact own_outV X59 hx hlk hret (hb hby d3_146) (Q := Q3c010n2 Z o0 o1 o2 k2 h0 n0) (by rw [e59]; exact ⟨rfl, (Fr.snoc X59 (own_snoc (Fr.snoc X52 (own_snoc (Fr.snoc X46 (own_snoc (Fr.snoc X41 (Fr.snoc X33 (Fr.snoc X23 (Fr.snoc X19 (Fr.snoc X17 (Fr.snoc X15 (Fr.snoc X7 (Fr.snoc X3 (Fr.snoc X2 N0 g_o0) g_o0) g_o0) g_b11) g_b11) g_b11) g_o0) g_b20) g_b20) g_b42) g_b29) g_b42) g_b37) g_b42) g_b29), q66, q67, q68, q69⟩) (by decide) (by decide)
theorem ef_3c0100n2 (m : MethodId) (x0 : Addr) (x1 : Addr) (x2 : Addr) : entryFrame m #[(.ref x0), (.ref x1), (.ref x2), (.int (2 : Int32))] 9 = mkF m 0 #[.val (.ref x0), .val (.ref x1), .val (.ref x2), .val (.int (2 : Int32)), .unset, .unset, .unset, .unset, .unset] [] := by first | (simp [entryFrame, mkF, argsToLocals, Value.category]; done) | rfl
def Q3c0100n2 (Z : State) (o0 : Addr) (o1 : Addr) (o2 : Addr) (k2 : ClassId) (h0 : Heap) (n0 : Nat) (v : Option Value) (h : Heap) (L : List Loc) : Prop := v = none ∧ Fr n0 L ∧ Keep h0 h [o0] ∧ Exa Z h o0 "com/example/slimc/slimc/game/Observation" ∧ Fld Z h o0 "com/example/slimc/slimc/game/Observation" "classOf" "[I" (.ref o2) ∧ Fld Z h o0 "com/example/slimc/slimc/game/Observation" "classCount" "I" (.int (2 : Int32))
set_option maxRecDepth 65536 in
set_option maxHeartbeats 40000000 in
theorem rm3c0100n2 (l : Launch) (Z : State) (a0 : Array Value) (hw : ∀ d ∈ tables_1, d.before a0 Z = true) (ws : List Jvm.Cond) (o0 : Addr) (o1 : Addr) (o2 : Addr) (k2 : ClassId) (h0 : Heap) (n0 : Nat) (Z0 : n0 ≤ h0.size) (E : Exa Z h0 o0 "com/example/slimc/slimc/game/Observation") (F_name : Fld Z h0 o0 "com/example/slimc/slimc/game/Observation" "name" "Ljava/lang/String;" .null) (F_classOf : Fld Z h0 o0 "com/example/slimc/slimc/game/Observation" "classOf" "[I" .null) (F_classCount : Fld Z h0 o0 "com/example/slimc/slimc/game/Observation" "classCount" "I" (.int (0 : Int32))) (F_classes : Fld Z h0 o0 "com/example/slimc/slimc/game/Observation" "classes" "[[I" .null) (g_o0 : n0 ≤ o0) (V : Arv Z h0 o2 k2 .int (4 : Int32) [(.int (0 : Int32)), (.int (1 : Int32)), (.int (0 : Int32)), (.int (0 : Int32))] (.int (0 : Int32))) (n2 : o2 ≠ o0) :
    MetFree l (⟨"com/example/slimc/slimc/game/Observation", "<init>", "(Ljava/lang/String;[II)V"⟩ : MethodName) (head1 (Jvm.Cond.code (⟨"com/example/slimc/slimc/game/Observation", "<init>", "(Ljava/lang/String;[II)V"⟩ : MethodName) prog_66_method_1_code 9 none :: ws) ({ frames := 1, cells := 7, slots := 16, locals := 14 } : Room)) (fun a U => a = #[(.ref o0), (.ref o1), (.ref o2), (.int (2 : Int32))] ∧ Z.Warmed39 U.vm ∧ U.heap = h0) (fun _ _ _ _ _ => True) (fun _ U o U' => ∃ v L, o = .returned v ∧ Q3c0100n2 Z o0 o1 o2 k2 h0 n0 v U'.heap L ∧ FrameEnd U o U' L ({ frames := 1, cells := 7, slots := 16, locals := 14 } : Room).cells ({ frames := 1, cells := 7, slots := 16, locals := 14 } : Room).slots) := by
  refine MetFree.of_bodySF (plainFor_of_name pn_1) hisR ?_
  intro p e s m args below meth c s₁ Bd hml0 hP hK
  obtain ⟨rfl, hZ, hh⟩ := hP
  have hx := Bd.exec
  have hby := Bd.bytes
  have hml : c.maxLocals = 9 := hml0
  have hown : s.vm.findClass "com/example/slimc/slimc/game/Observation" = some m.cls := findClass_of_methodNamed Bd.named
  have hnm := (name_of_methodNamed Bd.named Bd.method).1
  have X0 : Stand p l e ({ frames := 1, cells := 7, slots := 16, locals := 14 } : Room) s m #[(.ref o0), (.ref o1), (.ref o2), (.int (2 : Int32))] below meth c s₁ [] 0 0 := Stand.of_body Bd
  have e0 : s₁.heap = h0 := by rw [← hh, Bd.state]; rfl
  have N0 := Fr.nil n0
  have hret := Bd.returns
  have hlk := BodyLoose.notSynchronized Bd
  show own_Out p e below (fun o U' => ∃ v L, o = .returned v ∧ Q3c0100n2 Z o0 o1 o2 k2 h0 n0 v U'.heap L ∧ FrameEnd s o U' L ({ frames := 1, cells := 7, slots := 16, locals := 14 } : Room).cells ({ frames := 1, cells := 7, slots := 16, locals := 14 } : Room).slots) (s₁.setTop (entryFrame m #[(.ref o0), (.ref o1), (.ref o2), (.int (2 : Int32))] 9))
  refine own_of (fun t k => castTop (ef_3c0100n2 m o0 o1 o2) k) ?_
  show own_Out p e below _ (s₁.setTop (mkF m 0 #[rv o0, rv o1, rv o2, iv 2, .unset, .unset, .unset, .unset, .unset] []))
  refine o_aloadN X0 hx hby d3_0 rfl rfl (q := 1) rfl ?_
  obtain ⟨T1, X1, e1, st1⟩ := initO X0 hx hZ hown (w_ hw 24 rfl) (w_ hw 25 rfl) (w_ hw 26 rfl) e0 (g := (mkF m 1 #[rv o0, rv o1, rv o2, iv 2, .unset, .unset, .unset, .unset, .unset] [.ref o0])) rfl (by rw [hml]; rfl) rfl (hb hby d3_1) (by decide) (W := 0) (by show 2 * 0 + _ ≤ _; exact Nat.le_of_eq rfl) (by decide)
  refine own_of st1 ?_
  show own_Out p e below _ (T1.setTop (mkF m 4 #[rv o0, rv o1, rv o2, iv 2, .unset, .unset, .unset, .unset, .unset] []))
  refine o_aloadN X1 hx hby d3_4 rfl rfl (q := 5) rfl ?_
  refine o_aloadN X1 hx hby d3_5 rfl rfl (q := 6) rfl ?_
  obtain ⟨T2, h2, X2, e2, W2, st2⟩ := putF X1 hx hZ hown (host := "") (Or.inl (w_ hw 27 rfl)) Via.refl e1 F_name E (Or.inr ⟨(w_ hw 28 rfl), rfl, hnm⟩) (w_ hw 11 rfl) (ty := (.object "java/lang/String")) (by decide) rfl rfl (g := (mkF m 6 #[rv o0, rv o1, rv o2, iv 2, .unset, .unset, .unset, .unset, .unset] [.ref o1, .ref o0])) rfl rfl (hb hby d3_6)
  have Fw2 := F_name.same W2
  refine own_of st2 ?_
  show own_Out p e below _ (T2.setTop (mkF m 9 #[rv o0, rv o1, rv o2, iv 2, .unset, .unset, .unset, .unset, .unset] []))
  refine o_aloadN X2 hx hby d3_9 rfl rfl (q := 10) rfl ?_
  refine o_aloadN X2 hx hby d3_10 rfl rfl (q := 11) rfl ?_
  have q4 := (F_classOf.other W2 (Or.inr (slot_ne (Or.inr (w_ hw 30 rfl)) (Or.inr (w_ hw 28 rfl)) (by decide) (t := (.array .int)) (t' := (.object "java/lang/String")) (by decide) (by decide))))
  have q5 := (E.wr W2)
  obtain ⟨T3, h3, X3, e3, W3, st3⟩ := putF X2 hx hZ hown (host := "") (Or.inl (w_ hw 29 rfl)) Via.refl e2 q4 q5 (Or.inr ⟨(w_ hw 30 rfl), rfl, hnm⟩) (w_ hw 11 rfl) (ty := (.array .int)) (by decide) rfl rfl (g := (mkF m 11 #[rv o0, rv o1, rv o2, iv 2, .unset, .unset, .unset, .unset, .unset] [.ref o2, .ref o0])) rfl rfl (hb hby d3_11)
  have q6 := (F_classOf.other W2 (Or.inr (slot_ne (Or.inr (w_ hw 30 rfl)) (Or.inr (w_ hw 28 rfl)) (by decide) (t := (.array .int)) (t' := (.object "java/lang/String")) (by decide) (by decide))))
  have Fw3 := q6.same W3
  refine own_of st3 ?_
  show own_Out p e below _ (T3.setTop (mkF m 14 #[rv o0, rv o1, rv o2, iv 2, .unset, .unset, .unset, .unset, .unset] []))
  refine o_aloadN X3 hx hby d3_14 rfl rfl (q := 15) rfl ?_
  refine o_iloadN X3 hx hby d3_15 rfl (q := 16) rfl ?_
  have q8 := ((F_classCount.other W2 (Or.inr (slot_ne (Or.inr (w_ hw 32 rfl)) (Or.inr (w_ hw 28 rfl)) (by decide) (t := .int) (t' := (.object "java/lang/String")) (by decide) (by decide)))).other W3 (Or.inr (slot_ne (Or.inr (w_ hw 32 rfl)) (Or.inr (w_ hw 30 rfl)) (by decide) (t := .int) (t' := (.array .int)) (by decide) (by decide))))
  have q9 := (q5.wr W3)
  obtain ⟨T7, h7, X7, e7, W7, st7⟩ := putF X3 hx hZ hown (host := "") (Or.inl (w_ hw 31 rfl)) Via.refl e3 q8 q9 (Or.inr ⟨(w_ hw 32 rfl), rfl, hnm⟩) (w_ hw 11 rfl) (ty := .int) (by decide) rfl rfl (g := (mkF m 16 #[rv o0, rv o1, rv o2, iv 2, .unset, .unset, .unset, .unset, .unset] [.int 2, .ref o0])) rfl rfl (hb hby d3_16)
  have q10 := ((F_classCount.other W2 (Or.inr (slot_ne (Or.inr (w_ hw 32 rfl)) (Or.inr (w_ hw 28 rfl)) (by decide) (t := .int) (t' := (.object "java/lang/String")) (by decide) (by decide)))).other W3 (Or.inr (slot_ne (Or.inr (w_ hw 32 rfl)) (Or.inr (w_ hw 30 rfl)) (by decide) (t := .int) (t' := (.array .int)) (by decide) (by decide))))
  have Fw7 := q10.same W7
  refine own_of st7 ?_
  show own_Out p e below _ (T7.setTop (mkF m 19 #[rv o0, rv o1, rv o2, iv 2, .unset, .unset, .unset, .unset, .unset] []))
  refine o_iloadN X7 hx hby d3_19 rfl (q := 20) rfl ?_
  obtain ⟨T11, h11, k11, X11, e11, E11, A11, Ex11, st11⟩ := newPE X7 hx hZ (w_ hw 5 rfl) e7 (g := (mkF m 20 #[rv o0, rv o1, rv o2, iv 2, .unset, .unset, .unset, .unset, .unset] [.int 2])) rfl (hb hby d3_20) rfl (by decide) (cap := 2) (by decide) (by decide) (by decide) (by decide) (ad := "[I") (by decide +kernel)
  obtain ⟨b11, g11⟩ : ∃ z, z = h7.size := ⟨_, rfl⟩
  rw [← g11] at A11 Ex11 st11
  have q12 := (Nat.le_trans (Nat.le_trans (Nat.le_trans Z0 (Keep.of_wr W2).1) (Keep.of_wr W3).1) (Keep.of_wr W7).1)
  have g_b11 : n0 ≤ b11 := Nat.le_trans q12 (Nat.le_of_eq g11.symm)
  have q13 := (Nat.le_trans (Nat.le_trans (Nat.le_trans (Nat.le_refl h0.size) (Keep.of_wr W2).1) (Keep.of_wr W3).1) (Keep.of_wr W7).1)
  have sz_b11 : h0.size ≤ b11 := Nat.le_trans q13 (Nat.le_of_eq g11.symm)
  have V_b11 : Arv Z h11 b11 k11 .int (2 : Int32) [(.int (0 : Int32)), (.int (0 : Int32))] (.int (0 : Int32)) := (Arv.new A11 (by decide)).pad (pad_rep [] (.int (0 : Int32)) 2)
  refine own_of st11 ?_
  show own_Out p e below _ (T11.setTop (mkF m 22 #[rv o0, rv o1, rv o2, iv 2, .unset, .unset, .unset, .unset, .unset] [.ref b11]))
  refine o_astore X11 hx hby d3_22 rfl (l' := #[rv o0, rv o1, rv o2, iv 2, rv b11, .unset, .unset, .unset, .unset]) rfl (q := 24) rfl ?_
  refine o_aloadN X11 hx hby d3_24 rfl rfl (q := 25) rfl ?_
  refine o_astore X11 hx hby d3_25 rfl (l' := #[rv o0, rv o1, rv o2, iv 2, rv b11, rv o2, .unset, .unset, .unset]) rfl (q := 27) rfl ?_
  refine o_aload X11 hx hby d3_27 rfl rfl (q := 29) rfl ?_
  have q14 := ((((V.other W2 n2).other W3 n2).other W7 n2).ext E11)
  refine o_lenV X11 hx hby hZ e11 q14 d3_29 (q := 30) rfl ?_
  refine o_istore X11 hx hby d3_30 (l' := #[rv o0, rv o1, rv o2, iv 2, rv b11, rv o2, iv 4, .unset, .unset]) rfl (q := 32) rfl ?_
  refine o_iconst X11 hx hby d3_32 (z := 0) rfl (q := 33) rfl ?_
  refine o_istore X11 hx hby d3_33 (l' := #[rv o0, rv o1, rv o2, iv 2, rv b11, rv o2, iv 4, iv 0, .unset]) rfl (q := 35) rfl ?_
  refine t1 X11 hx hby hZ e11 q14 V_b11 rfl ⟨by decide, by decide⟩ (cc := 0) rfl ⟨by decide, by decide⟩ (y := 0) rfl (y' := 1) rfl (i' := 1) rfl (iN := 0) rfl (Nat.le_of_ble_eq_true rfl) fun T15 h15 X15 e15 W15 V15 => ?_
  have ne_o2_b11 : o2 ≠ b11 := Nat.ne_of_lt (Nat.lt_of_lt_of_le V.lt sz_b11)
  have q16 := (q14.other W15 ne_o2_b11)
  refine t1 X15 hx hby hZ e15 q16 V15 rfl ⟨by decide, by decide⟩ (cc := 1) rfl ⟨by decide, by decide⟩ (y := 0) rfl (y' := 1) rfl (i' := 2) rfl (iN := 1) rfl (Nat.le_of_ble_eq_true rfl) fun T17 h17 X17 e17 W17 V17 => ?_
  have q18 := (q16.other W17 ne_o2_b11)
  refine t1 X17 hx hby hZ e17 q18 V17 rfl ⟨by decide, by decide⟩ (cc := 0) rfl ⟨by decide, by decide⟩ (y := 1) rfl (y' := 2) rfl (i' := 3) rfl (iN := 0) rfl (Nat.le_of_ble_eq_true rfl) fun T19 h19 X19 e19 W19 V19 => ?_
  have q20 := (q18.other W19 ne_o2_b11)
  refine t1 X19 hx hby hZ e19 q20 V19 rfl ⟨by decide, by decide⟩ (cc := 0) rfl ⟨by decide, by decide⟩ (y := 2) rfl (y' := 3) rfl (i' := 4) rfl (iN := 0) rfl (Nat.le_of_ble_eq_true rfl) fun T21 h21 X21 e21 W21 V21 => ?_
  refine o_iload X21 hx hby d3_35 rfl (q := 37) rfl ?_
  refine o_iload X21 hx hby d3_37 rfl (q := 39) rfl ?_
  refine o_icY X21 hx hby d3_39 (flt (by decide : ¬ ((4 : Int32) < (4 : Int32)))).2.1 (by decide) (q := 64) (by decide) ?_
  refine o_aloadN X21 hx hby d3_64 rfl rfl (q := 65) rfl ?_
  refine o_iloadN X21 hx hby d3_65 rfl (q := 66) rfl ?_
  obtain ⟨T22, h22, k22, X22, e22, E22, A22, Ex22, O22, st22⟩ := newRA X21 hx hZ hown (ty := .int) (by decide +kernel) (w_ hw 33 rfl) (w_ hw 34 rfl) e21 (g := (mkF m 66 #[rv o0, rv o1, rv o2, iv 2, rv b11, rv o2, iv 4, iv 4, iv 0] [.int 2, .ref o0])) rfl (hb hby d3_66) rfl (by decide) (cap := 2) (by decide) (by decide) (by decide) (by decide) (ad := "[[I") (by decide +kernel)
  obtain ⟨b22, g22⟩ : ∃ z, z = h21.size := ⟨_, rfl⟩
  rw [← g22] at A22 Ex22 st22
  have q23 := (Nat.le_trans (Nat.le_trans (Nat.le_trans (Nat.le_trans (Nat.le_trans q12 E11.1) (Keep.of_wr W15).1) (Keep.of_wr W17).1) (Keep.of_wr W19).1) (Keep.of_wr W21).1)
  have g_b22 : n0 ≤ b22 := Nat.le_trans q23 (Nat.le_of_eq g22.symm)
  have q24 := (Nat.le_trans (Nat.le_trans (Nat.le_trans (Nat.le_trans (Nat.le_trans q13 E11.1) (Keep.of_wr W15).1) (Keep.of_wr W17).1) (Keep.of_wr W19).1) (Keep.of_wr W21).1)
  have sz_b22 : h0.size ≤ b22 := Nat.le_trans q24 (Nat.le_of_eq g22.symm)
  have V_b22 : Arv Z h22 b22 k22 (.array .int) (2 : Int32) [.null, .null] .null := (Arv.new A22 (by decide)).pad (pad_rep [] .null 2)
  refine own_of st22 ?_
  show own_Out p e below _ (T22.setTop (mkF m 69 #[rv o0, rv o1, rv o2, iv 2, rv b11, rv o2, iv 4, iv 4, iv 0] [.ref b22, .ref o0]))
  have ne_o0_b11 : o0 ≠ b11 := Nat.ne_of_lt (Nat.lt_of_lt_of_le E.lt sz_b11)
  have q26 := (((((((((F_classes.other W2 (Or.inr (slot_ne (Or.inr (w_ hw 36 rfl)) (Or.inr (w_ hw 28 rfl)) (by decide) (t := (.array (.array .int))) (t' := (.object "java/lang/String")) (by decide) (by decide)))).other W3 (Or.inr (slot_ne (Or.inr (w_ hw 36 rfl)) (Or.inr (w_ hw 30 rfl)) (by decide) (t := (.array (.array .int))) (t' := (.array .int)) (by decide) (by decide)))).other W7 (Or.inr (slot_ne (Or.inr (w_ hw 36 rfl)) (Or.inr (w_ hw 32 rfl)) (by decide) (t := (.array (.array .int))) (t' := .int) (by decide) (by decide)))).ext E11).other W15 (Or.inl ne_o0_b11)).other W17 (Or.inl ne_o0_b11)).other W19 (Or.inl ne_o0_b11)).other W21 (Or.inl ne_o0_b11)).ext E22)
  have q27 := (((((((q9.wr W7).ext E11).wr W15).wr W17).wr W19).wr W21).ext E22)
  obtain ⟨T25, h25, X25, e25, W25, st25⟩ := putF X22 hx hZ hown (host := "") (Or.inl (w_ hw 35 rfl)) Via.refl e22 q26 q27 (Or.inr ⟨(w_ hw 36 rfl), rfl, hnm⟩) (w_ hw 11 rfl) (ty := (.array (.array .int))) (by decide) rfl rfl (g := (mkF m 69 #[rv o0, rv o1, rv o2, iv 2, rv b11, rv o2, iv 4, iv 4, iv 0] [.ref b22, .ref o0])) rfl rfl (hb hby d3_69)
  have q28 := (((((((((F_classes.other W2 (Or.inr (slot_ne (Or.inr (w_ hw 36 rfl)) (Or.inr (w_ hw 28 rfl)) (by decide) (t := (.array (.array .int))) (t' := (.object "java/lang/String")) (by decide) (by decide)))).other W3 (Or.inr (slot_ne (Or.inr (w_ hw 36 rfl)) (Or.inr (w_ hw 30 rfl)) (by decide) (t := (.array (.array .int))) (t' := (.array .int)) (by decide) (by decide)))).other W7 (Or.inr (slot_ne (Or.inr (w_ hw 36 rfl)) (Or.inr (w_ hw 32 rfl)) (by decide) (t := (.array (.array .int))) (t' := .int) (by decide) (by decide)))).ext E11).other W15 (Or.inl ne_o0_b11)).other W17 (Or.inl ne_o0_b11)).other W19 (Or.inl ne_o0_b11)).other W21 (Or.inl ne_o0_b11)).ext E22)
  have Fw25 := q28.same W25
  refine own_of st25 ?_
  show own_Out p e below _ (T25.setTop (mkF m 72 #[rv o0, rv o1, rv o2, iv 2, rv b11, rv o2, iv 4, iv 4, iv 0] []))
  refine o_iconst X25 hx hby d3_72 (z := 0) rfl (q := 73) rfl ?_
  refine o_istore X25 hx hby d3_73 (l' := #[rv o0, rv o1, rv o2, iv 2, rv b11, iv 0, iv 4, iv 4, iv 0]) rfl (q := 75) rfl ?_
  refine o_iload X25 hx hby d3_75 rfl (q := 77) rfl ?_
  refine o_iloadN X25 hx hby d3_77 rfl (q := 78) rfl ?_
  refine o_icN X25 hx hby d3_78 (tlt (by decide : (0 : Int32) < (2 : Int32))).2.1 (q := 81) rfl ?_
  refine o_aloadN X25 hx hby d3_81 rfl rfl (q := 82) rfl ?_
  refine o_getF X25 hx hZ hown hby (w_ hw 35 rfl) Via.refl e25 Fw25 d3_82 (q := 85) rfl fun T29 X29 e29 => ?_
  refine o_iload X29 hx hby d3_85 rfl (q := 87) rfl ?_
  refine o_aload X29 hx hby d3_87 rfl rfl (q := 89) rfl ?_
  refine o_iload X29 hx hby d3_89 rfl (q := 91) rfl ?_
  have q30 := ((V21.ext E22).other W25 (Ne.symm ne_o0_b11))
  refine o_iaV X29 hx hby hZ e29 q30 ⟨by decide, by decide⟩ (v := .int 3) rfl d3_91 (q := 92) rfl ?_
  obtain ⟨T31, h31, k31, X31, e31, E31, A31, Ex31, st31⟩ := newPE X29 hx hZ (w_ hw 5 rfl) e29 (g := (mkF m 92 #[rv o0, rv o1, rv o2, iv 2, rv b11, iv 0, iv 4, iv 4, iv 0] [.int 3, .int 0, .ref b22])) rfl (hb hby d3_92) rfl (by decide) (cap := 3) (by decide) (by decide) (by decide) (by decide) (ad := "[I") (by decide +kernel)
  obtain ⟨b31, g31⟩ : ∃ z, z = h25.size := ⟨_, rfl⟩
  rw [← g31] at A31 Ex31 st31
  have q32 := (Nat.le_trans (Nat.le_trans q23 E22.1) (Keep.of_wr W25).1)
  have g_b31 : n0 ≤ b31 := Nat.le_trans q32 (Nat.le_of_eq g31.symm)
  have q33 := (Nat.le_trans (Nat.le_trans q24 E22.1) (Keep.of_wr W25).1)
  have sz_b31 : h0.size ≤ b31 := Nat.le_trans q33 (Nat.le_of_eq g31.symm)
  have V_b31 : Arv Z h31 b31 k31 .int (3 : Int32) [(.int (0 : Int32)), (.int (0 : Int32)), (.int (0 : Int32))] (.int (0 : Int32)) := (Arv.new A31 (by decide)).pad (pad_rep [] (.int (0 : Int32)) 3)
  refine own_of st31 ?_
  show own_Out p e below _ (T31.setTop (mkF m 94 #[rv o0, rv o1, rv o2, iv 2, rv b11, iv 0, iv 4, iv 4, iv 0] [.ref b31, .int 0, .ref b22]))
  have ne_o0_b22 : o0 ≠ b22 := Nat.ne_of_lt (Nat.lt_of_lt_of_le E.lt sz_b22)
  have q34 := ((V_b22.other W25 (Ne.symm ne_o0_b22)).ext E31)
  refine o_stVR X31 hx hby hZ e31 q34 ⟨by decide, by decide⟩ 0 rfl (Nat.le_of_ble_eq_true rfl) O22 (Ins.self Ex31) d3_94 (q := 95) rfl fun T35 h35 X35 e35 W35 V35 => ?_
  refine o_iinc X35 hx hby d3_95 rfl (l' := #[rv o0, rv o1, rv o2, iv 2, rv b11, iv 1, iv 4, iv 4, iv 0]) rfl (q := 98) rfl ?_
  refine o_goto X35 hx hby d3_98 (by decide) (q := 75) (by decide) ?_
  refine o_iload X35 hx hby d3_75 rfl (q := 77) rfl ?_
  refine o_iloadN X35 hx hby d3_77 rfl (q := 78) rfl ?_
  refine o_icN X35 hx hby d3_78 (tlt (by decide : (1 : Int32) < (2 : Int32))).2.1 (q := 81) rfl ?_
  refine o_aloadN X35 hx hby d3_81 rfl rfl (q := 82) rfl ?_
  have q37 := ((Fw25.ext E31).other W35 (Or.inl ne_o0_b22))
  refine o_getF X35 hx hZ hown hby (w_ hw 35 rfl) Via.refl e35 q37 d3_82 (q := 85) rfl fun T36 X36 e36 => ?_
  refine o_iload X36 hx hby d3_85 rfl (q := 87) rfl ?_
  refine o_aload X36 hx hby d3_87 rfl rfl (q := 89) rfl ?_
  refine o_iload X36 hx hby d3_89 rfl (q := 91) rfl ?_
  have ne_b11_b22 : b11 ≠ b22 := Nat.ne_of_lt (Nat.lt_of_lt_of_le (Nat.lt_of_lt_of_le (Nat.lt_of_lt_of_le (Nat.lt_of_lt_of_le (Nat.lt_of_lt_of_le A11.lt (Keep.of_wr W15).1) (Keep.of_wr W17).1) (Keep.of_wr W19).1) (Keep.of_wr W21).1) (Nat.le_of_eq g22.symm))
  have q38 := ((q30.ext E31).other W35 ne_b11_b22)
  refine o_iaV X36 hx hby hZ e36 q38 ⟨by decide, by decide⟩ (v := .int 1) rfl d3_91 (q := 92) rfl ?_
  obtain ⟨T39, h39, k39, X39, e39, E39, A39, Ex39, st39⟩ := newPE X36 hx hZ (w_ hw 5 rfl) e36 (g := (mkF m 92 #[rv o0, rv o1, rv o2, iv 2, rv b11, iv 1, iv 4, iv 4, iv 0] [.int 1, .int 1, .ref b22])) rfl (hb hby d3_92) rfl (by decide) (cap := 1) (by decide) (by decide) (by decide) (by decide) (ad := "[I") (by decide +kernel)
  obtain ⟨b39, g39⟩ : ∃ z, z = h35.size := ⟨_, rfl⟩
  rw [← g39] at A39 Ex39 st39
  have q40 := (Nat.le_trans (Nat.le_trans q32 E31.1) (Keep.of_wr W35).1)
  have g_b39 : n0 ≤ b39 := Nat.le_trans q40 (Nat.le_of_eq g39.symm)
  have q41 := (Nat.le_trans (Nat.le_trans q33 E31.1) (Keep.of_wr W35).1)
  have sz_b39 : h0.size ≤ b39 := Nat.le_trans q41 (Nat.le_of_eq g39.symm)
  have V_b39 : Arv Z h39 b39 k39 .int (1 : Int32) [(.int (0 : Int32))] (.int (0 : Int32)) := (Arv.new A39 (by decide)).pad (pad_rep [] (.int (0 : Int32)) 1)
  refine own_of st39 ?_
  show own_Out p e below _ (T39.setTop (mkF m 94 #[rv o0, rv o1, rv o2, iv 2, rv b11, iv 1, iv 4, iv 4, iv 0] [.ref b39, .int 1, .ref b22]))
  have q42 := (V35.ext E39)
  refine o_stVR X39 hx hby hZ e39 q42 ⟨by decide, by decide⟩ 1 rfl (Nat.le_of_ble_eq_true rfl) O22 (Ins.self Ex39) d3_94 (q := 95) rfl fun T43 h43 X43 e43 W43 V43 => ?_
  refine o_iinc X43 hx hby d3_95 rfl (l' := #[rv o0, rv o1, rv o2, iv 2, rv b11, iv 2, iv 4, iv 4, iv 0]) rfl (q := 98) rfl ?_
  refine o_goto X43 hx hby d3_98 (by decide) (q := 75) (by decide) ?_
  refine o_iload X43 hx hby d3_75 rfl (q := 77) rfl ?_
  refine o_iloadN X43 hx hby d3_77 rfl (q := 78) rfl ?_
  refine o_icY X43 hx hby d3_78 (flt (by decide : ¬ ((2 : Int32) < (2 : Int32)))).2.1 (by decide) (q := 101) (by decide) ?_
  refine o_iloadN X43 hx hby d3_101 rfl (q := 102) rfl ?_
  obtain ⟨T44, h44, k44, X44, e44, E44, A44, Ex44, st44⟩ := newPE X43 hx hZ (w_ hw 5 rfl) e43 (g := (mkF m 102 #[rv o0, rv o1, rv o2, iv 2, rv b11, iv 2, iv 4, iv 4, iv 0] [.int 2])) rfl (hb hby d3_102) rfl (by decide) (cap := 2) (by decide) (by decide) (by decide) (by decide) (ad := "[I") (by decide +kernel)
  obtain ⟨b44, g44⟩ : ∃ z, z = h43.size := ⟨_, rfl⟩
  rw [← g44] at A44 Ex44 st44
  have q45 := (Nat.le_trans (Nat.le_trans q40 E39.1) (Keep.of_wr W43).1)
  have g_b44 : n0 ≤ b44 := Nat.le_trans q45 (Nat.le_of_eq g44.symm)
  have q46 := (Nat.le_trans (Nat.le_trans q41 E39.1) (Keep.of_wr W43).1)
  have sz_b44 : h0.size ≤ b44 := Nat.le_trans q46 (Nat.le_of_eq g44.symm)
  have V_b44 : Arv Z h44 b44 k44 .int (2 : Int32) [(.int (0 : Int32)), (.int (0 : Int32))] (.int (0 : Int32)) := (Arv.new A44 (by decide)).pad (pad_rep [] (.int (0 : Int32)) 2)
  refine own_of st44 ?_
  show own_Out p e below _ (T44.setTop (mkF m 104 #[rv o0, rv o1, rv o2, iv 2, rv b11, iv 2, iv 4, iv 4, iv 0] [.ref b44]))
  refine o_astore X44 hx hby d3_104 rfl (l' := #[rv o0, rv o1, rv o2, iv 2, rv b11, rv b44, iv 4, iv 4, iv 0]) rfl (q := 106) rfl ?_
  refine o_iconst X44 hx hby d3_106 (z := 0) rfl (q := 107) rfl ?_
  refine o_istore X44 hx hby d3_107 (l' := #[rv o0, rv o1, rv o2, iv 2, rv b11, rv b44, iv 0, iv 4, iv 0]) rfl (q := 109) rfl ?_
  have ne_o2_b22 : o2 ≠ b22 := Nat.ne_of_lt (Nat.lt_of_lt_of_le V.lt sz_b22)
  have q49 := ((((((((q20.other W21 ne_o2_b11).ext E22).other W25 n2).ext E31).other W35 ne_o2_b22).ext E39).other W43 ne_o2_b22).ext E44)
  have q50 := (((q37.ext E39).other W43 (Or.inl ne_o0_b22)).ext E44)
  have q51 := (V43.ext E44)
  have ne_b22_b31 : b22 ≠ b31 := Nat.ne_of_lt (Nat.lt_of_lt_of_le (Nat.lt_of_lt_of_le A22.lt (Keep.of_wr W25).1) (Nat.le_of_eq g31.symm))
  have q52 := ((((V_b31.other W35 (Ne.symm ne_b22_b31)).ext E39).other W43 (Ne.symm ne_b22_b31)).ext E44)
  have ne_b31_b44 : b31 ≠ b44 := Nat.ne_of_lt (Nat.lt_of_lt_of_le (Nat.lt_of_lt_of_le (Nat.lt_of_lt_of_le (Nat.lt_of_lt_of_le A31.lt (Keep.of_wr W35).1) E39.1) (Keep.of_wr W43).1) (Nat.le_of_eq g44.symm))
  refine t3 X44 hx hby hZ e44 hw hown q49 q50 q51 V_b44 q52 ne_b31_b44 ⟨by decide, by decide⟩ (x := 0) rfl ⟨by decide, by decide⟩ rfl (f := 0) rfl ⟨by decide, by decide⟩ (f' := 1) rfl (i' := 1) rfl (iN := 0) rfl (Nat.le_of_ble_eq_true rfl) (jN := 0) rfl (Nat.le_of_ble_eq_true rfl) fun T48 h47 h48 X48 e48 W47 W48 V47 V48 => ?_
  have ne_o2_b44 : o2 ≠ b44 := Nat.ne_of_lt (Nat.lt_of_lt_of_le V.lt sz_b44)
  have ne_o2_b31 : o2 ≠ b31 := Nat.ne_of_lt (Nat.lt_of_lt_of_le V.lt sz_b31)
  have q55 := ((q49.other W47 ne_o2_b44).other W48 ne_o2_b31)
  have ne_o0_b44 : o0 ≠ b44 := Nat.ne_of_lt (Nat.lt_of_lt_of_le E.lt sz_b44)
  have ne_o0_b31 : o0 ≠ b31 := Nat.ne_of_lt (Nat.lt_of_lt_of_le E.lt sz_b31)
  have q56 := ((q50.other W47 (Or.inl ne_o0_b44)).other W48 (Or.inl ne_o0_b31))
  have ne_b22_b44 : b22 ≠ b44 := Nat.ne_of_lt (Nat.lt_of_lt_of_le (Nat.lt_of_lt_of_le (Nat.lt_of_lt_of_le (Nat.lt_of_lt_of_le (Nat.lt_of_lt_of_le (Nat.lt_of_lt_of_le A22.lt (Keep.of_wr W25).1) E31.1) (Keep.of_wr W35).1) E39.1) (Keep.of_wr W43).1) (Nat.le_of_eq g44.symm))
  have q57 := ((q51.other W47 ne_b22_b44).other W48 ne_b22_b31)
  have q58 := (V47.other W48 (Ne.symm ne_b31_b44))
  have ne_b22_b39 : b22 ≠ b39 := Nat.ne_of_lt (Nat.lt_of_lt_of_le (Nat.lt_of_lt_of_le (Nat.lt_of_lt_of_le (Nat.lt_of_lt_of_le A22.lt (Keep.of_wr W25).1) E31.1) (Keep.of_wr W35).1) (Nat.le_of_eq g39.symm))
  have ne_b39_b44 : b39 ≠ b44 := Nat.ne_of_lt (Nat.lt_of_lt_of_le (Nat.lt_of_lt_of_le A39.lt (Keep.of_wr W43).1) (Nat.le_of_eq g44.symm))
  have ne_b31_b39 : b31 ≠ b39 := Nat.ne_of_lt (Nat.lt_of_lt_of_le (Nat.lt_of_lt_of_le A31.lt (Keep.of_wr W35).1) (Nat.le_of_eq g39.symm))
  have q59 := ((((V_b39.other W43 (Ne.symm ne_b22_b39)).ext E44).other W47 ne_b39_b44).other W48 (Ne.symm ne_b31_b39))
  refine t3 X48 hx hby hZ e48 hw hown q55 q56 q57 q58 q59 ne_b39_b44 ⟨by decide, by decide⟩ (x := 1) rfl ⟨by decide, by decide⟩ rfl (f := 0) rfl ⟨by decide, by decide⟩ (f' := 1) rfl (i' := 2) rfl (iN := 1) rfl (Nat.le_of_ble_eq_true rfl) (jN := 0) rfl (Nat.le_of_ble_eq_true rfl) fun T54 h53 h54 X54 e54 W53 W54 V53 V54 => ?_
  have ne_o2_b39 : o2 ≠ b39 := Nat.ne_of_lt (Nat.lt_of_lt_of_le V.lt sz_b39)
  have q62 := ((q55.other W53 ne_o2_b44).other W54 ne_o2_b39)
  have ne_o0_b39 : o0 ≠ b39 := Nat.ne_of_lt (Nat.lt_of_lt_of_le E.lt sz_b39)
  have q63 := ((q56.other W53 (Or.inl ne_o0_b44)).other W54 (Or.inl ne_o0_b39))
  have q64 := ((q57.other W53 ne_b22_b44).other W54 ne_b22_b39)
  have q65 := (V53.other W54 (Ne.symm ne_b39_b44))
  have q66 := ((V48.other W53 ne_b31_b44).other W54 ne_b31_b39)
  refine t3 X54 hx hby hZ e54 hw hown q62 q63 q64 q65 q66 ne_b31_b44 ⟨by decide, by decide⟩ (x := 0) rfl ⟨by decide, by decide⟩ rfl (f := 1) rfl ⟨by decide, by decide⟩ (f' := 2) rfl (i' := 3) rfl (iN := 0) rfl (Nat.le_of_ble_eq_true rfl) (jN := 1) rfl (Nat.le_of_ble_eq_true rfl) fun T61 h60 h61 X61 e61 W60 W61 V60 V61 => ?_
  have q69 := ((q62.other W60 ne_o2_b44).other W61 ne_o2_b31)
  have q70 := ((q63.other W60 (Or.inl ne_o0_b44)).other W61 (Or.inl ne_o0_b31))
  have q71 := ((q64.other W60 ne_b22_b44).other W61 ne_b22_b31)
  have q72 := (V60.other W61 (Ne.symm ne_b31_b44))
  refine t3 X61 hx hby hZ e61 hw hown q69 q70 q71 q72 V61 ne_b31_b44 ⟨by decide, by decide⟩ (x := 0) rfl ⟨by decide, by decide⟩ rfl (f := 2) rfl ⟨by decide, by decide⟩ (f' := 3) rfl (i' := 4) rfl (iN := 0) rfl (Nat.le_of_ble_eq_true rfl) (jN := 2) rfl (Nat.le_of_ble_eq_true rfl) fun T68 h67 h68 X68 e68 W67 W68 V67 V68 => ?_
  refine o_iload X68 hx hby d3_109 rfl (q := 111) rfl ?_
  refine o_aloadN X68 hx hby d3_111 rfl rfl (q := 112) rfl ?_
  have q73 := ((q69.other W67 ne_o2_b44).other W68 ne_o2_b31)
  refine o_lenV X68 hx hby hZ e68 q73 d3_112 (q := 113) rfl ?_
  refine o_icY X68 hx hby d3_113 (flt (by decide : ¬ ((4 : Int32) < (4 : Int32)))).2.1 (by decide) (q := 146) (by decide) ?_
  have q74 := ((((((((((((((((((((((((Keep.refl h0 [o0]).wr W2 (Or.inl (List.mem_of_getElem? (i := 0) rfl))).wr W3 (Or.inl (List.mem_of_getElem? (i := 0) rfl))).wr W7 (Or.inl (List.mem_of_getElem? (i := 0) rfl))).ext E11).wr W15 (Or.inr sz_b11)).wr W17 (Or.inr sz_b11)).wr W19 (Or.inr sz_b11)).wr W21 (Or.inr sz_b11)).ext E22).wr W25 (Or.inl (List.mem_of_getElem? (i := 0) rfl))).ext E31).wr W35 (Or.inr sz_b22)).ext E39).wr W43 (Or.inr sz_b22)).ext E44).wr W47 (Or.inr sz_b44)).wr W48 (Or.inr sz_b31)).wr W53 (Or.inr sz_b44)).wr W54 (Or.inr sz_b39)).wr W60 (Or.inr sz_b44)).wr W61 (Or.inr sz_b31)).wr W67 (Or.inr sz_b44)).wr W68 (Or.inr sz_b31))
  have q75 := ((((((((((((((q27.wr W25).ext E31).wr W35).ext E39).wr W43).ext E44).wr W47).wr W48).wr W53).wr W54).wr W60).wr W61).wr W67).wr W68)
  have q76 := (((((((((((((((((((((Fw3.other W7 (Or.inr (slot_ne (Or.inr (w_ hw 30 rfl)) (Or.inr (w_ hw 32 rfl)) (by decide) (t := (.array .int)) (t' := .int) (by decide) (by decide)))).ext E11).other W15 (Or.inl ne_o0_b11)).other W17 (Or.inl ne_o0_b11)).other W19 (Or.inl ne_o0_b11)).other W21 (Or.inl ne_o0_b11)).ext E22).other W25 (Or.inr (slot_ne (Or.inr (w_ hw 30 rfl)) (Or.inr (w_ hw 36 rfl)) (by decide) (t := (.array .int)) (t' := (.array (.array .int))) (by decide) (by decide)))).ext E31).other W35 (Or.inl ne_o0_b22)).ext E39).other W43 (Or.inl ne_o0_b22)).ext E44).other W47 (Or.inl ne_o0_b44)).other W48 (Or.inl ne_o0_b31)).other W53 (Or.inl ne_o0_b44)).other W54 (Or.inl ne_o0_b39)).other W60 (Or.inl ne_o0_b44)).other W61 (Or.inl ne_o0_b31)).other W67 (Or.inl ne_o0_b44)).other W68 (Or.inl ne_o0_b31))
  have q77 := ((((((((((((((((((((Fw7.ext E11).other W15 (Or.inl ne_o0_b11)).other W17 (Or.inl ne_o0_b11)).other W19 (Or.inl ne_o0_b11)).other W21 (Or.inl ne_o0_b11)).ext E22).other W25 (Or.inr (slot_ne (Or.inr (w_ hw 32 rfl)) (Or.inr (w_ hw 36 rfl)) (by decide) (t := .int) (t' := (.array (.array .int))) (by decide) (by decide)))).ext E31).other W35 (Or.inl ne_o0_b22)).ext E39).other W43 (Or.inl ne_o0_b22)).ext E44).other W47 (Or.inl ne_o0_b44)).other W48 (Or.inl ne_o0_b31)).other W53 (Or.inl ne_o0_b44)).other W54 (Or.inl ne_o0_b39)).other W60 (Or.inl ne_o0_b44)).other W61 (Or.inl ne_o0_b31)).other W67 (Or.inl ne_o0_b44)).other W68 (Or.inl ne_o0_b31))
  exact own_outV X68 hx hlk hret (hb hby d3_146) (Q := Q3c0100n2 Z o0 o1 o2 k2 h0 n0) (by rw [e68]; exact ⟨rfl, (Fr.snoc X68 (own_snoc (Fr.snoc X61 (own_snoc (Fr.snoc X54 (own_snoc (Fr.snoc X48 (own_snoc (Fr.snoc X43 (Fr.snoc X35 (Fr.snoc X25 (Fr.snoc X21 (Fr.snoc X19 (Fr.snoc X17 (Fr.snoc X15 (Fr.snoc X7 (Fr.snoc X3 (Fr.snoc X2 N0 g_o0) g_o0) g_o0) g_b11) g_b11) g_b11) g_b11) g_o0) g_b22) g_b22) g_b44) g_b31) g_b44) g_b39) g_b44) g_b31) g_b44) g_b31), q74, q75, q76, q77⟩) (by decide) (by decide)
theorem ef_3c0101n2 (m : MethodId) (x0 : Addr) (x1 : Addr) (x2 : Addr) : entryFrame m #[(.ref x0), (.ref x1), (.ref x2), (.int (2 : Int32))] 9 = mkF m 0 #[.val (.ref x0), .val (.ref x1), .val (.ref x2), .val (.int (2 : Int32)), .unset, .unset, .unset, .unset, .unset] [] := by first | (simp [entryFrame, mkF, argsToLocals, Value.category]; done) | rfl
def Q3c0101n2 (Z : State) (o0 : Addr) (o1 : Addr) (o2 : Addr) (k2 : ClassId) (h0 : Heap) (n0 : Nat) (v : Option Value) (h : Heap) (L : List Loc) : Prop := v = none ∧ Fr n0 L ∧ Keep h0 h [o0] ∧ Exa Z h o0 "com/example/slimc/slimc/game/Observation" ∧ Fld Z h o0 "com/example/slimc/slimc/game/Observation" "classOf" "[I" (.ref o2) ∧ Fld Z h o0 "com/example/slimc/slimc/game/Observation" "classCount" "I" (.int (2 : Int32))
set_option maxRecDepth 65536 in
set_option maxHeartbeats 40000000 in
theorem rm3c0101n2 (l : Launch) (Z : State) (a0 : Array Value) (hw : ∀ d ∈ tables_1, d.before a0 Z = true) (ws : List Jvm.Cond) (o0 : Addr) (o1 : Addr) (o2 : Addr) (k2 : ClassId) (h0 : Heap) (n0 : Nat) (Z0 : n0 ≤ h0.size) (E : Exa Z h0 o0 "com/example/slimc/slimc/game/Observation") (F_name : Fld Z h0 o0 "com/example/slimc/slimc/game/Observation" "name" "Ljava/lang/String;" .null) (F_classOf : Fld Z h0 o0 "com/example/slimc/slimc/game/Observation" "classOf" "[I" .null) (F_classCount : Fld Z h0 o0 "com/example/slimc/slimc/game/Observation" "classCount" "I" (.int (0 : Int32))) (F_classes : Fld Z h0 o0 "com/example/slimc/slimc/game/Observation" "classes" "[[I" .null) (g_o0 : n0 ≤ o0) (V : Arv Z h0 o2 k2 .int (4 : Int32) [(.int (0 : Int32)), (.int (1 : Int32)), (.int (0 : Int32)), (.int (1 : Int32))] (.int (0 : Int32))) (n2 : o2 ≠ o0) :
    MetFree l (⟨"com/example/slimc/slimc/game/Observation", "<init>", "(Ljava/lang/String;[II)V"⟩ : MethodName) (head1 (Jvm.Cond.code (⟨"com/example/slimc/slimc/game/Observation", "<init>", "(Ljava/lang/String;[II)V"⟩ : MethodName) prog_66_method_1_code 9 none :: ws) ({ frames := 1, cells := 7, slots := 16, locals := 14 } : Room)) (fun a U => a = #[(.ref o0), (.ref o1), (.ref o2), (.int (2 : Int32))] ∧ Z.Warmed39 U.vm ∧ U.heap = h0) (fun _ _ _ _ _ => True) (fun _ U o U' => ∃ v L, o = .returned v ∧ Q3c0101n2 Z o0 o1 o2 k2 h0 n0 v U'.heap L ∧ FrameEnd U o U' L ({ frames := 1, cells := 7, slots := 16, locals := 14 } : Room).cells ({ frames := 1, cells := 7, slots := 16, locals := 14 } : Room).slots) := by
  refine MetFree.of_bodySF (plainFor_of_name pn_1) hisR ?_
  intro p e s m args below meth c s₁ Bd hml0 hP hK
  obtain ⟨rfl, hZ, hh⟩ := hP
  have hx := Bd.exec
  have hby := Bd.bytes
  have hml : c.maxLocals = 9 := hml0
  have hown : s.vm.findClass "com/example/slimc/slimc/game/Observation" = some m.cls := findClass_of_methodNamed Bd.named
  have hnm := (name_of_methodNamed Bd.named Bd.method).1
  have X0 : Stand p l e ({ frames := 1, cells := 7, slots := 16, locals := 14 } : Room) s m #[(.ref o0), (.ref o1), (.ref o2), (.int (2 : Int32))] below meth c s₁ [] 0 0 := Stand.of_body Bd
  have e0 : s₁.heap = h0 := by rw [← hh, Bd.state]; rfl
  have N0 := Fr.nil n0
  have hret := Bd.returns
  have hlk := BodyLoose.notSynchronized Bd
  show own_Out p e below (fun o U' => ∃ v L, o = .returned v ∧ Q3c0101n2 Z o0 o1 o2 k2 h0 n0 v U'.heap L ∧ FrameEnd s o U' L ({ frames := 1, cells := 7, slots := 16, locals := 14 } : Room).cells ({ frames := 1, cells := 7, slots := 16, locals := 14 } : Room).slots) (s₁.setTop (entryFrame m #[(.ref o0), (.ref o1), (.ref o2), (.int (2 : Int32))] 9))
  refine own_of (fun t k => castTop (ef_3c0101n2 m o0 o1 o2) k) ?_
  show own_Out p e below _ (s₁.setTop (mkF m 0 #[rv o0, rv o1, rv o2, iv 2, .unset, .unset, .unset, .unset, .unset] []))
  refine o_aloadN X0 hx hby d3_0 rfl rfl (q := 1) rfl ?_
  obtain ⟨T1, X1, e1, st1⟩ := initO X0 hx hZ hown (w_ hw 24 rfl) (w_ hw 25 rfl) (w_ hw 26 rfl) e0 (g := (mkF m 1 #[rv o0, rv o1, rv o2, iv 2, .unset, .unset, .unset, .unset, .unset] [.ref o0])) rfl (by rw [hml]; rfl) rfl (hb hby d3_1) (by decide) (W := 0) (by show 2 * 0 + _ ≤ _; exact Nat.le_of_eq rfl) (by decide)
  refine own_of st1 ?_
  show own_Out p e below _ (T1.setTop (mkF m 4 #[rv o0, rv o1, rv o2, iv 2, .unset, .unset, .unset, .unset, .unset] []))
  refine o_aloadN X1 hx hby d3_4 rfl rfl (q := 5) rfl ?_
  refine o_aloadN X1 hx hby d3_5 rfl rfl (q := 6) rfl ?_
  obtain ⟨T2, h2, X2, e2, W2, st2⟩ := putF X1 hx hZ hown (host := "") (Or.inl (w_ hw 27 rfl)) Via.refl e1 F_name E (Or.inr ⟨(w_ hw 28 rfl), rfl, hnm⟩) (w_ hw 11 rfl) (ty := (.object "java/lang/String")) (by decide) rfl rfl (g := (mkF m 6 #[rv o0, rv o1, rv o2, iv 2, .unset, .unset, .unset, .unset, .unset] [.ref o1, .ref o0])) rfl rfl (hb hby d3_6)
  have Fw2 := F_name.same W2
  refine own_of st2 ?_
  show own_Out p e below _ (T2.setTop (mkF m 9 #[rv o0, rv o1, rv o2, iv 2, .unset, .unset, .unset, .unset, .unset] []))
  refine o_aloadN X2 hx hby d3_9 rfl rfl (q := 10) rfl ?_
  refine o_aloadN X2 hx hby d3_10 rfl rfl (q := 11) rfl ?_
  have q4 := (F_classOf.other W2 (Or.inr (slot_ne (Or.inr (w_ hw 30 rfl)) (Or.inr (w_ hw 28 rfl)) (by decide) (t := (.array .int)) (t' := (.object "java/lang/String")) (by decide) (by decide))))
  have q5 := (E.wr W2)
  obtain ⟨T3, h3, X3, e3, W3, st3⟩ := putF X2 hx hZ hown (host := "") (Or.inl (w_ hw 29 rfl)) Via.refl e2 q4 q5 (Or.inr ⟨(w_ hw 30 rfl), rfl, hnm⟩) (w_ hw 11 rfl) (ty := (.array .int)) (by decide) rfl rfl (g := (mkF m 11 #[rv o0, rv o1, rv o2, iv 2, .unset, .unset, .unset, .unset, .unset] [.ref o2, .ref o0])) rfl rfl (hb hby d3_11)
  have q6 := (F_classOf.other W2 (Or.inr (slot_ne (Or.inr (w_ hw 30 rfl)) (Or.inr (w_ hw 28 rfl)) (by decide) (t := (.array .int)) (t' := (.object "java/lang/String")) (by decide) (by decide))))
  have Fw3 := q6.same W3
  refine own_of st3 ?_
  show own_Out p e below _ (T3.setTop (mkF m 14 #[rv o0, rv o1, rv o2, iv 2, .unset, .unset, .unset, .unset, .unset] []))
  refine o_aloadN X3 hx hby d3_14 rfl rfl (q := 15) rfl ?_
  refine o_iloadN X3 hx hby d3_15 rfl (q := 16) rfl ?_
  have q8 := ((F_classCount.other W2 (Or.inr (slot_ne (Or.inr (w_ hw 32 rfl)) (Or.inr (w_ hw 28 rfl)) (by decide) (t := .int) (t' := (.object "java/lang/String")) (by decide) (by decide)))).other W3 (Or.inr (slot_ne (Or.inr (w_ hw 32 rfl)) (Or.inr (w_ hw 30 rfl)) (by decide) (t := .int) (t' := (.array .int)) (by decide) (by decide))))
  have q9 := (q5.wr W3)
  obtain ⟨T7, h7, X7, e7, W7, st7⟩ := putF X3 hx hZ hown (host := "") (Or.inl (w_ hw 31 rfl)) Via.refl e3 q8 q9 (Or.inr ⟨(w_ hw 32 rfl), rfl, hnm⟩) (w_ hw 11 rfl) (ty := .int) (by decide) rfl rfl (g := (mkF m 16 #[rv o0, rv o1, rv o2, iv 2, .unset, .unset, .unset, .unset, .unset] [.int 2, .ref o0])) rfl rfl (hb hby d3_16)
  have q10 := ((F_classCount.other W2 (Or.inr (slot_ne (Or.inr (w_ hw 32 rfl)) (Or.inr (w_ hw 28 rfl)) (by decide) (t := .int) (t' := (.object "java/lang/String")) (by decide) (by decide)))).other W3 (Or.inr (slot_ne (Or.inr (w_ hw 32 rfl)) (Or.inr (w_ hw 30 rfl)) (by decide) (t := .int) (t' := (.array .int)) (by decide) (by decide))))
  have Fw7 := q10.same W7
  refine own_of st7 ?_
  show own_Out p e below _ (T7.setTop (mkF m 19 #[rv o0, rv o1, rv o2, iv 2, .unset, .unset, .unset, .unset, .unset] []))
  refine o_iloadN X7 hx hby d3_19 rfl (q := 20) rfl ?_
  obtain ⟨T11, h11, k11, X11, e11, E11, A11, Ex11, st11⟩ := newPE X7 hx hZ (w_ hw 5 rfl) e7 (g := (mkF m 20 #[rv o0, rv o1, rv o2, iv 2, .unset, .unset, .unset, .unset, .unset] [.int 2])) rfl (hb hby d3_20) rfl (by decide) (cap := 2) (by decide) (by decide) (by decide) (by decide) (ad := "[I") (by decide +kernel)
  obtain ⟨b11, g11⟩ : ∃ z, z = h7.size := ⟨_, rfl⟩
  rw [← g11] at A11 Ex11 st11
  have q12 := (Nat.le_trans (Nat.le_trans (Nat.le_trans Z0 (Keep.of_wr W2).1) (Keep.of_wr W3).1) (Keep.of_wr W7).1)
  have g_b11 : n0 ≤ b11 := Nat.le_trans q12 (Nat.le_of_eq g11.symm)
  have q13 := (Nat.le_trans (Nat.le_trans (Nat.le_trans (Nat.le_refl h0.size) (Keep.of_wr W2).1) (Keep.of_wr W3).1) (Keep.of_wr W7).1)
  have sz_b11 : h0.size ≤ b11 := Nat.le_trans q13 (Nat.le_of_eq g11.symm)
  have V_b11 : Arv Z h11 b11 k11 .int (2 : Int32) [(.int (0 : Int32)), (.int (0 : Int32))] (.int (0 : Int32)) := (Arv.new A11 (by decide)).pad (pad_rep [] (.int (0 : Int32)) 2)
  refine own_of st11 ?_
  show own_Out p e below _ (T11.setTop (mkF m 22 #[rv o0, rv o1, rv o2, iv 2, .unset, .unset, .unset, .unset, .unset] [.ref b11]))
  refine o_astore X11 hx hby d3_22 rfl (l' := #[rv o0, rv o1, rv o2, iv 2, rv b11, .unset, .unset, .unset, .unset]) rfl (q := 24) rfl ?_
  refine o_aloadN X11 hx hby d3_24 rfl rfl (q := 25) rfl ?_
  refine o_astore X11 hx hby d3_25 rfl (l' := #[rv o0, rv o1, rv o2, iv 2, rv b11, rv o2, .unset, .unset, .unset]) rfl (q := 27) rfl ?_
  refine o_aload X11 hx hby d3_27 rfl rfl (q := 29) rfl ?_
  have q14 := ((((V.other W2 n2).other W3 n2).other W7 n2).ext E11)
  refine o_lenV X11 hx hby hZ e11 q14 d3_29 (q := 30) rfl ?_
  refine o_istore X11 hx hby d3_30 (l' := #[rv o0, rv o1, rv o2, iv 2, rv b11, rv o2, iv 4, .unset, .unset]) rfl (q := 32) rfl ?_
  refine o_iconst X11 hx hby d3_32 (z := 0) rfl (q := 33) rfl ?_
  refine o_istore X11 hx hby d3_33 (l' := #[rv o0, rv o1, rv o2, iv 2, rv b11, rv o2, iv 4, iv 0, .unset]) rfl (q := 35) rfl ?_
  refine t1 X11 hx hby hZ e11 q14 V_b11 rfl ⟨by decide, by decide⟩ (cc := 0) rfl ⟨by decide, by decide⟩ (y := 0) rfl (y' := 1) rfl (i' := 1) rfl (iN := 0) rfl (Nat.le_of_ble_eq_true rfl) fun T15 h15 X15 e15 W15 V15 => ?_
  have ne_o2_b11 : o2 ≠ b11 := Nat.ne_of_lt (Nat.lt_of_lt_of_le V.lt sz_b11)
  have q16 := (q14.other W15 ne_o2_b11)
  refine t1 X15 hx hby hZ e15 q16 V15 rfl ⟨by decide, by decide⟩ (cc := 1) rfl ⟨by decide, by decide⟩ (y := 0) rfl (y' := 1) rfl (i' := 2) rfl (iN := 1) rfl (Nat.le_of_ble_eq_true rfl) fun T17 h17 X17 e17 W17 V17 => ?_
  have q18 := (q16.other W17 ne_o2_b11)
  refine t1 X17 hx hby hZ e17 q18 V17 rfl ⟨by decide, by decide⟩ (cc := 0) rfl ⟨by decide, by decide⟩ (y := 1) rfl (y' := 2) rfl (i' := 3) rfl (iN := 0) rfl (Nat.le_of_ble_eq_true rfl) fun T19 h19 X19 e19 W19 V19 => ?_
  have q20 := (q18.other W19 ne_o2_b11)
  refine t1 X19 hx hby hZ e19 q20 V19 rfl ⟨by decide, by decide⟩ (cc := 1) rfl ⟨by decide, by decide⟩ (y := 1) rfl (y' := 2) rfl (i' := 4) rfl (iN := 1) rfl (Nat.le_of_ble_eq_true rfl) fun T21 h21 X21 e21 W21 V21 => ?_
  refine o_iload X21 hx hby d3_35 rfl (q := 37) rfl ?_
  refine o_iload X21 hx hby d3_37 rfl (q := 39) rfl ?_
  refine o_icY X21 hx hby d3_39 (flt (by decide : ¬ ((4 : Int32) < (4 : Int32)))).2.1 (by decide) (q := 64) (by decide) ?_
  refine o_aloadN X21 hx hby d3_64 rfl rfl (q := 65) rfl ?_
  refine o_iloadN X21 hx hby d3_65 rfl (q := 66) rfl ?_
  obtain ⟨T22, h22, k22, X22, e22, E22, A22, Ex22, O22, st22⟩ := newRA X21 hx hZ hown (ty := .int) (by decide +kernel) (w_ hw 33 rfl) (w_ hw 34 rfl) e21 (g := (mkF m 66 #[rv o0, rv o1, rv o2, iv 2, rv b11, rv o2, iv 4, iv 4, iv 1] [.int 2, .ref o0])) rfl (hb hby d3_66) rfl (by decide) (cap := 2) (by decide) (by decide) (by decide) (by decide) (ad := "[[I") (by decide +kernel)
  obtain ⟨b22, g22⟩ : ∃ z, z = h21.size := ⟨_, rfl⟩
  rw [← g22] at A22 Ex22 st22
  have q23 := (Nat.le_trans (Nat.le_trans (Nat.le_trans (Nat.le_trans (Nat.le_trans q12 E11.1) (Keep.of_wr W15).1) (Keep.of_wr W17).1) (Keep.of_wr W19).1) (Keep.of_wr W21).1)
  have g_b22 : n0 ≤ b22 := Nat.le_trans q23 (Nat.le_of_eq g22.symm)
  have q24 := (Nat.le_trans (Nat.le_trans (Nat.le_trans (Nat.le_trans (Nat.le_trans q13 E11.1) (Keep.of_wr W15).1) (Keep.of_wr W17).1) (Keep.of_wr W19).1) (Keep.of_wr W21).1)
  have sz_b22 : h0.size ≤ b22 := Nat.le_trans q24 (Nat.le_of_eq g22.symm)
  have V_b22 : Arv Z h22 b22 k22 (.array .int) (2 : Int32) [.null, .null] .null := (Arv.new A22 (by decide)).pad (pad_rep [] .null 2)
  refine own_of st22 ?_
  show own_Out p e below _ (T22.setTop (mkF m 69 #[rv o0, rv o1, rv o2, iv 2, rv b11, rv o2, iv 4, iv 4, iv 1] [.ref b22, .ref o0]))
  have ne_o0_b11 : o0 ≠ b11 := Nat.ne_of_lt (Nat.lt_of_lt_of_le E.lt sz_b11)
  have q26 := (((((((((F_classes.other W2 (Or.inr (slot_ne (Or.inr (w_ hw 36 rfl)) (Or.inr (w_ hw 28 rfl)) (by decide) (t := (.array (.array .int))) (t' := (.object "java/lang/String")) (by decide) (by decide)))).other W3 (Or.inr (slot_ne (Or.inr (w_ hw 36 rfl)) (Or.inr (w_ hw 30 rfl)) (by decide) (t := (.array (.array .int))) (t' := (.array .int)) (by decide) (by decide)))).other W7 (Or.inr (slot_ne (Or.inr (w_ hw 36 rfl)) (Or.inr (w_ hw 32 rfl)) (by decide) (t := (.array (.array .int))) (t' := .int) (by decide) (by decide)))).ext E11).other W15 (Or.inl ne_o0_b11)).other W17 (Or.inl ne_o0_b11)).other W19 (Or.inl ne_o0_b11)).other W21 (Or.inl ne_o0_b11)).ext E22)
  have q27 := (((((((q9.wr W7).ext E11).wr W15).wr W17).wr W19).wr W21).ext E22)
  obtain ⟨T25, h25, X25, e25, W25, st25⟩ := putF X22 hx hZ hown (host := "") (Or.inl (w_ hw 35 rfl)) Via.refl e22 q26 q27 (Or.inr ⟨(w_ hw 36 rfl), rfl, hnm⟩) (w_ hw 11 rfl) (ty := (.array (.array .int))) (by decide) rfl rfl (g := (mkF m 69 #[rv o0, rv o1, rv o2, iv 2, rv b11, rv o2, iv 4, iv 4, iv 1] [.ref b22, .ref o0])) rfl rfl (hb hby d3_69)
  have q28 := (((((((((F_classes.other W2 (Or.inr (slot_ne (Or.inr (w_ hw 36 rfl)) (Or.inr (w_ hw 28 rfl)) (by decide) (t := (.array (.array .int))) (t' := (.object "java/lang/String")) (by decide) (by decide)))).other W3 (Or.inr (slot_ne (Or.inr (w_ hw 36 rfl)) (Or.inr (w_ hw 30 rfl)) (by decide) (t := (.array (.array .int))) (t' := (.array .int)) (by decide) (by decide)))).other W7 (Or.inr (slot_ne (Or.inr (w_ hw 36 rfl)) (Or.inr (w_ hw 32 rfl)) (by decide) (t := (.array (.array .int))) (t' := .int) (by decide) (by decide)))).ext E11).other W15 (Or.inl ne_o0_b11)).other W17 (Or.inl ne_o0_b11)).other W19 (Or.inl ne_o0_b11)).other W21 (Or.inl ne_o0_b11)).ext E22)
  have Fw25 := q28.same W25
  refine own_of st25 ?_
  show own_Out p e below _ (T25.setTop (mkF m 72 #[rv o0, rv o1, rv o2, iv 2, rv b11, rv o2, iv 4, iv 4, iv 1] []))
  refine o_iconst X25 hx hby d3_72 (z := 0) rfl (q := 73) rfl ?_
  refine o_istore X25 hx hby d3_73 (l' := #[rv o0, rv o1, rv o2, iv 2, rv b11, iv 0, iv 4, iv 4, iv 1]) rfl (q := 75) rfl ?_
  refine o_iload X25 hx hby d3_75 rfl (q := 77) rfl ?_
  refine o_iloadN X25 hx hby d3_77 rfl (q := 78) rfl ?_
  refine o_icN X25 hx hby d3_78 (tlt (by decide : (0 : Int32) < (2 : Int32))).2.1 (q := 81) rfl ?_
  refine o_aloadN X25 hx hby d3_81 rfl rfl (q := 82) rfl ?_
  refine o_getF X25 hx hZ hown hby (w_ hw 35 rfl) Via.refl e25 Fw25 d3_82 (q := 85) rfl fun T29 X29 e29 => ?_
  refine o_iload X29 hx hby d3_85 rfl (q := 87) rfl ?_
  refine o_aload X29 hx hby d3_87 rfl rfl (q := 89) rfl ?_
  refine o_iload X29 hx hby d3_89 rfl (q := 91) rfl ?_
  have q30 := ((V21.ext E22).other W25 (Ne.symm ne_o0_b11))
  refine o_iaV X29 hx hby hZ e29 q30 ⟨by decide, by decide⟩ (v := .int 2) rfl d3_91 (q := 92) rfl ?_
  obtain ⟨T31, h31, k31, X31, e31, E31, A31, Ex31, st31⟩ := newPE X29 hx hZ (w_ hw 5 rfl) e29 (g := (mkF m 92 #[rv o0, rv o1, rv o2, iv 2, rv b11, iv 0, iv 4, iv 4, iv 1] [.int 2, .int 0, .ref b22])) rfl (hb hby d3_92) rfl (by decide) (cap := 2) (by decide) (by decide) (by decide) (by decide) (ad := "[I") (by decide +kernel)
  obtain ⟨b31, g31⟩ : ∃ z, z = h25.size := ⟨_, rfl⟩
  rw [← g31] at A31 Ex31 st31
  have q32 := (Nat.le_trans (Nat.le_trans q23 E22.1) (Keep.of_wr W25).1)
  have g_b31 : n0 ≤ b31 := Nat.le_trans q32 (Nat.le_of_eq g31.symm)
  have q33 := (Nat.le_trans (Nat.le_trans q24 E22.1) (Keep.of_wr W25).1)
  have sz_b31 : h0.size ≤ b31 := Nat.le_trans q33 (Nat.le_of_eq g31.symm)
  have V_b31 : Arv Z h31 b31 k31 .int (2 : Int32) [(.int (0 : Int32)), (.int (0 : Int32))] (.int (0 : Int32)) := (Arv.new A31 (by decide)).pad (pad_rep [] (.int (0 : Int32)) 2)
  refine own_of st31 ?_
  show own_Out p e below _ (T31.setTop (mkF m 94 #[rv o0, rv o1, rv o2, iv 2, rv b11, iv 0, iv 4, iv 4, iv 1] [.ref b31, .int 0, .ref b22]))
  have ne_o0_b22 : o0 ≠ b22 := Nat.ne_of_lt (Nat.lt_of_lt_of_le E.lt sz_b22)
  have q34 := ((V_b22.other W25 (Ne.symm ne_o0_b22)).ext E31)
  refine o_stVR X31 hx hby hZ e31 q34 ⟨by decide, by decide⟩ 0 rfl (Nat.le_of_ble_eq_true rfl) O22 (Ins.self Ex31) d3_94 (q := 95) rfl fun T35 h35 X35 e35 W35 V35 => ?_
  refine o_iinc X35 hx hby d3_95 rfl (l' := #[rv o0, rv o1, rv o2, iv 2, rv b11, iv 1, iv 4, iv 4, iv 1]) rfl (q := 98) rfl ?_
  refine o_goto X35 hx hby d3_98 (by decide) (q := 75) (by decide) ?_
  refine o_iload X35 hx hby d3_75 rfl (q := 77) rfl ?_
  refine o_iloadN X35 hx hby d3_77 rfl (q := 78) rfl ?_
  refine o_icN X35 hx hby d3_78 (tlt (by decide : (1 : Int32) < (2 : Int32))).2.1 (q := 81) rfl ?_
  refine o_aloadN X35 hx hby d3_81 rfl rfl (q := 82) rfl ?_
  have q37 := ((Fw25.ext E31).other W35 (Or.inl ne_o0_b22))
  refine o_getF X35 hx hZ hown hby (w_ hw 35 rfl) Via.refl e35 q37 d3_82 (q := 85) rfl fun T36 X36 e36 => ?_
  refine o_iload X36 hx hby d3_85 rfl (q := 87) rfl ?_
  refine o_aload X36 hx hby d3_87 rfl rfl (q := 89) rfl ?_
  refine o_iload X36 hx hby d3_89 rfl (q := 91) rfl ?_
  have ne_b11_b22 : b11 ≠ b22 := Nat.ne_of_lt (Nat.lt_of_lt_of_le (Nat.lt_of_lt_of_le (Nat.lt_of_lt_of_le (Nat.lt_of_lt_of_le (Nat.lt_of_lt_of_le A11.lt (Keep.of_wr W15).1) (Keep.of_wr W17).1) (Keep.of_wr W19).1) (Keep.of_wr W21).1) (Nat.le_of_eq g22.symm))
  have q38 := ((q30.ext E31).other W35 ne_b11_b22)
  refine o_iaV X36 hx hby hZ e36 q38 ⟨by decide, by decide⟩ (v := .int 2) rfl d3_91 (q := 92) rfl ?_
  obtain ⟨T39, h39, k39, X39, e39, E39, A39, Ex39, st39⟩ := newPE X36 hx hZ (w_ hw 5 rfl) e36 (g := (mkF m 92 #[rv o0, rv o1, rv o2, iv 2, rv b11, iv 1, iv 4, iv 4, iv 1] [.int 2, .int 1, .ref b22])) rfl (hb hby d3_92) rfl (by decide) (cap := 2) (by decide) (by decide) (by decide) (by decide) (ad := "[I") (by decide +kernel)
  obtain ⟨b39, g39⟩ : ∃ z, z = h35.size := ⟨_, rfl⟩
  rw [← g39] at A39 Ex39 st39
  have q40 := (Nat.le_trans (Nat.le_trans q32 E31.1) (Keep.of_wr W35).1)
  have g_b39 : n0 ≤ b39 := Nat.le_trans q40 (Nat.le_of_eq g39.symm)
  have q41 := (Nat.le_trans (Nat.le_trans q33 E31.1) (Keep.of_wr W35).1)
  have sz_b39 : h0.size ≤ b39 := Nat.le_trans q41 (Nat.le_of_eq g39.symm)
  have V_b39 : Arv Z h39 b39 k39 .int (2 : Int32) [(.int (0 : Int32)), (.int (0 : Int32))] (.int (0 : Int32)) := (Arv.new A39 (by decide)).pad (pad_rep [] (.int (0 : Int32)) 2)
  refine own_of st39 ?_
  show own_Out p e below _ (T39.setTop (mkF m 94 #[rv o0, rv o1, rv o2, iv 2, rv b11, iv 1, iv 4, iv 4, iv 1] [.ref b39, .int 1, .ref b22]))
  have q42 := (V35.ext E39)
  refine o_stVR X39 hx hby hZ e39 q42 ⟨by decide, by decide⟩ 1 rfl (Nat.le_of_ble_eq_true rfl) O22 (Ins.self Ex39) d3_94 (q := 95) rfl fun T43 h43 X43 e43 W43 V43 => ?_
  refine o_iinc X43 hx hby d3_95 rfl (l' := #[rv o0, rv o1, rv o2, iv 2, rv b11, iv 2, iv 4, iv 4, iv 1]) rfl (q := 98) rfl ?_
  refine o_goto X43 hx hby d3_98 (by decide) (q := 75) (by decide) ?_
  refine o_iload X43 hx hby d3_75 rfl (q := 77) rfl ?_
  refine o_iloadN X43 hx hby d3_77 rfl (q := 78) rfl ?_
  refine o_icY X43 hx hby d3_78 (flt (by decide : ¬ ((2 : Int32) < (2 : Int32)))).2.1 (by decide) (q := 101) (by decide) ?_
  refine o_iloadN X43 hx hby d3_101 rfl (q := 102) rfl ?_
  obtain ⟨T44, h44, k44, X44, e44, E44, A44, Ex44, st44⟩ := newPE X43 hx hZ (w_ hw 5 rfl) e43 (g := (mkF m 102 #[rv o0, rv o1, rv o2, iv 2, rv b11, iv 2, iv 4, iv 4, iv 1] [.int 2])) rfl (hb hby d3_102) rfl (by decide) (cap := 2) (by decide) (by decide) (by decide) (by decide) (ad := "[I") (by decide +kernel)
  obtain ⟨b44, g44⟩ : ∃ z, z = h43.size := ⟨_, rfl⟩
  rw [← g44] at A44 Ex44 st44
  have q45 := (Nat.le_trans (Nat.le_trans q40 E39.1) (Keep.of_wr W43).1)
  have g_b44 : n0 ≤ b44 := Nat.le_trans q45 (Nat.le_of_eq g44.symm)
  have q46 := (Nat.le_trans (Nat.le_trans q41 E39.1) (Keep.of_wr W43).1)
  have sz_b44 : h0.size ≤ b44 := Nat.le_trans q46 (Nat.le_of_eq g44.symm)
  have V_b44 : Arv Z h44 b44 k44 .int (2 : Int32) [(.int (0 : Int32)), (.int (0 : Int32))] (.int (0 : Int32)) := (Arv.new A44 (by decide)).pad (pad_rep [] (.int (0 : Int32)) 2)
  refine own_of st44 ?_
  show own_Out p e below _ (T44.setTop (mkF m 104 #[rv o0, rv o1, rv o2, iv 2, rv b11, iv 2, iv 4, iv 4, iv 1] [.ref b44]))
  refine o_astore X44 hx hby d3_104 rfl (l' := #[rv o0, rv o1, rv o2, iv 2, rv b11, rv b44, iv 4, iv 4, iv 1]) rfl (q := 106) rfl ?_
  refine o_iconst X44 hx hby d3_106 (z := 0) rfl (q := 107) rfl ?_
  refine o_istore X44 hx hby d3_107 (l' := #[rv o0, rv o1, rv o2, iv 2, rv b11, rv b44, iv 0, iv 4, iv 1]) rfl (q := 109) rfl ?_
  have ne_o2_b22 : o2 ≠ b22 := Nat.ne_of_lt (Nat.lt_of_lt_of_le V.lt sz_b22)
  have q49 := ((((((((q20.other W21 ne_o2_b11).ext E22).other W25 n2).ext E31).other W35 ne_o2_b22).ext E39).other W43 ne_o2_b22).ext E44)
  have q50 := (((q37.ext E39).other W43 (Or.inl ne_o0_b22)).ext E44)
  have q51 := (V43.ext E44)
  have ne_b22_b31 : b22 ≠ b31 := Nat.ne_of_lt (Nat.lt_of_lt_of_le (Nat.lt_of_lt_of_le A22.lt (Keep.of_wr W25).1) (Nat.le_of_eq g31.symm))
  have q52 := ((((V_b31.other W35 (Ne.symm ne_b22_b31)).ext E39).other W43 (Ne.symm ne_b22_b31)).ext E44)
  have ne_b31_b44 : b31 ≠ b44 := Nat.ne_of_lt (Nat.lt_of_lt_of_le (Nat.lt_of_lt_of_le (Nat.lt_of_lt_of_le (Nat.lt_of_lt_of_le A31.lt (Keep.of_wr W35).1) E39.1) (Keep.of_wr W43).1) (Nat.le_of_eq g44.symm))
  refine t3 X44 hx hby hZ e44 hw hown q49 q50 q51 V_b44 q52 ne_b31_b44 ⟨by decide, by decide⟩ (x := 0) rfl ⟨by decide, by decide⟩ rfl (f := 0) rfl ⟨by decide, by decide⟩ (f' := 1) rfl (i' := 1) rfl (iN := 0) rfl (Nat.le_of_ble_eq_true rfl) (jN := 0) rfl (Nat.le_of_ble_eq_true rfl) fun T48 h47 h48 X48 e48 W47 W48 V47 V48 => ?_
  have ne_o2_b44 : o2 ≠ b44 := Nat.ne_of_lt (Nat.lt_of_lt_of_le V.lt sz_b44)
  have ne_o2_b31 : o2 ≠ b31 := Nat.ne_of_lt (Nat.lt_of_lt_of_le V.lt sz_b31)
  have q55 := ((q49.other W47 ne_o2_b44).other W48 ne_o2_b31)
  have ne_o0_b44 : o0 ≠ b44 := Nat.ne_of_lt (Nat.lt_of_lt_of_le E.lt sz_b44)
  have ne_o0_b31 : o0 ≠ b31 := Nat.ne_of_lt (Nat.lt_of_lt_of_le E.lt sz_b31)
  have q56 := ((q50.other W47 (Or.inl ne_o0_b44)).other W48 (Or.inl ne_o0_b31))
  have ne_b22_b44 : b22 ≠ b44 := Nat.ne_of_lt (Nat.lt_of_lt_of_le (Nat.lt_of_lt_of_le (Nat.lt_of_lt_of_le (Nat.lt_of_lt_of_le (Nat.lt_of_lt_of_le (Nat.lt_of_lt_of_le A22.lt (Keep.of_wr W25).1) E31.1) (Keep.of_wr W35).1) E39.1) (Keep.of_wr W43).1) (Nat.le_of_eq g44.symm))
  have q57 := ((q51.other W47 ne_b22_b44).other W48 ne_b22_b31)
  have q58 := (V47.other W48 (Ne.symm ne_b31_b44))
  have ne_b22_b39 : b22 ≠ b39 := Nat.ne_of_lt (Nat.lt_of_lt_of_le (Nat.lt_of_lt_of_le (Nat.lt_of_lt_of_le (Nat.lt_of_lt_of_le A22.lt (Keep.of_wr W25).1) E31.1) (Keep.of_wr W35).1) (Nat.le_of_eq g39.symm))
  have ne_b39_b44 : b39 ≠ b44 := Nat.ne_of_lt (Nat.lt_of_lt_of_le (Nat.lt_of_lt_of_le A39.lt (Keep.of_wr W43).1) (Nat.le_of_eq g44.symm))
  have ne_b31_b39 : b31 ≠ b39 := Nat.ne_of_lt (Nat.lt_of_lt_of_le (Nat.lt_of_lt_of_le A31.lt (Keep.of_wr W35).1) (Nat.le_of_eq g39.symm))
  have q59 := ((((V_b39.other W43 (Ne.symm ne_b22_b39)).ext E44).other W47 ne_b39_b44).other W48 (Ne.symm ne_b31_b39))
  refine t3 X48 hx hby hZ e48 hw hown q55 q56 q57 q58 q59 ne_b39_b44 ⟨by decide, by decide⟩ (x := 1) rfl ⟨by decide, by decide⟩ rfl (f := 0) rfl ⟨by decide, by decide⟩ (f' := 1) rfl (i' := 2) rfl (iN := 1) rfl (Nat.le_of_ble_eq_true rfl) (jN := 0) rfl (Nat.le_of_ble_eq_true rfl) fun T54 h53 h54 X54 e54 W53 W54 V53 V54 => ?_
  have ne_o2_b39 : o2 ≠ b39 := Nat.ne_of_lt (Nat.lt_of_lt_of_le V.lt sz_b39)
  have q62 := ((q55.other W53 ne_o2_b44).other W54 ne_o2_b39)
  have ne_o0_b39 : o0 ≠ b39 := Nat.ne_of_lt (Nat.lt_of_lt_of_le E.lt sz_b39)
  have q63 := ((q56.other W53 (Or.inl ne_o0_b44)).other W54 (Or.inl ne_o0_b39))
  have q64 := ((q57.other W53 ne_b22_b44).other W54 ne_b22_b39)
  have q65 := (V53.other W54 (Ne.symm ne_b39_b44))
  have q66 := ((V48.other W53 ne_b31_b44).other W54 ne_b31_b39)
  refine t3 X54 hx hby hZ e54 hw hown q62 q63 q64 q65 q66 ne_b31_b44 ⟨by decide, by decide⟩ (x := 0) rfl ⟨by decide, by decide⟩ rfl (f := 1) rfl ⟨by decide, by decide⟩ (f' := 2) rfl (i' := 3) rfl (iN := 0) rfl (Nat.le_of_ble_eq_true rfl) (jN := 1) rfl (Nat.le_of_ble_eq_true rfl) fun T61 h60 h61 X61 e61 W60 W61 V60 V61 => ?_
  have q69 := ((q62.other W60 ne_o2_b44).other W61 ne_o2_b31)
  have q70 := ((q63.other W60 (Or.inl ne_o0_b44)).other W61 (Or.inl ne_o0_b31))
  have q71 := ((q64.other W60 ne_b22_b44).other W61 ne_b22_b31)
  have q72 := (V60.other W61 (Ne.symm ne_b31_b44))
  have q73 := ((V54.other W60 ne_b39_b44).other W61 (Ne.symm ne_b31_b39))
  refine t3 X61 hx hby hZ e61 hw hown q69 q70 q71 q72 q73 ne_b39_b44 ⟨by decide, by decide⟩ (x := 1) rfl ⟨by decide, by decide⟩ rfl (f := 1) rfl ⟨by decide, by decide⟩ (f' := 2) rfl (i' := 4) rfl (iN := 1) rfl (Nat.le_of_ble_eq_true rfl) (jN := 1) rfl (Nat.le_of_ble_eq_true rfl) fun T68 h67 h68 X68 e68 W67 W68 V67 V68 => ?_
  refine o_iload X68 hx hby d3_109 rfl (q := 111) rfl ?_
  refine o_aloadN X68 hx hby d3_111 rfl rfl (q := 112) rfl ?_
  have q74 := ((q69.other W67 ne_o2_b44).other W68 ne_o2_b39)
  refine o_lenV X68 hx hby hZ e68 q74 d3_112 (q := 113) rfl ?_
  refine o_icY X68 hx hby d3_113 (flt (by decide : ¬ ((4 : Int32) < (4 : Int32)))).2.1 (by decide) (q := 146) (by decide) ?_
  have q75 := ((((((((((((((((((((((((Keep.refl h0 [o0]).wr W2 (Or.inl (List.mem_of_getElem? (i := 0) rfl))).wr W3 (Or.inl (List.mem_of_getElem? (i := 0) rfl))).wr W7 (Or.inl (List.mem_of_getElem? (i := 0) rfl))).ext E11).wr W15 (Or.inr sz_b11)).wr W17 (Or.inr sz_b11)).wr W19 (Or.inr sz_b11)).wr W21 (Or.inr sz_b11)).ext E22).wr W25 (Or.inl (List.mem_of_getElem? (i := 0) rfl))).ext E31).wr W35 (Or.inr sz_b22)).ext E39).wr W43 (Or.inr sz_b22)).ext E44).wr W47 (Or.inr sz_b44)).wr W48 (Or.inr sz_b31)).wr W53 (Or.inr sz_b44)).wr W54 (Or.inr sz_b39)).wr W60 (Or.inr sz_b44)).wr W61 (Or.inr sz_b31)).wr W67 (Or.inr sz_b44)).wr W68 (Or.inr sz_b39))
  have q76 := ((((((((((((((q27.wr W25).ext E31).wr W35).ext E39).wr W43).ext E44).wr W47).wr W48).wr W53).wr W54).wr W60).wr W61).wr W67).wr W68)
  have q77 := (((((((((((((((((((((Fw3.other W7 (Or.inr (slot_ne (Or.inr (w_ hw 30 rfl)) (Or.inr (w_ hw 32 rfl)) (by decide) (t := (.array .int)) (t' := .int) (by decide) (by decide)))).ext E11).other W15 (Or.inl ne_o0_b11)).other W17 (Or.inl ne_o0_b11)).other W19 (Or.inl ne_o0_b11)).other W21 (Or.inl ne_o0_b11)).ext E22).other W25 (Or.inr (slot_ne (Or.inr (w_ hw 30 rfl)) (Or.inr (w_ hw 36 rfl)) (by decide) (t := (.array .int)) (t' := (.array (.array .int))) (by decide) (by decide)))).ext E31).other W35 (Or.inl ne_o0_b22)).ext E39).other W43 (Or.inl ne_o0_b22)).ext E44).other W47 (Or.inl ne_o0_b44)).other W48 (Or.inl ne_o0_b31)).other W53 (Or.inl ne_o0_b44)).other W54 (Or.inl ne_o0_b39)).other W60 (Or.inl ne_o0_b44)).other W61 (Or.inl ne_o0_b31)).other W67 (Or.inl ne_o0_b44)).other W68 (Or.inl ne_o0_b39))
  have q78 := ((((((((((((((((((((Fw7.ext E11).other W15 (Or.inl ne_o0_b11)).other W17 (Or.inl ne_o0_b11)).other W19 (Or.inl ne_o0_b11)).other W21 (Or.inl ne_o0_b11)).ext E22).other W25 (Or.inr (slot_ne (Or.inr (w_ hw 32 rfl)) (Or.inr (w_ hw 36 rfl)) (by decide) (t := .int) (t' := (.array (.array .int))) (by decide) (by decide)))).ext E31).other W35 (Or.inl ne_o0_b22)).ext E39).other W43 (Or.inl ne_o0_b22)).ext E44).other W47 (Or.inl ne_o0_b44)).other W48 (Or.inl ne_o0_b31)).other W53 (Or.inl ne_o0_b44)).other W54 (Or.inl ne_o0_b39)).other W60 (Or.inl ne_o0_b44)).other W61 (Or.inl ne_o0_b31)).other W67 (Or.inl ne_o0_b44)).other W68 (Or.inl ne_o0_b39))
  exact own_outV X68 hx hlk hret (hb hby d3_146) (Q := Q3c0101n2 Z o0 o1 o2 k2 h0 n0) (by rw [e68]; exact ⟨rfl, (Fr.snoc X68 (own_snoc (Fr.snoc X61 (own_snoc (Fr.snoc X54 (own_snoc (Fr.snoc X48 (own_snoc (Fr.snoc X43 (Fr.snoc X35 (Fr.snoc X25 (Fr.snoc X21 (Fr.snoc X19 (Fr.snoc X17 (Fr.snoc X15 (Fr.snoc X7 (Fr.snoc X3 (Fr.snoc X2 N0 g_o0) g_o0) g_o0) g_b11) g_b11) g_b11) g_b11) g_o0) g_b22) g_b22) g_b44) g_b31) g_b44) g_b39) g_b44) g_b31) g_b44) g_b39), q75, q76, q77, q78⟩) (by decide) (by decide)
theorem ef_3c0102n3 (m : MethodId) (x0 : Addr) (x1 : Addr) (x2 : Addr) : entryFrame m #[(.ref x0), (.ref x1), (.ref x2), (.int (3 : Int32))] 9 = mkF m 0 #[.val (.ref x0), .val (.ref x1), .val (.ref x2), .val (.int (3 : Int32)), .unset, .unset, .unset, .unset, .unset] [] := by first | (simp [entryFrame, mkF, argsToLocals, Value.category]; done) | rfl
def Q3c0102n3 (Z : State) (o0 : Addr) (o1 : Addr) (o2 : Addr) (k2 : ClassId) (h0 : Heap) (n0 : Nat) (v : Option Value) (h : Heap) (L : List Loc) : Prop := v = none ∧ Fr n0 L ∧ Keep h0 h [o0] ∧ Exa Z h o0 "com/example/slimc/slimc/game/Observation" ∧ Fld Z h o0 "com/example/slimc/slimc/game/Observation" "classOf" "[I" (.ref o2) ∧ Fld Z h o0 "com/example/slimc/slimc/game/Observation" "classCount" "I" (.int (3 : Int32))
set_option maxRecDepth 65536 in
set_option maxHeartbeats 40000000 in
theorem rm3c0102n3 (l : Launch) (Z : State) (a0 : Array Value) (hw : ∀ d ∈ tables_1, d.before a0 Z = true) (ws : List Jvm.Cond) (o0 : Addr) (o1 : Addr) (o2 : Addr) (k2 : ClassId) (h0 : Heap) (n0 : Nat) (Z0 : n0 ≤ h0.size) (E : Exa Z h0 o0 "com/example/slimc/slimc/game/Observation") (F_name : Fld Z h0 o0 "com/example/slimc/slimc/game/Observation" "name" "Ljava/lang/String;" .null) (F_classOf : Fld Z h0 o0 "com/example/slimc/slimc/game/Observation" "classOf" "[I" .null) (F_classCount : Fld Z h0 o0 "com/example/slimc/slimc/game/Observation" "classCount" "I" (.int (0 : Int32))) (F_classes : Fld Z h0 o0 "com/example/slimc/slimc/game/Observation" "classes" "[[I" .null) (g_o0 : n0 ≤ o0) (V : Arv Z h0 o2 k2 .int (4 : Int32) [(.int (0 : Int32)), (.int (1 : Int32)), (.int (0 : Int32)), (.int (2 : Int32))] (.int (0 : Int32))) (n2 : o2 ≠ o0) :
    MetFree l (⟨"com/example/slimc/slimc/game/Observation", "<init>", "(Ljava/lang/String;[II)V"⟩ : MethodName) (head1 (Jvm.Cond.code (⟨"com/example/slimc/slimc/game/Observation", "<init>", "(Ljava/lang/String;[II)V"⟩ : MethodName) prog_66_method_1_code 9 none :: ws) ({ frames := 1, cells := 7, slots := 16, locals := 14 } : Room)) (fun a U => a = #[(.ref o0), (.ref o1), (.ref o2), (.int (3 : Int32))] ∧ Z.Warmed39 U.vm ∧ U.heap = h0) (fun _ _ _ _ _ => True) (fun _ U o U' => ∃ v L, o = .returned v ∧ Q3c0102n3 Z o0 o1 o2 k2 h0 n0 v U'.heap L ∧ FrameEnd U o U' L ({ frames := 1, cells := 7, slots := 16, locals := 14 } : Room).cells ({ frames := 1, cells := 7, slots := 16, locals := 14 } : Room).slots) := by
  refine MetFree.of_bodySF (plainFor_of_name pn_1) hisR ?_
  intro p e s m args below meth c s₁ Bd hml0 hP hK
  obtain ⟨rfl, hZ, hh⟩ := hP
  have hx := Bd.exec
  have hby := Bd.bytes
  have hml : c.maxLocals = 9 := hml0
  have hown : s.vm.findClass "com/example/slimc/slimc/game/Observation" = some m.cls := findClass_of_methodNamed Bd.named
  have hnm := (name_of_methodNamed Bd.named Bd.method).1
  have X0 : Stand p l e ({ frames := 1, cells := 7, slots := 16, locals := 14 } : Room) s m #[(.ref o0), (.ref o1), (.ref o2), (.int (3 : Int32))] below meth c s₁ [] 0 0 := Stand.of_body Bd
  have e0 : s₁.heap = h0 := by rw [← hh, Bd.state]; rfl
  have N0 := Fr.nil n0
  have hret := Bd.returns
  have hlk := BodyLoose.notSynchronized Bd
  show own_Out p e below (fun o U' => ∃ v L, o = .returned v ∧ Q3c0102n3 Z o0 o1 o2 k2 h0 n0 v U'.heap L ∧ FrameEnd s o U' L ({ frames := 1, cells := 7, slots := 16, locals := 14 } : Room).cells ({ frames := 1, cells := 7, slots := 16, locals := 14 } : Room).slots) (s₁.setTop (entryFrame m #[(.ref o0), (.ref o1), (.ref o2), (.int (3 : Int32))] 9))
  refine own_of (fun t k => castTop (ef_3c0102n3 m o0 o1 o2) k) ?_
  show own_Out p e below _ (s₁.setTop (mkF m 0 #[rv o0, rv o1, rv o2, iv 3, .unset, .unset, .unset, .unset, .unset] []))
  refine o_aloadN X0 hx hby d3_0 rfl rfl (q := 1) rfl ?_
  obtain ⟨T1, X1, e1, st1⟩ := initO X0 hx hZ hown (w_ hw 24 rfl) (w_ hw 25 rfl) (w_ hw 26 rfl) e0 (g := (mkF m 1 #[rv o0, rv o1, rv o2, iv 3, .unset, .unset, .unset, .unset, .unset] [.ref o0])) rfl (by rw [hml]; rfl) rfl (hb hby d3_1) (by decide) (W := 0) (by show 2 * 0 + _ ≤ _; exact Nat.le_of_eq rfl) (by decide)
  refine own_of st1 ?_
  show own_Out p e below _ (T1.setTop (mkF m 4 #[rv o0, rv o1, rv o2, iv 3, .unset, .unset, .unset, .unset, .unset] []))
  refine o_aloadN X1 hx hby d3_4 rfl rfl (q := 5) rfl ?_
  refine o_aloadN X1 hx hby d3_5 rfl rfl (q := 6) rfl ?_
  obtain ⟨T2, h2, X2, e2, W2, st2⟩ := putF X1 hx hZ hown (host := "") (Or.inl (w_ hw 27 rfl)) Via.refl e1 F_name E (Or.inr ⟨(w_ hw 28 rfl), rfl, hnm⟩) (w_ hw 11 rfl) (ty := (.object "java/lang/String")) (by decide) rfl rfl (g := (mkF m 6 #[rv o0, rv o1, rv o2, iv 3, .unset, .unset, .unset, .unset, .unset] [.ref o1, .ref o0])) rfl rfl (hb hby d3_6)
  have Fw2 := F_name.same W2
  refine own_of st2 ?_
  show own_Out p e below _ (T2.setTop (mkF m 9 #[rv o0, rv o1, rv o2, iv 3, .unset, .unset, .unset, .unset, .unset] []))
  refine o_aloadN X2 hx hby d3_9 rfl rfl (q := 10) rfl ?_
  refine o_aloadN X2 hx hby d3_10 rfl rfl (q := 11) rfl ?_
  have q4 := (F_classOf.other W2 (Or.inr (slot_ne (Or.inr (w_ hw 30 rfl)) (Or.inr (w_ hw 28 rfl)) (by decide) (t := (.array .int)) (t' := (.object "java/lang/String")) (by decide) (by decide))))
  have q5 := (E.wr W2)
  obtain ⟨T3, h3, X3, e3, W3, st3⟩ := putF X2 hx hZ hown (host := "") (Or.inl (w_ hw 29 rfl)) Via.refl e2 q4 q5 (Or.inr ⟨(w_ hw 30 rfl), rfl, hnm⟩) (w_ hw 11 rfl) (ty := (.array .int)) (by decide) rfl rfl (g := (mkF m 11 #[rv o0, rv o1, rv o2, iv 3, .unset, .unset, .unset, .unset, .unset] [.ref o2, .ref o0])) rfl rfl (hb hby d3_11)
  have q6 := (F_classOf.other W2 (Or.inr (slot_ne (Or.inr (w_ hw 30 rfl)) (Or.inr (w_ hw 28 rfl)) (by decide) (t := (.array .int)) (t' := (.object "java/lang/String")) (by decide) (by decide))))
  have Fw3 := q6.same W3
  refine own_of st3 ?_
  show own_Out p e below _ (T3.setTop (mkF m 14 #[rv o0, rv o1, rv o2, iv 3, .unset, .unset, .unset, .unset, .unset] []))
  refine o_aloadN X3 hx hby d3_14 rfl rfl (q := 15) rfl ?_
  refine o_iloadN X3 hx hby d3_15 rfl (q := 16) rfl ?_
  have q8 := ((F_classCount.other W2 (Or.inr (slot_ne (Or.inr (w_ hw 32 rfl)) (Or.inr (w_ hw 28 rfl)) (by decide) (t := .int) (t' := (.object "java/lang/String")) (by decide) (by decide)))).other W3 (Or.inr (slot_ne (Or.inr (w_ hw 32 rfl)) (Or.inr (w_ hw 30 rfl)) (by decide) (t := .int) (t' := (.array .int)) (by decide) (by decide))))
  have q9 := (q5.wr W3)
  obtain ⟨T7, h7, X7, e7, W7, st7⟩ := putF X3 hx hZ hown (host := "") (Or.inl (w_ hw 31 rfl)) Via.refl e3 q8 q9 (Or.inr ⟨(w_ hw 32 rfl), rfl, hnm⟩) (w_ hw 11 rfl) (ty := .int) (by decide) rfl rfl (g := (mkF m 16 #[rv o0, rv o1, rv o2, iv 3, .unset, .unset, .unset, .unset, .unset] [.int 3, .ref o0])) rfl rfl (hb hby d3_16)
  have q10 := ((F_classCount.other W2 (Or.inr (slot_ne (Or.inr (w_ hw 32 rfl)) (Or.inr (w_ hw 28 rfl)) (by decide) (t := .int) (t' := (.object "java/lang/String")) (by decide) (by decide)))).other W3 (Or.inr (slot_ne (Or.inr (w_ hw 32 rfl)) (Or.inr (w_ hw 30 rfl)) (by decide) (t := .int) (t' := (.array .int)) (by decide) (by decide))))
  have Fw7 := q10.same W7
  refine own_of st7 ?_
  show own_Out p e below _ (T7.setTop (mkF m 19 #[rv o0, rv o1, rv o2, iv 3, .unset, .unset, .unset, .unset, .unset] []))
  refine o_iloadN X7 hx hby d3_19 rfl (q := 20) rfl ?_
  obtain ⟨T11, h11, k11, X11, e11, E11, A11, Ex11, st11⟩ := newPE X7 hx hZ (w_ hw 5 rfl) e7 (g := (mkF m 20 #[rv o0, rv o1, rv o2, iv 3, .unset, .unset, .unset, .unset, .unset] [.int 3])) rfl (hb hby d3_20) rfl (by decide) (cap := 3) (by decide) (by decide) (by decide) (by decide) (ad := "[I") (by decide +kernel)
  obtain ⟨b11, g11⟩ : ∃ z, z = h7.size := ⟨_, rfl⟩
  rw [← g11] at A11 Ex11 st11
  have q12 := (Nat.le_trans (Nat.le_trans (Nat.le_trans Z0 (Keep.of_wr W2).1) (Keep.of_wr W3).1) (Keep.of_wr W7).1)
  have g_b11 : n0 ≤ b11 := Nat.le_trans q12 (Nat.le_of_eq g11.symm)
  have q13 := (Nat.le_trans (Nat.le_trans (Nat.le_trans (Nat.le_refl h0.size) (Keep.of_wr W2).1) (Keep.of_wr W3).1) (Keep.of_wr W7).1)
  have sz_b11 : h0.size ≤ b11 := Nat.le_trans q13 (Nat.le_of_eq g11.symm)
  have V_b11 : Arv Z h11 b11 k11 .int (3 : Int32) [(.int (0 : Int32)), (.int (0 : Int32)), (.int (0 : Int32))] (.int (0 : Int32)) := (Arv.new A11 (by decide)).pad (pad_rep [] (.int (0 : Int32)) 3)
  refine own_of st11 ?_
  show own_Out p e below _ (T11.setTop (mkF m 22 #[rv o0, rv o1, rv o2, iv 3, .unset, .unset, .unset, .unset, .unset] [.ref b11]))
  refine o_astore X11 hx hby d3_22 rfl (l' := #[rv o0, rv o1, rv o2, iv 3, rv b11, .unset, .unset, .unset, .unset]) rfl (q := 24) rfl ?_
  refine o_aloadN X11 hx hby d3_24 rfl rfl (q := 25) rfl ?_
  refine o_astore X11 hx hby d3_25 rfl (l' := #[rv o0, rv o1, rv o2, iv 3, rv b11, rv o2, .unset, .unset, .unset]) rfl (q := 27) rfl ?_
  refine o_aload X11 hx hby d3_27 rfl rfl (q := 29) rfl ?_
  have q14 := ((((V.other W2 n2).other W3 n2).other W7 n2).ext E11)
  refine o_lenV X11 hx hby hZ e11 q14 d3_29 (q := 30) rfl ?_
  refine o_istore X11 hx hby d3_30 (l' := #[rv o0, rv o1, rv o2, iv 3, rv b11, rv o2, iv 4, .unset, .unset]) rfl (q := 32) rfl ?_
  refine o_iconst X11 hx hby d3_32 (z := 0) rfl (q := 33) rfl ?_
  refine o_istore X11 hx hby d3_33 (l' := #[rv o0, rv o1, rv o2, iv 3, rv b11, rv o2, iv 4, iv 0, .unset]) rfl (q := 35) rfl ?_
  refine t1 X11 hx hby hZ e11 q14 V_b11 rfl ⟨by decide, by decide⟩ (cc := 0) rfl ⟨by decide, by decide⟩ (y := 0) rfl (y' := 1) rfl (i' := 1) rfl (iN := 0) rfl (Nat.le_of_ble_eq_true rfl) fun T15 h15 X15 e15 W15 V15 => ?_
  have ne_o2_b11 : o2 ≠ b11 := Nat.ne_of_lt (Nat.lt_of_lt_of_le V.lt sz_b11)
  have q16 := (q14.other W15 ne_o2_b11)
  refine t1 X15 hx hby hZ e15 q16 V15 rfl ⟨by decide, by decide⟩ (cc := 1) rfl ⟨by decide, by decide⟩ (y := 0) rfl (y' := 1) rfl (i' := 2) rfl (iN := 1) rfl (Nat.le_of_ble_eq_true rfl) fun T17 h17 X17 e17 W17 V17 => ?_
  have q18 := (q16.other W17 ne_o2_b11)
  refine t1 X17 hx hby hZ e17 q18 V17 rfl ⟨by decide, by decide⟩ (cc := 0) rfl ⟨by decide, by decide⟩ (y := 1) rfl (y' := 2) rfl (i' := 3) rfl (iN := 0) rfl (Nat.le_of_ble_eq_true rfl) fun T19 h19 X19 e19 W19 V19 => ?_
  have q20 := (q18.other W19 ne_o2_b11)
  refine t1 X19 hx hby hZ e19 q20 V19 rfl ⟨by decide, by decide⟩ (cc := 2) rfl ⟨by decide, by decide⟩ (y := 0) rfl (y' := 1) rfl (i' := 4) rfl (iN := 2) rfl (Nat.le_of_ble_eq_true rfl) fun T21 h21 X21 e21 W21 V21 => ?_
  refine o_iload X21 hx hby d3_35 rfl (q := 37) rfl ?_
  refine o_iload X21 hx hby d3_37 rfl (q := 39) rfl ?_
  refine o_icY X21 hx hby d3_39 (flt (by decide : ¬ ((4 : Int32) < (4 : Int32)))).2.1 (by decide) (q := 64) (by decide) ?_
  refine o_aloadN X21 hx hby d3_64 rfl rfl (q := 65) rfl ?_
  refine o_iloadN X21 hx hby d3_65 rfl (q := 66) rfl ?_
  obtain ⟨T22, h22, k22, X22, e22, E22, A22, Ex22, O22, st22⟩ := newRA X21 hx hZ hown (ty := .int) (by decide +kernel) (w_ hw 33 rfl) (w_ hw 34 rfl) e21 (g := (mkF m 66 #[rv o0, rv o1, rv o2, iv 3, rv b11, rv o2, iv 4, iv 4, iv 2] [.int 3, .ref o0])) rfl (hb hby d3_66) rfl (by decide) (cap := 3) (by decide) (by decide) (by decide) (by decide) (ad := "[[I") (by decide +kernel)
  obtain ⟨b22, g22⟩ : ∃ z, z = h21.size := ⟨_, rfl⟩
  rw [← g22] at A22 Ex22 st22
  have q23 := (Nat.le_trans (Nat.le_trans (Nat.le_trans (Nat.le_trans (Nat.le_trans q12 E11.1) (Keep.of_wr W15).1) (Keep.of_wr W17).1) (Keep.of_wr W19).1) (Keep.of_wr W21).1)
  have g_b22 : n0 ≤ b22 := Nat.le_trans q23 (Nat.le_of_eq g22.symm)
  have q24 := (Nat.le_trans (Nat.le_trans (Nat.le_trans (Nat.le_trans (Nat.le_trans q13 E11.1) (Keep.of_wr W15).1) (Keep.of_wr W17).1) (Keep.of_wr W19).1) (Keep.of_wr W21).1)
  have sz_b22 : h0.size ≤ b22 := Nat.le_trans q24 (Nat.le_of_eq g22.symm)
  have V_b22 : Arv Z h22 b22 k22 (.array .int) (3 : Int32) [.null, .null, .null] .null := (Arv.new A22 (by decide)).pad (pad_rep [] .null 3)
  refine own_of st22 ?_
  show own_Out p e below _ (T22.setTop (mkF m 69 #[rv o0, rv o1, rv o2, iv 3, rv b11, rv o2, iv 4, iv 4, iv 2] [.ref b22, .ref o0]))
  have ne_o0_b11 : o0 ≠ b11 := Nat.ne_of_lt (Nat.lt_of_lt_of_le E.lt sz_b11)
  have q26 := (((((((((F_classes.other W2 (Or.inr (slot_ne (Or.inr (w_ hw 36 rfl)) (Or.inr (w_ hw 28 rfl)) (by decide) (t := (.array (.array .int))) (t' := (.object "java/lang/String")) (by decide) (by decide)))).other W3 (Or.inr (slot_ne (Or.inr (w_ hw 36 rfl)) (Or.inr (w_ hw 30 rfl)) (by decide) (t := (.array (.array .int))) (t' := (.array .int)) (by decide) (by decide)))).other W7 (Or.inr (slot_ne (Or.inr (w_ hw 36 rfl)) (Or.inr (w_ hw 32 rfl)) (by decide) (t := (.array (.array .int))) (t' := .int) (by decide) (by decide)))).ext E11).other W15 (Or.inl ne_o0_b11)).other W17 (Or.inl ne_o0_b11)).other W19 (Or.inl ne_o0_b11)).other W21 (Or.inl ne_o0_b11)).ext E22)
  have q27 := (((((((q9.wr W7).ext E11).wr W15).wr W17).wr W19).wr W21).ext E22)
  obtain ⟨T25, h25, X25, e25, W25, st25⟩ := putF X22 hx hZ hown (host := "") (Or.inl (w_ hw 35 rfl)) Via.refl e22 q26 q27 (Or.inr ⟨(w_ hw 36 rfl), rfl, hnm⟩) (w_ hw 11 rfl) (ty := (.array (.array .int))) (by decide) rfl rfl (g := (mkF m 69 #[rv o0, rv o1, rv o2, iv 3, rv b11, rv o2, iv 4, iv 4, iv 2] [.ref b22, .ref o0])) rfl rfl (hb hby d3_69)
  have q28 := (((((((((F_classes.other W2 (Or.inr (slot_ne (Or.inr (w_ hw 36 rfl)) (Or.inr (w_ hw 28 rfl)) (by decide) (t := (.array (.array .int))) (t' := (.object "java/lang/String")) (by decide) (by decide)))).other W3 (Or.inr (slot_ne (Or.inr (w_ hw 36 rfl)) (Or.inr (w_ hw 30 rfl)) (by decide) (t := (.array (.array .int))) (t' := (.array .int)) (by decide) (by decide)))).other W7 (Or.inr (slot_ne (Or.inr (w_ hw 36 rfl)) (Or.inr (w_ hw 32 rfl)) (by decide) (t := (.array (.array .int))) (t' := .int) (by decide) (by decide)))).ext E11).other W15 (Or.inl ne_o0_b11)).other W17 (Or.inl ne_o0_b11)).other W19 (Or.inl ne_o0_b11)).other W21 (Or.inl ne_o0_b11)).ext E22)
  have Fw25 := q28.same W25
  refine own_of st25 ?_
  show own_Out p e below _ (T25.setTop (mkF m 72 #[rv o0, rv o1, rv o2, iv 3, rv b11, rv o2, iv 4, iv 4, iv 2] []))
  refine o_iconst X25 hx hby d3_72 (z := 0) rfl (q := 73) rfl ?_
  refine o_istore X25 hx hby d3_73 (l' := #[rv o0, rv o1, rv o2, iv 3, rv b11, iv 0, iv 4, iv 4, iv 2]) rfl (q := 75) rfl ?_
  refine o_iload X25 hx hby d3_75 rfl (q := 77) rfl ?_
  refine o_iloadN X25 hx hby d3_77 rfl (q := 78) rfl ?_
  refine o_icN X25 hx hby d3_78 (tlt (by decide : (0 : Int32) < (3 : Int32))).2.1 (q := 81) rfl ?_
  refine o_aloadN X25 hx hby d3_81 rfl rfl (q := 82) rfl ?_
  refine o_getF X25 hx hZ hown hby (w_ hw 35 rfl) Via.refl e25 Fw25 d3_82 (q := 85) rfl fun T29 X29 e29 => ?_
  refine o_iload X29 hx hby d3_85 rfl (q := 87) rfl ?_
  refine o_aload X29 hx hby d3_87 rfl rfl (q := 89) rfl ?_
  refine o_iload X29 hx hby d3_89 rfl (q := 91) rfl ?_
  have q30 := ((V21.ext E22).other W25 (Ne.symm ne_o0_b11))
  refine o_iaV X29 hx hby hZ e29 q30 ⟨by decide, by decide⟩ (v := .int 2) rfl d3_91 (q := 92) rfl ?_
  obtain ⟨T31, h31, k31, X31, e31, E31, A31, Ex31, st31⟩ := newPE X29 hx hZ (w_ hw 5 rfl) e29 (g := (mkF m 92 #[rv o0, rv o1, rv o2, iv 3, rv b11, iv 0, iv 4, iv 4, iv 2] [.int 2, .int 0, .ref b22])) rfl (hb hby d3_92) rfl (by decide) (cap := 2) (by decide) (by decide) (by decide) (by decide) (ad := "[I") (by decide +kernel)
  obtain ⟨b31, g31⟩ : ∃ z, z = h25.size := ⟨_, rfl⟩
  rw [← g31] at A31 Ex31 st31
  have q32 := (Nat.le_trans (Nat.le_trans q23 E22.1) (Keep.of_wr W25).1)
  have g_b31 : n0 ≤ b31 := Nat.le_trans q32 (Nat.le_of_eq g31.symm)
  have q33 := (Nat.le_trans (Nat.le_trans q24 E22.1) (Keep.of_wr W25).1)
  have sz_b31 : h0.size ≤ b31 := Nat.le_trans q33 (Nat.le_of_eq g31.symm)
  have V_b31 : Arv Z h31 b31 k31 .int (2 : Int32) [(.int (0 : Int32)), (.int (0 : Int32))] (.int (0 : Int32)) := (Arv.new A31 (by decide)).pad (pad_rep [] (.int (0 : Int32)) 2)
  refine own_of st31 ?_
  show own_Out p e below _ (T31.setTop (mkF m 94 #[rv o0, rv o1, rv o2, iv 3, rv b11, iv 0, iv 4, iv 4, iv 2] [.ref b31, .int 0, .ref b22]))
  have ne_o0_b22 : o0 ≠ b22 := Nat.ne_of_lt (Nat.lt_of_lt_of_le E.lt sz_b22)
  have q34 := ((V_b22.other W25 (Ne.symm ne_o0_b22)).ext E31)
  refine o_stVR X31 hx hby hZ e31 q34 ⟨by decide, by decide⟩ 0 rfl (Nat.le_of_ble_eq_true rfl) O22 (Ins.self Ex31) d3_94 (q := 95) rfl fun T35 h35 X35 e35 W35 V35 => ?_
  refine o_iinc X35 hx hby d3_95 rfl (l' := #[rv o0, rv o1, rv o2, iv 3, rv b11, iv 1, iv 4, iv 4, iv 2]) rfl (q := 98) rfl ?_
  refine o_goto X35 hx hby d3_98 (by decide) (q := 75) (by decide) ?_
  refine o_iload X35 hx hby d3_75 rfl (q := 77) rfl ?_
  refine o_iloadN X35 hx hby d3_77 rfl (q := 78) rfl ?_
  refine o_icN X35 hx hby d3_78 (tlt (by decide : (1 : Int32) < (3 : Int32))).2.1 (q := 81) rfl ?_
  refine o_aloadN X35 hx hby d3_81 rfl rfl (q := 82) rfl ?_
  have q37 := ((Fw25.ext E31).other W35 (Or.inl ne_o0_b22))
  refine o_getF X35 hx hZ hown hby (w_ hw 35 rfl) Via.refl e35 q37 d3_82 (q := 85) rfl fun T36 X36 e36 => ?_
  refine o_iload X36 hx hby d3_85 rfl (q := 87) rfl ?_
  refine o_aload X36 hx hby d3_87 rfl rfl (q := 89) rfl ?_
  refine o_iload X36 hx hby d3_89 rfl (q := 91) rfl ?_
  have ne_b11_b22 : b11 ≠ b22 := Nat.ne_of_lt (Nat.lt_of_lt_of_le (Nat.lt_of_lt_of_le (Nat.lt_of_lt_of_le (Nat.lt_of_lt_of_le (Nat.lt_of_lt_of_le A11.lt (Keep.of_wr W15).1) (Keep.of_wr W17).1) (Keep.of_wr W19).1) (Keep.of_wr W21).1) (Nat.le_of_eq g22.symm))
  have q38 := ((q30.ext E31).other W35 ne_b11_b22)
  refine o_iaV X36 hx hby hZ e36 q38 ⟨by decide, by decide⟩ (v := .int 1) rfl d3_91 (q := 92) rfl ?_
  obtain ⟨T39, h39, k39, X39, e39, E39, A39, Ex39, st39⟩ := newPE X36 hx hZ (w_ hw 5 rfl) e36 (g := (mkF m 92 #[rv o0, rv o1, rv o2, iv 3, rv b11, iv 1, iv 4, iv 4, iv 2] [.int 1, .int 1, .ref b22])) rfl (hb hby d3_92) rfl (by decide) (cap := 1) (by decide) (by decide) (by decide) (by decide) (ad := "[I") (by decide +kernel)
  obtain ⟨b39, g39⟩ : ∃ z, z = h35.size := ⟨_, rfl⟩
  rw [← g39] at A39 Ex39 st39
  have q40 := (Nat.le_trans (Nat.le_trans q32 E31.1) (Keep.of_wr W35).1)
  have g_b39 : n0 ≤ b39 := Nat.le_trans q40 (Nat.le_of_eq g39.symm)
  have q41 := (Nat.le_trans (Nat.le_trans q33 E31.1) (Keep.of_wr W35).1)
  have sz_b39 : h0.size ≤ b39 := Nat.le_trans q41 (Nat.le_of_eq g39.symm)
  have V_b39 : Arv Z h39 b39 k39 .int (1 : Int32) [(.int (0 : Int32))] (.int (0 : Int32)) := (Arv.new A39 (by decide)).pad (pad_rep [] (.int (0 : Int32)) 1)
  refine own_of st39 ?_
  show own_Out p e below _ (T39.setTop (mkF m 94 #[rv o0, rv o1, rv o2, iv 3, rv b11, iv 1, iv 4, iv 4, iv 2] [.ref b39, .int 1, .ref b22]))
  have q42 := (V35.ext E39)
  refine o_stVR X39 hx hby hZ e39 q42 ⟨by decide, by decide⟩ 1 rfl (Nat.le_of_ble_eq_true rfl) O22 (Ins.self Ex39) d3_94 (q := 95) rfl fun T43 h43 X43 e43 W43 V43 => ?_
  refine o_iinc X43 hx hby d3_95 rfl (l' := #[rv o0, rv o1, rv o2, iv 3, rv b11, iv 2, iv 4, iv 4, iv 2]) rfl (q := 98) rfl ?_
  refine o_goto X43 hx hby d3_98 (by decide) (q := 75) (by decide) ?_
  refine o_iload X43 hx hby d3_75 rfl (q := 77) rfl ?_
  refine o_iloadN X43 hx hby d3_77 rfl (q := 78) rfl ?_
  refine o_icN X43 hx hby d3_78 (tlt (by decide : (2 : Int32) < (3 : Int32))).2.1 (q := 81) rfl ?_
  refine o_aloadN X43 hx hby d3_81 rfl rfl (q := 82) rfl ?_
  have q45 := ((q37.ext E39).other W43 (Or.inl ne_o0_b22))
  refine o_getF X43 hx hZ hown hby (w_ hw 35 rfl) Via.refl e43 q45 d3_82 (q := 85) rfl fun T44 X44 e44 => ?_
  refine o_iload X44 hx hby d3_85 rfl (q := 87) rfl ?_
  refine o_aload X44 hx hby d3_87 rfl rfl (q := 89) rfl ?_
  refine o_iload X44 hx hby d3_89 rfl (q := 91) rfl ?_
  have q46 := ((q38.ext E39).other W43 ne_b11_b22)
  refine o_iaV X44 hx hby hZ e44 q46 ⟨by decide, by decide⟩ (v := .int 1) rfl d3_91 (q := 92) rfl ?_
  obtain ⟨T47, h47, k47, X47, e47, E47, A47, Ex47, st47⟩ := newPE X44 hx hZ (w_ hw 5 rfl) e44 (g := (mkF m 92 #[rv o0, rv o1, rv o2, iv 3, rv b11, iv 2, iv 4, iv 4, iv 2] [.int 1, .int 2, .ref b22])) rfl (hb hby d3_92) rfl (by decide) (cap := 1) (by decide) (by decide) (by decide) (by decide) (ad := "[I") (by decide +kernel)
  obtain ⟨b47, g47⟩ : ∃ z, z = h43.size := ⟨_, rfl⟩
  rw [← g47] at A47 Ex47 st47
  have q48 := (Nat.le_trans (Nat.le_trans q40 E39.1) (Keep.of_wr W43).1)
  have g_b47 : n0 ≤ b47 := Nat.le_trans q48 (Nat.le_of_eq g47.symm)
  have q49 := (Nat.le_trans (Nat.le_trans q41 E39.1) (Keep.of_wr W43).1)
  have sz_b47 : h0.size ≤ b47 := Nat.le_trans q49 (Nat.le_of_eq g47.symm)
  have V_b47 : Arv Z h47 b47 k47 .int (1 : Int32) [(.int (0 : Int32))] (.int (0 : Int32)) := (Arv.new A47 (by decide)).pad (pad_rep [] (.int (0 : Int32)) 1)
  refine own_of st47 ?_
  show own_Out p e below _ (T47.setTop (mkF m 94 #[rv o0, rv o1, rv o2, iv 3, rv b11, iv 2, iv 4, iv 4, iv 2] [.ref b47, .int 2, .ref b22]))
  have q50 := (V43.ext E47)
  refine o_stVR X47 hx hby hZ e47 q50 ⟨by decide, by decide⟩ 2 rfl (Nat.le_of_ble_eq_true rfl) O22 (Ins.self Ex47) d3_94 (q := 95) rfl fun T51 h51 X51 e51 W51 V51 => ?_
  refine o_iinc X51 hx hby d3_95 rfl (l' := #[rv o0, rv o1, rv o2, iv 3, rv b11, iv 3, iv 4, iv 4, iv 2]) rfl (q := 98) rfl ?_
  refine o_goto X51 hx hby d3_98 (by decide) (q := 75) (by decide) ?_
  refine o_iload X51 hx hby d3_75 rfl (q := 77) rfl ?_
  refine o_iloadN X51 hx hby d3_77 rfl (q := 78) rfl ?_
  refine o_icY X51 hx hby d3_78 (flt (by decide : ¬ ((3 : Int32) < (3 : Int32)))).2.1 (by decide) (q := 101) (by decide) ?_
  refine o_iloadN X51 hx hby d3_101 rfl (q := 102) rfl ?_
  obtain ⟨T52, h52, k52, X52, e52, E52, A52, Ex52, st52⟩ := newPE X51 hx hZ (w_ hw 5 rfl) e51 (g := (mkF m 102 #[rv o0, rv o1, rv o2, iv 3, rv b11, iv 3, iv 4, iv 4, iv 2] [.int 3])) rfl (hb hby d3_102) rfl (by decide) (cap := 3) (by decide) (by decide) (by decide) (by decide) (ad := "[I") (by decide +kernel)
  obtain ⟨b52, g52⟩ : ∃ z, z = h51.size := ⟨_, rfl⟩
  rw [← g52] at A52 Ex52 st52
  have q53 := (Nat.le_trans (Nat.le_trans q48 E47.1) (Keep.of_wr W51).1)
  have g_b52 : n0 ≤ b52 := Nat.le_trans q53 (Nat.le_of_eq g52.symm)
  have q54 := (Nat.le_trans (Nat.le_trans q49 E47.1) (Keep.of_wr W51).1)
  have sz_b52 : h0.size ≤ b52 := Nat.le_trans q54 (Nat.le_of_eq g52.symm)
  have V_b52 : Arv Z h52 b52 k52 .int (3 : Int32) [(.int (0 : Int32)), (.int (0 : Int32)), (.int (0 : Int32))] (.int (0 : Int32)) := (Arv.new A52 (by decide)).pad (pad_rep [] (.int (0 : Int32)) 3)
  refine own_of st52 ?_
  show own_Out p e below _ (T52.setTop (mkF m 104 #[rv o0, rv o1, rv o2, iv 3, rv b11, iv 3, iv 4, iv 4, iv 2] [.ref b52]))
  refine o_astore X52 hx hby d3_104 rfl (l' := #[rv o0, rv o1, rv o2, iv 3, rv b11, rv b52, iv 4, iv 4, iv 2]) rfl (q := 106) rfl ?_
  refine o_iconst X52 hx hby d3_106 (z := 0) rfl (q := 107) rfl ?_
  refine o_istore X52 hx hby d3_107 (l' := #[rv o0, rv o1, rv o2, iv 3, rv b11, rv b52, iv 0, iv 4, iv 2]) rfl (q := 109) rfl ?_
  have ne_o2_b22 : o2 ≠ b22 := Nat.ne_of_lt (Nat.lt_of_lt_of_le V.lt sz_b22)
  have q57 := ((((((((((q20.other W21 ne_o2_b11).ext E22).other W25 n2).ext E31).other W35 ne_o2_b22).ext E39).other W43 ne_o2_b22).ext E47).other W51 ne_o2_b22).ext E52)
  have q58 := (((q45.ext E47).other W51 (Or.inl ne_o0_b22)).ext E52)
  have q59 := (V51.ext E52)
  have ne_b22_b31 : b22 ≠ b31 := Nat.ne_of_lt (Nat.lt_of_lt_of_le (Nat.lt_of_lt_of_le A22.lt (Keep.of_wr W25).1) (Nat.le_of_eq g31.symm))
  have q60 := ((((((V_b31.other W35 (Ne.symm ne_b22_b31)).ext E39).other W43 (Ne.symm ne_b22_b31)).ext E47).other W51 (Ne.symm ne_b22_b31)).ext E52)
  have ne_b31_b52 : b31 ≠ b52 := Nat.ne_of_lt (Nat.lt_of_lt_of_le (Nat.lt_of_lt_of_le (Nat.lt_of_lt_of_le (Nat.lt_of_lt_of_le (Nat.lt_of_lt_of_le (Nat.lt_of_lt_of_le A31.lt (Keep.of_wr W35).1) E39.1) (Keep.of_wr W43).1) E47.1) (Keep.of_wr W51).1) (Nat.le_of_eq g52.symm))
  refine t3 X52 hx hby hZ e52 hw hown q57 q58 q59 V_b52 q60 ne_b31_b52 ⟨by decide, by decide⟩ (x := 0) rfl ⟨by decide, by decide⟩ rfl (f := 0) rfl ⟨by decide, by decide⟩ (f' := 1) rfl (i' := 1) rfl (iN := 0) rfl (Nat.le_of_ble_eq_true rfl) (jN := 0) rfl (Nat.le_of_ble_eq_true rfl) fun T56 h55 h56 X56 e56 W55 W56 V55 V56 => ?_
  have ne_o2_b52 : o2 ≠ b52 := Nat.ne_of_lt (Nat.lt_of_lt_of_le V.lt sz_b52)
  have ne_o2_b31 : o2 ≠ b31 := Nat.ne_of_lt (Nat.lt_of_lt_of_le V.lt sz_b31)
  have q63 := ((q57.other W55 ne_o2_b52).other W56 ne_o2_b31)
  have ne_o0_b52 : o0 ≠ b52 := Nat.ne_of_lt (Nat.lt_of_lt_of_le E.lt sz_b52)
  have ne_o0_b31 : o0 ≠ b31 := Nat.ne_of_lt (Nat.lt_of_lt_of_le E.lt sz_b31)
  have q64 := ((q58.other W55 (Or.inl ne_o0_b52)).other W56 (Or.inl ne_o0_b31))
  have ne_b22_b52 : b22 ≠ b52 := Nat.ne_of_lt (Nat.lt_of_lt_of_le (Nat.lt_of_lt_of_le (Nat.lt_of_lt_of_le (Nat.lt_of_lt_of_le (Nat.lt_of_lt_of_le (Nat.lt_of_lt_of_le (Nat.lt_of_lt_of_le (Nat.lt_of_lt_of_le A22.lt (Keep.of_wr W25).1) E31.1) (Keep.of_wr W35).1) E39.1) (Keep.of_wr W43).1) E47.1) (Keep.of_wr W51).1) (Nat.le_of_eq g52.symm))
  have q65 := ((q59.other W55 ne_b22_b52).other W56 ne_b22_b31)
  have q66 := (V55.other W56 (Ne.symm ne_b31_b52))
  have ne_b22_b39 : b22 ≠ b39 := Nat.ne_of_lt (Nat.lt_of_lt_of_le (Nat.lt_of_lt_of_le (Nat.lt_of_lt_of_le (Nat.lt_of_lt_of_le A22.lt (Keep.of_wr W25).1) E31.1) (Keep.of_wr W35).1) (Nat.le_of_eq g39.symm))
  have ne_b39_b52 : b39 ≠ b52 := Nat.ne_of_lt (Nat.lt_of_lt_of_le (Nat.lt_of_lt_of_le (Nat.lt_of_lt_of_le (Nat.lt_of_lt_of_le A39.lt (Keep.of_wr W43).1) E47.1) (Keep.of_wr W51).1) (Nat.le_of_eq g52.symm))
  have ne_b31_b39 : b31 ≠ b39 := Nat.ne_of_lt (Nat.lt_of_lt_of_le (Nat.lt_of_lt_of_le A31.lt (Keep.of_wr W35).1) (Nat.le_of_eq g39.symm))
  have q67 := ((((((V_b39.other W43 (Ne.symm ne_b22_b39)).ext E47).other W51 (Ne.symm ne_b22_b39)).ext E52).other W55 ne_b39_b52).other W56 (Ne.symm ne_b31_b39))
  refine t3 X56 hx hby hZ e56 hw hown q63 q64 q65 q66 q67 ne_b39_b52 ⟨by decide, by decide⟩ (x := 1) rfl ⟨by decide, by decide⟩ rfl (f := 0) rfl ⟨by decide, by decide⟩ (f' := 1) rfl (i' := 2) rfl (iN := 1) rfl (Nat.le_of_ble_eq_true rfl) (jN := 0) rfl (Nat.le_of_ble_eq_true rfl) fun T62 h61 h62 X62 e62 W61 W62 V61 V62 => ?_
  have ne_o2_b39 : o2 ≠ b39 := Nat.ne_of_lt (Nat.lt_of_lt_of_le V.lt sz_b39)
  have q70 := ((q63.other W61 ne_o2_b52).other W62 ne_o2_b39)
  have ne_o0_b39 : o0 ≠ b39 := Nat.ne_of_lt (Nat.lt_of_lt_of_le E.lt sz_b39)
  have q71 := ((q64.other W61 (Or.inl ne_o0_b52)).other W62 (Or.inl ne_o0_b39))
  have q72 := ((q65.other W61 ne_b22_b52).other W62 ne_b22_b39)
  have q73 := (V61.other W62 (Ne.symm ne_b39_b52))
  have q74 := ((V56.other W61 ne_b31_b52).other W62 ne_b31_b39)
  refine t3 X62 hx hby hZ e62 hw hown q70 q71 q72 q73 q74 ne_b31_b52 ⟨by decide, by decide⟩ (x := 0) rfl ⟨by decide, by decide⟩ rfl (f := 1) rfl ⟨by decide, by decide⟩ (f' := 2) rfl (i' := 3) rfl (iN := 0) rfl (Nat.le_of_ble_eq_true rfl) (jN := 1) rfl (Nat.le_of_ble_eq_true rfl) fun T69 h68 h69 X69 e69 W68 W69 V68 V69 => ?_
  have q77 := ((q70.other W68 ne_o2_b52).other W69 ne_o2_b31)
  have q78 := ((q71.other W68 (Or.inl ne_o0_b52)).other W69 (Or.inl ne_o0_b31))
  have q79 := ((q72.other W68 ne_b22_b52).other W69 ne_b22_b31)
  have q80 := (V68.other W69 (Ne.symm ne_b31_b52))
  have ne_b22_b47 : b22 ≠ b47 := Nat.ne_of_lt (Nat.lt_of_lt_of_le (Nat.lt_of_lt_of_le (Nat.lt_of_lt_of_le (Nat.lt_of_lt_of_le (Nat.lt_of_lt_of_le (Nat.lt_of_lt_of_le A22.lt (Keep.of_wr W25).1) E31.1) (Keep.of_wr W35).1) E39.1) (Keep.of_wr W43).1) (Nat.le_of_eq g47.symm))
  have ne_b47_b52 : b47 ≠ b52 := Nat.ne_of_lt (Nat.lt_of_lt_of_le (Nat.lt_of_lt_of_le A47.lt (Keep.of_wr W51).1) (Nat.le_of_eq g52.symm))
  have ne_b31_b47 : b31 ≠ b47 := Nat.ne_of_lt (Nat.lt_of_lt_of_le (Nat.lt_of_lt_of_le (Nat.lt_of_lt_of_le (Nat.lt_of_lt_of_le A31.lt (Keep.of_wr W35).1) E39.1) (Keep.of_wr W43).1) (Nat.le_of_eq g47.symm))
  have ne_b39_b47 : b39 ≠ b47 := Nat.ne_of_lt (Nat.lt_of_lt_of_le (Nat.lt_of_lt_of_le A39.lt (Keep.of_wr W43).1) (Nat.le_of_eq g47.symm))
  have q81 := ((((((((V_b47.other W51 (Ne.symm ne_b22_b47)).ext E52).other W55 ne_b47_b52).other W56 (Ne.symm ne_b31_b47)).other W61 ne_b47_b52).other W62 (Ne.symm ne_b39_b47)).other W68 ne_b47_b52).other W69 (Ne.symm ne_b31_b47))
  refine t3 X69 hx hby hZ e69 hw hown q77 q78 q79 q80 q81 ne_b47_b52 ⟨by decide, by decide⟩ (x := 2) rfl ⟨by decide, by decide⟩ rfl (f := 0) rfl ⟨by decide, by decide⟩ (f' := 1) rfl (i' := 4) rfl (iN := 2) rfl (Nat.le_of_ble_eq_true rfl) (jN := 0) rfl (Nat.le_of_ble_eq_true rfl) fun T76 h75 h76 X76 e76 W75 W76 V75 V76 => ?_
  refine o_iload X76 hx hby d3_109 rfl (q := 111) rfl ?_
  refine o_aloadN X76 hx hby d3_111 rfl rfl (q := 112) rfl ?_
  have ne_o2_b47 : o2 ≠ b47 := Nat.ne_of_lt (Nat.lt_of_lt_of_le V.lt sz_b47)
  have q82 := ((q77.other W75 ne_o2_b52).other W76 ne_o2_b47)
  refine o_lenV X76 hx hby hZ e76 q82 d3_112 (q := 113) rfl ?_
  refine o_icY X76 hx hby d3_113 (flt (by decide : ¬ ((4 : Int32) < (4 : Int32)))).2.1 (by decide) (q := 146) (by decide) ?_
  have q83 := ((((((((((((((((((((((((((Keep.refl h0 [o0]).wr W2 (Or.inl (List.mem_of_getElem? (i := 0) rfl))).wr W3 (Or.inl (List.mem_of_getElem? (i := 0) rfl))).wr W7 (Or.inl (List.mem_of_getElem? (i := 0) rfl))).ext E11).wr W15 (Or.inr sz_b11)).wr W17 (Or.inr sz_b11)).wr W19 (Or.inr sz_b11)).wr W21 (Or.inr sz_b11)).ext E22).wr W25 (Or.inl (List.mem_of_getElem? (i := 0) rfl))).ext E31).wr W35 (Or.inr sz_b22)).ext E39).wr W43 (Or.inr sz_b22)).ext E47).wr W51 (Or.inr sz_b22)).ext E52).wr W55 (Or.inr sz_b52)).wr W56 (Or.inr sz_b31)).wr W61 (Or.inr sz_b52)).wr W62 (Or.inr sz_b39)).wr W68 (Or.inr sz_b52)).wr W69 (Or.inr sz_b31)).wr W75 (Or.inr sz_b52)).wr W76 (Or.inr sz_b47))
  have q84 := ((((((((((((((((q27.wr W25).ext E31).wr W35).ext E39).wr W43).ext E47).wr W51).ext E52).wr W55).wr W56).wr W61).wr W62).wr W68).wr W69).wr W75).wr W76)
  have ne_o0_b47 : o0 ≠ b47 := Nat.ne_of_lt (Nat.lt_of_lt_of_le E.lt sz_b47)
  have q85 := (((((((((((((((((((((((Fw3.other W7 (Or.inr (slot_ne (Or.inr (w_ hw 30 rfl)) (Or.inr (w_ hw 32 rfl)) (by decide) (t := (.array .int)) (t' := .int) (by decide) (by decide)))).ext E11).other W15 (Or.inl ne_o0_b11)).other W17 (Or.inl ne_o0_b11)).other W19 (Or.inl ne_o0_b11)).other W21 (Or.inl ne_o0_b11)).ext E22).other W25 (Or.inr (slot_ne (Or.inr (w_ hw 30 rfl)) (Or.inr (w_ hw 36 rfl)) (by decide) (t := (.array .int)) (t' := (.array (.array .int))) (by decide) (by decide)))).ext E31).other W35 (Or.inl ne_o0_b22)).ext E39).other W43 (Or.inl ne_o0_b22)).ext E47).other W51 (Or.inl ne_o0_b22)).ext E52).other W55 (Or.inl ne_o0_b52)).other W56 (Or.inl ne_o0_b31)).other W61 (Or.inl ne_o0_b52)).other W62 (Or.inl ne_o0_b39)).other W68 (Or.inl ne_o0_b52)).other W69 (Or.inl ne_o0_b31)).other W75 (Or.inl ne_o0_b52)).other W76 (Or.inl ne_o0_b47))
  have q86 := ((((((((((((((((((((((Fw7.ext E11).other W15 (Or.inl ne_o0_b11)).other W17 (Or.inl ne_o0_b11)).other W19 (Or.inl ne_o0_b11)).other W21 (Or.inl ne_o0_b11)).ext E22).other W25 (Or.inr (slot_ne (Or.inr (w_ hw 32 rfl)) (Or.inr (w_ hw 36 rfl)) (by decide) (t := .int) (t' := (.array (.array .int))) (by decide) (by decide)))).ext E31).other W35 (Or.inl ne_o0_b22)).ext E39).other W43 (Or.inl ne_o0_b22)).ext E47).other W51 (Or.inl ne_o0_b22)).ext E52).other W55 (Or.inl ne_o0_b52)).other W56 (Or.inl ne_o0_b31)).other W61 (Or.inl ne_o0_b52)).other W62 (Or.inl ne_o0_b39)).other W68 (Or.inl ne_o0_b52)).other W69 (Or.inl ne_o0_b31)).other W75 (Or.inl ne_o0_b52)).other W76 (Or.inl ne_o0_b47))
  exact own_outV X76 hx hlk hret (hb hby d3_146) (Q := Q3c0102n3 Z o0 o1 o2 k2 h0 n0) (by rw [e76]; exact ⟨rfl, (Fr.snoc X76 (own_snoc (Fr.snoc X69 (own_snoc (Fr.snoc X62 (own_snoc (Fr.snoc X56 (own_snoc (Fr.snoc X51 (Fr.snoc X43 (Fr.snoc X35 (Fr.snoc X25 (Fr.snoc X21 (Fr.snoc X19 (Fr.snoc X17 (Fr.snoc X15 (Fr.snoc X7 (Fr.snoc X3 (Fr.snoc X2 N0 g_o0) g_o0) g_o0) g_b11) g_b11) g_b11) g_b11) g_o0) g_b22) g_b22) g_b22) g_b52) g_b31) g_b52) g_b39) g_b52) g_b31) g_b52) g_b47), q83, q84, q85, q86⟩) (by decide) (by decide)
theorem ef_3c011n2 (m : MethodId) (x0 : Addr) (x1 : Addr) (x2 : Addr) : entryFrame m #[(.ref x0), (.ref x1), (.ref x2), (.int (2 : Int32))] 9 = mkF m 0 #[.val (.ref x0), .val (.ref x1), .val (.ref x2), .val (.int (2 : Int32)), .unset, .unset, .unset, .unset, .unset] [] := by first | (simp [entryFrame, mkF, argsToLocals, Value.category]; done) | rfl
def Q3c011n2 (Z : State) (o0 : Addr) (o1 : Addr) (o2 : Addr) (k2 : ClassId) (h0 : Heap) (n0 : Nat) (v : Option Value) (h : Heap) (L : List Loc) : Prop := v = none ∧ Fr n0 L ∧ Keep h0 h [o0] ∧ Exa Z h o0 "com/example/slimc/slimc/game/Observation" ∧ Fld Z h o0 "com/example/slimc/slimc/game/Observation" "classOf" "[I" (.ref o2) ∧ Fld Z h o0 "com/example/slimc/slimc/game/Observation" "classCount" "I" (.int (2 : Int32))
set_option maxRecDepth 65536 in
set_option maxHeartbeats 40000000 in
theorem rm3c011n2 (l : Launch) (Z : State) (a0 : Array Value) (hw : ∀ d ∈ tables_1, d.before a0 Z = true) (ws : List Jvm.Cond) (o0 : Addr) (o1 : Addr) (o2 : Addr) (k2 : ClassId) (h0 : Heap) (n0 : Nat) (Z0 : n0 ≤ h0.size) (E : Exa Z h0 o0 "com/example/slimc/slimc/game/Observation") (F_name : Fld Z h0 o0 "com/example/slimc/slimc/game/Observation" "name" "Ljava/lang/String;" .null) (F_classOf : Fld Z h0 o0 "com/example/slimc/slimc/game/Observation" "classOf" "[I" .null) (F_classCount : Fld Z h0 o0 "com/example/slimc/slimc/game/Observation" "classCount" "I" (.int (0 : Int32))) (F_classes : Fld Z h0 o0 "com/example/slimc/slimc/game/Observation" "classes" "[[I" .null) (g_o0 : n0 ≤ o0) (V : Arv Z h0 o2 k2 .int (3 : Int32) [(.int (0 : Int32)), (.int (1 : Int32)), (.int (1 : Int32))] (.int (0 : Int32))) (n2 : o2 ≠ o0) :
    MetFree l (⟨"com/example/slimc/slimc/game/Observation", "<init>", "(Ljava/lang/String;[II)V"⟩ : MethodName) (head1 (Jvm.Cond.code (⟨"com/example/slimc/slimc/game/Observation", "<init>", "(Ljava/lang/String;[II)V"⟩ : MethodName) prog_66_method_1_code 9 none :: ws) ({ frames := 1, cells := 7, slots := 16, locals := 14 } : Room)) (fun a U => a = #[(.ref o0), (.ref o1), (.ref o2), (.int (2 : Int32))] ∧ Z.Warmed39 U.vm ∧ U.heap = h0) (fun _ _ _ _ _ => True) (fun _ U o U' => ∃ v L, o = .returned v ∧ Q3c011n2 Z o0 o1 o2 k2 h0 n0 v U'.heap L ∧ FrameEnd U o U' L ({ frames := 1, cells := 7, slots := 16, locals := 14 } : Room).cells ({ frames := 1, cells := 7, slots := 16, locals := 14 } : Room).slots) := by
  refine MetFree.of_bodySF (plainFor_of_name pn_1) hisR ?_
  intro p e s m args below meth c s₁ Bd hml0 hP hK
  obtain ⟨rfl, hZ, hh⟩ := hP
  have hx := Bd.exec
  have hby := Bd.bytes
  have hml : c.maxLocals = 9 := hml0
  have hown : s.vm.findClass "com/example/slimc/slimc/game/Observation" = some m.cls := findClass_of_methodNamed Bd.named
  have hnm := (name_of_methodNamed Bd.named Bd.method).1
  have X0 : Stand p l e ({ frames := 1, cells := 7, slots := 16, locals := 14 } : Room) s m #[(.ref o0), (.ref o1), (.ref o2), (.int (2 : Int32))] below meth c s₁ [] 0 0 := Stand.of_body Bd
  have e0 : s₁.heap = h0 := by rw [← hh, Bd.state]; rfl
  have N0 := Fr.nil n0
  have hret := Bd.returns
  have hlk := BodyLoose.notSynchronized Bd
  show own_Out p e below (fun o U' => ∃ v L, o = .returned v ∧ Q3c011n2 Z o0 o1 o2 k2 h0 n0 v U'.heap L ∧ FrameEnd s o U' L ({ frames := 1, cells := 7, slots := 16, locals := 14 } : Room).cells ({ frames := 1, cells := 7, slots := 16, locals := 14 } : Room).slots) (s₁.setTop (entryFrame m #[(.ref o0), (.ref o1), (.ref o2), (.int (2 : Int32))] 9))
  refine own_of (fun t k => castTop (ef_3c011n2 m o0 o1 o2) k) ?_
  show own_Out p e below _ (s₁.setTop (mkF m 0 #[rv o0, rv o1, rv o2, iv 2, .unset, .unset, .unset, .unset, .unset] []))
  refine o_aloadN X0 hx hby d3_0 rfl rfl (q := 1) rfl ?_
  obtain ⟨T1, X1, e1, st1⟩ := initO X0 hx hZ hown (w_ hw 24 rfl) (w_ hw 25 rfl) (w_ hw 26 rfl) e0 (g := (mkF m 1 #[rv o0, rv o1, rv o2, iv 2, .unset, .unset, .unset, .unset, .unset] [.ref o0])) rfl (by rw [hml]; rfl) rfl (hb hby d3_1) (by decide) (W := 0) (by show 2 * 0 + _ ≤ _; exact Nat.le_of_eq rfl) (by decide)
  refine own_of st1 ?_
  show own_Out p e below _ (T1.setTop (mkF m 4 #[rv o0, rv o1, rv o2, iv 2, .unset, .unset, .unset, .unset, .unset] []))
  refine o_aloadN X1 hx hby d3_4 rfl rfl (q := 5) rfl ?_
  refine o_aloadN X1 hx hby d3_5 rfl rfl (q := 6) rfl ?_
  obtain ⟨T2, h2, X2, e2, W2, st2⟩ := putF X1 hx hZ hown (host := "") (Or.inl (w_ hw 27 rfl)) Via.refl e1 F_name E (Or.inr ⟨(w_ hw 28 rfl), rfl, hnm⟩) (w_ hw 11 rfl) (ty := (.object "java/lang/String")) (by decide) rfl rfl (g := (mkF m 6 #[rv o0, rv o1, rv o2, iv 2, .unset, .unset, .unset, .unset, .unset] [.ref o1, .ref o0])) rfl rfl (hb hby d3_6)
  have Fw2 := F_name.same W2
  refine own_of st2 ?_
  show own_Out p e below _ (T2.setTop (mkF m 9 #[rv o0, rv o1, rv o2, iv 2, .unset, .unset, .unset, .unset, .unset] []))
  refine o_aloadN X2 hx hby d3_9 rfl rfl (q := 10) rfl ?_
  refine o_aloadN X2 hx hby d3_10 rfl rfl (q := 11) rfl ?_
  have q4 := (F_classOf.other W2 (Or.inr (slot_ne (Or.inr (w_ hw 30 rfl)) (Or.inr (w_ hw 28 rfl)) (by decide) (t := (.array .int)) (t' := (.object "java/lang/String")) (by decide) (by decide))))
  have q5 := (E.wr W2)
  obtain ⟨T3, h3, X3, e3, W3, st3⟩ := putF X2 hx hZ hown (host := "") (Or.inl (w_ hw 29 rfl)) Via.refl e2 q4 q5 (Or.inr ⟨(w_ hw 30 rfl), rfl, hnm⟩) (w_ hw 11 rfl) (ty := (.array .int)) (by decide) rfl rfl (g := (mkF m 11 #[rv o0, rv o1, rv o2, iv 2, .unset, .unset, .unset, .unset, .unset] [.ref o2, .ref o0])) rfl rfl (hb hby d3_11)
  have q6 := (F_classOf.other W2 (Or.inr (slot_ne (Or.inr (w_ hw 30 rfl)) (Or.inr (w_ hw 28 rfl)) (by decide) (t := (.array .int)) (t' := (.object "java/lang/String")) (by decide) (by decide))))
  have Fw3 := q6.same W3
  refine own_of st3 ?_
  show own_Out p e below _ (T3.setTop (mkF m 14 #[rv o0, rv o1, rv o2, iv 2, .unset, .unset, .unset, .unset, .unset] []))
  refine o_aloadN X3 hx hby d3_14 rfl rfl (q := 15) rfl ?_
  refine o_iloadN X3 hx hby d3_15 rfl (q := 16) rfl ?_
  have q8 := ((F_classCount.other W2 (Or.inr (slot_ne (Or.inr (w_ hw 32 rfl)) (Or.inr (w_ hw 28 rfl)) (by decide) (t := .int) (t' := (.object "java/lang/String")) (by decide) (by decide)))).other W3 (Or.inr (slot_ne (Or.inr (w_ hw 32 rfl)) (Or.inr (w_ hw 30 rfl)) (by decide) (t := .int) (t' := (.array .int)) (by decide) (by decide))))
  have q9 := (q5.wr W3)
  obtain ⟨T7, h7, X7, e7, W7, st7⟩ := putF X3 hx hZ hown (host := "") (Or.inl (w_ hw 31 rfl)) Via.refl e3 q8 q9 (Or.inr ⟨(w_ hw 32 rfl), rfl, hnm⟩) (w_ hw 11 rfl) (ty := .int) (by decide) rfl rfl (g := (mkF m 16 #[rv o0, rv o1, rv o2, iv 2, .unset, .unset, .unset, .unset, .unset] [.int 2, .ref o0])) rfl rfl (hb hby d3_16)
  have q10 := ((F_classCount.other W2 (Or.inr (slot_ne (Or.inr (w_ hw 32 rfl)) (Or.inr (w_ hw 28 rfl)) (by decide) (t := .int) (t' := (.object "java/lang/String")) (by decide) (by decide)))).other W3 (Or.inr (slot_ne (Or.inr (w_ hw 32 rfl)) (Or.inr (w_ hw 30 rfl)) (by decide) (t := .int) (t' := (.array .int)) (by decide) (by decide))))
  have Fw7 := q10.same W7
  refine own_of st7 ?_
  show own_Out p e below _ (T7.setTop (mkF m 19 #[rv o0, rv o1, rv o2, iv 2, .unset, .unset, .unset, .unset, .unset] []))
  refine o_iloadN X7 hx hby d3_19 rfl (q := 20) rfl ?_
  obtain ⟨T11, h11, k11, X11, e11, E11, A11, Ex11, st11⟩ := newPE X7 hx hZ (w_ hw 5 rfl) e7 (g := (mkF m 20 #[rv o0, rv o1, rv o2, iv 2, .unset, .unset, .unset, .unset, .unset] [.int 2])) rfl (hb hby d3_20) rfl (by decide) (cap := 2) (by decide) (by decide) (by decide) (by decide) (ad := "[I") (by decide +kernel)
  obtain ⟨b11, g11⟩ : ∃ z, z = h7.size := ⟨_, rfl⟩
  rw [← g11] at A11 Ex11 st11
  have q12 := (Nat.le_trans (Nat.le_trans (Nat.le_trans Z0 (Keep.of_wr W2).1) (Keep.of_wr W3).1) (Keep.of_wr W7).1)
  have g_b11 : n0 ≤ b11 := Nat.le_trans q12 (Nat.le_of_eq g11.symm)
  have q13 := (Nat.le_trans (Nat.le_trans (Nat.le_trans (Nat.le_refl h0.size) (Keep.of_wr W2).1) (Keep.of_wr W3).1) (Keep.of_wr W7).1)
  have sz_b11 : h0.size ≤ b11 := Nat.le_trans q13 (Nat.le_of_eq g11.symm)
  have V_b11 : Arv Z h11 b11 k11 .int (2 : Int32) [(.int (0 : Int32)), (.int (0 : Int32))] (.int (0 : Int32)) := (Arv.new A11 (by decide)).pad (pad_rep [] (.int (0 : Int32)) 2)
  refine own_of st11 ?_
  show own_Out p e below _ (T11.setTop (mkF m 22 #[rv o0, rv o1, rv o2, iv 2, .unset, .unset, .unset, .unset, .unset] [.ref b11]))
  refine o_astore X11 hx hby d3_22 rfl (l' := #[rv o0, rv o1, rv o2, iv 2, rv b11, .unset, .unset, .unset, .unset]) rfl (q := 24) rfl ?_
  refine o_aloadN X11 hx hby d3_24 rfl rfl (q := 25) rfl ?_
  refine o_astore X11 hx hby d3_25 rfl (l' := #[rv o0, rv o1, rv o2, iv 2, rv b11, rv o2, .unset, .unset, .unset]) rfl (q := 27) rfl ?_
  refine o_aload X11 hx hby d3_27 rfl rfl (q := 29) rfl ?_
  have q14 := ((((V.other W2 n2).other W3 n2).other W7 n2).ext E11)
  refine o_lenV X11 hx hby hZ e11 q14 d3_29 (q := 30) rfl ?_
  refine o_istore X11 hx hby d3_30 (l' := #[rv o0, rv o1, rv o2, iv 2, rv b11, rv o2, iv 3, .unset, .unset]) rfl (q := 32) rfl ?_
  refine o_iconst X11 hx hby d3_32 (z := 0) rfl (q := 33) rfl ?_
  refine o_istore X11 hx hby d3_33 (l' := #[rv o0, rv o1, rv o2, iv 2, rv b11, rv o2, iv 3, iv 0, .unset]) rfl (q := 35) rfl ?_
  refine t1 X11 hx hby hZ e11 q14 V_b11 rfl ⟨by decide, by decide⟩ (cc := 0) rfl ⟨by decide, by decide⟩ (y := 0) rfl (y' := 1) rfl (i' := 1) rfl (iN := 0) rfl (Nat.le_of_ble_eq_true rfl) fun T15 h15 X15 e15 W15 V15 => ?_
  have ne_o2_b11 : o2 ≠ b11 := Nat.ne_of_lt (Nat.lt_of_lt_of_le V.lt sz_b11)
  have q16 := (q14.other W15 ne_o2_b11)
  refine t1 X15 hx hby hZ e15 q16 V15 rfl ⟨by decide, by decide⟩ (cc := 1) rfl ⟨by decide, by decide⟩ (y := 0) rfl (y' := 1) rfl (i' := 2) rfl (iN := 1) rfl (Nat.le_of_ble_eq_true rfl) fun T17 h17 X17 e17 W17 V17 => ?_
  have q18 := (q16.other W17 ne_o2_b11)
  refine t1 X17 hx hby hZ e17 q18 V17 rfl ⟨by decide, by decide⟩ (cc := 1) rfl ⟨by decide, by decide⟩ (y := 1) rfl (y' := 2) rfl (i' := 3) rfl (iN := 1) rfl (Nat.le_of_ble_eq_true rfl) fun T19 h19 X19 e19 W19 V19 => ?_
  refine o_iload X19 hx hby d3_35 rfl (q := 37) rfl ?_
  refine o_iload X19 hx hby d3_37 rfl (q := 39) rfl ?_
  refine o_icY X19 hx hby d3_39 (flt (by decide : ¬ ((3 : Int32) < (3 : Int32)))).2.1 (by decide) (q := 64) (by decide) ?_
  refine o_aloadN X19 hx hby d3_64 rfl rfl (q := 65) rfl ?_
  refine o_iloadN X19 hx hby d3_65 rfl (q := 66) rfl ?_
  obtain ⟨T20, h20, k20, X20, e20, E20, A20, Ex20, O20, st20⟩ := newRA X19 hx hZ hown (ty := .int) (by decide +kernel) (w_ hw 33 rfl) (w_ hw 34 rfl) e19 (g := (mkF m 66 #[rv o0, rv o1, rv o2, iv 2, rv b11, rv o2, iv 3, iv 3, iv 1] [.int 2, .ref o0])) rfl (hb hby d3_66) rfl (by decide) (cap := 2) (by decide) (by decide) (by decide) (by decide) (ad := "[[I") (by decide +kernel)
  obtain ⟨b20, g20⟩ : ∃ z, z = h19.size := ⟨_, rfl⟩
  rw [← g20] at A20 Ex20 st20
  have q21 := (Nat.le_trans (Nat.le_trans (Nat.le_trans (Nat.le_trans q12 E11.1) (Keep.of_wr W15).1) (Keep.of_wr W17).1) (Keep.of_wr W19).1)
  have g_b20 : n0 ≤ b20 := Nat.le_trans q21 (Nat.le_of_eq g20.symm)
  have q22 := (Nat.le_trans (Nat.le_trans (Nat.le_trans (Nat.le_trans q13 E11.1) (Keep.of_wr W15).1) (Keep.of_wr W17).1) (Keep.of_wr W19).1)
  have sz_b20 : h0.size ≤ b20 := Nat.le_trans q22 (Nat.le_of_eq g20.symm)
  have V_b20 : Arv Z h20 b20 k20 (.array .int) (2 : Int32) [.null, .null] .null := (Arv.new A20 (by decide)).pad (pad_rep [] .null 2)
  refine own_of st20 ?_
  show own_Out p e below _ (T20.setTop (mkF m 69 #[rv o0, rv o1, rv o2, iv 2, rv b11, rv o2, iv 3, iv 3, iv 1] [.ref b20, .ref o0]))
  have ne_o0_b11 : o0 ≠ b11 := Nat.ne_of_lt (Nat.lt_of_lt_of_le E.lt sz_b11)
  have q24 := ((((((((F_classes.other W2 (Or.inr (slot_ne (Or.inr (w_ hw 36 rfl)) (Or.inr (w_ hw 28 rfl)) (by decide) (t := (.array (.array .int))) (t' := (.object "java/lang/String")) (by decide) (by decide)))).other W3 (Or.inr (slot_ne (Or.inr (w_ hw 36 rfl)) (Or.inr (w_ hw 30 rfl)) (by decide) (t := (.array (.array .int))) (t' := (.array .int)) (by decide) (by decide)))).other W7 (Or.inr (slot_ne (Or.inr (w_ hw 36 rfl)) (Or.inr (w_ hw 32 rfl)) (by decide) (t := (.array (.array .int))) (t' := .int) (by decide) (by decide)))).ext E11).other W15 (Or.inl ne_o0_b11)).other W17 (Or.inl ne_o0_b11)).other W19 (Or.inl ne_o0_b11)).ext E20)
  have q25 := ((((((q9.wr W7).ext E11).wr W15).wr W17).wr W19).ext E20)
  obtain ⟨T23, h23, X23, e23, W23, st23⟩ := putF X20 hx hZ hown (host := "") (Or.inl (w_ hw 35 rfl)) Via.refl e20 q24 q25 (Or.inr ⟨(w_ hw 36 rfl), rfl, hnm⟩) (w_ hw 11 rfl) (ty := (.array (.array .int))) (by decide) rfl rfl (g := (mkF m 69 #[rv o0, rv o1, rv o2, iv 2, rv b11, rv o2, iv 3, iv 3, iv 1] [.ref b20, .ref o0])) rfl rfl (hb hby d3_69)
  have q26 := ((((((((F_classes.other W2 (Or.inr (slot_ne (Or.inr (w_ hw 36 rfl)) (Or.inr (w_ hw 28 rfl)) (by decide) (t := (.array (.array .int))) (t' := (.object "java/lang/String")) (by decide) (by decide)))).other W3 (Or.inr (slot_ne (Or.inr (w_ hw 36 rfl)) (Or.inr (w_ hw 30 rfl)) (by decide) (t := (.array (.array .int))) (t' := (.array .int)) (by decide) (by decide)))).other W7 (Or.inr (slot_ne (Or.inr (w_ hw 36 rfl)) (Or.inr (w_ hw 32 rfl)) (by decide) (t := (.array (.array .int))) (t' := .int) (by decide) (by decide)))).ext E11).other W15 (Or.inl ne_o0_b11)).other W17 (Or.inl ne_o0_b11)).other W19 (Or.inl ne_o0_b11)).ext E20)
  have Fw23 := q26.same W23
  refine own_of st23 ?_
  show own_Out p e below _ (T23.setTop (mkF m 72 #[rv o0, rv o1, rv o2, iv 2, rv b11, rv o2, iv 3, iv 3, iv 1] []))
  refine o_iconst X23 hx hby d3_72 (z := 0) rfl (q := 73) rfl ?_
  refine o_istore X23 hx hby d3_73 (l' := #[rv o0, rv o1, rv o2, iv 2, rv b11, iv 0, iv 3, iv 3, iv 1]) rfl (q := 75) rfl ?_
  refine o_iload X23 hx hby d3_75 rfl (q := 77) rfl ?_
  refine o_iloadN X23 hx hby d3_77 rfl (q := 78) rfl ?_
  refine o_icN X23 hx hby d3_78 (tlt (by decide : (0 : Int32) < (2 : Int32))).2.1 (q := 81) rfl ?_
  refine o_aloadN X23 hx hby d3_81 rfl rfl (q := 82) rfl ?_
  refine o_getF X23 hx hZ hown hby (w_ hw 35 rfl) Via.refl e23 Fw23 d3_82 (q := 85) rfl fun T27 X27 e27 => ?_
  refine o_iload X27 hx hby d3_85 rfl (q := 87) rfl ?_
  refine o_aload X27 hx hby d3_87 rfl rfl (q := 89) rfl ?_
  refine o_iload X27 hx hby d3_89 rfl (q := 91) rfl ?_
  have q28 := ((V19.ext E20).other W23 (Ne.symm ne_o0_b11))
  refine o_iaV X27 hx hby hZ e27 q28 ⟨by decide, by decide⟩ (v := .int 1) rfl d3_91 (q := 92) rfl ?_
  obtain ⟨T29, h29, k29, X29, e29, E29, A29, Ex29, st29⟩ := newPE X27 hx hZ (w_ hw 5 rfl) e27 (g := (mkF m 92 #[rv o0, rv o1, rv o2, iv 2, rv b11, iv 0, iv 3, iv 3, iv 1] [.int 1, .int 0, .ref b20])) rfl (hb hby d3_92) rfl (by decide) (cap := 1) (by decide) (by decide) (by decide) (by decide) (ad := "[I") (by decide +kernel)
  obtain ⟨b29, g29⟩ : ∃ z, z = h23.size := ⟨_, rfl⟩
  rw [← g29] at A29 Ex29 st29
  have q30 := (Nat.le_trans (Nat.le_trans q21 E20.1) (Keep.of_wr W23).1)
  have g_b29 : n0 ≤ b29 := Nat.le_trans q30 (Nat.le_of_eq g29.symm)
  have q31 := (Nat.le_trans (Nat.le_trans q22 E20.1) (Keep.of_wr W23).1)
  have sz_b29 : h0.size ≤ b29 := Nat.le_trans q31 (Nat.le_of_eq g29.symm)
  have V_b29 : Arv Z h29 b29 k29 .int (1 : Int32) [(.int (0 : Int32))] (.int (0 : Int32)) := (Arv.new A29 (by decide)).pad (pad_rep [] (.int (0 : Int32)) 1)
  refine own_of st29 ?_
  show own_Out p e below _ (T29.setTop (mkF m 94 #[rv o0, rv o1, rv o2, iv 2, rv b11, iv 0, iv 3, iv 3, iv 1] [.ref b29, .int 0, .ref b20]))
  have ne_o0_b20 : o0 ≠ b20 := Nat.ne_of_lt (Nat.lt_of_lt_of_le E.lt sz_b20)
  have q32 := ((V_b20.other W23 (Ne.symm ne_o0_b20)).ext E29)
  refine o_stVR X29 hx hby hZ e29 q32 ⟨by decide, by decide⟩ 0 rfl (Nat.le_of_ble_eq_true rfl) O20 (Ins.self Ex29) d3_94 (q := 95) rfl fun T33 h33 X33 e33 W33 V33 => ?_
  refine o_iinc X33 hx hby d3_95 rfl (l' := #[rv o0, rv o1, rv o2, iv 2, rv b11, iv 1, iv 3, iv 3, iv 1]) rfl (q := 98) rfl ?_
  refine o_goto X33 hx hby d3_98 (by decide) (q := 75) (by decide) ?_
  refine o_iload X33 hx hby d3_75 rfl (q := 77) rfl ?_
  refine o_iloadN X33 hx hby d3_77 rfl (q := 78) rfl ?_
  refine o_icN X33 hx hby d3_78 (tlt (by decide : (1 : Int32) < (2 : Int32))).2.1 (q := 81) rfl ?_
  refine o_aloadN X33 hx hby d3_81 rfl rfl (q := 82) rfl ?_
  have q35 := ((Fw23.ext E29).other W33 (Or.inl ne_o0_b20))
  refine o_getF X33 hx hZ hown hby (w_ hw 35 rfl) Via.refl e33 q35 d3_82 (q := 85) rfl fun T34 X34 e34 => ?_
  refine o_iload X34 hx hby d3_85 rfl (q := 87) rfl ?_
  refine o_aload X34 hx hby d3_87 rfl rfl (q := 89) rfl ?_
  refine o_iload X34 hx hby d3_89 rfl (q := 91) rfl ?_
  have ne_b11_b20 : b11 ≠ b20 := Nat.ne_of_lt (Nat.lt_of_lt_of_le (Nat.lt_of_lt_of_le (Nat.lt_of_lt_of_le (Nat.lt_of_lt_of_le A11.lt (Keep.of_wr W15).1) (Keep.of_wr W17).1) (Keep.of_wr W19).1) (Nat.le_of_eq g20.symm))
  have q36 := ((q28.ext E29).other W33 ne_b11_b20)
  refine o_iaV X34 hx hby hZ e34 q36 ⟨by decide, by decide⟩ (v := .int 2) rfl d3_91 (q := 92) rfl ?_
  obtain ⟨T37, h37, k37, X37, e37, E37, A37, Ex37, st37⟩ := newPE X34 hx hZ (w_ hw 5 rfl) e34 (g := (mkF m 92 #[rv o0, rv o1, rv o2, iv 2, rv b11, iv 1, iv 3, iv 3, iv 1] [.int 2, .int 1, .ref b20])) rfl (hb hby d3_92) rfl (by decide) (cap := 2) (by decide) (by decide) (by decide) (by decide) (ad := "[I") (by decide +kernel)
  obtain ⟨b37, g37⟩ : ∃ z, z = h33.size := ⟨_, rfl⟩
  rw [← g37] at A37 Ex37 st37
  have q38 := (Nat.le_trans (Nat.le_trans q30 E29.1) (Keep.of_wr W33).1)
  have g_b37 : n0 ≤ b37 := Nat.le_trans q38 (Nat.le_of_eq g37.symm)
  have q39 := (Nat.le_trans (Nat.le_trans q31 E29.1) (Keep.of_wr W33).1)
  have sz_b37 : h0.size ≤ b37 := Nat.le_trans q39 (Nat.le_of_eq g37.symm)
  have V_b37 : Arv Z h37 b37 k37 .int (2 : Int32) [(.int (0 : Int32)), (.int (0 : Int32))] (.int (0 : Int32)) := (Arv.new A37 (by decide)).pad (pad_rep [] (.int (0 : Int32)) 2)
  refine own_of st37 ?_
  show own_Out p e below _ (T37.setTop (mkF m 94 #[rv o0, rv o1, rv o2, iv 2, rv b11, iv 1, iv 3, iv 3, iv 1] [.ref b37, .int 1, .ref b20]))
  have q40 := (V33.ext E37)
  refine o_stVR X37 hx hby hZ e37 q40 ⟨by decide, by decide⟩ 1 rfl (Nat.le_of_ble_eq_true rfl) O20 (Ins.self Ex37) d3_94 (q := 95) rfl fun T41 h41 X41 e41 W41 V41 => ?_
  refine o_iinc X41 hx hby d3_95 rfl (l' := #[rv o0, rv o1, rv o2, iv 2, rv b11, iv 2, iv 3, iv 3, iv 1]) rfl (q := 98) rfl ?_
  refine o_goto X41 hx hby d3_98 (by decide) (q := 75) (by decide) ?_
  refine o_iload X41 hx hby d3_75 rfl (q := 77) rfl ?_
  refine o_iloadN X41 hx hby d3_77 rfl (q := 78) rfl ?_
  refine o_icY X41 hx hby d3_78 (flt (by decide : ¬ ((2 : Int32) < (2 : Int32)))).2.1 (by decide) (q := 101) (by decide) ?_
  refine o_iloadN X41 hx hby d3_101 rfl (q := 102) rfl ?_
  obtain ⟨T42, h42, k42, X42, e42, E42, A42, Ex42, st42⟩ := newPE X41 hx hZ (w_ hw 5 rfl) e41 (g := (mkF m 102 #[rv o0, rv o1, rv o2, iv 2, rv b11, iv 2, iv 3, iv 3, iv 1] [.int 2])) rfl (hb hby d3_102) rfl (by decide) (cap := 2) (by decide) (by decide) (by decide) (by decide) (ad := "[I") (by decide +kernel)
  obtain ⟨b42, g42⟩ : ∃ z, z = h41.size := ⟨_, rfl⟩
  rw [← g42] at A42 Ex42 st42
  have q43 := (Nat.le_trans (Nat.le_trans q38 E37.1) (Keep.of_wr W41).1)
  have g_b42 : n0 ≤ b42 := Nat.le_trans q43 (Nat.le_of_eq g42.symm)
  have q44 := (Nat.le_trans (Nat.le_trans q39 E37.1) (Keep.of_wr W41).1)
  have sz_b42 : h0.size ≤ b42 := Nat.le_trans q44 (Nat.le_of_eq g42.symm)
  have V_b42 : Arv Z h42 b42 k42 .int (2 : Int32) [(.int (0 : Int32)), (.int (0 : Int32))] (.int (0 : Int32)) := (Arv.new A42 (by decide)).pad (pad_rep [] (.int (0 : Int32)) 2)
  refine own_of st42 ?_
  show own_Out p e below _ (T42.setTop (mkF m 104 #[rv o0, rv o1, rv o2, iv 2, rv b11, iv 2, iv 3, iv 3, iv 1] [.ref b42]))
  refine o_astore X42 hx hby d3_104 rfl (l' := #[rv o0, rv o1, rv o2, iv 2, rv b11, rv b42, iv 3, iv 3, iv 1]) rfl (q := 106) rfl ?_
  refine o_iconst X42 hx hby d3_106 (z := 0) rfl (q := 107) rfl ?_
  refine o_istore X42 hx hby d3_107 (l' := #[rv o0, rv o1, rv o2, iv 2, rv b11, rv b42, iv 0, iv 3, iv 1]) rfl (q := 109) rfl ?_
  have ne_o2_b20 : o2 ≠ b20 := Nat.ne_of_lt (Nat.lt_of_lt_of_le V.lt sz_b20)
  have q47 := ((((((((q18.other W19 ne_o2_b11).ext E20).other W23 n2).ext E29).other W33 ne_o2_b20).ext E37).other W41 ne_o2_b20).ext E42)
  have q48 := (((q35.ext E37).other W41 (Or.inl ne_o0_b20)).ext E42)
  have q49 := (V41.ext E42)
  have ne_b20_b29 : b20 ≠ b29 := Nat.ne_of_lt (Nat.lt_of_lt_of_le (Nat.lt_of_lt_of_le A20.lt (Keep.of_wr W23).1) (Nat.le_of_eq g29.symm))
  have q50 := ((((V_b29.other W33 (Ne.symm ne_b20_b29)).ext E37).other W41 (Ne.symm ne_b20_b29)).ext E42)
  have ne_b29_b42 : b29 ≠ b42 := Nat.ne_of_lt (Nat.lt_of_lt_of_le (Nat.lt_of_lt_of_le (Nat.lt_of_lt_of_le (Nat.lt_of_lt_of_le A29.lt (Keep.of_wr W33).1) E37.1) (Keep.of_wr W41).1) (Nat.le_of_eq g42.symm))
  refine t3 X42 hx hby hZ e42 hw hown q47 q48 q49 V_b42 q50 ne_b29_b42 ⟨by decide, by decide⟩ (x := 0) rfl ⟨by decide, by decide⟩ rfl (f := 0) rfl ⟨by decide, by decide⟩ (f' := 1) rfl (i' := 1) rfl (iN := 0) rfl (Nat.le_of_ble_eq_true rfl) (jN := 0) rfl (Nat.le_of_ble_eq_true rfl) fun T46 h45 h46 X46 e46 W45 W46 V45 V46 => ?_
  have ne_o2_b42 : o2 ≠ b42 := Nat.ne_of_lt (Nat.lt_of_lt_of_le V.lt sz_b42)
  have ne_o2_b29 : o2 ≠ b29 := Nat.ne_of_lt (Nat.lt_of_lt_of_le V.lt sz_b29)
  have q53 := ((q47.other W45 ne_o2_b42).other W46 ne_o2_b29)
  have ne_o0_b42 : o0 ≠ b42 := Nat.ne_of_lt (Nat.lt_of_lt_of_le E.lt sz_b42)
  have ne_o0_b29 : o0 ≠ b29 := Nat.ne_of_lt (Nat.lt_of_lt_of_le E.lt sz_b29)
  have q54 := ((q48.other W45 (Or.inl ne_o0_b42)).other W46 (Or.inl ne_o0_b29))
  have ne_b20_b42 : b20 ≠ b42 := Nat.ne_of_lt (Nat.lt_of_lt_of_le (Nat.lt_of_lt_of_le (Nat.lt_of_lt_of_le (Nat.lt_of_lt_of_le (Nat.lt_of_lt_of_le (Nat.lt_of_lt_of_le A20.lt (Keep.of_wr W23).1) E29.1) (Keep.of_wr W33).1) E37.1) (Keep.of_wr W41).1) (Nat.le_of_eq g42.symm))
  have q55 := ((q49.other W45 ne_b20_b42).other W46 ne_b20_b29)
  have q56 := (V45.other W46 (Ne.symm ne_b29_b42))
  have ne_b20_b37 : b20 ≠ b37 := Nat.ne_of_lt (Nat.lt_of_lt_of_le (Nat.lt_of_lt_of_le (Nat.lt_of_lt_of_le (Nat.lt_of_lt_of_le A20.lt (Keep.of_wr W23).1) E29.1) (Keep.of_wr W33).1) (Nat.le_of_eq g37.symm))
  have ne_b37_b42 : b37 ≠ b42 := Nat.ne_of_lt (Nat.lt_of_lt_of_le (Nat.lt_of_lt_of_le A37.lt (Keep.of_wr W41).1) (Nat.le_of_eq g42.symm))
  have ne_b29_b37 : b29 ≠ b37 := Nat.ne_of_lt (Nat.lt_of_lt_of_le (Nat.lt_of_lt_of_le A29.lt (Keep.of_wr W33).1) (Nat.le_of_eq g37.symm))
  have q57 := ((((V_b37.other W41 (Ne.symm ne_b20_b37)).ext E42).other W45 ne_b37_b42).other W46 (Ne.symm ne_b29_b37))
  refine t3 X46 hx hby hZ e46 hw hown q53 q54 q55 q56 q57 ne_b37_b42 ⟨by decide, by decide⟩ (x := 1) rfl ⟨by decide, by decide⟩ rfl (f := 0) rfl ⟨by decide, by decide⟩ (f' := 1) rfl (i' := 2) rfl (iN := 1) rfl (Nat.le_of_ble_eq_true rfl) (jN := 0) rfl (Nat.le_of_ble_eq_true rfl) fun T52 h51 h52 X52 e52 W51 W52 V51 V52 => ?_
  have ne_o2_b37 : o2 ≠ b37 := Nat.ne_of_lt (Nat.lt_of_lt_of_le V.lt sz_b37)
  have q60 := ((q53.other W51 ne_o2_b42).other W52 ne_o2_b37)
  have ne_o0_b37 : o0 ≠ b37 := Nat.ne_of_lt (Nat.lt_of_lt_of_le E.lt sz_b37)
  have q61 := ((q54.other W51 (Or.inl ne_o0_b42)).other W52 (Or.inl ne_o0_b37))
  have q62 := ((q55.other W51 ne_b20_b42).other W52 ne_b20_b37)
  have q63 := (V51.other W52 (Ne.symm ne_b37_b42))
  refine t3 X52 hx hby hZ e52 hw hown q60 q61 q62 q63 V52 ne_b37_b42 ⟨by decide, by decide⟩ (x := 1) rfl ⟨by decide, by decide⟩ rfl (f := 1) rfl ⟨by decide, by decide⟩ (f' := 2) rfl (i' := 3) rfl (iN := 1) rfl (Nat.le_of_ble_eq_true rfl) (jN := 1) rfl (Nat.le_of_ble_eq_true rfl) fun T59 h58 h59 X59 e59 W58 W59 V58 V59 => ?_
  refine o_iload X59 hx hby d3_109 rfl (q := 111) rfl ?_
  refine o_aloadN X59 hx hby d3_111 rfl rfl (q := 112) rfl ?_
  have q64 := ((q60.other W58 ne_o2_b42).other W59 ne_o2_b37)
  refine o_lenV X59 hx hby hZ e59 q64 d3_112 (q := 113) rfl ?_
  refine o_icY X59 hx hby d3_113 (flt (by decide : ¬ ((3 : Int32) < (3 : Int32)))).2.1 (by decide) (q := 146) (by decide) ?_
  have q65 := (((((((((((((((((((((Keep.refl h0 [o0]).wr W2 (Or.inl (List.mem_of_getElem? (i := 0) rfl))).wr W3 (Or.inl (List.mem_of_getElem? (i := 0) rfl))).wr W7 (Or.inl (List.mem_of_getElem? (i := 0) rfl))).ext E11).wr W15 (Or.inr sz_b11)).wr W17 (Or.inr sz_b11)).wr W19 (Or.inr sz_b11)).ext E20).wr W23 (Or.inl (List.mem_of_getElem? (i := 0) rfl))).ext E29).wr W33 (Or.inr sz_b20)).ext E37).wr W41 (Or.inr sz_b20)).ext E42).wr W45 (Or.inr sz_b42)).wr W46 (Or.inr sz_b29)).wr W51 (Or.inr sz_b42)).wr W52 (Or.inr sz_b37)).wr W58 (Or.inr sz_b42)).wr W59 (Or.inr sz_b37))
  have q66 := ((((((((((((q25.wr W23).ext E29).wr W33).ext E37).wr W41).ext E42).wr W45).wr W46).wr W51).wr W52).wr W58).wr W59)
  have q67 := ((((((((((((((((((Fw3.other W7 (Or.inr (slot_ne (Or.inr (w_ hw 30 rfl)) (Or.inr (w_ hw 32 rfl)) (by decide) (t := (.array .int)) (t' := .int) (by decide) (by decide)))).ext E11).other W15 (Or.inl ne_o0_b11)).other W17 (Or.inl ne_o0_b11)).other W19 (Or.inl ne_o0_b11)).ext E20).other W23 (Or.inr (slot_ne (Or.inr (w_ hw 30 rfl)) (Or.inr (w_ hw 36 rfl)) (by decide) (t := (.array .int)) (t' := (.array (.array .int))) (by decide) (by decide)))).ext E29).other W33 (Or.inl ne_o0_b20)).ext E37).other W41 (Or.inl ne_o0_b20)).ext E42).other W45 (Or.inl ne_o0_b42)).other W46 (Or.inl ne_o0_b29)).other W51 (Or.inl ne_o0_b42)).other W52 (Or.inl ne_o0_b37)).other W58 (Or.inl ne_o0_b42)).other W59 (Or.inl ne_o0_b37))
  have q68 := (((((((((((((((((Fw7.ext E11).other W15 (Or.inl ne_o0_b11)).other W17 (Or.inl ne_o0_b11)).other W19 (Or.inl ne_o0_b11)).ext E20).other W23 (Or.inr (slot_ne (Or.inr (w_ hw 32 rfl)) (Or.inr (w_ hw 36 rfl)) (by decide) (t := .int) (t' := (.array (.array .int))) (by decide) (by decide)))).ext E29).other W33 (Or.inl ne_o0_b20)).ext E37).other W41 (Or.inl ne_o0_b20)).ext E42).other W45 (Or.inl ne_o0_b42)).other W46 (Or.inl ne_o0_b29)).other W51 (Or.inl ne_o0_b42)).other W52 (Or.inl ne_o0_b37)).other W58 (Or.inl ne_o0_b42)).other W59 (Or.inl ne_o0_b37))
  exact own_outV X59 hx hlk hret (hb hby d3_146) (Q := Q3c011n2 Z o0 o1 o2 k2 h0 n0) (by rw [e59]; exact ⟨rfl, (Fr.snoc X59 (own_snoc (Fr.snoc X52 (own_snoc (Fr.snoc X46 (own_snoc (Fr.snoc X41 (Fr.snoc X33 (Fr.snoc X23 (Fr.snoc X19 (Fr.snoc X17 (Fr.snoc X15 (Fr.snoc X7 (Fr.snoc X3 (Fr.snoc X2 N0 g_o0) g_o0) g_o0) g_b11) g_b11) g_b11) g_o0) g_b20) g_b20) g_b42) g_b29) g_b42) g_b37) g_b42) g_b37), q65, q66, q67, q68⟩) (by decide) (by decide)
theorem ef_3c0110n2 (m : MethodId) (x0 : Addr) (x1 : Addr) (x2 : Addr) : entryFrame m #[(.ref x0), (.ref x1), (.ref x2), (.int (2 : Int32))] 9 = mkF m 0 #[.val (.ref x0), .val (.ref x1), .val (.ref x2), .val (.int (2 : Int32)), .unset, .unset, .unset, .unset, .unset] [] := by first | (simp [entryFrame, mkF, argsToLocals, Value.category]; done) | rfl
def Q3c0110n2 (Z : State) (o0 : Addr) (o1 : Addr) (o2 : Addr) (k2 : ClassId) (h0 : Heap) (n0 : Nat) (v : Option Value) (h : Heap) (L : List Loc) : Prop := v = none ∧ Fr n0 L ∧ Keep h0 h [o0] ∧ Exa Z h o0 "com/example/slimc/slimc/game/Observation" ∧ Fld Z h o0 "com/example/slimc/slimc/game/Observation" "classOf" "[I" (.ref o2) ∧ Fld Z h o0 "com/example/slimc/slimc/game/Observation" "classCount" "I" (.int (2 : Int32))
set_option maxRecDepth 65536 in
set_option maxHeartbeats 40000000 in
theorem rm3c0110n2 (l : Launch) (Z : State) (a0 : Array Value) (hw : ∀ d ∈ tables_1, d.before a0 Z = true) (ws : List Jvm.Cond) (o0 : Addr) (o1 : Addr) (o2 : Addr) (k2 : ClassId) (h0 : Heap) (n0 : Nat) (Z0 : n0 ≤ h0.size) (E : Exa Z h0 o0 "com/example/slimc/slimc/game/Observation") (F_name : Fld Z h0 o0 "com/example/slimc/slimc/game/Observation" "name" "Ljava/lang/String;" .null) (F_classOf : Fld Z h0 o0 "com/example/slimc/slimc/game/Observation" "classOf" "[I" .null) (F_classCount : Fld Z h0 o0 "com/example/slimc/slimc/game/Observation" "classCount" "I" (.int (0 : Int32))) (F_classes : Fld Z h0 o0 "com/example/slimc/slimc/game/Observation" "classes" "[[I" .null) (g_o0 : n0 ≤ o0) (V : Arv Z h0 o2 k2 .int (4 : Int32) [(.int (0 : Int32)), (.int (1 : Int32)), (.int (1 : Int32)), (.int (0 : Int32))] (.int (0 : Int32))) (n2 : o2 ≠ o0) :
    MetFree l (⟨"com/example/slimc/slimc/game/Observation", "<init>", "(Ljava/lang/String;[II)V"⟩ : MethodName) (head1 (Jvm.Cond.code (⟨"com/example/slimc/slimc/game/Observation", "<init>", "(Ljava/lang/String;[II)V"⟩ : MethodName) prog_66_method_1_code 9 none :: ws) ({ frames := 1, cells := 7, slots := 16, locals := 14 } : Room)) (fun a U => a = #[(.ref o0), (.ref o1), (.ref o2), (.int (2 : Int32))] ∧ Z.Warmed39 U.vm ∧ U.heap = h0) (fun _ _ _ _ _ => True) (fun _ U o U' => ∃ v L, o = .returned v ∧ Q3c0110n2 Z o0 o1 o2 k2 h0 n0 v U'.heap L ∧ FrameEnd U o U' L ({ frames := 1, cells := 7, slots := 16, locals := 14 } : Room).cells ({ frames := 1, cells := 7, slots := 16, locals := 14 } : Room).slots) := by
  refine MetFree.of_bodySF (plainFor_of_name pn_1) hisR ?_
  intro p e s m args below meth c s₁ Bd hml0 hP hK
  obtain ⟨rfl, hZ, hh⟩ := hP
  have hx := Bd.exec
  have hby := Bd.bytes
  have hml : c.maxLocals = 9 := hml0
  have hown : s.vm.findClass "com/example/slimc/slimc/game/Observation" = some m.cls := findClass_of_methodNamed Bd.named
  have hnm := (name_of_methodNamed Bd.named Bd.method).1
  have X0 : Stand p l e ({ frames := 1, cells := 7, slots := 16, locals := 14 } : Room) s m #[(.ref o0), (.ref o1), (.ref o2), (.int (2 : Int32))] below meth c s₁ [] 0 0 := Stand.of_body Bd
  have e0 : s₁.heap = h0 := by rw [← hh, Bd.state]; rfl
  have N0 := Fr.nil n0
  have hret := Bd.returns
  have hlk := BodyLoose.notSynchronized Bd
  show own_Out p e below (fun o U' => ∃ v L, o = .returned v ∧ Q3c0110n2 Z o0 o1 o2 k2 h0 n0 v U'.heap L ∧ FrameEnd s o U' L ({ frames := 1, cells := 7, slots := 16, locals := 14 } : Room).cells ({ frames := 1, cells := 7, slots := 16, locals := 14 } : Room).slots) (s₁.setTop (entryFrame m #[(.ref o0), (.ref o1), (.ref o2), (.int (2 : Int32))] 9))
  refine own_of (fun t k => castTop (ef_3c0110n2 m o0 o1 o2) k) ?_
  show own_Out p e below _ (s₁.setTop (mkF m 0 #[rv o0, rv o1, rv o2, iv 2, .unset, .unset, .unset, .unset, .unset] []))
  refine o_aloadN X0 hx hby d3_0 rfl rfl (q := 1) rfl ?_
  obtain ⟨T1, X1, e1, st1⟩ := initO X0 hx hZ hown (w_ hw 24 rfl) (w_ hw 25 rfl) (w_ hw 26 rfl) e0 (g := (mkF m 1 #[rv o0, rv o1, rv o2, iv 2, .unset, .unset, .unset, .unset, .unset] [.ref o0])) rfl (by rw [hml]; rfl) rfl (hb hby d3_1) (by decide) (W := 0) (by show 2 * 0 + _ ≤ _; exact Nat.le_of_eq rfl) (by decide)
  refine own_of st1 ?_
  show own_Out p e below _ (T1.setTop (mkF m 4 #[rv o0, rv o1, rv o2, iv 2, .unset, .unset, .unset, .unset, .unset] []))
  refine o_aloadN X1 hx hby d3_4 rfl rfl (q := 5) rfl ?_
  refine o_aloadN X1 hx hby d3_5 rfl rfl (q := 6) rfl ?_
  obtain ⟨T2, h2, X2, e2, W2, st2⟩ := putF X1 hx hZ hown (host := "") (Or.inl (w_ hw 27 rfl)) Via.refl e1 F_name E (Or.inr ⟨(w_ hw 28 rfl), rfl, hnm⟩) (w_ hw 11 rfl) (ty := (.object "java/lang/String")) (by decide) rfl rfl (g := (mkF m 6 #[rv o0, rv o1, rv o2, iv 2, .unset, .unset, .unset, .unset, .unset] [.ref o1, .ref o0])) rfl rfl (hb hby d3_6)
  have Fw2 := F_name.same W2
  refine own_of st2 ?_
  show own_Out p e below _ (T2.setTop (mkF m 9 #[rv o0, rv o1, rv o2, iv 2, .unset, .unset, .unset, .unset, .unset] []))
  refine o_aloadN X2 hx hby d3_9 rfl rfl (q := 10) rfl ?_
  refine o_aloadN X2 hx hby d3_10 rfl rfl (q := 11) rfl ?_
  have q4 := (F_classOf.other W2 (Or.inr (slot_ne (Or.inr (w_ hw 30 rfl)) (Or.inr (w_ hw 28 rfl)) (by decide) (t := (.array .int)) (t' := (.object "java/lang/String")) (by decide) (by decide))))
  have q5 := (E.wr W2)
  obtain ⟨T3, h3, X3, e3, W3, st3⟩ := putF X2 hx hZ hown (host := "") (Or.inl (w_ hw 29 rfl)) Via.refl e2 q4 q5 (Or.inr ⟨(w_ hw 30 rfl), rfl, hnm⟩) (w_ hw 11 rfl) (ty := (.array .int)) (by decide) rfl rfl (g := (mkF m 11 #[rv o0, rv o1, rv o2, iv 2, .unset, .unset, .unset, .unset, .unset] [.ref o2, .ref o0])) rfl rfl (hb hby d3_11)
  have q6 := (F_classOf.other W2 (Or.inr (slot_ne (Or.inr (w_ hw 30 rfl)) (Or.inr (w_ hw 28 rfl)) (by decide) (t := (.array .int)) (t' := (.object "java/lang/String")) (by decide) (by decide))))
  have Fw3 := q6.same W3
  refine own_of st3 ?_
  show own_Out p e below _ (T3.setTop (mkF m 14 #[rv o0, rv o1, rv o2, iv 2, .unset, .unset, .unset, .unset, .unset] []))
  refine o_aloadN X3 hx hby d3_14 rfl rfl (q := 15) rfl ?_
  refine o_iloadN X3 hx hby d3_15 rfl (q := 16) rfl ?_
  have q8 := ((F_classCount.other W2 (Or.inr (slot_ne (Or.inr (w_ hw 32 rfl)) (Or.inr (w_ hw 28 rfl)) (by decide) (t := .int) (t' := (.object "java/lang/String")) (by decide) (by decide)))).other W3 (Or.inr (slot_ne (Or.inr (w_ hw 32 rfl)) (Or.inr (w_ hw 30 rfl)) (by decide) (t := .int) (t' := (.array .int)) (by decide) (by decide))))
  have q9 := (q5.wr W3)
  obtain ⟨T7, h7, X7, e7, W7, st7⟩ := putF X3 hx hZ hown (host := "") (Or.inl (w_ hw 31 rfl)) Via.refl e3 q8 q9 (Or.inr ⟨(w_ hw 32 rfl), rfl, hnm⟩) (w_ hw 11 rfl) (ty := .int) (by decide) rfl rfl (g := (mkF m 16 #[rv o0, rv o1, rv o2, iv 2, .unset, .unset, .unset, .unset, .unset] [.int 2, .ref o0])) rfl rfl (hb hby d3_16)
  have q10 := ((F_classCount.other W2 (Or.inr (slot_ne (Or.inr (w_ hw 32 rfl)) (Or.inr (w_ hw 28 rfl)) (by decide) (t := .int) (t' := (.object "java/lang/String")) (by decide) (by decide)))).other W3 (Or.inr (slot_ne (Or.inr (w_ hw 32 rfl)) (Or.inr (w_ hw 30 rfl)) (by decide) (t := .int) (t' := (.array .int)) (by decide) (by decide))))
  have Fw7 := q10.same W7
  refine own_of st7 ?_
  show own_Out p e below _ (T7.setTop (mkF m 19 #[rv o0, rv o1, rv o2, iv 2, .unset, .unset, .unset, .unset, .unset] []))
  refine o_iloadN X7 hx hby d3_19 rfl (q := 20) rfl ?_
  obtain ⟨T11, h11, k11, X11, e11, E11, A11, Ex11, st11⟩ := newPE X7 hx hZ (w_ hw 5 rfl) e7 (g := (mkF m 20 #[rv o0, rv o1, rv o2, iv 2, .unset, .unset, .unset, .unset, .unset] [.int 2])) rfl (hb hby d3_20) rfl (by decide) (cap := 2) (by decide) (by decide) (by decide) (by decide) (ad := "[I") (by decide +kernel)
  obtain ⟨b11, g11⟩ : ∃ z, z = h7.size := ⟨_, rfl⟩
  rw [← g11] at A11 Ex11 st11
  have q12 := (Nat.le_trans (Nat.le_trans (Nat.le_trans Z0 (Keep.of_wr W2).1) (Keep.of_wr W3).1) (Keep.of_wr W7).1)
  have g_b11 : n0 ≤ b11 := Nat.le_trans q12 (Nat.le_of_eq g11.symm)
  have q13 := (Nat.le_trans (Nat.le_trans (Nat.le_trans (Nat.le_refl h0.size) (Keep.of_wr W2).1) (Keep.of_wr W3).1) (Keep.of_wr W7).1)
  have sz_b11 : h0.size ≤ b11 := Nat.le_trans q13 (Nat.le_of_eq g11.symm)
  have V_b11 : Arv Z h11 b11 k11 .int (2 : Int32) [(.int (0 : Int32)), (.int (0 : Int32))] (.int (0 : Int32)) := (Arv.new A11 (by decide)).pad (pad_rep [] (.int (0 : Int32)) 2)
  refine own_of st11 ?_
  show own_Out p e below _ (T11.setTop (mkF m 22 #[rv o0, rv o1, rv o2, iv 2, .unset, .unset, .unset, .unset, .unset] [.ref b11]))
  refine o_astore X11 hx hby d3_22 rfl (l' := #[rv o0, rv o1, rv o2, iv 2, rv b11, .unset, .unset, .unset, .unset]) rfl (q := 24) rfl ?_
  refine o_aloadN X11 hx hby d3_24 rfl rfl (q := 25) rfl ?_
  refine o_astore X11 hx hby d3_25 rfl (l' := #[rv o0, rv o1, rv o2, iv 2, rv b11, rv o2, .unset, .unset, .unset]) rfl (q := 27) rfl ?_
  refine o_aload X11 hx hby d3_27 rfl rfl (q := 29) rfl ?_
  have q14 := ((((V.other W2 n2).other W3 n2).other W7 n2).ext E11)
  refine o_lenV X11 hx hby hZ e11 q14 d3_29 (q := 30) rfl ?_
  refine o_istore X11 hx hby d3_30 (l' := #[rv o0, rv o1, rv o2, iv 2, rv b11, rv o2, iv 4, .unset, .unset]) rfl (q := 32) rfl ?_
  refine o_iconst X11 hx hby d3_32 (z := 0) rfl (q := 33) rfl ?_
  refine o_istore X11 hx hby d3_33 (l' := #[rv o0, rv o1, rv o2, iv 2, rv b11, rv o2, iv 4, iv 0, .unset]) rfl (q := 35) rfl ?_
  refine t1 X11 hx hby hZ e11 q14 V_b11 rfl ⟨by decide, by decide⟩ (cc := 0) rfl ⟨by decide, by decide⟩ (y := 0) rfl (y' := 1) rfl (i' := 1) rfl (iN := 0) rfl (Nat.le_of_ble_eq_true rfl) fun T15 h15 X15 e15 W15 V15 => ?_
  have ne_o2_b11 : o2 ≠ b11 := Nat.ne_of_lt (Nat.lt_of_lt_of_le V.lt sz_b11)
  have q16 := (q14.other W15 ne_o2_b11)
  refine t1 X15 hx hby hZ e15 q16 V15 rfl ⟨by decide, by decide⟩ (cc := 1) rfl ⟨by decide, by decide⟩ (y := 0) rfl (y' := 1) rfl (i' := 2) rfl (iN := 1) rfl (Nat.le_of_ble_eq_true rfl) fun T17 h17 X17 e17 W17 V17 => ?_
  have q18 := (q16.other W17 ne_o2_b11)
  refine t1 X17 hx hby hZ e17 q18 V17 rfl ⟨by decide, by decide⟩ (cc := 1) rfl ⟨by decide, by decide⟩ (y := 1) rfl (y' := 2) rfl (i' := 3) rfl (iN := 1) rfl (Nat.le_of_ble_eq_true rfl) fun T19 h19 X19 e19 W19 V19 => ?_
  have q20 := (q18.other W19 ne_o2_b11)
  refine t1 X19 hx hby hZ e19 q20 V19 rfl ⟨by decide, by decide⟩ (cc := 0) rfl ⟨by decide, by decide⟩ (y := 1) rfl (y' := 2) rfl (i' := 4) rfl (iN := 0) rfl (Nat.le_of_ble_eq_true rfl) fun T21 h21 X21 e21 W21 V21 => ?_
  refine o_iload X21 hx hby d3_35 rfl (q := 37) rfl ?_
  refine o_iload X21 hx hby d3_37 rfl (q := 39) rfl ?_
  refine o_icY X21 hx hby d3_39 (flt (by decide : ¬ ((4 : Int32) < (4 : Int32)))).2.1 (by decide) (q := 64) (by decide) ?_
  refine o_aloadN X21 hx hby d3_64 rfl rfl (q := 65) rfl ?_
  refine o_iloadN X21 hx hby d3_65 rfl (q := 66) rfl ?_
  obtain ⟨T22, h22, k22, X22, e22, E22, A22, Ex22, O22, st22⟩ := newRA X21 hx hZ hown (ty := .int) (by decide +kernel) (w_ hw 33 rfl) (w_ hw 34 rfl) e21 (g := (mkF m 66 #[rv o0, rv o1, rv o2, iv 2, rv b11, rv o2, iv 4, iv 4, iv 0] [.int 2, .ref o0])) rfl (hb hby d3_66) rfl (by decide) (cap := 2) (by decide) (by decide) (by decide) (by decide) (ad := "[[I") (by decide +kernel)
  obtain ⟨b22, g22⟩ : ∃ z, z = h21.size := ⟨_, rfl⟩
  rw [← g22] at A22 Ex22 st22
  have q23 := (Nat.le_trans (Nat.le_trans (Nat.le_trans (Nat.le_trans (Nat.le_trans q12 E11.1) (Keep.of_wr W15).1) (Keep.of_wr W17).1) (Keep.of_wr W19).1) (Keep.of_wr W21).1)
  have g_b22 : n0 ≤ b22 := Nat.le_trans q23 (Nat.le_of_eq g22.symm)
  have q24 := (Nat.le_trans (Nat.le_trans (Nat.le_trans (Nat.le_trans (Nat.le_trans q13 E11.1) (Keep.of_wr W15).1) (Keep.of_wr W17).1) (Keep.of_wr W19).1) (Keep.of_wr W21).1)
  have sz_b22 : h0.size ≤ b22 := Nat.le_trans q24 (Nat.le_of_eq g22.symm)
  have V_b22 : Arv Z h22 b22 k22 (.array .int) (2 : Int32) [.null, .null] .null := (Arv.new A22 (by decide)).pad (pad_rep [] .null 2)
  refine own_of st22 ?_
  show own_Out p e below _ (T22.setTop (mkF m 69 #[rv o0, rv o1, rv o2, iv 2, rv b11, rv o2, iv 4, iv 4, iv 0] [.ref b22, .ref o0]))
  have ne_o0_b11 : o0 ≠ b11 := Nat.ne_of_lt (Nat.lt_of_lt_of_le E.lt sz_b11)
  have q26 := (((((((((F_classes.other W2 (Or.inr (slot_ne (Or.inr (w_ hw 36 rfl)) (Or.inr (w_ hw 28 rfl)) (by decide) (t := (.array (.array .int))) (t' := (.object "java/lang/String")) (by decide) (by decide)))).other W3 (Or.inr (slot_ne (Or.inr (w_ hw 36 rfl)) (Or.inr (w_ hw 30 rfl)) (by decide) (t := (.array (.array .int))) (t' := (.array .int)) (by decide) (by decide)))).other W7 (Or.inr (slot_ne (Or.inr (w_ hw 36 rfl)) (Or.inr (w_ hw 32 rfl)) (by decide) (t := (.array (.array .int))) (t' := .int) (by decide) (by decide)))).ext E11).other W15 (Or.inl ne_o0_b11)).other W17 (Or.inl ne_o0_b11)).other W19 (Or.inl ne_o0_b11)).other W21 (Or.inl ne_o0_b11)).ext E22)
  have q27 := (((((((q9.wr W7).ext E11).wr W15).wr W17).wr W19).wr W21).ext E22)
  obtain ⟨T25, h25, X25, e25, W25, st25⟩ := putF X22 hx hZ hown (host := "") (Or.inl (w_ hw 35 rfl)) Via.refl e22 q26 q27 (Or.inr ⟨(w_ hw 36 rfl), rfl, hnm⟩) (w_ hw 11 rfl) (ty := (.array (.array .int))) (by decide) rfl rfl (g := (mkF m 69 #[rv o0, rv o1, rv o2, iv 2, rv b11, rv o2, iv 4, iv 4, iv 0] [.ref b22, .ref o0])) rfl rfl (hb hby d3_69)
  have q28 := (((((((((F_classes.other W2 (Or.inr (slot_ne (Or.inr (w_ hw 36 rfl)) (Or.inr (w_ hw 28 rfl)) (by decide) (t := (.array (.array .int))) (t' := (.object "java/lang/String")) (by decide) (by decide)))).other W3 (Or.inr (slot_ne (Or.inr (w_ hw 36 rfl)) (Or.inr (w_ hw 30 rfl)) (by decide) (t := (.array (.array .int))) (t' := (.array .int)) (by decide) (by decide)))).other W7 (Or.inr (slot_ne (Or.inr (w_ hw 36 rfl)) (Or.inr (w_ hw 32 rfl)) (by decide) (t := (.array (.array .int))) (t' := .int) (by decide) (by decide)))).ext E11).other W15 (Or.inl ne_o0_b11)).other W17 (Or.inl ne_o0_b11)).other W19 (Or.inl ne_o0_b11)).other W21 (Or.inl ne_o0_b11)).ext E22)
  have Fw25 := q28.same W25
  refine own_of st25 ?_
  show own_Out p e below _ (T25.setTop (mkF m 72 #[rv o0, rv o1, rv o2, iv 2, rv b11, rv o2, iv 4, iv 4, iv 0] []))
  refine o_iconst X25 hx hby d3_72 (z := 0) rfl (q := 73) rfl ?_
  refine o_istore X25 hx hby d3_73 (l' := #[rv o0, rv o1, rv o2, iv 2, rv b11, iv 0, iv 4, iv 4, iv 0]) rfl (q := 75) rfl ?_
  refine o_iload X25 hx hby d3_75 rfl (q := 77) rfl ?_
  refine o_iloadN X25 hx hby d3_77 rfl (q := 78) rfl ?_
  refine o_icN X25 hx hby d3_78 (tlt (by decide : (0 : Int32) < (2 : Int32))).2.1 (q := 81) rfl ?_
  refine o_aloadN X25 hx hby d3_81 rfl rfl (q := 82) rfl ?_
  refine o_getF X25 hx hZ hown hby (w_ hw 35 rfl) Via.refl e25 Fw25 d3_82 (q := 85) rfl fun T29 X29 e29 => ?_
  refine o_iload X29 hx hby d3_85 rfl (q := 87) rfl ?_
  refine o_aload X29 hx hby d3_87 rfl rfl (q := 89) rfl ?_
  refine o_iload X29 hx hby d3_89 rfl (q := 91) rfl ?_
  have q30 := ((V21.ext E22).other W25 (Ne.symm ne_o0_b11))
  refine o_iaV X29 hx hby hZ e29 q30 ⟨by decide, by decide⟩ (v := .int 2) rfl d3_91 (q := 92) rfl ?_
  obtain ⟨T31, h31, k31, X31, e31, E31, A31, Ex31, st31⟩ := newPE X29 hx hZ (w_ hw 5 rfl) e29 (g := (mkF m 92 #[rv o0, rv o1, rv o2, iv 2, rv b11, iv 0, iv 4, iv 4, iv 0] [.int 2, .int 0, .ref b22])) rfl (hb hby d3_92) rfl (by decide) (cap := 2) (by decide) (by decide) (by decide) (by decide) (ad := "[I") (by decide +kernel)
  obtain ⟨b31, g31⟩ : ∃ z, z = h25.size := ⟨_, rfl⟩
  rw [← g31] at A31 Ex31 st31
  have q32 := (Nat.le_trans (Nat.le_trans q23 E22.1) (Keep.of_wr W25).1)
  have g_b31 : n0 ≤ b31 := Nat.le_trans q32 (Nat.le_of_eq g31.symm)
  have q33 := (Nat.le_trans (Nat.le_trans q24 E22.1) (Keep.of_wr W25).1)
  have sz_b31 : h0.size ≤ b31 := Nat.le_trans q33 (Nat.le_of_eq g31.symm)
  have V_b31 : Arv Z h31 b31 k31 .int (2 : Int32) [(.int (0 : Int32)), (.int (0 : Int32))] (.int (0 : Int32)) := (Arv.new A31 (by decide)).pad (pad_rep [] (.int (0 : Int32)) 2)
  refine own_of st31 ?_
  show own_Out p e below _ (T31.setTop (mkF m 94 #[rv o0, rv o1, rv o2, iv 2, rv b11, iv 0, iv 4, iv 4, iv 0] [.ref b31, .int 0, .ref b22]))
  have ne_o0_b22 : o0 ≠ b22 := Nat.ne_of_lt (Nat.lt_of_lt_of_le E.lt sz_b22)
  have q34 := ((V_b22.other W25 (Ne.symm ne_o0_b22)).ext E31)
  refine o_stVR X31 hx hby hZ e31 q34 ⟨by decide, by decide⟩ 0 rfl (Nat.le_of_ble_eq_true rfl) O22 (Ins.self Ex31) d3_94 (q := 95) rfl fun T35 h35 X35 e35 W35 V35 => ?_
  refine o_iinc X35 hx hby d3_95 rfl (l' := #[rv o0, rv o1, rv o2, iv 2, rv b11, iv 1, iv 4, iv 4, iv 0]) rfl (q := 98) rfl ?_
  refine o_goto X35 hx hby d3_98 (by decide) (q := 75) (by decide) ?_
  refine o_iload X35 hx hby d3_75 rfl (q := 77) rfl ?_
  refine o_iloadN X35 hx hby d3_77 rfl (q := 78) rfl ?_
  refine o_icN X35 hx hby d3_78 (tlt (by decide : (1 : Int32) < (2 : Int32))).2.1 (q := 81) rfl ?_
  refine o_aloadN X35 hx hby d3_81 rfl rfl (q := 82) rfl ?_
  have q37 := ((Fw25.ext E31).other W35 (Or.inl ne_o0_b22))
  refine o_getF X35 hx hZ hown hby (w_ hw 35 rfl) Via.refl e35 q37 d3_82 (q := 85) rfl fun T36 X36 e36 => ?_
  refine o_iload X36 hx hby d3_85 rfl (q := 87) rfl ?_
  refine o_aload X36 hx hby d3_87 rfl rfl (q := 89) rfl ?_
  refine o_iload X36 hx hby d3_89 rfl (q := 91) rfl ?_
  have ne_b11_b22 : b11 ≠ b22 := Nat.ne_of_lt (Nat.lt_of_lt_of_le (Nat.lt_of_lt_of_le (Nat.lt_of_lt_of_le (Nat.lt_of_lt_of_le (Nat.lt_of_lt_of_le A11.lt (Keep.of_wr W15).1) (Keep.of_wr W17).1) (Keep.of_wr W19).1) (Keep.of_wr W21).1) (Nat.le_of_eq g22.symm))
  have q38 := ((q30.ext E31).other W35 ne_b11_b22)
  refine o_iaV X36 hx hby hZ e36 q38 ⟨by decide, by decide⟩ (v := .int 2) rfl d3_91 (q := 92) rfl ?_
  obtain ⟨T39, h39, k39, X39, e39, E39, A39, Ex39, st39⟩ := newPE X36 hx hZ (w_ hw 5 rfl) e36 (g := (mkF m 92 #[rv o0, rv o1, rv o2, iv 2, rv b11, iv 1, iv 4, iv 4, iv 0] [.int 2, .int 1, .ref b22])) rfl (hb hby d3_92) rfl (by decide) (cap := 2) (by decide) (by decide) (by decide) (by decide) (ad := "[I") (by decide +kernel)
  obtain ⟨b39, g39⟩ : ∃ z, z = h35.size := ⟨_, rfl⟩
  rw [← g39] at A39 Ex39 st39
  have q40 := (Nat.le_trans (Nat.le_trans q32 E31.1) (Keep.of_wr W35).1)
  have g_b39 : n0 ≤ b39 := Nat.le_trans q40 (Nat.le_of_eq g39.symm)
  have q41 := (Nat.le_trans (Nat.le_trans q33 E31.1) (Keep.of_wr W35).1)
  have sz_b39 : h0.size ≤ b39 := Nat.le_trans q41 (Nat.le_of_eq g39.symm)
  have V_b39 : Arv Z h39 b39 k39 .int (2 : Int32) [(.int (0 : Int32)), (.int (0 : Int32))] (.int (0 : Int32)) := (Arv.new A39 (by decide)).pad (pad_rep [] (.int (0 : Int32)) 2)
  refine own_of st39 ?_
  show own_Out p e below _ (T39.setTop (mkF m 94 #[rv o0, rv o1, rv o2, iv 2, rv b11, iv 1, iv 4, iv 4, iv 0] [.ref b39, .int 1, .ref b22]))
  have q42 := (V35.ext E39)
  refine o_stVR X39 hx hby hZ e39 q42 ⟨by decide, by decide⟩ 1 rfl (Nat.le_of_ble_eq_true rfl) O22 (Ins.self Ex39) d3_94 (q := 95) rfl fun T43 h43 X43 e43 W43 V43 => ?_
  refine o_iinc X43 hx hby d3_95 rfl (l' := #[rv o0, rv o1, rv o2, iv 2, rv b11, iv 2, iv 4, iv 4, iv 0]) rfl (q := 98) rfl ?_
  refine o_goto X43 hx hby d3_98 (by decide) (q := 75) (by decide) ?_
  refine o_iload X43 hx hby d3_75 rfl (q := 77) rfl ?_
  refine o_iloadN X43 hx hby d3_77 rfl (q := 78) rfl ?_
  refine o_icY X43 hx hby d3_78 (flt (by decide : ¬ ((2 : Int32) < (2 : Int32)))).2.1 (by decide) (q := 101) (by decide) ?_
  refine o_iloadN X43 hx hby d3_101 rfl (q := 102) rfl ?_
  obtain ⟨T44, h44, k44, X44, e44, E44, A44, Ex44, st44⟩ := newPE X43 hx hZ (w_ hw 5 rfl) e43 (g := (mkF m 102 #[rv o0, rv o1, rv o2, iv 2, rv b11, iv 2, iv 4, iv 4, iv 0] [.int 2])) rfl (hb hby d3_102) rfl (by decide) (cap := 2) (by decide) (by decide) (by decide) (by decide) (ad := "[I") (by decide +kernel)
  obtain ⟨b44, g44⟩ : ∃ z, z = h43.size := ⟨_, rfl⟩
  rw [← g44] at A44 Ex44 st44
  have q45 := (Nat.le_trans (Nat.le_trans q40 E39.1) (Keep.of_wr W43).1)
  have g_b44 : n0 ≤ b44 := Nat.le_trans q45 (Nat.le_of_eq g44.symm)
  have q46 := (Nat.le_trans (Nat.le_trans q41 E39.1) (Keep.of_wr W43).1)
  have sz_b44 : h0.size ≤ b44 := Nat.le_trans q46 (Nat.le_of_eq g44.symm)
  have V_b44 : Arv Z h44 b44 k44 .int (2 : Int32) [(.int (0 : Int32)), (.int (0 : Int32))] (.int (0 : Int32)) := (Arv.new A44 (by decide)).pad (pad_rep [] (.int (0 : Int32)) 2)
  refine own_of st44 ?_
  show own_Out p e below _ (T44.setTop (mkF m 104 #[rv o0, rv o1, rv o2, iv 2, rv b11, iv 2, iv 4, iv 4, iv 0] [.ref b44]))
  refine o_astore X44 hx hby d3_104 rfl (l' := #[rv o0, rv o1, rv o2, iv 2, rv b11, rv b44, iv 4, iv 4, iv 0]) rfl (q := 106) rfl ?_
  refine o_iconst X44 hx hby d3_106 (z := 0) rfl (q := 107) rfl ?_
  refine o_istore X44 hx hby d3_107 (l' := #[rv o0, rv o1, rv o2, iv 2, rv b11, rv b44, iv 0, iv 4, iv 0]) rfl (q := 109) rfl ?_
  have ne_o2_b22 : o2 ≠ b22 := Nat.ne_of_lt (Nat.lt_of_lt_of_le V.lt sz_b22)
  have q49 := ((((((((q20.other W21 ne_o2_b11).ext E22).other W25 n2).ext E31).other W35 ne_o2_b22).ext E39).other W43 ne_o2_b22).ext E44)
  have q50 := (((q37.ext E39).other W43 (Or.inl ne_o0_b22)).ext E44)
  have q51 := (V43.ext E44)
  have ne_b22_b31 : b22 ≠ b31 := Nat.ne_of_lt (Nat.lt_of_lt_of_le (Nat.lt_of_lt_of_le A22.lt (Keep.of_wr W25).1) (Nat.le_of_eq g31.symm))
  have q52 := ((((V_b31.other W35 (Ne.symm ne_b22_b31)).ext E39).other W43 (Ne.symm ne_b22_b31)).ext E44)
  have ne_b31_b44 : b31 ≠ b44 := Nat.ne_of_lt (Nat.lt_of_lt_of_le (Nat.lt_of_lt_of_le (Nat.lt_of_lt_of_le (Nat.lt_of_lt_of_le A31.lt (Keep.of_wr W35).1) E39.1) (Keep.of_wr W43).1) (Nat.le_of_eq g44.symm))
  refine t3 X44 hx hby hZ e44 hw hown q49 q50 q51 V_b44 q52 ne_b31_b44 ⟨by decide, by decide⟩ (x := 0) rfl ⟨by decide, by decide⟩ rfl (f := 0) rfl ⟨by decide, by decide⟩ (f' := 1) rfl (i' := 1) rfl (iN := 0) rfl (Nat.le_of_ble_eq_true rfl) (jN := 0) rfl (Nat.le_of_ble_eq_true rfl) fun T48 h47 h48 X48 e48 W47 W48 V47 V48 => ?_
  have ne_o2_b44 : o2 ≠ b44 := Nat.ne_of_lt (Nat.lt_of_lt_of_le V.lt sz_b44)
  have ne_o2_b31 : o2 ≠ b31 := Nat.ne_of_lt (Nat.lt_of_lt_of_le V.lt sz_b31)
  have q55 := ((q49.other W47 ne_o2_b44).other W48 ne_o2_b31)
  have ne_o0_b44 : o0 ≠ b44 := Nat.ne_of_lt (Nat.lt_of_lt_of_le E.lt sz_b44)
  have ne_o0_b31 : o0 ≠ b31 := Nat.ne_of_lt (Nat.lt_of_lt_of_le E.lt sz_b31)
  have q56 := ((q50.other W47 (Or.inl ne_o0_b44)).other W48 (Or.inl ne_o0_b31))
  have ne_b22_b44 : b22 ≠ b44 := Nat.ne_of_lt (Nat.lt_of_lt_of_le (Nat.lt_of_lt_of_le (Nat.lt_of_lt_of_le (Nat.lt_of_lt_of_le (Nat.lt_of_lt_of_le (Nat.lt_of_lt_of_le A22.lt (Keep.of_wr W25).1) E31.1) (Keep.of_wr W35).1) E39.1) (Keep.of_wr W43).1) (Nat.le_of_eq g44.symm))
  have q57 := ((q51.other W47 ne_b22_b44).other W48 ne_b22_b31)
  have q58 := (V47.other W48 (Ne.symm ne_b31_b44))
  have ne_b22_b39 : b22 ≠ b39 := Nat.ne_of_lt (Nat.lt_of_lt_of_le (Nat.lt_of_lt_of_le (Nat.lt_of_lt_of_le (Nat.lt_of_lt_of_le A22.lt (Keep.of_wr W25).1) E31.1) (Keep.of_wr W35).1) (Nat.le_of_eq g39.symm))
  have ne_b39_b44 : b39 ≠ b44 := Nat.ne_of_lt (Nat.lt_of_lt_of_le (Nat.lt_of_lt_of_le A39.lt (Keep.of_wr W43).1) (Nat.le_of_eq g44.symm))
  have ne_b31_b39 : b31 ≠ b39 := Nat.ne_of_lt (Nat.lt_of_lt_of_le (Nat.lt_of_lt_of_le A31.lt (Keep.of_wr W35).1) (Nat.le_of_eq g39.symm))
  have q59 := ((((V_b39.other W43 (Ne.symm ne_b22_b39)).ext E44).other W47 ne_b39_b44).other W48 (Ne.symm ne_b31_b39))
  refine t3 X48 hx hby hZ e48 hw hown q55 q56 q57 q58 q59 ne_b39_b44 ⟨by decide, by decide⟩ (x := 1) rfl ⟨by decide, by decide⟩ rfl (f := 0) rfl ⟨by decide, by decide⟩ (f' := 1) rfl (i' := 2) rfl (iN := 1) rfl (Nat.le_of_ble_eq_true rfl) (jN := 0) rfl (Nat.le_of_ble_eq_true rfl) fun T54 h53 h54 X54 e54 W53 W54 V53 V54 => ?_
  have ne_o2_b39 : o2 ≠ b39 := Nat.ne_of_lt (Nat.lt_of_lt_of_le V.lt sz_b39)
  have q62 := ((q55.other W53 ne_o2_b44).other W54 ne_o2_b39)
  have ne_o0_b39 : o0 ≠ b39 := Nat.ne_of_lt (Nat.lt_of_lt_of_le E.lt sz_b39)
  have q63 := ((q56.other W53 (Or.inl ne_o0_b44)).other W54 (Or.inl ne_o0_b39))
  have q64 := ((q57.other W53 ne_b22_b44).other W54 ne_b22_b39)
  have q65 := (V53.other W54 (Ne.symm ne_b39_b44))
  refine t3 X54 hx hby hZ e54 hw hown q62 q63 q64 q65 V54 ne_b39_b44 ⟨by decide, by decide⟩ (x := 1) rfl ⟨by decide, by decide⟩ rfl (f := 1) rfl ⟨by decide, by decide⟩ (f' := 2) rfl (i' := 3) rfl (iN := 1) rfl (Nat.le_of_ble_eq_true rfl) (jN := 1) rfl (Nat.le_of_ble_eq_true rfl) fun T61 h60 h61 X61 e61 W60 W61 V60 V61 => ?_
  have q68 := ((q62.other W60 ne_o2_b44).other W61 ne_o2_b39)
  have q69 := ((q63.other W60 (Or.inl ne_o0_b44)).other W61 (Or.inl ne_o0_b39))
  have q70 := ((q64.other W60 ne_b22_b44).other W61 ne_b22_b39)
  have q71 := (V60.other W61 (Ne.symm ne_b39_b44))
  have q72 := ((((V48.other W53 ne_b31_b44).other W54 ne_b31_b39).other W60 ne_b31_b44).other W61 ne_b31_b39)
  refine t3 X61 hx hby hZ e61 hw hown q68 q69 q70 q71 q72 ne_b31_b44 ⟨by decide, by decide⟩ (x := 0) rfl ⟨by decide, by decide⟩ rfl (f := 1) rfl ⟨by decide, by decide⟩ (f' := 2) rfl (i' := 4) rfl (iN := 0) rfl (Nat.le_of_ble_eq_true rfl) (jN := 1) rfl (Nat.le_of_ble_eq_true rfl) fun T67 h66 h67 X67 e67 W66 W67 V66 V67 => ?_
  refine o_iload X67 hx hby d3_109 rfl (q := 111) rfl ?_
  refine o_aloadN X67 hx hby d3_111 rfl rfl (q := 112) rfl ?_
  have q73 := ((q68.other W66 ne_o2_b44).other W67 ne_o2_b31)
  refine o_lenV X67 hx hby hZ e67 q73 d3_112 (q := 113) rfl ?_
  refine o_icY X67 hx hby d3_113 (flt (by decide : ¬ ((4 : Int32) < (4 : Int32)))).2.1 (by decide) (q := 146) (by decide) ?_
  have q74 := ((((((((((((((((((((((((Keep.refl h0 [o0]).wr W2 (Or.inl (List.mem_of_getElem? (i := 0) rfl))).wr W3 (Or.inl (List.mem_of_getElem? (i := 0) rfl))).wr W7 (Or.inl (List.mem_of_getElem? (i := 0) rfl))).ext E11).wr W15 (Or.inr sz_b11)).wr W17 (Or.inr sz_b11)).wr W19 (Or.inr sz_b11)).wr W21 (Or.inr sz_b11)).ext E22).wr W25 (Or.inl (List.mem_of_getElem? (i := 0) rfl))).ext E31).wr W35 (Or.inr sz_b22)).ext E39).wr W43 (Or.inr sz_b22)).ext E44).wr W47 (Or.inr sz_b44)).wr W48 (Or.inr sz_b31)).wr W53 (Or.inr sz_b44)).wr W54 (Or.inr sz_b39)).wr W60 (Or.inr sz_b44)).wr W61 (Or.inr sz_b39)).wr W66 (Or.inr sz_b44)).wr W67 (Or.inr sz_b31))
  have q75 := ((((((((((((((q27.wr W25).ext E31).wr W35).ext E39).wr W43).ext E44).wr W47).wr W48).wr W53).wr W54).wr W60).wr W61).wr W66).wr W67)
  have q76 := (((((((((((((((((((((Fw3.other W7 (Or.inr (slot_ne (Or.inr (w_ hw 30 rfl)) (Or.inr (w_ hw 32 rfl)) (by decide) (t := (.array .int)) (t' := .int) (by decide) (by decide)))).ext E11).other W15 (Or.inl ne_o0_b11)).other W17 (Or.inl ne_o0_b11)).other W19 (Or.inl ne_o0_b11)).other W21 (Or.inl ne_o0_b11)).ext E22).other W25 (Or.inr (slot_ne (Or.inr (w_ hw 30 rfl)) (Or.inr (w_ hw 36 rfl)) (by decide) (t := (.array .int)) (t' := (.array (.array .int))) (by decide) (by decide)))).ext E31).other W35 (Or.inl ne_o0_b22)).ext E39).other W43 (Or.inl ne_o0_b22)).ext E44).other W47 (Or.inl ne_o0_b44)).other W48 (Or.inl ne_o0_b31)).other W53 (Or.inl ne_o0_b44)).other W54 (Or.inl ne_o0_b39)).other W60 (Or.inl ne_o0_b44)).other W61 (Or.inl ne_o0_b39)).other W66 (Or.inl ne_o0_b44)).other W67 (Or.inl ne_o0_b31))
  have q77 := ((((((((((((((((((((Fw7.ext E11).other W15 (Or.inl ne_o0_b11)).other W17 (Or.inl ne_o0_b11)).other W19 (Or.inl ne_o0_b11)).other W21 (Or.inl ne_o0_b11)).ext E22).other W25 (Or.inr (slot_ne (Or.inr (w_ hw 32 rfl)) (Or.inr (w_ hw 36 rfl)) (by decide) (t := .int) (t' := (.array (.array .int))) (by decide) (by decide)))).ext E31).other W35 (Or.inl ne_o0_b22)).ext E39).other W43 (Or.inl ne_o0_b22)).ext E44).other W47 (Or.inl ne_o0_b44)).other W48 (Or.inl ne_o0_b31)).other W53 (Or.inl ne_o0_b44)).other W54 (Or.inl ne_o0_b39)).other W60 (Or.inl ne_o0_b44)).other W61 (Or.inl ne_o0_b39)).other W66 (Or.inl ne_o0_b44)).other W67 (Or.inl ne_o0_b31))
  exact own_outV X67 hx hlk hret (hb hby d3_146) (Q := Q3c0110n2 Z o0 o1 o2 k2 h0 n0) (by rw [e67]; exact ⟨rfl, (Fr.snoc X67 (own_snoc (Fr.snoc X61 (own_snoc (Fr.snoc X54 (own_snoc (Fr.snoc X48 (own_snoc (Fr.snoc X43 (Fr.snoc X35 (Fr.snoc X25 (Fr.snoc X21 (Fr.snoc X19 (Fr.snoc X17 (Fr.snoc X15 (Fr.snoc X7 (Fr.snoc X3 (Fr.snoc X2 N0 g_o0) g_o0) g_o0) g_b11) g_b11) g_b11) g_b11) g_o0) g_b22) g_b22) g_b44) g_b31) g_b44) g_b39) g_b44) g_b39) g_b44) g_b31), q74, q75, q76, q77⟩) (by decide) (by decide)
theorem ef_3c0111n2 (m : MethodId) (x0 : Addr) (x1 : Addr) (x2 : Addr) : entryFrame m #[(.ref x0), (.ref x1), (.ref x2), (.int (2 : Int32))] 9 = mkF m 0 #[.val (.ref x0), .val (.ref x1), .val (.ref x2), .val (.int (2 : Int32)), .unset, .unset, .unset, .unset, .unset] [] := by first | (simp [entryFrame, mkF, argsToLocals, Value.category]; done) | rfl
def Q3c0111n2 (Z : State) (o0 : Addr) (o1 : Addr) (o2 : Addr) (k2 : ClassId) (h0 : Heap) (n0 : Nat) (v : Option Value) (h : Heap) (L : List Loc) : Prop := v = none ∧ Fr n0 L ∧ Keep h0 h [o0] ∧ Exa Z h o0 "com/example/slimc/slimc/game/Observation" ∧ Fld Z h o0 "com/example/slimc/slimc/game/Observation" "classOf" "[I" (.ref o2) ∧ Fld Z h o0 "com/example/slimc/slimc/game/Observation" "classCount" "I" (.int (2 : Int32))
set_option maxRecDepth 65536 in
set_option maxHeartbeats 40000000 in
theorem rm3c0111n2 (l : Launch) (Z : State) (a0 : Array Value) (hw : ∀ d ∈ tables_1, d.before a0 Z = true) (ws : List Jvm.Cond) (o0 : Addr) (o1 : Addr) (o2 : Addr) (k2 : ClassId) (h0 : Heap) (n0 : Nat) (Z0 : n0 ≤ h0.size) (E : Exa Z h0 o0 "com/example/slimc/slimc/game/Observation") (F_name : Fld Z h0 o0 "com/example/slimc/slimc/game/Observation" "name" "Ljava/lang/String;" .null) (F_classOf : Fld Z h0 o0 "com/example/slimc/slimc/game/Observation" "classOf" "[I" .null) (F_classCount : Fld Z h0 o0 "com/example/slimc/slimc/game/Observation" "classCount" "I" (.int (0 : Int32))) (F_classes : Fld Z h0 o0 "com/example/slimc/slimc/game/Observation" "classes" "[[I" .null) (g_o0 : n0 ≤ o0) (V : Arv Z h0 o2 k2 .int (4 : Int32) [(.int (0 : Int32)), (.int (1 : Int32)), (.int (1 : Int32)), (.int (1 : Int32))] (.int (0 : Int32))) (n2 : o2 ≠ o0) :
    MetFree l (⟨"com/example/slimc/slimc/game/Observation", "<init>", "(Ljava/lang/String;[II)V"⟩ : MethodName) (head1 (Jvm.Cond.code (⟨"com/example/slimc/slimc/game/Observation", "<init>", "(Ljava/lang/String;[II)V"⟩ : MethodName) prog_66_method_1_code 9 none :: ws) ({ frames := 1, cells := 7, slots := 16, locals := 14 } : Room)) (fun a U => a = #[(.ref o0), (.ref o1), (.ref o2), (.int (2 : Int32))] ∧ Z.Warmed39 U.vm ∧ U.heap = h0) (fun _ _ _ _ _ => True) (fun _ U o U' => ∃ v L, o = .returned v ∧ Q3c0111n2 Z o0 o1 o2 k2 h0 n0 v U'.heap L ∧ FrameEnd U o U' L ({ frames := 1, cells := 7, slots := 16, locals := 14 } : Room).cells ({ frames := 1, cells := 7, slots := 16, locals := 14 } : Room).slots) := by
  refine MetFree.of_bodySF (plainFor_of_name pn_1) hisR ?_
  intro p e s m args below meth c s₁ Bd hml0 hP hK
  obtain ⟨rfl, hZ, hh⟩ := hP
  have hx := Bd.exec
  have hby := Bd.bytes
  have hml : c.maxLocals = 9 := hml0
  have hown : s.vm.findClass "com/example/slimc/slimc/game/Observation" = some m.cls := findClass_of_methodNamed Bd.named
  have hnm := (name_of_methodNamed Bd.named Bd.method).1
  have X0 : Stand p l e ({ frames := 1, cells := 7, slots := 16, locals := 14 } : Room) s m #[(.ref o0), (.ref o1), (.ref o2), (.int (2 : Int32))] below meth c s₁ [] 0 0 := Stand.of_body Bd
  have e0 : s₁.heap = h0 := by rw [← hh, Bd.state]; rfl
  have N0 := Fr.nil n0
  have hret := Bd.returns
  have hlk := BodyLoose.notSynchronized Bd
  show own_Out p e below (fun o U' => ∃ v L, o = .returned v ∧ Q3c0111n2 Z o0 o1 o2 k2 h0 n0 v U'.heap L ∧ FrameEnd s o U' L ({ frames := 1, cells := 7, slots := 16, locals := 14 } : Room).cells ({ frames := 1, cells := 7, slots := 16, locals := 14 } : Room).slots) (s₁.setTop (entryFrame m #[(.ref o0), (.ref o1), (.ref o2), (.int (2 : Int32))] 9))
  refine own_of (fun t k => castTop (ef_3c0111n2 m o0 o1 o2) k) ?_
  show own_Out p e below _ (s₁.setTop (mkF m 0 #[rv o0, rv o1, rv o2, iv 2, .unset, .unset, .unset, .unset, .unset] []))
  refine o_aloadN X0 hx hby d3_0 rfl rfl (q := 1) rfl ?_
  obtain ⟨T1, X1, e1, st1⟩ := initO X0 hx hZ hown (w_ hw 24 rfl) (w_ hw 25 rfl) (w_ hw 26 rfl) e0 (g := (mkF m 1 #[rv o0, rv o1, rv o2, iv 2, .unset, .unset, .unset, .unset, .unset] [.ref o0])) rfl (by rw [hml]; rfl) rfl (hb hby d3_1) (by decide) (W := 0) (by show 2 * 0 + _ ≤ _; exact Nat.le_of_eq rfl) (by decide)
  refine own_of st1 ?_
  show own_Out p e below _ (T1.setTop (mkF m 4 #[rv o0, rv o1, rv o2, iv 2, .unset, .unset, .unset, .unset, .unset] []))
  refine o_aloadN X1 hx hby d3_4 rfl rfl (q := 5) rfl ?_
  refine o_aloadN X1 hx hby d3_5 rfl rfl (q := 6) rfl ?_
  obtain ⟨T2, h2, X2, e2, W2, st2⟩ := putF X1 hx hZ hown (host := "") (Or.inl (w_ hw 27 rfl)) Via.refl e1 F_name E (Or.inr ⟨(w_ hw 28 rfl), rfl, hnm⟩) (w_ hw 11 rfl) (ty := (.object "java/lang/String")) (by decide) rfl rfl (g := (mkF m 6 #[rv o0, rv o1, rv o2, iv 2, .unset, .unset, .unset, .unset, .unset] [.ref o1, .ref o0])) rfl rfl (hb hby d3_6)
  have Fw2 := F_name.same W2
  refine own_of st2 ?_
  show own_Out p e below _ (T2.setTop (mkF m 9 #[rv o0, rv o1, rv o2, iv 2, .unset, .unset, .unset, .unset, .unset] []))
  refine o_aloadN X2 hx hby d3_9 rfl rfl (q := 10) rfl ?_
  refine o_aloadN X2 hx hby d3_10 rfl rfl (q := 11) rfl ?_
  have q4 := (F_classOf.other W2 (Or.inr (slot_ne (Or.inr (w_ hw 30 rfl)) (Or.inr (w_ hw 28 rfl)) (by decide) (t := (.array .int)) (t' := (.object "java/lang/String")) (by decide) (by decide))))
  have q5 := (E.wr W2)
  obtain ⟨T3, h3, X3, e3, W3, st3⟩ := putF X2 hx hZ hown (host := "") (Or.inl (w_ hw 29 rfl)) Via.refl e2 q4 q5 (Or.inr ⟨(w_ hw 30 rfl), rfl, hnm⟩) (w_ hw 11 rfl) (ty := (.array .int)) (by decide) rfl rfl (g := (mkF m 11 #[rv o0, rv o1, rv o2, iv 2, .unset, .unset, .unset, .unset, .unset] [.ref o2, .ref o0])) rfl rfl (hb hby d3_11)
  have q6 := (F_classOf.other W2 (Or.inr (slot_ne (Or.inr (w_ hw 30 rfl)) (Or.inr (w_ hw 28 rfl)) (by decide) (t := (.array .int)) (t' := (.object "java/lang/String")) (by decide) (by decide))))
  have Fw3 := q6.same W3
  refine own_of st3 ?_
  show own_Out p e below _ (T3.setTop (mkF m 14 #[rv o0, rv o1, rv o2, iv 2, .unset, .unset, .unset, .unset, .unset] []))
  refine o_aloadN X3 hx hby d3_14 rfl rfl (q := 15) rfl ?_
  refine o_iloadN X3 hx hby d3_15 rfl (q := 16) rfl ?_
  have q8 := ((F_classCount.other W2 (Or.inr (slot_ne (Or.inr (w_ hw 32 rfl)) (Or.inr (w_ hw 28 rfl)) (by decide) (t := .int) (t' := (.object "java/lang/String")) (by decide) (by decide)))).other W3 (Or.inr (slot_ne (Or.inr (w_ hw 32 rfl)) (Or.inr (w_ hw 30 rfl)) (by decide) (t := .int) (t' := (.array .int)) (by decide) (by decide))))
  have q9 := (q5.wr W3)
  obtain ⟨T7, h7, X7, e7, W7, st7⟩ := putF X3 hx hZ hown (host := "") (Or.inl (w_ hw 31 rfl)) Via.refl e3 q8 q9 (Or.inr ⟨(w_ hw 32 rfl), rfl, hnm⟩) (w_ hw 11 rfl) (ty := .int) (by decide) rfl rfl (g := (mkF m 16 #[rv o0, rv o1, rv o2, iv 2, .unset, .unset, .unset, .unset, .unset] [.int 2, .ref o0])) rfl rfl (hb hby d3_16)
  have q10 := ((F_classCount.other W2 (Or.inr (slot_ne (Or.inr (w_ hw 32 rfl)) (Or.inr (w_ hw 28 rfl)) (by decide) (t := .int) (t' := (.object "java/lang/String")) (by decide) (by decide)))).other W3 (Or.inr (slot_ne (Or.inr (w_ hw 32 rfl)) (Or.inr (w_ hw 30 rfl)) (by decide) (t := .int) (t' := (.array .int)) (by decide) (by decide))))
  have Fw7 := q10.same W7
  refine own_of st7 ?_
  show own_Out p e below _ (T7.setTop (mkF m 19 #[rv o0, rv o1, rv o2, iv 2, .unset, .unset, .unset, .unset, .unset] []))
  refine o_iloadN X7 hx hby d3_19 rfl (q := 20) rfl ?_
  obtain ⟨T11, h11, k11, X11, e11, E11, A11, Ex11, st11⟩ := newPE X7 hx hZ (w_ hw 5 rfl) e7 (g := (mkF m 20 #[rv o0, rv o1, rv o2, iv 2, .unset, .unset, .unset, .unset, .unset] [.int 2])) rfl (hb hby d3_20) rfl (by decide) (cap := 2) (by decide) (by decide) (by decide) (by decide) (ad := "[I") (by decide +kernel)
  obtain ⟨b11, g11⟩ : ∃ z, z = h7.size := ⟨_, rfl⟩
  rw [← g11] at A11 Ex11 st11
  have q12 := (Nat.le_trans (Nat.le_trans (Nat.le_trans Z0 (Keep.of_wr W2).1) (Keep.of_wr W3).1) (Keep.of_wr W7).1)
  have g_b11 : n0 ≤ b11 := Nat.le_trans q12 (Nat.le_of_eq g11.symm)
  have q13 := (Nat.le_trans (Nat.le_trans (Nat.le_trans (Nat.le_refl h0.size) (Keep.of_wr W2).1) (Keep.of_wr W3).1) (Keep.of_wr W7).1)
  have sz_b11 : h0.size ≤ b11 := Nat.le_trans q13 (Nat.le_of_eq g11.symm)
  have V_b11 : Arv Z h11 b11 k11 .int (2 : Int32) [(.int (0 : Int32)), (.int (0 : Int32))] (.int (0 : Int32)) := (Arv.new A11 (by decide)).pad (pad_rep [] (.int (0 : Int32)) 2)
  refine own_of st11 ?_
  show own_Out p e below _ (T11.setTop (mkF m 22 #[rv o0, rv o1, rv o2, iv 2, .unset, .unset, .unset, .unset, .unset] [.ref b11]))
  refine o_astore X11 hx hby d3_22 rfl (l' := #[rv o0, rv o1, rv o2, iv 2, rv b11, .unset, .unset, .unset, .unset]) rfl (q := 24) rfl ?_
  refine o_aloadN X11 hx hby d3_24 rfl rfl (q := 25) rfl ?_
  refine o_astore X11 hx hby d3_25 rfl (l' := #[rv o0, rv o1, rv o2, iv 2, rv b11, rv o2, .unset, .unset, .unset]) rfl (q := 27) rfl ?_
  refine o_aload X11 hx hby d3_27 rfl rfl (q := 29) rfl ?_
  have q14 := ((((V.other W2 n2).other W3 n2).other W7 n2).ext E11)
  refine o_lenV X11 hx hby hZ e11 q14 d3_29 (q := 30) rfl ?_
  refine o_istore X11 hx hby d3_30 (l' := #[rv o0, rv o1, rv o2, iv 2, rv b11, rv o2, iv 4, .unset, .unset]) rfl (q := 32) rfl ?_
  refine o_iconst X11 hx hby d3_32 (z := 0) rfl (q := 33) rfl ?_
  refine o_istore X11 hx hby d3_33 (l' := #[rv o0, rv o1, rv o2, iv 2, rv b11, rv o2, iv 4, iv 0, .unset]) rfl (q := 35) rfl ?_
  refine t1 X11 hx hby hZ e11 q14 V_b11 rfl ⟨by decide, by decide⟩ (cc := 0) rfl ⟨by decide, by decide⟩ (y := 0) rfl (y' := 1) rfl (i' := 1) rfl (iN := 0) rfl (Nat.le_of_ble_eq_true rfl) fun T15 h15 X15 e15 W15 V15 => ?_
  have ne_o2_b11 : o2 ≠ b11 := Nat.ne_of_lt (Nat.lt_of_lt_of_le V.lt sz_b11)
  have q16 := (q14.other W15 ne_o2_b11)
  refine t1 X15 hx hby hZ e15 q16 V15 rfl ⟨by decide, by decide⟩ (cc := 1) rfl ⟨by decide, by decide⟩ (y := 0) rfl (y' := 1) rfl (i' := 2) rfl (iN := 1) rfl (Nat.le_of_ble_eq_true rfl) fun T17 h17 X17 e17 W17 V17 => ?_
  have q18 := (q16.other W17 ne_o2_b11)
  refine t1 X17 hx hby hZ e17 q18 V17 rfl ⟨by decide, by decide⟩ (cc := 1) rfl ⟨by decide, by decide⟩ (y := 1) rfl (y' := 2) rfl (i' := 3) rfl (iN := 1) rfl (Nat.le_of_ble_eq_true rfl) fun T19 h19 X19 e19 W19 V19 => ?_
  have q20 := (q18.other W19 ne_o2_b11)
  refine t1 X19 hx hby hZ e19 q20 V19 rfl ⟨by decide, by decide⟩ (cc := 1) rfl ⟨by decide, by decide⟩ (y := 2) rfl (y' := 3) rfl (i' := 4) rfl (iN := 1) rfl (Nat.le_of_ble_eq_true rfl) fun T21 h21 X21 e21 W21 V21 => ?_
  refine o_iload X21 hx hby d3_35 rfl (q := 37) rfl ?_
  refine o_iload X21 hx hby d3_37 rfl (q := 39) rfl ?_
  refine o_icY X21 hx hby d3_39 (flt (by decide : ¬ ((4 : Int32) < (4 : Int32)))).2.1 (by decide) (q := 64) (by decide) ?_
  refine o_aloadN X21 hx hby d3_64 rfl rfl (q := 65) rfl ?_
  refine o_iloadN X21 hx hby d3_65 rfl (q := 66) rfl ?_
  obtain ⟨T22, h22, k22, X22, e22, E22, A22, Ex22, O22, st22⟩ := newRA X21 hx hZ hown (ty := .int) (by decide +kernel) (w_ hw 33 rfl) (w_ hw 34 rfl) e21 (g := (mkF m 66 #[rv o0, rv o1, rv o2, iv 2, rv b11, rv o2, iv 4, iv 4, iv 1] [.int 2, .ref o0])) rfl (hb hby d3_66) rfl (by decide) (cap := 2) (by decide) (by decide) (by decide) (by decide) (ad := "[[I") (by decide +kernel)
  obtain ⟨b22, g22⟩ : ∃ z, z = h21.size := ⟨_, rfl⟩
  rw [← g22] at A22 Ex22 st22
  have q23 := (Nat.le_trans (Nat.le_trans (Nat.le_trans (Nat.le_trans (Nat.le_trans q12 E11.1) (Keep.of_wr W15).1) (Keep.of_wr W17).1) (Keep.of_wr W19).1) (Keep.of_wr W21).1)
  have g_b22 : n0 ≤ b22 := Nat.le_trans q23 (Nat.le_of_eq g22.symm)
  have q24 := (Nat.le_trans (Nat.le_trans (Nat.le_trans (Nat.le_trans (Nat.le_trans q13 E11.1) (Keep.of_wr W15).1) (Keep.of_wr W17).1) (Keep.of_wr W19).1) (Keep.of_wr W21).1)
  have sz_b22 : h0.size ≤ b22 := Nat.le_trans q24 (Nat.le_of_eq g22.symm)
  have V_b22 : Arv Z h22 b22 k22 (.array .int) (2 : Int32) [.null, .null] .null := (Arv.new A22 (by decide)).pad (pad_rep [] .null 2)
  refine own_of st22 ?_
  show own_Out p e below _ (T22.setTop (mkF m 69 #[rv o0, rv o1, rv o2, iv 2, rv b11, rv o2, iv 4, iv 4, iv 1] [.ref b22, .ref o0]))
  have ne_o0_b11 : o0 ≠ b11 := Nat.ne_of_lt (Nat.lt_of_lt_of_le E.lt sz_b11)
  have q26 := (((((((((F_classes.other W2 (Or.inr (slot_ne (Or.inr (w_ hw 36 rfl)) (Or.inr (w_ hw 28 rfl)) (by decide) (t := (.array (.array .int))) (t' := (.object "java/lang/String")) (by decide) (by decide)))).other W3 (Or.inr (slot_ne (Or.inr (w_ hw 36 rfl)) (Or.inr (w_ hw 30 rfl)) (by decide) (t := (.array (.array .int))) (t' := (.array .int)) (by decide) (by decide)))).other W7 (Or.inr (slot_ne (Or.inr (w_ hw 36 rfl)) (Or.inr (w_ hw 32 rfl)) (by decide) (t := (.array (.array .int))) (t' := .int) (by decide) (by decide)))).ext E11).other W15 (Or.inl ne_o0_b11)).other W17 (Or.inl ne_o0_b11)).other W19 (Or.inl ne_o0_b11)).other W21 (Or.inl ne_o0_b11)).ext E22)
  have q27 := (((((((q9.wr W7).ext E11).wr W15).wr W17).wr W19).wr W21).ext E22)
  obtain ⟨T25, h25, X25, e25, W25, st25⟩ := putF X22 hx hZ hown (host := "") (Or.inl (w_ hw 35 rfl)) Via.refl e22 q26 q27 (Or.inr ⟨(w_ hw 36 rfl), rfl, hnm⟩) (w_ hw 11 rfl) (ty := (.array (.array .int))) (by decide) rfl rfl (g := (mkF m 69 #[rv o0, rv o1, rv o2, iv 2, rv b11, rv o2, iv 4, iv 4, iv 1] [.ref b22, .ref o0])) rfl rfl (hb hby d3_69)
  have q28 := (((((((((F_classes.other W2 (Or.inr (slot_ne (Or.inr (w_ hw 36 rfl)) (Or.inr (w_ hw 28 rfl)) (by decide) (t := (.array (.array .int))) (t' := (.object "java/lang/String")) (by decide) (by decide)))).other W3 (Or.inr (slot_ne (Or.inr (w_ hw 36 rfl)) (Or.inr (w_ hw 30 rfl)) (by decide) (t := (.array (.array .int))) (t' := (.array .int)) (by decide) (by decide)))).other W7 (Or.inr (slot_ne (Or.inr (w_ hw 36 rfl)) (Or.inr (w_ hw 32 rfl)) (by decide) (t := (.array (.array .int))) (t' := .int) (by decide) (by decide)))).ext E11).other W15 (Or.inl ne_o0_b11)).other W17 (Or.inl ne_o0_b11)).other W19 (Or.inl ne_o0_b11)).other W21 (Or.inl ne_o0_b11)).ext E22)
  have Fw25 := q28.same W25
  refine own_of st25 ?_
  show own_Out p e below _ (T25.setTop (mkF m 72 #[rv o0, rv o1, rv o2, iv 2, rv b11, rv o2, iv 4, iv 4, iv 1] []))
  refine o_iconst X25 hx hby d3_72 (z := 0) rfl (q := 73) rfl ?_
  refine o_istore X25 hx hby d3_73 (l' := #[rv o0, rv o1, rv o2, iv 2, rv b11, iv 0, iv 4, iv 4, iv 1]) rfl (q := 75) rfl ?_
  refine o_iload X25 hx hby d3_75 rfl (q := 77) rfl ?_
  refine o_iloadN X25 hx hby d3_77 rfl (q := 78) rfl ?_
  refine o_icN X25 hx hby d3_78 (tlt (by decide : (0 : Int32) < (2 : Int32))).2.1 (q := 81) rfl ?_
  refine o_aloadN X25 hx hby d3_81 rfl rfl (q := 82) rfl ?_
  refine o_getF X25 hx hZ hown hby (w_ hw 35 rfl) Via.refl e25 Fw25 d3_82 (q := 85) rfl fun T29 X29 e29 => ?_
  refine o_iload X29 hx hby d3_85 rfl (q := 87) rfl ?_
  refine o_aload X29 hx hby d3_87 rfl rfl (q := 89) rfl ?_
  refine o_iload X29 hx hby d3_89 rfl (q := 91) rfl ?_
  have q30 := ((V21.ext E22).other W25 (Ne.symm ne_o0_b11))
  refine o_iaV X29 hx hby hZ e29 q30 ⟨by decide, by decide⟩ (v := .int 1) rfl d3_91 (q := 92) rfl ?_
  obtain ⟨T31, h31, k31, X31, e31, E31, A31, Ex31, st31⟩ := newPE X29 hx hZ (w_ hw 5 rfl) e29 (g := (mkF m 92 #[rv o0, rv o1, rv o2, iv 2, rv b11, iv 0, iv 4, iv 4, iv 1] [.int 1, .int 0, .ref b22])) rfl (hb hby d3_92) rfl (by decide) (cap := 1) (by decide) (by decide) (by decide) (by decide) (ad := "[I") (by decide +kernel)
  obtain ⟨b31, g31⟩ : ∃ z, z = h25.size := ⟨_, rfl⟩
  rw [← g31] at A31 Ex31 st31
  have q32 := (Nat.le_trans (Nat.le_trans q23 E22.1) (Keep.of_wr W25).1)
  have g_b31 : n0 ≤ b31 := Nat.le_trans q32 (Nat.le_of_eq g31.symm)
  have q33 := (Nat.le_trans (Nat.le_trans q24 E22.1) (Keep.of_wr W25).1)
  have sz_b31 : h0.size ≤ b31 := Nat.le_trans q33 (Nat.le_of_eq g31.symm)
  have V_b31 : Arv Z h31 b31 k31 .int (1 : Int32) [(.int (0 : Int32))] (.int (0 : Int32)) := (Arv.new A31 (by decide)).pad (pad_rep [] (.int (0 : Int32)) 1)
  refine own_of st31 ?_
  show own_Out p e below _ (T31.setTop (mkF m 94 #[rv o0, rv o1, rv o2, iv 2, rv b11, iv 0, iv 4, iv 4, iv 1] [.ref b31, .int 0, .ref b22]))
  have ne_o0_b22 : o0 ≠ b22 := Nat.ne_of_lt (Nat.lt_of_lt_of_le E.lt sz_b22)
  have q34 := ((V_b22.other W25 (Ne.symm ne_o0_b22)).ext E31)
  refine o_stVR X31 hx hby hZ e31 q34 ⟨by decide, by decide⟩ 0 rfl (Nat.le_of_ble_eq_true rfl) O22 (Ins.self Ex31) d3_94 (q := 95) rfl fun T35 h35 X35 e35 W35 V35 => ?_
  refine o_iinc X35 hx hby d3_95 rfl (l' := #[rv o0, rv o1, rv o2, iv 2, rv b11, iv 1, iv 4, iv 4, iv 1]) rfl (q := 98) rfl ?_
  refine o_goto X35 hx hby d3_98 (by decide) (q := 75) (by decide) ?_
  refine o_iload X35 hx hby d3_75 rfl (q := 77) rfl ?_
  refine o_iloadN X35 hx hby d3_77 rfl (q := 78) rfl ?_
  refine o_icN X35 hx hby d3_78 (tlt (by decide : (1 : Int32) < (2 : Int32))).2.1 (q := 81) rfl ?_
  refine o_aloadN X35 hx hby d3_81 rfl rfl (q := 82) rfl ?_
  have q37 := ((Fw25.ext E31).other W35 (Or.inl ne_o0_b22))
  refine o_getF X35 hx hZ hown hby (w_ hw 35 rfl) Via.refl e35 q37 d3_82 (q := 85) rfl fun T36 X36 e36 => ?_
  refine o_iload X36 hx hby d3_85 rfl (q := 87) rfl ?_
  refine o_aload X36 hx hby d3_87 rfl rfl (q := 89) rfl ?_
  refine o_iload X36 hx hby d3_89 rfl (q := 91) rfl ?_
  have ne_b11_b22 : b11 ≠ b22 := Nat.ne_of_lt (Nat.lt_of_lt_of_le (Nat.lt_of_lt_of_le (Nat.lt_of_lt_of_le (Nat.lt_of_lt_of_le (Nat.lt_of_lt_of_le A11.lt (Keep.of_wr W15).1) (Keep.of_wr W17).1) (Keep.of_wr W19).1) (Keep.of_wr W21).1) (Nat.le_of_eq g22.symm))
  have q38 := ((q30.ext E31).other W35 ne_b11_b22)
  refine o_iaV X36 hx hby hZ e36 q38 ⟨by decide, by decide⟩ (v := .int 3) rfl d3_91 (q := 92) rfl ?_
  obtain ⟨T39, h39, k39, X39, e39, E39, A39, Ex39, st39⟩ := newPE X36 hx hZ (w_ hw 5 rfl) e36 (g := (mkF m 92 #[rv o0, rv o1, rv o2, iv 2, rv b11, iv 1, iv 4, iv 4, iv 1] [.int 3, .int 1, .ref b22])) rfl (hb hby d3_92) rfl (by decide) (cap := 3) (by decide) (by decide) (by decide) (by decide) (ad := "[I") (by decide +kernel)
  obtain ⟨b39, g39⟩ : ∃ z, z = h35.size := ⟨_, rfl⟩
  rw [← g39] at A39 Ex39 st39
  have q40 := (Nat.le_trans (Nat.le_trans q32 E31.1) (Keep.of_wr W35).1)
  have g_b39 : n0 ≤ b39 := Nat.le_trans q40 (Nat.le_of_eq g39.symm)
  have q41 := (Nat.le_trans (Nat.le_trans q33 E31.1) (Keep.of_wr W35).1)
  have sz_b39 : h0.size ≤ b39 := Nat.le_trans q41 (Nat.le_of_eq g39.symm)
  have V_b39 : Arv Z h39 b39 k39 .int (3 : Int32) [(.int (0 : Int32)), (.int (0 : Int32)), (.int (0 : Int32))] (.int (0 : Int32)) := (Arv.new A39 (by decide)).pad (pad_rep [] (.int (0 : Int32)) 3)
  refine own_of st39 ?_
  show own_Out p e below _ (T39.setTop (mkF m 94 #[rv o0, rv o1, rv o2, iv 2, rv b11, iv 1, iv 4, iv 4, iv 1] [.ref b39, .int 1, .ref b22]))
  have q42 := (V35.ext E39)
  refine o_stVR X39 hx hby hZ e39 q42 ⟨by decide, by decide⟩ 1 rfl (Nat.le_of_ble_eq_true rfl) O22 (Ins.self Ex39) d3_94 (q := 95) rfl fun T43 h43 X43 e43 W43 V43 => ?_
  refine o_iinc X43 hx hby d3_95 rfl (l' := #[rv o0, rv o1, rv o2, iv 2, rv b11, iv 2, iv 4, iv 4, iv 1]) rfl (q := 98) rfl ?_
  refine o_goto X43 hx hby d3_98 (by decide) (q := 75) (by decide) ?_
  refine o_iload X43 hx hby d3_75 rfl (q := 77) rfl ?_
  refine o_iloadN X43 hx hby d3_77 rfl (q := 78) rfl ?_
  refine o_icY X43 hx hby d3_78 (flt (by decide : ¬ ((2 : Int32) < (2 : Int32)))).2.1 (by decide) (q := 101) (by decide) ?_
  refine o_iloadN X43 hx hby d3_101 rfl (q := 102) rfl ?_
  obtain ⟨T44, h44, k44, X44, e44, E44, A44, Ex44, st44⟩ := newPE X43 hx hZ (w_ hw 5 rfl) e43 (g := (mkF m 102 #[rv o0, rv o1, rv o2, iv 2, rv b11, iv 2, iv 4, iv 4, iv 1] [.int 2])) rfl (hb hby d3_102) rfl (by decide) (cap := 2) (by decide) (by decide) (by decide) (by decide) (ad := "[I") (by decide +kernel)
  obtain ⟨b44, g44⟩ : ∃ z, z = h43.size := ⟨_, rfl⟩
  rw [← g44] at A44 Ex44 st44
  have q45 := (Nat.le_trans (Nat.le_trans q40 E39.1) (Keep.of_wr W43).1)
  have g_b44 : n0 ≤ b44 := Nat.le_trans q45 (Nat.le_of_eq g44.symm)
  have q46 := (Nat.le_trans (Nat.le_trans q41 E39.1) (Keep.of_wr W43).1)
  have sz_b44 : h0.size ≤ b44 := Nat.le_trans q46 (Nat.le_of_eq g44.symm)
  have V_b44 : Arv Z h44 b44 k44 .int (2 : Int32) [(.int (0 : Int32)), (.int (0 : Int32))] (.int (0 : Int32)) := (Arv.new A44 (by decide)).pad (pad_rep [] (.int (0 : Int32)) 2)
  refine own_of st44 ?_
  show own_Out p e below _ (T44.setTop (mkF m 104 #[rv o0, rv o1, rv o2, iv 2, rv b11, iv 2, iv 4, iv 4, iv 1] [.ref b44]))
  refine o_astore X44 hx hby d3_104 rfl (l' := #[rv o0, rv o1, rv o2, iv 2, rv b11, rv b44, iv 4, iv 4, iv 1]) rfl (q := 106) rfl ?_
  refine o_iconst X44 hx hby d3_106 (z := 0) rfl (q := 107) rfl ?_
  refine o_istore X44 hx hby d3_107 (l' := #[rv o0, rv o1, rv o2, iv 2, rv b11, rv b44, iv 0, iv 4, iv 1]) rfl (q := 109) rfl ?_
  have ne_o2_b22 : o2 ≠ b22 := Nat.ne_of_lt (Nat.lt_of_lt_of_le V.lt sz_b22)
  have q49 := ((((((((q20.other W21 ne_o2_b11).ext E22).other W25 n2).ext E31).other W35 ne_o2_b22).ext E39).other W43 ne_o2_b22).ext E44)
  have q50 := (((q37.ext E39).other W43 (Or.inl ne_o0_b22)).ext E44)
  have q51 := (V43.ext E44)
  have ne_b22_b31 : b22 ≠ b31 := Nat.ne_of_lt (Nat.lt_of_lt_of_le (Nat.lt_of_lt_of_le A22.lt (Keep.of_wr W25).1) (Nat.le_of_eq g31.symm))
  have q52 := ((((V_b31.other W35 (Ne.symm ne_b22_b31)).ext E39).other W43 (Ne.symm ne_b22_b31)).ext E44)
  have ne_b31_b44 : b31 ≠ b44 := Nat.ne_of_lt (Nat.lt_of_lt_of_le (Nat.lt_of_lt_of_le (Nat.lt_of_lt_of_le (Nat.lt_of_lt_of_le A31.lt (Keep.of_wr W35).1) E39.1) (Keep.of_wr W43).1) (Nat.le_of_eq g44.symm))
  refine t3 X44 hx hby hZ e44 hw hown q49 q50 q51 V_b44 q52 ne_b31_b44 ⟨by decide, by decide⟩ (x := 0) rfl ⟨by decide, by decide⟩ rfl (f := 0) rfl ⟨by decide, by decide⟩ (f' := 1) rfl (i' := 1) rfl (iN := 0) rfl (Nat.le_of_ble_eq_true rfl) (jN := 0) rfl (Nat.le_of_ble_eq_true rfl) fun T48 h47 h48 X48 e48 W47 W48 V47 V48 => ?_
  have ne_o2_b44 : o2 ≠ b44 := Nat.ne_of_lt (Nat.lt_of_lt_of_le V.lt sz_b44)
  have ne_o2_b31 : o2 ≠ b31 := Nat.ne_of_lt (Nat.lt_of_lt_of_le V.lt sz_b31)
  have q55 := ((q49.other W47 ne_o2_b44).other W48 ne_o2_b31)
  have ne_o0_b44 : o0 ≠ b44 := Nat.ne_of_lt (Nat.lt_of_lt_of_le E.lt sz_b44)
  have ne_o0_b31 : o0 ≠ b31 := Nat.ne_of_lt (Nat.lt_of_lt_of_le E.lt sz_b31)
  have q56 := ((q50.other W47 (Or.inl ne_o0_b44)).other W48 (Or.inl ne_o0_b31))
  have ne_b22_b44 : b22 ≠ b44 := Nat.ne_of_lt (Nat.lt_of_lt_of_le (Nat.lt_of_lt_of_le (Nat.lt_of_lt_of_le (Nat.lt_of_lt_of_le (Nat.lt_of_lt_of_le (Nat.lt_of_lt_of_le A22.lt (Keep.of_wr W25).1) E31.1) (Keep.of_wr W35).1) E39.1) (Keep.of_wr W43).1) (Nat.le_of_eq g44.symm))
  have q57 := ((q51.other W47 ne_b22_b44).other W48 ne_b22_b31)
  have q58 := (V47.other W48 (Ne.symm ne_b31_b44))
  have ne_b22_b39 : b22 ≠ b39 := Nat.ne_of_lt (Nat.lt_of_lt_of_le (Nat.lt_of_lt_of_le (Nat.lt_of_lt_of_le (Nat.lt_of_lt_of_le A22.lt (Keep.of_wr W25).1) E31.1) (Keep.of_wr W35).1) (Nat.le_of_eq g39.symm))
  have ne_b39_b44 : b39 ≠ b44 := Nat.ne_of_lt (Nat.lt_of_lt_of_le (Nat.lt_of_lt_of_le A39.lt (Keep.of_wr W43).1) (Nat.le_of_eq g44.symm))
  have ne_b31_b39 : b31 ≠ b39 := Nat.ne_of_lt (Nat.lt_of_lt_of_le (Nat.lt_of_lt_of_le A31.lt (Keep.of_wr W35).1) (Nat.le_of_eq g39.symm))
  have q59 := ((((V_b39.other W43 (Ne.symm ne_b22_b39)).ext E44).other W47 ne_b39_b44).other W48 (Ne.symm ne_b31_b39))
  refine t3 X48 hx hby hZ e48 hw hown q55 q56 q57 q58 q59 ne_b39_b44 ⟨by decide, by decide⟩ (x := 1) rfl ⟨by decide, by decide⟩ rfl (f := 0) rfl ⟨by decide, by decide⟩ (f' := 1) rfl (i' := 2) rfl (iN := 1) rfl (Nat.le_of_ble_eq_true rfl) (jN := 0) rfl (Nat.le_of_ble_eq_true rfl) fun T54 h53 h54 X54 e54 W53 W54 V53 V54 => ?_
  have ne_o2_b39 : o2 ≠ b39 := Nat.ne_of_lt (Nat.lt_of_lt_of_le V.lt sz_b39)
  have q62 := ((q55.other W53 ne_o2_b44).other W54 ne_o2_b39)
  have ne_o0_b39 : o0 ≠ b39 := Nat.ne_of_lt (Nat.lt_of_lt_of_le E.lt sz_b39)
  have q63 := ((q56.other W53 (Or.inl ne_o0_b44)).other W54 (Or.inl ne_o0_b39))
  have q64 := ((q57.other W53 ne_b22_b44).other W54 ne_b22_b39)
  have q65 := (V53.other W54 (Ne.symm ne_b39_b44))
  refine t3 X54 hx hby hZ e54 hw hown q62 q63 q64 q65 V54 ne_b39_b44 ⟨by decide, by decide⟩ (x := 1) rfl ⟨by decide, by decide⟩ rfl (f := 1) rfl ⟨by decide, by decide⟩ (f' := 2) rfl (i' := 3) rfl (iN := 1) rfl (Nat.le_of_ble_eq_true rfl) (jN := 1) rfl (Nat.le_of_ble_eq_true rfl) fun T61 h60 h61 X61 e61 W60 W61 V60 V61 => ?_
  have q68 := ((q62.other W60 ne_o2_b44).other W61 ne_o2_b39)
  have q69 := ((q63.other W60 (Or.inl ne_o0_b44)).other W61 (Or.inl ne_o0_b39))
  have q70 := ((q64.other W60 ne_b22_b44).other W61 ne_b22_b39)
  have q71 := (V60.other W61 (Ne.symm ne_b39_b44))
  refine t3 X61 hx hby hZ e61 hw hown q68 q69 q70 q71 V61 ne_b39_b44 ⟨by decide, by decide⟩ (x := 1) rfl ⟨by decide, by decide⟩ rfl (f := 2) rfl ⟨by decide, by decide⟩ (f' := 3) rfl (i' := 4) rfl (iN := 1) rfl (Nat.le_of_ble_eq_true rfl) (jN := 2) rfl (Nat.le_of_ble_eq_true rfl) fun T67 h66 h67 X67 e67 W66 W67 V66 V67 => ?_
  refine o_iload X67 hx hby d3_109 rfl (q := 111) rfl ?_
  refine o_aloadN X67 hx hby d3_111 rfl rfl (q := 112) rfl ?_
  have q72 := ((q68.other W66 ne_o2_b44).other W67 ne_o2_b39)
  refine o_lenV X67 hx hby hZ e67 q72 d3_112 (q := 113) rfl ?_
  refine o_icY X67 hx hby d3_113 (flt (by decide : ¬ ((4 : Int32) < (4 : Int32)))).2.1 (by decide) (q := 146) (by decide) ?_
  have q73 := ((((((((((((((((((((((((Keep.refl h0 [o0]).wr W2 (Or.inl (List.mem_of_getElem? (i := 0) rfl))).wr W3 (Or.inl (List.mem_of_getElem? (i := 0) rfl))).wr W7 (Or.inl (List.mem_of_getElem? (i := 0) rfl))).ext E11).wr W15 (Or.inr sz_b11)).wr W17 (Or.inr sz_b11)).wr W19 (Or.inr sz_b11)).wr W21 (Or.inr sz_b11)).ext E22).wr W25 (Or.inl (List.mem_of_getElem? (i := 0) rfl))).ext E31).wr W35 (Or.inr sz_b22)).ext E39).wr W43 (Or.inr sz_b22)).ext E44).wr W47 (Or.inr sz_b44)).wr W48 (Or.inr sz_b31)).wr W53 (Or.inr sz_b44)).wr W54 (Or.inr sz_b39)).wr W60 (Or.inr sz_b44)).wr W61 (Or.inr sz_b39)).wr W66 (Or.inr sz_b44)).wr W67 (Or.inr sz_b39))
  have q74 := ((((((((((((((q27.wr W25).ext E31).wr W35).ext E39).wr W43).ext E44).wr W47).wr W48).wr W53).wr W54).wr W60).wr W61).wr W66).wr W67)
  have q75 := (((((((((((((((((((((Fw3.other W7 (Or.inr (slot_ne (Or.inr (w_ hw 30 rfl)) (Or.inr (w_ hw 32 rfl)) (by decide) (t := (.array .int)) (t' := .int) (by decide) (by decide)))).ext E11).other W15 (Or.inl ne_o0_b11)).other W17 (Or.inl ne_o0_b11)).other W19 (Or.inl ne_o0_b11)).other W21 (Or.inl ne_o0_b11)).ext E22).other W25 (Or.inr (slot_ne (Or.inr (w_ hw 30 rfl)) (Or.inr (w_ hw 36 rfl)) (by decide) (t := (.array .int)) (t' := (.array (.array .int))) (by decide) (by decide)))).ext E31).other W35 (Or.inl ne_o0_b22)).ext E39).other W43 (Or.inl ne_o0_b22)).ext E44).other W47 (Or.inl ne_o0_b44)).other W48 (Or.inl ne_o0_b31)).other W53 (Or.inl ne_o0_b44)).other W54 (Or.inl ne_o0_b39)).other W60 (Or.inl ne_o0_b44)).other W61 (Or.inl ne_o0_b39)).other W66 (Or.inl ne_o0_b44)).other W67 (Or.inl ne_o0_b39))
  have q76 := ((((((((((((((((((((Fw7.ext E11).other W15 (Or.inl ne_o0_b11)).other W17 (Or.inl ne_o0_b11)).other W19 (Or.inl ne_o0_b11)).other W21 (Or.inl ne_o0_b11)).ext E22).other W25 (Or.inr (slot_ne (Or.inr (w_ hw 32 rfl)) (Or.inr (w_ hw 36 rfl)) (by decide) (t := .int) (t' := (.array (.array .int))) (by decide) (by decide)))).ext E31).other W35 (Or.inl ne_o0_b22)).ext E39).other W43 (Or.inl ne_o0_b22)).ext E44).other W47 (Or.inl ne_o0_b44)).other W48 (Or.inl ne_o0_b31)).other W53 (Or.inl ne_o0_b44)).other W54 (Or.inl ne_o0_b39)).other W60 (Or.inl ne_o0_b44)).other W61 (Or.inl ne_o0_b39)).other W66 (Or.inl ne_o0_b44)).other W67 (Or.inl ne_o0_b39))
  exact own_outV X67 hx hlk hret (hb hby d3_146) (Q := Q3c0111n2 Z o0 o1 o2 k2 h0 n0) (by rw [e67]; exact ⟨rfl, (Fr.snoc X67 (own_snoc (Fr.snoc X61 (own_snoc (Fr.snoc X54 (own_snoc (Fr.snoc X48 (own_snoc (Fr.snoc X43 (Fr.snoc X35 (Fr.snoc X25 (Fr.snoc X21 (Fr.snoc X19 (Fr.snoc X17 (Fr.snoc X15 (Fr.snoc X7 (Fr.snoc X3 (Fr.snoc X2 N0 g_o0) g_o0) g_o0) g_b11) g_b11) g_b11) g_b11) g_o0) g_b22) g_b22) g_b44) g_b31) g_b44) g_b39) g_b44) g_b39) g_b44) g_b39), q73, q74, q75, q76⟩) (by decide) (by decide)
theorem ef_3c0112n3 (m : MethodId) (x0 : Addr) (x1 : Addr) (x2 : Addr) : entryFrame m #[(.ref x0), (.ref x1), (.ref x2), (.int (3 : Int32))] 9 = mkF m 0 #[.val (.ref x0), .val (.ref x1), .val (.ref x2), .val (.int (3 : Int32)), .unset, .unset, .unset, .unset, .unset] [] := by first | (simp [entryFrame, mkF, argsToLocals, Value.category]; done) | rfl
def Q3c0112n3 (Z : State) (o0 : Addr) (o1 : Addr) (o2 : Addr) (k2 : ClassId) (h0 : Heap) (n0 : Nat) (v : Option Value) (h : Heap) (L : List Loc) : Prop := v = none ∧ Fr n0 L ∧ Keep h0 h [o0] ∧ Exa Z h o0 "com/example/slimc/slimc/game/Observation" ∧ Fld Z h o0 "com/example/slimc/slimc/game/Observation" "classOf" "[I" (.ref o2) ∧ Fld Z h o0 "com/example/slimc/slimc/game/Observation" "classCount" "I" (.int (3 : Int32))
set_option maxRecDepth 65536 in
set_option maxHeartbeats 40000000 in
theorem rm3c0112n3 (l : Launch) (Z : State) (a0 : Array Value) (hw : ∀ d ∈ tables_1, d.before a0 Z = true) (ws : List Jvm.Cond) (o0 : Addr) (o1 : Addr) (o2 : Addr) (k2 : ClassId) (h0 : Heap) (n0 : Nat) (Z0 : n0 ≤ h0.size) (E : Exa Z h0 o0 "com/example/slimc/slimc/game/Observation") (F_name : Fld Z h0 o0 "com/example/slimc/slimc/game/Observation" "name" "Ljava/lang/String;" .null) (F_classOf : Fld Z h0 o0 "com/example/slimc/slimc/game/Observation" "classOf" "[I" .null) (F_classCount : Fld Z h0 o0 "com/example/slimc/slimc/game/Observation" "classCount" "I" (.int (0 : Int32))) (F_classes : Fld Z h0 o0 "com/example/slimc/slimc/game/Observation" "classes" "[[I" .null) (g_o0 : n0 ≤ o0) (V : Arv Z h0 o2 k2 .int (4 : Int32) [(.int (0 : Int32)), (.int (1 : Int32)), (.int (1 : Int32)), (.int (2 : Int32))] (.int (0 : Int32))) (n2 : o2 ≠ o0) :
    MetFree l (⟨"com/example/slimc/slimc/game/Observation", "<init>", "(Ljava/lang/String;[II)V"⟩ : MethodName) (head1 (Jvm.Cond.code (⟨"com/example/slimc/slimc/game/Observation", "<init>", "(Ljava/lang/String;[II)V"⟩ : MethodName) prog_66_method_1_code 9 none :: ws) ({ frames := 1, cells := 7, slots := 16, locals := 14 } : Room)) (fun a U => a = #[(.ref o0), (.ref o1), (.ref o2), (.int (3 : Int32))] ∧ Z.Warmed39 U.vm ∧ U.heap = h0) (fun _ _ _ _ _ => True) (fun _ U o U' => ∃ v L, o = .returned v ∧ Q3c0112n3 Z o0 o1 o2 k2 h0 n0 v U'.heap L ∧ FrameEnd U o U' L ({ frames := 1, cells := 7, slots := 16, locals := 14 } : Room).cells ({ frames := 1, cells := 7, slots := 16, locals := 14 } : Room).slots) := by
  refine MetFree.of_bodySF (plainFor_of_name pn_1) hisR ?_
  intro p e s m args below meth c s₁ Bd hml0 hP hK
  obtain ⟨rfl, hZ, hh⟩ := hP
  have hx := Bd.exec
  have hby := Bd.bytes
  have hml : c.maxLocals = 9 := hml0
  have hown : s.vm.findClass "com/example/slimc/slimc/game/Observation" = some m.cls := findClass_of_methodNamed Bd.named
  have hnm := (name_of_methodNamed Bd.named Bd.method).1
  have X0 : Stand p l e ({ frames := 1, cells := 7, slots := 16, locals := 14 } : Room) s m #[(.ref o0), (.ref o1), (.ref o2), (.int (3 : Int32))] below meth c s₁ [] 0 0 := Stand.of_body Bd
  have e0 : s₁.heap = h0 := by rw [← hh, Bd.state]; rfl
  have N0 := Fr.nil n0
  have hret := Bd.returns
  have hlk := BodyLoose.notSynchronized Bd
  show own_Out p e below (fun o U' => ∃ v L, o = .returned v ∧ Q3c0112n3 Z o0 o1 o2 k2 h0 n0 v U'.heap L ∧ FrameEnd s o U' L ({ frames := 1, cells := 7, slots := 16, locals := 14 } : Room).cells ({ frames := 1, cells := 7, slots := 16, locals := 14 } : Room).slots) (s₁.setTop (entryFrame m #[(.ref o0), (.ref o1), (.ref o2), (.int (3 : Int32))] 9))
  refine own_of (fun t k => castTop (ef_3c0112n3 m o0 o1 o2) k) ?_
  show own_Out p e below _ (s₁.setTop (mkF m 0 #[rv o0, rv o1, rv o2, iv 3, .unset, .unset, .unset, .unset, .unset] []))
  refine o_aloadN X0 hx hby d3_0 rfl rfl (q := 1) rfl ?_
  obtain ⟨T1, X1, e1, st1⟩ := initO X0 hx hZ hown (w_ hw 24 rfl) (w_ hw 25 rfl) (w_ hw 26 rfl) e0 (g := (mkF m 1 #[rv o0, rv o1, rv o2, iv 3, .unset, .unset, .unset, .unset, .unset] [.ref o0])) rfl (by rw [hml]; rfl) rfl (hb hby d3_1) (by decide) (W := 0) (by show 2 * 0 + _ ≤ _; exact Nat.le_of_eq rfl) (by decide)
  refine own_of st1 ?_
  show own_Out p e below _ (T1.setTop (mkF m 4 #[rv o0, rv o1, rv o2, iv 3, .unset, .unset, .unset, .unset, .unset] []))
  refine o_aloadN X1 hx hby d3_4 rfl rfl (q := 5) rfl ?_
  refine o_aloadN X1 hx hby d3_5 rfl rfl (q := 6) rfl ?_
  obtain ⟨T2, h2, X2, e2, W2, st2⟩ := putF X1 hx hZ hown (host := "") (Or.inl (w_ hw 27 rfl)) Via.refl e1 F_name E (Or.inr ⟨(w_ hw 28 rfl), rfl, hnm⟩) (w_ hw 11 rfl) (ty := (.object "java/lang/String")) (by decide) rfl rfl (g := (mkF m 6 #[rv o0, rv o1, rv o2, iv 3, .unset, .unset, .unset, .unset, .unset] [.ref o1, .ref o0])) rfl rfl (hb hby d3_6)
  have Fw2 := F_name.same W2
  refine own_of st2 ?_
  show own_Out p e below _ (T2.setTop (mkF m 9 #[rv o0, rv o1, rv o2, iv 3, .unset, .unset, .unset, .unset, .unset] []))
  refine o_aloadN X2 hx hby d3_9 rfl rfl (q := 10) rfl ?_
  refine o_aloadN X2 hx hby d3_10 rfl rfl (q := 11) rfl ?_
  have q4 := (F_classOf.other W2 (Or.inr (slot_ne (Or.inr (w_ hw 30 rfl)) (Or.inr (w_ hw 28 rfl)) (by decide) (t := (.array .int)) (t' := (.object "java/lang/String")) (by decide) (by decide))))
  have q5 := (E.wr W2)
  obtain ⟨T3, h3, X3, e3, W3, st3⟩ := putF X2 hx hZ hown (host := "") (Or.inl (w_ hw 29 rfl)) Via.refl e2 q4 q5 (Or.inr ⟨(w_ hw 30 rfl), rfl, hnm⟩) (w_ hw 11 rfl) (ty := (.array .int)) (by decide) rfl rfl (g := (mkF m 11 #[rv o0, rv o1, rv o2, iv 3, .unset, .unset, .unset, .unset, .unset] [.ref o2, .ref o0])) rfl rfl (hb hby d3_11)
  have q6 := (F_classOf.other W2 (Or.inr (slot_ne (Or.inr (w_ hw 30 rfl)) (Or.inr (w_ hw 28 rfl)) (by decide) (t := (.array .int)) (t' := (.object "java/lang/String")) (by decide) (by decide))))
  have Fw3 := q6.same W3
  refine own_of st3 ?_
  show own_Out p e below _ (T3.setTop (mkF m 14 #[rv o0, rv o1, rv o2, iv 3, .unset, .unset, .unset, .unset, .unset] []))
  refine o_aloadN X3 hx hby d3_14 rfl rfl (q := 15) rfl ?_
  refine o_iloadN X3 hx hby d3_15 rfl (q := 16) rfl ?_
  have q8 := ((F_classCount.other W2 (Or.inr (slot_ne (Or.inr (w_ hw 32 rfl)) (Or.inr (w_ hw 28 rfl)) (by decide) (t := .int) (t' := (.object "java/lang/String")) (by decide) (by decide)))).other W3 (Or.inr (slot_ne (Or.inr (w_ hw 32 rfl)) (Or.inr (w_ hw 30 rfl)) (by decide) (t := .int) (t' := (.array .int)) (by decide) (by decide))))
  have q9 := (q5.wr W3)
  obtain ⟨T7, h7, X7, e7, W7, st7⟩ := putF X3 hx hZ hown (host := "") (Or.inl (w_ hw 31 rfl)) Via.refl e3 q8 q9 (Or.inr ⟨(w_ hw 32 rfl), rfl, hnm⟩) (w_ hw 11 rfl) (ty := .int) (by decide) rfl rfl (g := (mkF m 16 #[rv o0, rv o1, rv o2, iv 3, .unset, .unset, .unset, .unset, .unset] [.int 3, .ref o0])) rfl rfl (hb hby d3_16)
  have q10 := ((F_classCount.other W2 (Or.inr (slot_ne (Or.inr (w_ hw 32 rfl)) (Or.inr (w_ hw 28 rfl)) (by decide) (t := .int) (t' := (.object "java/lang/String")) (by decide) (by decide)))).other W3 (Or.inr (slot_ne (Or.inr (w_ hw 32 rfl)) (Or.inr (w_ hw 30 rfl)) (by decide) (t := .int) (t' := (.array .int)) (by decide) (by decide))))
  have Fw7 := q10.same W7
  refine own_of st7 ?_
  show own_Out p e below _ (T7.setTop (mkF m 19 #[rv o0, rv o1, rv o2, iv 3, .unset, .unset, .unset, .unset, .unset] []))
  refine o_iloadN X7 hx hby d3_19 rfl (q := 20) rfl ?_
  obtain ⟨T11, h11, k11, X11, e11, E11, A11, Ex11, st11⟩ := newPE X7 hx hZ (w_ hw 5 rfl) e7 (g := (mkF m 20 #[rv o0, rv o1, rv o2, iv 3, .unset, .unset, .unset, .unset, .unset] [.int 3])) rfl (hb hby d3_20) rfl (by decide) (cap := 3) (by decide) (by decide) (by decide) (by decide) (ad := "[I") (by decide +kernel)
  obtain ⟨b11, g11⟩ : ∃ z, z = h7.size := ⟨_, rfl⟩
  rw [← g11] at A11 Ex11 st11
  have q12 := (Nat.le_trans (Nat.le_trans (Nat.le_trans Z0 (Keep.of_wr W2).1) (Keep.of_wr W3).1) (Keep.of_wr W7).1)
  have g_b11 : n0 ≤ b11 := Nat.le_trans q12 (Nat.le_of_eq g11.symm)
  have q13 := (Nat.le_trans (Nat.le_trans (Nat.le_trans (Nat.le_refl h0.size) (Keep.of_wr W2).1) (Keep.of_wr W3).1) (Keep.of_wr W7).1)
  have sz_b11 : h0.size ≤ b11 := Nat.le_trans q13 (Nat.le_of_eq g11.symm)
  have V_b11 : Arv Z h11 b11 k11 .int (3 : Int32) [(.int (0 : Int32)), (.int (0 : Int32)), (.int (0 : Int32))] (.int (0 : Int32)) := (Arv.new A11 (by decide)).pad (pad_rep [] (.int (0 : Int32)) 3)
  refine own_of st11 ?_
  show own_Out p e below _ (T11.setTop (mkF m 22 #[rv o0, rv o1, rv o2, iv 3, .unset, .unset, .unset, .unset, .unset] [.ref b11]))
  refine o_astore X11 hx hby d3_22 rfl (l' := #[rv o0, rv o1, rv o2, iv 3, rv b11, .unset, .unset, .unset, .unset]) rfl (q := 24) rfl ?_
  refine o_aloadN X11 hx hby d3_24 rfl rfl (q := 25) rfl ?_
  refine o_astore X11 hx hby d3_25 rfl (l' := #[rv o0, rv o1, rv o2, iv 3, rv b11, rv o2, .unset, .unset, .unset]) rfl (q := 27) rfl ?_
  refine o_aload X11 hx hby d3_27 rfl rfl (q := 29) rfl ?_
  have q14 := ((((V.other W2 n2).other W3 n2).other W7 n2).ext E11)
  refine o_lenV X11 hx hby hZ e11 q14 d3_29 (q := 30) rfl ?_
  refine o_istore X11 hx hby d3_30 (l' := #[rv o0, rv o1, rv o2, iv 3, rv b11, rv o2, iv 4, .unset, .unset]) rfl (q := 32) rfl ?_
  refine o_iconst X11 hx hby d3_32 (z := 0) rfl (q := 33) rfl ?_
  refine o_istore X11 hx hby d3_33 (l' := #[rv o0, rv o1, rv o2, iv 3, rv b11, rv o2, iv 4, iv 0, .unset]) rfl (q := 35) rfl ?_
  refine t1 X11 hx hby hZ e11 q14 V_b11 rfl ⟨by decide, by decide⟩ (cc := 0) rfl ⟨by decide, by decide⟩ (y := 0) rfl (y' := 1) rfl (i' := 1) rfl (iN := 0) rfl (Nat.le_of_ble_eq_true rfl) fun T15 h15 X15 e15 W15 V15 => ?_
  have ne_o2_b11 : o2 ≠ b11 := Nat.ne_of_lt (Nat.lt_of_lt_of_le V.lt sz_b11)
  have q16 := (q14.other W15 ne_o2_b11)
  refine t1 X15 hx hby hZ e15 q16 V15 rfl ⟨by decide, by decide⟩ (cc := 1) rfl ⟨by decide, by decide⟩ (y := 0) rfl (y' := 1) rfl (i' := 2) rfl (iN := 1) rfl (Nat.le_of_ble_eq_true rfl) fun T17 h17 X17 e17 W17 V17 => ?_
  have q18 := (q16.other W17 ne_o2_b11)
  refine t1 X17 hx hby hZ e17 q18 V17 rfl ⟨by decide, by decide⟩ (cc := 1) rfl ⟨by decide, by decide⟩ (y := 1) rfl (y' := 2) rfl (i' := 3) rfl (iN := 1) rfl (Nat.le_of_ble_eq_true rfl) fun T19 h19 X19 e19 W19 V19 => ?_
  have q20 := (q18.other W19 ne_o2_b11)
  refine t1 X19 hx hby hZ e19 q20 V19 rfl ⟨by decide, by decide⟩ (cc := 2) rfl ⟨by decide, by decide⟩ (y := 0) rfl (y' := 1) rfl (i' := 4) rfl (iN := 2) rfl (Nat.le_of_ble_eq_true rfl) fun T21 h21 X21 e21 W21 V21 => ?_
  refine o_iload X21 hx hby d3_35 rfl (q := 37) rfl ?_
  refine o_iload X21 hx hby d3_37 rfl (q := 39) rfl ?_
  refine o_icY X21 hx hby d3_39 (flt (by decide : ¬ ((4 : Int32) < (4 : Int32)))).2.1 (by decide) (q := 64) (by decide) ?_
  refine o_aloadN X21 hx hby d3_64 rfl rfl (q := 65) rfl ?_
  refine o_iloadN X21 hx hby d3_65 rfl (q := 66) rfl ?_
  obtain ⟨T22, h22, k22, X22, e22, E22, A22, Ex22, O22, st22⟩ := newRA X21 hx hZ hown (ty := .int) (by decide +kernel) (w_ hw 33 rfl) (w_ hw 34 rfl) e21 (g := (mkF m 66 #[rv o0, rv o1, rv o2, iv 3, rv b11, rv o2, iv 4, iv 4, iv 2] [.int 3, .ref o0])) rfl (hb hby d3_66) rfl (by decide) (cap := 3) (by decide) (by decide) (by decide) (by decide) (ad := "[[I") (by decide +kernel)
  obtain ⟨b22, g22⟩ : ∃ z, z = h21.size := ⟨_, rfl⟩
  rw [← g22] at A22 Ex22 st22
  have q23 := (Nat.le_trans (Nat.le_trans (Nat.le_trans (Nat.le_trans (Nat.le_trans q12 E11.1) (Keep.of_wr W15).1) (Keep.of_wr W17).1) (Keep.of_wr W19).1) (Keep.of_wr W21).1)
  have g_b22 : n0 ≤ b22 := Nat.le_trans q23 (Nat.le_of_eq g22.symm)
  have q24 := (Nat.le_trans (Nat.le_trans (Nat.le_trans (Nat.le_trans (Nat.le_trans q13 E11.1) (Keep.of_wr W15).1) (Keep.of_wr W17).1) (Keep.of_wr W19).1) (Keep.of_wr W21).1)
  have sz_b22 : h0.size ≤ b22 := Nat.le_trans q24 (Nat.le_of_eq g22.symm)
  have V_b22 : Arv Z h22 b22 k22 (.array .int) (3 : Int32) [.null, .null, .null] .null := (Arv.new A22 (by decide)).pad (pad_rep [] .null 3)
  refine own_of st22 ?_
  show own_Out p e below _ (T22.setTop (mkF m 69 #[rv o0, rv o1, rv o2, iv 3, rv b11, rv o2, iv 4, iv 4, iv 2] [.ref b22, .ref o0]))
  have ne_o0_b11 : o0 ≠ b11 := Nat.ne_of_lt (Nat.lt_of_lt_of_le E.lt sz_b11)
  have q26 := (((((((((F_classes.other W2 (Or.inr (slot_ne (Or.inr (w_ hw 36 rfl)) (Or.inr (w_ hw 28 rfl)) (by decide) (t := (.array (.array .int))) (t' := (.object "java/lang/String")) (by decide) (by decide)))).other W3 (Or.inr (slot_ne (Or.inr (w_ hw 36 rfl)) (Or.inr (w_ hw 30 rfl)) (by decide) (t := (.array (.array .int))) (t' := (.array .int)) (by decide) (by decide)))).other W7 (Or.inr (slot_ne (Or.inr (w_ hw 36 rfl)) (Or.inr (w_ hw 32 rfl)) (by decide) (t := (.array (.array .int))) (t' := .int) (by decide) (by decide)))).ext E11).other W15 (Or.inl ne_o0_b11)).other W17 (Or.inl ne_o0_b11)).other W19 (Or.inl ne_o0_b11)).other W21 (Or.inl ne_o0_b11)).ext E22)
  have q27 := (((((((q9.wr W7).ext E11).wr W15).wr W17).wr W19).wr W21).ext E22)
  obtain ⟨T25, h25, X25, e25, W25, st25⟩ := putF X22 hx hZ hown (host := "") (Or.inl (w_ hw 35 rfl)) Via.refl e22 q26 q27 (Or.inr ⟨(w_ hw 36 rfl), rfl, hnm⟩) (w_ hw 11 rfl) (ty := (.array (.array .int))) (by decide) rfl rfl (g := (mkF m 69 #[rv o0, rv o1, rv o2, iv 3, rv b11, rv o2, iv 4, iv 4, iv 2] [.ref b22, .ref o0])) rfl rfl (hb hby d3_69)
  have q28 := (((((((((F_classes.other W2 (Or.inr (slot_ne (Or.inr (w_ hw 36 rfl)) (Or.inr (w_ hw 28 rfl)) (by decide) (t := (.array (.array .int))) (t' := (.object "java/lang/String")) (by decide) (by decide)))).other W3 (Or.inr (slot_ne (Or.inr (w_ hw 36 rfl)) (Or.inr (w_ hw 30 rfl)) (by decide) (t := (.array (.array .int))) (t' := (.array .int)) (by decide) (by decide)))).other W7 (Or.inr (slot_ne (Or.inr (w_ hw 36 rfl)) (Or.inr (w_ hw 32 rfl)) (by decide) (t := (.array (.array .int))) (t' := .int) (by decide) (by decide)))).ext E11).other W15 (Or.inl ne_o0_b11)).other W17 (Or.inl ne_o0_b11)).other W19 (Or.inl ne_o0_b11)).other W21 (Or.inl ne_o0_b11)).ext E22)
  have Fw25 := q28.same W25
  refine own_of st25 ?_
  show own_Out p e below _ (T25.setTop (mkF m 72 #[rv o0, rv o1, rv o2, iv 3, rv b11, rv o2, iv 4, iv 4, iv 2] []))
  refine o_iconst X25 hx hby d3_72 (z := 0) rfl (q := 73) rfl ?_
  refine o_istore X25 hx hby d3_73 (l' := #[rv o0, rv o1, rv o2, iv 3, rv b11, iv 0, iv 4, iv 4, iv 2]) rfl (q := 75) rfl ?_
  refine o_iload X25 hx hby d3_75 rfl (q := 77) rfl ?_
  refine o_iloadN X25 hx hby d3_77 rfl (q := 78) rfl ?_
  refine o_icN X25 hx hby d3_78 (tlt (by decide : (0 : Int32) < (3 : Int32))).2.1 (q := 81) rfl ?_
  refine o_aloadN X25 hx hby d3_81 rfl rfl (q := 82) rfl ?_
  refine o_getF X25 hx hZ hown hby (w_ hw 35 rfl) Via.refl e25 Fw25 d3_82 (q := 85) rfl fun T29 X29 e29 => ?_
  refine o_iload X29 hx hby d3_85 rfl (q := 87) rfl ?_
  refine o_aload X29 hx hby d3_87 rfl rfl (q := 89) rfl ?_
  refine o_iload X29 hx hby d3_89 rfl (q := 91) rfl ?_
  have q30 := ((V21.ext E22).other W25 (Ne.symm ne_o0_b11))
  refine o_iaV X29 hx hby hZ e29 q30 ⟨by decide, by decide⟩ (v := .int 1) rfl d3_91 (q := 92) rfl ?_
  obtain ⟨T31, h31, k31, X31, e31, E31, A31, Ex31, st31⟩ := newPE X29 hx hZ (w_ hw 5 rfl) e29 (g := (mkF m 92 #[rv o0, rv o1, rv o2, iv 3, rv b11, iv 0, iv 4, iv 4, iv 2] [.int 1, .int 0, .ref b22])) rfl (hb hby d3_92) rfl (by decide) (cap := 1) (by decide) (by decide) (by decide) (by decide) (ad := "[I") (by decide +kernel)
  obtain ⟨b31, g31⟩ : ∃ z, z = h25.size := ⟨_, rfl⟩
  rw [← g31] at A31 Ex31 st31
  have q32 := (Nat.le_trans (Nat.le_trans q23 E22.1) (Keep.of_wr W25).1)
  have g_b31 : n0 ≤ b31 := Nat.le_trans q32 (Nat.le_of_eq g31.symm)
  have q33 := (Nat.le_trans (Nat.le_trans q24 E22.1) (Keep.of_wr W25).1)
  have sz_b31 : h0.size ≤ b31 := Nat.le_trans q33 (Nat.le_of_eq g31.symm)
  have V_b31 : Arv Z h31 b31 k31 .int (1 : Int32) [(.int (0 : Int32))] (.int (0 : Int32)) := (Arv.new A31 (by decide)).pad (pad_rep [] (.int (0 : Int32)) 1)
  refine own_of st31 ?_
  show own_Out p e below _ (T31.setTop (mkF m 94 #[rv o0, rv o1, rv o2, iv 3, rv b11, iv 0, iv 4, iv 4, iv 2] [.ref b31, .int 0, .ref b22]))
  have ne_o0_b22 : o0 ≠ b22 := Nat.ne_of_lt (Nat.lt_of_lt_of_le E.lt sz_b22)
  have q34 := ((V_b22.other W25 (Ne.symm ne_o0_b22)).ext E31)
  refine o_stVR X31 hx hby hZ e31 q34 ⟨by decide, by decide⟩ 0 rfl (Nat.le_of_ble_eq_true rfl) O22 (Ins.self Ex31) d3_94 (q := 95) rfl fun T35 h35 X35 e35 W35 V35 => ?_
  refine o_iinc X35 hx hby d3_95 rfl (l' := #[rv o0, rv o1, rv o2, iv 3, rv b11, iv 1, iv 4, iv 4, iv 2]) rfl (q := 98) rfl ?_
  refine o_goto X35 hx hby d3_98 (by decide) (q := 75) (by decide) ?_
  refine o_iload X35 hx hby d3_75 rfl (q := 77) rfl ?_
  refine o_iloadN X35 hx hby d3_77 rfl (q := 78) rfl ?_
  refine o_icN X35 hx hby d3_78 (tlt (by decide : (1 : Int32) < (3 : Int32))).2.1 (q := 81) rfl ?_
  refine o_aloadN X35 hx hby d3_81 rfl rfl (q := 82) rfl ?_
  have q37 := ((Fw25.ext E31).other W35 (Or.inl ne_o0_b22))
  refine o_getF X35 hx hZ hown hby (w_ hw 35 rfl) Via.refl e35 q37 d3_82 (q := 85) rfl fun T36 X36 e36 => ?_
  refine o_iload X36 hx hby d3_85 rfl (q := 87) rfl ?_
  refine o_aload X36 hx hby d3_87 rfl rfl (q := 89) rfl ?_
  refine o_iload X36 hx hby d3_89 rfl (q := 91) rfl ?_
  have ne_b11_b22 : b11 ≠ b22 := Nat.ne_of_lt (Nat.lt_of_lt_of_le (Nat.lt_of_lt_of_le (Nat.lt_of_lt_of_le (Nat.lt_of_lt_of_le (Nat.lt_of_lt_of_le A11.lt (Keep.of_wr W15).1) (Keep.of_wr W17).1) (Keep.of_wr W19).1) (Keep.of_wr W21).1) (Nat.le_of_eq g22.symm))
  have q38 := ((q30.ext E31).other W35 ne_b11_b22)
  refine o_iaV X36 hx hby hZ e36 q38 ⟨by decide, by decide⟩ (v := .int 2) rfl d3_91 (q := 92) rfl ?_
  obtain ⟨T39, h39, k39, X39, e39, E39, A39, Ex39, st39⟩ := newPE X36 hx hZ (w_ hw 5 rfl) e36 (g := (mkF m 92 #[rv o0, rv o1, rv o2, iv 3, rv b11, iv 1, iv 4, iv 4, iv 2] [.int 2, .int 1, .ref b22])) rfl (hb hby d3_92) rfl (by decide) (cap := 2) (by decide) (by decide) (by decide) (by decide) (ad := "[I") (by decide +kernel)
  obtain ⟨b39, g39⟩ : ∃ z, z = h35.size := ⟨_, rfl⟩
  rw [← g39] at A39 Ex39 st39
  have q40 := (Nat.le_trans (Nat.le_trans q32 E31.1) (Keep.of_wr W35).1)
  have g_b39 : n0 ≤ b39 := Nat.le_trans q40 (Nat.le_of_eq g39.symm)
  have q41 := (Nat.le_trans (Nat.le_trans q33 E31.1) (Keep.of_wr W35).1)
  have sz_b39 : h0.size ≤ b39 := Nat.le_trans q41 (Nat.le_of_eq g39.symm)
  have V_b39 : Arv Z h39 b39 k39 .int (2 : Int32) [(.int (0 : Int32)), (.int (0 : Int32))] (.int (0 : Int32)) := (Arv.new A39 (by decide)).pad (pad_rep [] (.int (0 : Int32)) 2)
  refine own_of st39 ?_
  show own_Out p e below _ (T39.setTop (mkF m 94 #[rv o0, rv o1, rv o2, iv 3, rv b11, iv 1, iv 4, iv 4, iv 2] [.ref b39, .int 1, .ref b22]))
  have q42 := (V35.ext E39)
  refine o_stVR X39 hx hby hZ e39 q42 ⟨by decide, by decide⟩ 1 rfl (Nat.le_of_ble_eq_true rfl) O22 (Ins.self Ex39) d3_94 (q := 95) rfl fun T43 h43 X43 e43 W43 V43 => ?_
  refine o_iinc X43 hx hby d3_95 rfl (l' := #[rv o0, rv o1, rv o2, iv 3, rv b11, iv 2, iv 4, iv 4, iv 2]) rfl (q := 98) rfl ?_
  refine o_goto X43 hx hby d3_98 (by decide) (q := 75) (by decide) ?_
  refine o_iload X43 hx hby d3_75 rfl (q := 77) rfl ?_
  refine o_iloadN X43 hx hby d3_77 rfl (q := 78) rfl ?_
  refine o_icN X43 hx hby d3_78 (tlt (by decide : (2 : Int32) < (3 : Int32))).2.1 (q := 81) rfl ?_
  refine o_aloadN X43 hx hby d3_81 rfl rfl (q := 82) rfl ?_
  have q45 := ((q37.ext E39).other W43 (Or.inl ne_o0_b22))
  refine o_getF X43 hx hZ hown hby (w_ hw 35 rfl) Via.refl e43 q45 d3_82 (q := 85) rfl fun T44 X44 e44 => ?_
  refine o_iload X44 hx hby d3_85 rfl (q := 87) rfl ?_
  refine o_aload X44 hx hby d3_87 rfl rfl (q := 89) rfl ?_
  refine o_iload X44 hx hby d3_89 rfl (q := 91) rfl ?_
  have q46 := ((q38.ext E39).other W43 ne_b11_b22)
  refine o_iaV X44 hx hby hZ e44 q46 ⟨by decide, by decide⟩ (v := .int 1) rfl d3_91 (q := 92) rfl ?_
  obtain ⟨T47, h47, k47, X47, e47, E47, A47, Ex47, st47⟩ := newPE X44 hx hZ (w_ hw 5 rfl) e44 (g := (mkF m 92 #[rv o0, rv o1, rv o2, iv 3, rv b11, iv 2, iv 4, iv 4, iv 2] [.int 1, .int 2, .ref b22])) rfl (hb hby d3_92) rfl (by decide) (cap := 1) (by decide) (by decide) (by decide) (by decide) (ad := "[I") (by decide +kernel)
  obtain ⟨b47, g47⟩ : ∃ z, z = h43.size := ⟨_, rfl⟩
  rw [← g47] at A47 Ex47 st47
  have q48 := (Nat.le_trans (Nat.le_trans q40 E39.1) (Keep.of_wr W43).1)
  have g_b47 : n0 ≤ b47 := Nat.le_trans q48 (Nat.le_of_eq g47.symm)
  have q49 := (Nat.le_trans (Nat.le_trans q41 E39.1) (Keep.of_wr W43).1)
  have sz_b47 : h0.size ≤ b47 := Nat.le_trans q49 (Nat.le_of_eq g47.symm)
  have V_b47 : Arv Z h47 b47 k47 .int (1 : Int32) [(.int (0 : Int32))] (.int (0 : Int32)) := (Arv.new A47 (by decide)).pad (pad_rep [] (.int (0 : Int32)) 1)
  refine own_of st47 ?_
  show own_Out p e below _ (T47.setTop (mkF m 94 #[rv o0, rv o1, rv o2, iv 3, rv b11, iv 2, iv 4, iv 4, iv 2] [.ref b47, .int 2, .ref b22]))
  have q50 := (V43.ext E47)
  refine o_stVR X47 hx hby hZ e47 q50 ⟨by decide, by decide⟩ 2 rfl (Nat.le_of_ble_eq_true rfl) O22 (Ins.self Ex47) d3_94 (q := 95) rfl fun T51 h51 X51 e51 W51 V51 => ?_
  refine o_iinc X51 hx hby d3_95 rfl (l' := #[rv o0, rv o1, rv o2, iv 3, rv b11, iv 3, iv 4, iv 4, iv 2]) rfl (q := 98) rfl ?_
  refine o_goto X51 hx hby d3_98 (by decide) (q := 75) (by decide) ?_
  refine o_iload X51 hx hby d3_75 rfl (q := 77) rfl ?_
  refine o_iloadN X51 hx hby d3_77 rfl (q := 78) rfl ?_
  refine o_icY X51 hx hby d3_78 (flt (by decide : ¬ ((3 : Int32) < (3 : Int32)))).2.1 (by decide) (q := 101) (by decide) ?_
  refine o_iloadN X51 hx hby d3_101 rfl (q := 102) rfl ?_
  obtain ⟨T52, h52, k52, X52, e52, E52, A52, Ex52, st52⟩ := newPE X51 hx hZ (w_ hw 5 rfl) e51 (g := (mkF m 102 #[rv o0, rv o1, rv o2, iv 3, rv b11, iv 3, iv 4, iv 4, iv 2] [.int 3])) rfl (hb hby d3_102) rfl (by decide) (cap := 3) (by decide) (by decide) (by decide) (by decide) (ad := "[I") (by decide +kernel)
  obtain ⟨b52, g52⟩ : ∃ z, z = h51.size := ⟨_, rfl⟩
  rw [← g52] at A52 Ex52 st52
  have q53 := (Nat.le_trans (Nat.le_trans q48 E47.1) (Keep.of_wr W51).1)
  have g_b52 : n0 ≤ b52 := Nat.le_trans q53 (Nat.le_of_eq g52.symm)
  have q54 := (Nat.le_trans (Nat.le_trans q49 E47.1) (Keep.of_wr W51).1)
  have sz_b52 : h0.size ≤ b52 := Nat.le_trans q54 (Nat.le_of_eq g52.symm)
  have V_b52 : Arv Z h52 b52 k52 .int (3 : Int32) [(.int (0 : Int32)), (.int (0 : Int32)), (.int (0 : Int32))] (.int (0 : Int32)) := (Arv.new A52 (by decide)).pad (pad_rep [] (.int (0 : Int32)) 3)
  refine own_of st52 ?_
  show own_Out p e below _ (T52.setTop (mkF m 104 #[rv o0, rv o1, rv o2, iv 3, rv b11, iv 3, iv 4, iv 4, iv 2] [.ref b52]))
  refine o_astore X52 hx hby d3_104 rfl (l' := #[rv o0, rv o1, rv o2, iv 3, rv b11, rv b52, iv 4, iv 4, iv 2]) rfl (q := 106) rfl ?_
  refine o_iconst X52 hx hby d3_106 (z := 0) rfl (q := 107) rfl ?_
  refine o_istore X52 hx hby d3_107 (l' := #[rv o0, rv o1, rv o2, iv 3, rv b11, rv b52, iv 0, iv 4, iv 2]) rfl (q := 109) rfl ?_
  have ne_o2_b22 : o2 ≠ b22 := Nat.ne_of_lt (Nat.lt_of_lt_of_le V.lt sz_b22)
  have q57 := ((((((((((q20.other W21 ne_o2_b11).ext E22).other W25 n2).ext E31).other W35 ne_o2_b22).ext E39).other W43 ne_o2_b22).ext E47).other W51 ne_o2_b22).ext E52)
  have q58 := (((q45.ext E47).other W51 (Or.inl ne_o0_b22)).ext E52)
  have q59 := (V51.ext E52)
  have ne_b22_b31 : b22 ≠ b31 := Nat.ne_of_lt (Nat.lt_of_lt_of_le (Nat.lt_of_lt_of_le A22.lt (Keep.of_wr W25).1) (Nat.le_of_eq g31.symm))
  have q60 := ((((((V_b31.other W35 (Ne.symm ne_b22_b31)).ext E39).other W43 (Ne.symm ne_b22_b31)).ext E47).other W51 (Ne.symm ne_b22_b31)).ext E52)
  have ne_b31_b52 : b31 ≠ b52 := Nat.ne_of_lt (Nat.lt_of_lt_of_le (Nat.lt_of_lt_of_le (Nat.lt_of_lt_of_le (Nat.lt_of_lt_of_le (Nat.lt_of_lt_of_le (Nat.lt_of_lt_of_le A31.lt (Keep.of_wr W35).1) E39.1) (Keep.of_wr W43).1) E47.1) (Keep.of_wr W51).1) (Nat.le_of_eq g52.symm))
  refine t3 X52 hx hby hZ e52 hw hown q57 q58 q59 V_b52 q60 ne_b31_b52 ⟨by decide, by decide⟩ (x := 0) rfl ⟨by decide, by decide⟩ rfl (f := 0) rfl ⟨by decide, by decide⟩ (f' := 1) rfl (i' := 1) rfl (iN := 0) rfl (Nat.le_of_ble_eq_true rfl) (jN := 0) rfl (Nat.le_of_ble_eq_true rfl) fun T56 h55 h56 X56 e56 W55 W56 V55 V56 => ?_
  have ne_o2_b52 : o2 ≠ b52 := Nat.ne_of_lt (Nat.lt_of_lt_of_le V.lt sz_b52)
  have ne_o2_b31 : o2 ≠ b31 := Nat.ne_of_lt (Nat.lt_of_lt_of_le V.lt sz_b31)
  have q63 := ((q57.other W55 ne_o2_b52).other W56 ne_o2_b31)
  have ne_o0_b52 : o0 ≠ b52 := Nat.ne_of_lt (Nat.lt_of_lt_of_le E.lt sz_b52)
  have ne_o0_b31 : o0 ≠ b31 := Nat.ne_of_lt (Nat.lt_of_lt_of_le E.lt sz_b31)
  have q64 := ((q58.other W55 (Or.inl ne_o0_b52)).other W56 (Or.inl ne_o0_b31))
  have ne_b22_b52 : b22 ≠ b52 := Nat.ne_of_lt (Nat.lt_of_lt_of_le (Nat.lt_of_lt_of_le (Nat.lt_of_lt_of_le (Nat.lt_of_lt_of_le (Nat.lt_of_lt_of_le (Nat.lt_of_lt_of_le (Nat.lt_of_lt_of_le (Nat.lt_of_lt_of_le A22.lt (Keep.of_wr W25).1) E31.1) (Keep.of_wr W35).1) E39.1) (Keep.of_wr W43).1) E47.1) (Keep.of_wr W51).1) (Nat.le_of_eq g52.symm))
  have q65 := ((q59.other W55 ne_b22_b52).other W56 ne_b22_b31)
  have q66 := (V55.other W56 (Ne.symm ne_b31_b52))
  have ne_b22_b39 : b22 ≠ b39 := Nat.ne_of_lt (Nat.lt_of_lt_of_le (Nat.lt_of_lt_of_le (Nat.lt_of_lt_of_le (Nat.lt_of_lt_of_le A22.lt (Keep.of_wr W25).1) E31.1) (Keep.of_wr W35).1) (Nat.le_of_eq g39.symm))
  have ne_b39_b52 : b39 ≠ b52 := Nat.ne_of_lt (Nat.lt_of_lt_of_le (Nat.lt_of_lt_of_le (Nat.lt_of_lt_of_le (Nat.lt_of_lt_of_le A39.lt (Keep.of_wr W43).1) E47.1) (Keep.of_wr W51).1) (Nat.le_of_eq g52.symm))
  have ne_b31_b39 : b31 ≠ b39 := Nat.ne_of_lt (Nat.lt_of_lt_of_le (Nat.lt_of_lt_of_le A31.lt (Keep.of_wr W35).1) (Nat.le_of_eq g39.symm))
  have q67 := ((((((V_b39.other W43 (Ne.symm ne_b22_b39)).ext E47).other W51 (Ne.symm ne_b22_b39)).ext E52).other W55 ne_b39_b52).other W56 (Ne.symm ne_b31_b39))
  refine t3 X56 hx hby hZ e56 hw hown q63 q64 q65 q66 q67 ne_b39_b52 ⟨by decide, by decide⟩ (x := 1) rfl ⟨by decide, by decide⟩ rfl (f := 0) rfl ⟨by decide, by decide⟩ (f' := 1) rfl (i' := 2) rfl (iN := 1) rfl (Nat.le_of_ble_eq_true rfl) (jN := 0) rfl (Nat.le_of_ble_eq_true rfl) fun T62 h61 h62 X62 e62 W61 W62 V61 V62 => ?_
  have ne_o2_b39 : o2 ≠ b39 := Nat.ne_of_lt (Nat.lt_of_lt_of_le V.lt sz_b39)
  have q70 := ((q63.other W61 ne_o2_b52).other W62 ne_o2_b39)
  have ne_o0_b39 : o0 ≠ b39 := Nat.ne_of_lt (Nat.lt_of_lt_of_le E.lt sz_b39)
  have q71 := ((q64.other W61 (Or.inl ne_o0_b52)).other W62 (Or.inl ne_o0_b39))
  have q72 := ((q65.other W61 ne_b22_b52).other W62 ne_b22_b39)
  have q73 := (V61.other W62 (Ne.symm ne_b39_b52))
  refine t3 X62 hx hby hZ e62 hw hown q70 q71 q72 q73 V62 ne_b39_b52 ⟨by decide, by decide⟩ (x := 1) rfl ⟨by decide, by decide⟩ rfl (f := 1) rfl ⟨by decide, by decide⟩ (f' := 2) rfl (i' := 3) rfl (iN := 1) rfl (Nat.le_of_ble_eq_true rfl) (jN := 1) rfl (Nat.le_of_ble_eq_true rfl) fun T69 h68 h69 X69 e69 W68 W69 V68 V69 => ?_
  have q76 := ((q70.other W68 ne_o2_b52).other W69 ne_o2_b39)
  have q77 := ((q71.other W68 (Or.inl ne_o0_b52)).other W69 (Or.inl ne_o0_b39))
  have q78 := ((q72.other W68 ne_b22_b52).other W69 ne_b22_b39)
  have q79 := (V68.other W69 (Ne.symm ne_b39_b52))
  have ne_b22_b47 : b22 ≠ b47 := Nat.ne_of_lt (Nat.lt_of_lt_of_le (Nat.lt_of_lt_of_le (Nat.lt_of_lt_of_le (Nat.lt_of_lt_of_le (Nat.lt_of_lt_of_le (Nat.lt_of_lt_of_le A22.lt (Keep.of_wr W25).1) E31.1) (Keep.of_wr W35).1) E39.1) (Keep.of_wr W43).1) (Nat.le_of_eq g47.symm))
  have ne_b47_b52 : b47 ≠ b52 := Nat.ne_of_lt (Nat.lt_of_lt_of_le (Nat.lt_of_lt_of_le A47.lt (Keep.of_wr W51).1) (Nat.le_of_eq g52.symm))
  have ne_b31_b47 : b31 ≠ b47 := Nat.ne_of_lt (Nat.lt_of_lt_of_le (Nat.lt_of_lt_of_le (Nat.lt_of_lt_of_le (Nat.lt_of_lt_of_le A31.lt (Keep.of_wr W35).1) E39.1) (Keep.of_wr W43).1) (Nat.le_of_eq g47.symm))
  have ne_b39_b47 : b39 ≠ b47 := Nat.ne_of_lt (Nat.lt_of_lt_of_le (Nat.lt_of_lt_of_le A39.lt (Keep.of_wr W43).1) (Nat.le_of_eq g47.symm))
  have q80 := ((((((((V_b47.other W51 (Ne.symm ne_b22_b47)).ext E52).other W55 ne_b47_b52).other W56 (Ne.symm ne_b31_b47)).other W61 ne_b47_b52).other W62 (Ne.symm ne_b39_b47)).other W68 ne_b47_b52).other W69 (Ne.symm ne_b39_b47))
  refine t3 X69 hx hby hZ e69 hw hown q76 q77 q78 q79 q80 ne_b47_b52 ⟨by decide, by decide⟩ (x := 2) rfl ⟨by decide, by decide⟩ rfl (f := 0) rfl ⟨by decide, by decide⟩ (f' := 1) rfl (i' := 4) rfl (iN := 2) rfl (Nat.le_of_ble_eq_true rfl) (jN := 0) rfl (Nat.le_of_ble_eq_true rfl) fun T75 h74 h75 X75 e75 W74 W75 V74 V75 => ?_
  refine o_iload X75 hx hby d3_109 rfl (q := 111) rfl ?_
  refine o_aloadN X75 hx hby d3_111 rfl rfl (q := 112) rfl ?_
  have ne_o2_b47 : o2 ≠ b47 := Nat.ne_of_lt (Nat.lt_of_lt_of_le V.lt sz_b47)
  have q81 := ((q76.other W74 ne_o2_b52).other W75 ne_o2_b47)
  refine o_lenV X75 hx hby hZ e75 q81 d3_112 (q := 113) rfl ?_
  refine o_icY X75 hx hby d3_113 (flt (by decide : ¬ ((4 : Int32) < (4 : Int32)))).2.1 (by decide) (q := 146) (by decide) ?_
  have q82 := ((((((((((((((((((((((((((Keep.refl h0 [o0]).wr W2 (Or.inl (List.mem_of_getElem? (i := 0) rfl))).wr W3 (Or.inl (List.mem_of_getElem? (i := 0) rfl))).wr W7 (Or.inl (List.mem_of_getElem? (i := 0) rfl))).ext E11).wr W15 (Or.inr sz_b11)).wr W17 (Or.inr sz_b11)).wr W19 (Or.inr sz_b11)).wr W21 (Or.inr sz_b11)).ext E22).wr W25 (Or.inl (List.mem_of_getElem? (i := 0) rfl))).ext E31).wr W35 (Or.inr sz_b22)).ext E39).wr W43 (Or.inr sz_b22)).ext E47).wr W51 (Or.inr sz_b22)).ext E52).wr W55 (Or.inr sz_b52)).wr W56 (Or.inr sz_b31)).wr W61 (Or.inr sz_b52)).wr W62 (Or.inr sz_b39)).wr W68 (Or.inr sz_b52)).wr W69 (Or.inr sz_b39)).wr W74 (Or.inr sz_b52)).wr W75 (Or.inr sz_b47))
  have q83 := ((((((((((((((((q27.wr W25).ext E31).wr W35).ext E39).wr W43).ext E47).wr W51).ext E52).wr W55).wr W56).wr W61).wr W62).wr W68).wr W69).wr W74).wr W75)
  have ne_o0_b47 : o0 ≠ b47 := Nat.ne_of_lt (Nat.lt_of_lt_of_le E.lt sz_b47)
  have q84 := (((((((((((((((((((((((Fw3.other W7 (Or.inr (slot_ne (Or.inr (w_ hw 30 rfl)) (Or.inr (w_ hw 32 rfl)) (by decide) (t := (.array .int)) (t' := .int) (by decide) (by decide)))).ext E11).other W15 (Or.inl ne_o0_b11)).other W17 (Or.inl ne_o0_b11)).other W19 (Or.inl ne_o0_b11)).other W21 (Or.inl ne_o0_b11)).ext E22).other W25 (Or.inr (slot_ne (Or.inr (w_ hw 30 rfl)) (Or.inr (w_ hw 36 rfl)) (by decide) (t := (.array .int)) (t' := (.array (.array .int))) (by decide) (by decide)))).ext E31).other W35 (Or.inl ne_o0_b22)).ext E39).other W43 (Or.inl ne_o0_b22)).ext E47).other W51 (Or.inl ne_o0_b22)).ext E52).other W55 (Or.inl ne_o0_b52)).other W56 (Or.inl ne_o0_b31)).other W61 (Or.inl ne_o0_b52)).other W62 (Or.inl ne_o0_b39)).other W68 (Or.inl ne_o0_b52)).other W69 (Or.inl ne_o0_b39)).other W74 (Or.inl ne_o0_b52)).other W75 (Or.inl ne_o0_b47))
  have q85 := ((((((((((((((((((((((Fw7.ext E11).other W15 (Or.inl ne_o0_b11)).other W17 (Or.inl ne_o0_b11)).other W19 (Or.inl ne_o0_b11)).other W21 (Or.inl ne_o0_b11)).ext E22).other W25 (Or.inr (slot_ne (Or.inr (w_ hw 32 rfl)) (Or.inr (w_ hw 36 rfl)) (by decide) (t := .int) (t' := (.array (.array .int))) (by decide) (by decide)))).ext E31).other W35 (Or.inl ne_o0_b22)).ext E39).other W43 (Or.inl ne_o0_b22)).ext E47).other W51 (Or.inl ne_o0_b22)).ext E52).other W55 (Or.inl ne_o0_b52)).other W56 (Or.inl ne_o0_b31)).other W61 (Or.inl ne_o0_b52)).other W62 (Or.inl ne_o0_b39)).other W68 (Or.inl ne_o0_b52)).other W69 (Or.inl ne_o0_b39)).other W74 (Or.inl ne_o0_b52)).other W75 (Or.inl ne_o0_b47))
  exact own_outV X75 hx hlk hret (hb hby d3_146) (Q := Q3c0112n3 Z o0 o1 o2 k2 h0 n0) (by rw [e75]; exact ⟨rfl, (Fr.snoc X75 (own_snoc (Fr.snoc X69 (own_snoc (Fr.snoc X62 (own_snoc (Fr.snoc X56 (own_snoc (Fr.snoc X51 (Fr.snoc X43 (Fr.snoc X35 (Fr.snoc X25 (Fr.snoc X21 (Fr.snoc X19 (Fr.snoc X17 (Fr.snoc X15 (Fr.snoc X7 (Fr.snoc X3 (Fr.snoc X2 N0 g_o0) g_o0) g_o0) g_b11) g_b11) g_b11) g_b11) g_o0) g_b22) g_b22) g_b22) g_b52) g_b31) g_b52) g_b39) g_b52) g_b39) g_b52) g_b47), q82, q83, q84, q85⟩) (by decide) (by decide)
theorem ef_3c012n3 (m : MethodId) (x0 : Addr) (x1 : Addr) (x2 : Addr) : entryFrame m #[(.ref x0), (.ref x1), (.ref x2), (.int (3 : Int32))] 9 = mkF m 0 #[.val (.ref x0), .val (.ref x1), .val (.ref x2), .val (.int (3 : Int32)), .unset, .unset, .unset, .unset, .unset] [] := by first | (simp [entryFrame, mkF, argsToLocals, Value.category]; done) | rfl
def Q3c012n3 (Z : State) (o0 : Addr) (o1 : Addr) (o2 : Addr) (k2 : ClassId) (h0 : Heap) (n0 : Nat) (v : Option Value) (h : Heap) (L : List Loc) : Prop := v = none ∧ Fr n0 L ∧ Keep h0 h [o0] ∧ Exa Z h o0 "com/example/slimc/slimc/game/Observation" ∧ Fld Z h o0 "com/example/slimc/slimc/game/Observation" "classOf" "[I" (.ref o2) ∧ Fld Z h o0 "com/example/slimc/slimc/game/Observation" "classCount" "I" (.int (3 : Int32))
set_option maxRecDepth 65536 in
set_option maxHeartbeats 40000000 in
theorem rm3c012n3 (l : Launch) (Z : State) (a0 : Array Value) (hw : ∀ d ∈ tables_1, d.before a0 Z = true) (ws : List Jvm.Cond) (o0 : Addr) (o1 : Addr) (o2 : Addr) (k2 : ClassId) (h0 : Heap) (n0 : Nat) (Z0 : n0 ≤ h0.size) (E : Exa Z h0 o0 "com/example/slimc/slimc/game/Observation") (F_name : Fld Z h0 o0 "com/example/slimc/slimc/game/Observation" "name" "Ljava/lang/String;" .null) (F_classOf : Fld Z h0 o0 "com/example/slimc/slimc/game/Observation" "classOf" "[I" .null) (F_classCount : Fld Z h0 o0 "com/example/slimc/slimc/game/Observation" "classCount" "I" (.int (0 : Int32))) (F_classes : Fld Z h0 o0 "com/example/slimc/slimc/game/Observation" "classes" "[[I" .null) (g_o0 : n0 ≤ o0) (V : Arv Z h0 o2 k2 .int (3 : Int32) [(.int (0 : Int32)), (.int (1 : Int32)), (.int (2 : Int32))] (.int (0 : Int32))) (n2 : o2 ≠ o0) :
    MetFree l (⟨"com/example/slimc/slimc/game/Observation", "<init>", "(Ljava/lang/String;[II)V"⟩ : MethodName) (head1 (Jvm.Cond.code (⟨"com/example/slimc/slimc/game/Observation", "<init>", "(Ljava/lang/String;[II)V"⟩ : MethodName) prog_66_method_1_code 9 none :: ws) ({ frames := 1, cells := 7, slots := 16, locals := 14 } : Room)) (fun a U => a = #[(.ref o0), (.ref o1), (.ref o2), (.int (3 : Int32))] ∧ Z.Warmed39 U.vm ∧ U.heap = h0) (fun _ _ _ _ _ => True) (fun _ U o U' => ∃ v L, o = .returned v ∧ Q3c012n3 Z o0 o1 o2 k2 h0 n0 v U'.heap L ∧ FrameEnd U o U' L ({ frames := 1, cells := 7, slots := 16, locals := 14 } : Room).cells ({ frames := 1, cells := 7, slots := 16, locals := 14 } : Room).slots) := by
  refine MetFree.of_bodySF (plainFor_of_name pn_1) hisR ?_
  intro p e s m args below meth c s₁ Bd hml0 hP hK
  obtain ⟨rfl, hZ, hh⟩ := hP
  have hx := Bd.exec
  have hby := Bd.bytes
  have hml : c.maxLocals = 9 := hml0
  have hown : s.vm.findClass "com/example/slimc/slimc/game/Observation" = some m.cls := findClass_of_methodNamed Bd.named
  have hnm := (name_of_methodNamed Bd.named Bd.method).1
  have X0 : Stand p l e ({ frames := 1, cells := 7, slots := 16, locals := 14 } : Room) s m #[(.ref o0), (.ref o1), (.ref o2), (.int (3 : Int32))] below meth c s₁ [] 0 0 := Stand.of_body Bd
  have e0 : s₁.heap = h0 := by rw [← hh, Bd.state]; rfl
  have N0 := Fr.nil n0
  have hret := Bd.returns
  have hlk := BodyLoose.notSynchronized Bd
  show own_Out p e below (fun o U' => ∃ v L, o = .returned v ∧ Q3c012n3 Z o0 o1 o2 k2 h0 n0 v U'.heap L ∧ FrameEnd s o U' L ({ frames := 1, cells := 7, slots := 16, locals := 14 } : Room).cells ({ frames := 1, cells := 7, slots := 16, locals := 14 } : Room).slots) (s₁.setTop (entryFrame m #[(.ref o0), (.ref o1), (.ref o2), (.int (3 : Int32))] 9))
  refine own_of (fun t k => castTop (ef_3c012n3 m o0 o1 o2) k) ?_
  show own_Out p e below _ (s₁.setTop (mkF m 0 #[rv o0, rv o1, rv o2, iv 3, .unset, .unset, .unset, .unset, .unset] []))
  refine o_aloadN X0 hx hby d3_0 rfl rfl (q := 1) rfl ?_
  obtain ⟨T1, X1, e1, st1⟩ := initO X0 hx hZ hown (w_ hw 24 rfl) (w_ hw 25 rfl) (w_ hw 26 rfl) e0 (g := (mkF m 1 #[rv o0, rv o1, rv o2, iv 3, .unset, .unset, .unset, .unset, .unset] [.ref o0])) rfl (by rw [hml]; rfl) rfl (hb hby d3_1) (by decide) (W := 0) (by show 2 * 0 + _ ≤ _; exact Nat.le_of_eq rfl) (by decide)
  refine own_of st1 ?_
  show own_Out p e below _ (T1.setTop (mkF m 4 #[rv o0, rv o1, rv o2, iv 3, .unset, .unset, .unset, .unset, .unset] []))
  refine o_aloadN X1 hx hby d3_4 rfl rfl (q := 5) rfl ?_
  refine o_aloadN X1 hx hby d3_5 rfl rfl (q := 6) rfl ?_
  obtain ⟨T2, h2, X2, e2, W2, st2⟩ := putF X1 hx hZ hown (host := "") (Or.inl (w_ hw 27 rfl)) Via.refl e1 F_name E (Or.inr ⟨(w_ hw 28 rfl), rfl, hnm⟩) (w_ hw 11 rfl) (ty := (.object "java/lang/String")) (by decide) rfl rfl (g := (mkF m 6 #[rv o0, rv o1, rv o2, iv 3, .unset, .unset, .unset, .unset, .unset] [.ref o1, .ref o0])) rfl rfl (hb hby d3_6)
  have Fw2 := F_name.same W2
  refine own_of st2 ?_
  show own_Out p e below _ (T2.setTop (mkF m 9 #[rv o0, rv o1, rv o2, iv 3, .unset, .unset, .unset, .unset, .unset] []))
  refine o_aloadN X2 hx hby d3_9 rfl rfl (q := 10) rfl ?_
  refine o_aloadN X2 hx hby d3_10 rfl rfl (q := 11) rfl ?_
  have q4 := (F_classOf.other W2 (Or.inr (slot_ne (Or.inr (w_ hw 30 rfl)) (Or.inr (w_ hw 28 rfl)) (by decide) (t := (.array .int)) (t' := (.object "java/lang/String")) (by decide) (by decide))))
  have q5 := (E.wr W2)
  obtain ⟨T3, h3, X3, e3, W3, st3⟩ := putF X2 hx hZ hown (host := "") (Or.inl (w_ hw 29 rfl)) Via.refl e2 q4 q5 (Or.inr ⟨(w_ hw 30 rfl), rfl, hnm⟩) (w_ hw 11 rfl) (ty := (.array .int)) (by decide) rfl rfl (g := (mkF m 11 #[rv o0, rv o1, rv o2, iv 3, .unset, .unset, .unset, .unset, .unset] [.ref o2, .ref o0])) rfl rfl (hb hby d3_11)
  have q6 := (F_classOf.other W2 (Or.inr (slot_ne (Or.inr (w_ hw 30 rfl)) (Or.inr (w_ hw 28 rfl)) (by decide) (t := (.array .int)) (t' := (.object "java/lang/String")) (by decide) (by decide))))
  have Fw3 := q6.same W3
  refine own_of st3 ?_
  show own_Out p e below _ (T3.setTop (mkF m 14 #[rv o0, rv o1, rv o2, iv 3, .unset, .unset, .unset, .unset, .unset] []))
  refine o_aloadN X3 hx hby d3_14 rfl rfl (q := 15) rfl ?_
  refine o_iloadN X3 hx hby d3_15 rfl (q := 16) rfl ?_
  have q8 := ((F_classCount.other W2 (Or.inr (slot_ne (Or.inr (w_ hw 32 rfl)) (Or.inr (w_ hw 28 rfl)) (by decide) (t := .int) (t' := (.object "java/lang/String")) (by decide) (by decide)))).other W3 (Or.inr (slot_ne (Or.inr (w_ hw 32 rfl)) (Or.inr (w_ hw 30 rfl)) (by decide) (t := .int) (t' := (.array .int)) (by decide) (by decide))))
  have q9 := (q5.wr W3)
  obtain ⟨T7, h7, X7, e7, W7, st7⟩ := putF X3 hx hZ hown (host := "") (Or.inl (w_ hw 31 rfl)) Via.refl e3 q8 q9 (Or.inr ⟨(w_ hw 32 rfl), rfl, hnm⟩) (w_ hw 11 rfl) (ty := .int) (by decide) rfl rfl (g := (mkF m 16 #[rv o0, rv o1, rv o2, iv 3, .unset, .unset, .unset, .unset, .unset] [.int 3, .ref o0])) rfl rfl (hb hby d3_16)
  have q10 := ((F_classCount.other W2 (Or.inr (slot_ne (Or.inr (w_ hw 32 rfl)) (Or.inr (w_ hw 28 rfl)) (by decide) (t := .int) (t' := (.object "java/lang/String")) (by decide) (by decide)))).other W3 (Or.inr (slot_ne (Or.inr (w_ hw 32 rfl)) (Or.inr (w_ hw 30 rfl)) (by decide) (t := .int) (t' := (.array .int)) (by decide) (by decide))))
  have Fw7 := q10.same W7
  refine own_of st7 ?_
  show own_Out p e below _ (T7.setTop (mkF m 19 #[rv o0, rv o1, rv o2, iv 3, .unset, .unset, .unset, .unset, .unset] []))
  refine o_iloadN X7 hx hby d3_19 rfl (q := 20) rfl ?_
  obtain ⟨T11, h11, k11, X11, e11, E11, A11, Ex11, st11⟩ := newPE X7 hx hZ (w_ hw 5 rfl) e7 (g := (mkF m 20 #[rv o0, rv o1, rv o2, iv 3, .unset, .unset, .unset, .unset, .unset] [.int 3])) rfl (hb hby d3_20) rfl (by decide) (cap := 3) (by decide) (by decide) (by decide) (by decide) (ad := "[I") (by decide +kernel)
  obtain ⟨b11, g11⟩ : ∃ z, z = h7.size := ⟨_, rfl⟩
  rw [← g11] at A11 Ex11 st11
  have q12 := (Nat.le_trans (Nat.le_trans (Nat.le_trans Z0 (Keep.of_wr W2).1) (Keep.of_wr W3).1) (Keep.of_wr W7).1)
  have g_b11 : n0 ≤ b11 := Nat.le_trans q12 (Nat.le_of_eq g11.symm)
  have q13 := (Nat.le_trans (Nat.le_trans (Nat.le_trans (Nat.le_refl h0.size) (Keep.of_wr W2).1) (Keep.of_wr W3).1) (Keep.of_wr W7).1)
  have sz_b11 : h0.size ≤ b11 := Nat.le_trans q13 (Nat.le_of_eq g11.symm)
  have V_b11 : Arv Z h11 b11 k11 .int (3 : Int32) [(.int (0 : Int32)), (.int (0 : Int32)), (.int (0 : Int32))] (.int (0 : Int32)) := (Arv.new A11 (by decide)).pad (pad_rep [] (.int (0 : Int32)) 3)
  refine own_of st11 ?_
  show own_Out p e below _ (T11.setTop (mkF m 22 #[rv o0, rv o1, rv o2, iv 3, .unset, .unset, .unset, .unset, .unset] [.ref b11]))
  refine o_astore X11 hx hby d3_22 rfl (l' := #[rv o0, rv o1, rv o2, iv 3, rv b11, .unset, .unset, .unset, .unset]) rfl (q := 24) rfl ?_
  refine o_aloadN X11 hx hby d3_24 rfl rfl (q := 25) rfl ?_
  refine o_astore X11 hx hby d3_25 rfl (l' := #[rv o0, rv o1, rv o2, iv 3, rv b11, rv o2, .unset, .unset, .unset]) rfl (q := 27) rfl ?_
  refine o_aload X11 hx hby d3_27 rfl rfl (q := 29) rfl ?_
  have q14 := ((((V.other W2 n2).other W3 n2).other W7 n2).ext E11)
  refine o_lenV X11 hx hby hZ e11 q14 d3_29 (q := 30) rfl ?_
  refine o_istore X11 hx hby d3_30 (l' := #[rv o0, rv o1, rv o2, iv 3, rv b11, rv o2, iv 3, .unset, .unset]) rfl (q := 32) rfl ?_
  refine o_iconst X11 hx hby d3_32 (z := 0) rfl (q := 33) rfl ?_
  refine o_istore X11 hx hby d3_33 (l' := #[rv o0, rv o1, rv o2, iv 3, rv b11, rv o2, iv 3, iv 0, .unset]) rfl (q := 35) rfl ?_
  refine t1 X11 hx hby hZ e11 q14 V_b11 rfl ⟨by decide, by decide⟩ (cc := 0) rfl ⟨by decide, by decide⟩ (y := 0) rfl (y' := 1) rfl (i' := 1) rfl (iN := 0) rfl (Nat.le_of_ble_eq_true rfl) fun T15 h15 X15 e15 W15 V15 => ?_
  have ne_o2_b11 : o2 ≠ b11 := Nat.ne_of_lt (Nat.lt_of_lt_of_le V.lt sz_b11)
  have q16 := (q14.other W15 ne_o2_b11)
  refine t1 X15 hx hby hZ e15 q16 V15 rfl ⟨by decide, by decide⟩ (cc := 1) rfl ⟨by decide, by decide⟩ (y := 0) rfl (y' := 1) rfl (i' := 2) rfl (iN := 1) rfl (Nat.le_of_ble_eq_true rfl) fun T17 h17 X17 e17 W17 V17 => ?_
  have q18 := (q16.other W17 ne_o2_b11)
  refine t1 X17 hx hby hZ e17 q18 V17 rfl ⟨by decide, by decide⟩ (cc := 2) rfl ⟨by decide, by decide⟩ (y := 0) rfl (y' := 1) rfl (i' := 3) rfl (iN := 2) rfl (Nat.le_of_ble_eq_true rfl) fun T19 h19 X19 e19 W19 V19 => ?_
  refine o_iload X19 hx hby d3_35 rfl (q := 37) rfl ?_
  refine o_iload X19 hx hby d3_37 rfl (q := 39) rfl ?_
  refine o_icY X19 hx hby d3_39 (flt (by decide : ¬ ((3 : Int32) < (3 : Int32)))).2.1 (by decide) (q := 64) (by decide) ?_
  refine o_aloadN X19 hx hby d3_64 rfl rfl (q := 65) rfl ?_
  refine o_iloadN X19 hx hby d3_65 rfl (q := 66) rfl ?_
  obtain ⟨T20, h20, k20, X20, e20, E20, A20, Ex20, O20, st20⟩ := newRA X19 hx hZ hown (ty := .int) (by decide +kernel) (w_ hw 33 rfl) (w_ hw 34 rfl) e19 (g := (mkF m 66 #[rv o0, rv o1, rv o2, iv 3, rv b11, rv o2, iv 3, iv 3, iv 2] [.int 3, .ref o0])) rfl (hb hby d3_66) rfl (by decide) (cap := 3) (by decide) (by decide) (by decide) (by decide) (ad := "[[I") (by decide +kernel)
  obtain ⟨b20, g20⟩ : ∃ z, z = h19.size := ⟨_, rfl⟩
  rw [← g20] at A20 Ex20 st20
  have q21 := (Nat.le_trans (Nat.le_trans (Nat.le_trans (Nat.le_trans q12 E11.1) (Keep.of_wr W15).1) (Keep.of_wr W17).1) (Keep.of_wr W19).1)
  have g_b20 : n0 ≤ b20 := Nat.le_trans q21 (Nat.le_of_eq g20.symm)
  have q22 := (Nat.le_trans (Nat.le_trans (Nat.le_trans (Nat.le_trans q13 E11.1) (Keep.of_wr W15).1) (Keep.of_wr W17).1) (Keep.of_wr W19).1)
  have sz_b20 : h0.size ≤ b20 := Nat.le_trans q22 (Nat.le_of_eq g20.symm)
  have V_b20 : Arv Z h20 b20 k20 (.array .int) (3 : Int32) [.null, .null, .null] .null := (Arv.new A20 (by decide)).pad (pad_rep [] .null 3)
  refine own_of st20 ?_
  show own_Out p e below _ (T20.setTop (mkF m 69 #[rv o0, rv o1, rv o2, iv 3, rv b11, rv o2, iv 3, iv 3, iv 2] [.ref b20, .ref o0]))
  have ne_o0_b11 : o0 ≠ b11 := Nat.ne_of_lt (Nat.lt_of_lt_of_le E.lt sz_b11)
  have q24 := ((((((((F_classes.other W2 (Or.inr (slot_ne (Or.inr (w_ hw 36 rfl)) (Or.inr (w_ hw 28 rfl)) (by decide) (t := (.array (.array .int))) (t' := (.object "java/lang/String")) (by decide) (by decide)))).other W3 (Or.inr (slot_ne (Or.inr (w_ hw 36 rfl)) (Or.inr (w_ hw 30 rfl)) (by decide) (t := (.array (.array .int))) (t' := (.array .int)) (by decide) (by decide)))).other W7 (Or.inr (slot_ne (Or.inr (w_ hw 36 rfl)) (Or.inr (w_ hw 32 rfl)) (by decide) (t := (.array (.array .int))) (t' := .int) (by decide) (by decide)))).ext E11).other W15 (Or.inl ne_o0_b11)).other W17 (Or.inl ne_o0_b11)).other W19 (Or.inl ne_o0_b11)).ext E20)
  have q25 := ((((((q9.wr W7).ext E11).wr W15).wr W17).wr W19).ext E20)
  obtain ⟨T23, h23, X23, e23, W23, st23⟩ := putF X20 hx hZ hown (host := "") (Or.inl (w_ hw 35 rfl)) Via.refl e20 q24 q25 (Or.inr ⟨(w_ hw 36 rfl), rfl, hnm⟩) (w_ hw 11 rfl) (ty := (.array (.array .int))) (by decide) rfl rfl (g := (mkF m 69 #[rv o0, rv o1, rv o2, iv 3, rv b11, rv o2, iv 3, iv 3, iv 2] [.ref b20, .ref o0])) rfl rfl (hb hby d3_69)
  have q26 := ((((((((F_classes.other W2 (Or.inr (slot_ne (Or.inr (w_ hw 36 rfl)) (Or.inr (w_ hw 28 rfl)) (by decide) (t := (.array (.array .int))) (t' := (.object "java/lang/String")) (by decide) (by decide)))).other W3 (Or.inr (slot_ne (Or.inr (w_ hw 36 rfl)) (Or.inr (w_ hw 30 rfl)) (by decide) (t := (.array (.array .int))) (t' := (.array .int)) (by decide) (by decide)))).other W7 (Or.inr (slot_ne (Or.inr (w_ hw 36 rfl)) (Or.inr (w_ hw 32 rfl)) (by decide) (t := (.array (.array .int))) (t' := .int) (by decide) (by decide)))).ext E11).other W15 (Or.inl ne_o0_b11)).other W17 (Or.inl ne_o0_b11)).other W19 (Or.inl ne_o0_b11)).ext E20)
  have Fw23 := q26.same W23
  refine own_of st23 ?_
  show own_Out p e below _ (T23.setTop (mkF m 72 #[rv o0, rv o1, rv o2, iv 3, rv b11, rv o2, iv 3, iv 3, iv 2] []))
  refine o_iconst X23 hx hby d3_72 (z := 0) rfl (q := 73) rfl ?_
  refine o_istore X23 hx hby d3_73 (l' := #[rv o0, rv o1, rv o2, iv 3, rv b11, iv 0, iv 3, iv 3, iv 2]) rfl (q := 75) rfl ?_
  refine o_iload X23 hx hby d3_75 rfl (q := 77) rfl ?_
  refine o_iloadN X23 hx hby d3_77 rfl (q := 78) rfl ?_
  refine o_icN X23 hx hby d3_78 (tlt (by decide : (0 : Int32) < (3 : Int32))).2.1 (q := 81) rfl ?_
  refine o_aloadN X23 hx hby d3_81 rfl rfl (q := 82) rfl ?_
  refine o_getF X23 hx hZ hown hby (w_ hw 35 rfl) Via.refl e23 Fw23 d3_82 (q := 85) rfl fun T27 X27 e27 => ?_
  refine o_iload X27 hx hby d3_85 rfl (q := 87) rfl ?_
  refine o_aload X27 hx hby d3_87 rfl rfl (q := 89) rfl ?_
  refine o_iload X27 hx hby d3_89 rfl (q := 91) rfl ?_
  have q28 := ((V19.ext E20).other W23 (Ne.symm ne_o0_b11))
  refine o_iaV X27 hx hby hZ e27 q28 ⟨by decide, by decide⟩ (v := .int 1) rfl d3_91 (q := 92) rfl ?_
  obtain ⟨T29, h29, k29, X29, e29, E29, A29, Ex29, st29⟩ := newPE X27 hx hZ (w_ hw 5 rfl) e27 (g := (mkF m 92 #[rv o0, rv o1, rv o2, iv 3, rv b11, iv 0, iv 3, iv 3, iv 2] [.int 1, .int 0, .ref b20])) rfl (hb hby d3_92) rfl (by decide) (cap := 1) (by decide) (by decide) (by decide) (by decide) (ad := "[I") (by decide +kernel)
  obtain ⟨b29, g29⟩ : ∃ z, z = h23.size := ⟨_, rfl⟩
  rw [← g29] at A29 Ex29 st29
  have q30 := (Nat.le_trans (Nat.le_trans q21 E20.1) (Keep.of_wr W23).1)
  have g_b29 : n0 ≤ b29 := Nat.le_trans q30 (Nat.le_of_eq g29.symm)
  have q31 := (Nat.le_trans (Nat.le_trans q22 E20.1) (Keep.of_wr W23).1)
  have sz_b29 : h0.size ≤ b29 := Nat.le_trans q31 (Nat.le_of_eq g29.symm)
  have V_b29 : Arv Z h29 b29 k29 .int (1 : Int32) [(.int (0 : Int32))] (.int (0 : Int32)) := (Arv.new A29 (by decide)).pad (pad_rep [] (.int (0 : Int32)) 1)
  refine own_of st29 ?_
  show own_Out p e below _ (T29.setTop (mkF m 94 #[rv o0, rv o1, rv o2, iv 3, rv b11, iv 0, iv 3, iv 3, iv 2] [.ref b29, .int 0, .ref b20]))
  have ne_o0_b20 : o0 ≠ b20 := Nat.ne_of_lt (Nat.lt_of_lt_of_le E.lt sz_b20)
  have q32 := ((V_b20.other W23 (Ne.symm ne_o0_b20)).ext E29)
  refine o_stVR X29 hx hby hZ e29 q32 ⟨by decide, by decide⟩ 0 rfl (Nat.le_of_ble_eq_true rfl) O20 (Ins.self Ex29) d3_94 (q := 95) rfl fun T33 h33 X33 e33 W33 V33 => ?_
  refine o_iinc X33 hx hby d3_95 rfl (l' := #[rv o0, rv o1, rv o2, iv 3, rv b11, iv 1, iv 3, iv 3, iv 2]) rfl (q := 98) rfl ?_
  refine o_goto X33 hx hby d3_98 (by decide) (q := 75) (by decide) ?_
  refine o_iload X33 hx hby d3_75 rfl (q := 77) rfl ?_
  refine o_iloadN X33 hx hby d3_77 rfl (q := 78) rfl ?_
  refine o_icN X33 hx hby d3_78 (tlt (by decide : (1 : Int32) < (3 : Int32))).2.1 (q := 81) rfl ?_
  refine o_aloadN X33 hx hby d3_81 rfl rfl (q := 82) rfl ?_
  have q35 := ((Fw23.ext E29).other W33 (Or.inl ne_o0_b20))
  refine o_getF X33 hx hZ hown hby (w_ hw 35 rfl) Via.refl e33 q35 d3_82 (q := 85) rfl fun T34 X34 e34 => ?_
  refine o_iload X34 hx hby d3_85 rfl (q := 87) rfl ?_
  refine o_aload X34 hx hby d3_87 rfl rfl (q := 89) rfl ?_
  refine o_iload X34 hx hby d3_89 rfl (q := 91) rfl ?_
  have ne_b11_b20 : b11 ≠ b20 := Nat.ne_of_lt (Nat.lt_of_lt_of_le (Nat.lt_of_lt_of_le (Nat.lt_of_lt_of_le (Nat.lt_of_lt_of_le A11.lt (Keep.of_wr W15).1) (Keep.of_wr W17).1) (Keep.of_wr W19).1) (Nat.le_of_eq g20.symm))
  have q36 := ((q28.ext E29).other W33 ne_b11_b20)
  refine o_iaV X34 hx hby hZ e34 q36 ⟨by decide, by decide⟩ (v := .int 1) rfl d3_91 (q := 92) rfl ?_
  obtain ⟨T37, h37, k37, X37, e37, E37, A37, Ex37, st37⟩ := newPE X34 hx hZ (w_ hw 5 rfl) e34 (g := (mkF m 92 #[rv o0, rv o1, rv o2, iv 3, rv b11, iv 1, iv 3, iv 3, iv 2] [.int 1, .int 1, .ref b20])) rfl (hb hby d3_92) rfl (by decide) (cap := 1) (by decide) (by decide) (by decide) (by decide) (ad := "[I") (by decide +kernel)
  obtain ⟨b37, g37⟩ : ∃ z, z = h33.size := ⟨_, rfl⟩
  rw [← g37] at A37 Ex37 st37
  have q38 := (Nat.le_trans (Nat.le_trans q30 E29.1) (Keep.of_wr W33).1)
  have g_b37 : n0 ≤ b37 := Nat.le_trans q38 (Nat.le_of_eq g37.symm)
  have q39 := (Nat.le_trans (Nat.le_trans q31 E29.1) (Keep.of_wr W33).1)
  have sz_b37 : h0.size ≤ b37 := Nat.le_trans q39 (Nat.le_of_eq g37.symm)
  have V_b37 : Arv Z h37 b37 k37 .int (1 : Int32) [(.int (0 : Int32))] (.int (0 : Int32)) := (Arv.new A37 (by decide)).pad (pad_rep [] (.int (0 : Int32)) 1)
  refine own_of st37 ?_
  show own_Out p e below _ (T37.setTop (mkF m 94 #[rv o0, rv o1, rv o2, iv 3, rv b11, iv 1, iv 3, iv 3, iv 2] [.ref b37, .int 1, .ref b20]))
  have q40 := (V33.ext E37)
  refine o_stVR X37 hx hby hZ e37 q40 ⟨by decide, by decide⟩ 1 rfl (Nat.le_of_ble_eq_true rfl) O20 (Ins.self Ex37) d3_94 (q := 95) rfl fun T41 h41 X41 e41 W41 V41 => ?_
  refine o_iinc X41 hx hby d3_95 rfl (l' := #[rv o0, rv o1, rv o2, iv 3, rv b11, iv 2, iv 3, iv 3, iv 2]) rfl (q := 98) rfl ?_
  refine o_goto X41 hx hby d3_98 (by decide) (q := 75) (by decide) ?_
  refine o_iload X41 hx hby d3_75 rfl (q := 77) rfl ?_
  refine o_iloadN X41 hx hby d3_77 rfl (q := 78) rfl ?_
  refine o_icN X41 hx hby d3_78 (tlt (by decide : (2 : Int32) < (3 : Int32))).2.1 (q := 81) rfl ?_
  refine o_aloadN X41 hx hby d3_81 rfl rfl (q := 82) rfl ?_
  have q43 := ((q35.ext E37).other W41 (Or.inl ne_o0_b20))
  refine o_getF X41 hx hZ hown hby (w_ hw 35 rfl) Via.refl e41 q43 d3_82 (q := 85) rfl fun T42 X42 e42 => ?_
  refine o_iload X42 hx hby d3_85 rfl (q := 87) rfl ?_
  refine o_aload X42 hx hby d3_87 rfl rfl (q := 89) rfl ?_
  refine o_iload X42 hx hby d3_89 rfl (q := 91) rfl ?_
  have q44 := ((q36.ext E37).other W41 ne_b11_b20)
  refine o_iaV X42 hx hby hZ e42 q44 ⟨by decide, by decide⟩ (v := .int 1) rfl d3_91 (q := 92) rfl ?_
  obtain ⟨T45, h45, k45, X45, e45, E45, A45, Ex45, st45⟩ := newPE X42 hx hZ (w_ hw 5 rfl) e42 (g := (mkF m 92 #[rv o0, rv o1, rv o2, iv 3, rv b11, iv 2, iv 3, iv 3, iv 2] [.int 1, .int 2, .ref b20])) rfl (hb hby d3_92) rfl (by decide) (cap := 1) (by decide) (by decide) (by decide) (by decide) (ad := "[I") (by decide +kernel)
  obtain ⟨b45, g45⟩ : ∃ z, z = h41.size := ⟨_, rfl⟩
  rw [← g45] at A45 Ex45 st45
  have q46 := (Nat.le_trans (Nat.le_trans q38 E37.1) (Keep.of_wr W41).1)
  have g_b45 : n0 ≤ b45 := Nat.le_trans q46 (Nat.le_of_eq g45.symm)
  have q47 := (Nat.le_trans (Nat.le_trans q39 E37.1) (Keep.of_wr W41).1)
  have sz_b45 : h0.size ≤ b45 := Nat.le_trans q47 (Nat.le_of_eq g45.symm)
  have V_b45 : Arv Z h45 b45 k45 .int (1 : Int32) [(.int (0 : Int32))] (.int (0 : Int32)) := (Arv.new A45 (by decide)).pad (pad_rep [] (.int (0 : Int32)) 1)
  refine own_of st45 ?_
  show own_Out p e below _ (T45.setTop (mkF m 94 #[rv o0, rv o1, rv o2, iv 3, rv b11, iv 2, iv 3, iv 3, iv 2] [.ref b45, .int 2, .ref b20]))
  have q48 := (V41.ext E45)
  refine o_stVR X45 hx hby hZ e45 q48 ⟨by decide, by decide⟩ 2 rfl (Nat.le_of_ble_eq_true rfl) O20 (Ins.self Ex45) d3_94 (q := 95) rfl fun T49 h49 X49 e49 W49 V49 => ?_
  refine o_iinc X49 hx hby d3_95 rfl (l' := #[rv o0, rv o1, rv o2, iv 3, rv b11, iv 3, iv 3, iv 3, iv 2]) rfl (q := 98) rfl ?_
  refine o_goto X49 hx hby d3_98 (by decide) (q := 75) (by decide) ?_
  refine o_iload X49 hx hby d3_75 rfl (q := 77) rfl ?_
  refine o_iloadN X49 hx hby d3_77 rfl (q := 78) rfl ?_
  refine o_icY X49 hx hby d3_78 (flt (by decide : ¬ ((3 : Int32) < (3 : Int32)))).2.1 (by decide) (q := 101) (by decide) ?_
  refine o_iloadN X49 hx hby d3_101 rfl (q := 102) rfl ?_
  obtain ⟨T50, h50, k50, X50, e50, E50, A50, Ex50, st50⟩ := newPE X49 hx hZ (w_ hw 5 rfl) e49 (g := (mkF m 102 #[rv o0, rv o1, rv o2, iv 3, rv b11, iv 3, iv 3, iv 3, iv 2] [.int 3])) rfl (hb hby d3_102) rfl (by decide) (cap := 3) (by decide) (by decide) (by decide) (by decide) (ad := "[I") (by decide +kernel)
  obtain ⟨b50, g50⟩ : ∃ z, z = h49.size := ⟨_, rfl⟩
  rw [← g50] at A50 Ex50 st50
  have q51 := (Nat.le_trans (Nat.le_trans q46 E45.1) (Keep.of_wr W49).1)
  have g_b50 : n0 ≤ b50 := Nat.le_trans q51 (Nat.le_of_eq g50.symm)
  have q52 := (Nat.le_trans (Nat.le_trans q47 E45.1) (Keep.of_wr W49).1)
  have sz_b50 : h0.size ≤ b50 := Nat.le_trans q52 (Nat.le_of_eq g50.symm)
  have V_b50 : Arv Z h50 b50 k50 .int (3 : Int32) [(.int (0 : Int32)), (.int (0 : Int32)), (.int (0 : Int32))] (.int (0 : Int32)) := (Arv.new A50 (by decide)).pad (pad_rep [] (.int (0 : Int32)) 3)
  refine own_of st50 ?_
  show own_Out p e below _ (T50.setTop (mkF m 104 #[rv o0, rv o1, rv o2, iv 3, rv b11, iv 3, iv 3, iv 3, iv 2] [.ref b50]))
  refine o_astore X50 hx hby d3_104 rfl (l' := #[rv o0, rv o1, rv o2, iv 3, rv b11, rv b50, iv 3, iv 3, iv 2]) rfl (q := 106) rfl ?_
  refine o_iconst X50 hx hby d3_106 (z := 0) rfl (q := 107) rfl ?_
  refine o_istore X50 hx hby d3_107 (l' := #[rv o0, rv o1, rv o2, iv 3, rv b11, rv b50, iv 0, iv 3, iv 2]) rfl (q := 109) rfl ?_
  have ne_o2_b20 : o2 ≠ b20 := Nat.ne_of_lt (Nat.lt_of_lt_of_le V.lt sz_b20)
  have q55 := ((((((((((q18.other W19 ne_o2_b11).ext E20).other W23 n2).ext E29).other W33 ne_o2_b20).ext E37).other W41 ne_o2_b20).ext E45).other W49 ne_o2_b20).ext E50)
  have q56 := (((q43.ext E45).other W49 (Or.inl ne_o0_b20)).ext E50)
  have q57 := (V49.ext E50)
  have ne_b20_b29 : b20 ≠ b29 := Nat.ne_of_lt (Nat.lt_of_lt_of_le (Nat.lt_of_lt_of_le A20.lt (Keep.of_wr W23).1) (Nat.le_of_eq g29.symm))
  have q58 := ((((((V_b29.other W33 (Ne.symm ne_b20_b29)).ext E37).other W41 (Ne.symm ne_b20_b29)).ext E45).other W49 (Ne.symm ne_b20_b29)).ext E50)
  have ne_b29_b50 : b29 ≠ b50 := Nat.ne_of_lt (Nat.lt_of_lt_of_le (Nat.lt_of_lt_of_le (Nat.lt_of_lt_of_le (Nat.lt_of_lt_of_le (Nat.lt_of_lt_of_le (Nat.lt_of_lt_of_le A29.lt (Keep.of_wr W33).1) E37.1) (Keep.of_wr W41).1) E45.1) (Keep.of_wr W49).1) (Nat.le_of_eq g50.symm))
  refine t3 X50 hx hby hZ e50 hw hown q55 q56 q57 V_b50 q58 ne_b29_b50 ⟨by decide, by decide⟩ (x := 0) rfl ⟨by decide, by decide⟩ rfl (f := 0) rfl ⟨by decide, by decide⟩ (f' := 1) rfl (i' := 1) rfl (iN := 0) rfl (Nat.le_of_ble_eq_true rfl) (jN := 0) rfl (Nat.le_of_ble_eq_true rfl) fun T54 h53 h54 X54 e54 W53 W54 V53 V54 => ?_
  have ne_o2_b50 : o2 ≠ b50 := Nat.ne_of_lt (Nat.lt_of_lt_of_le V.lt sz_b50)
  have ne_o2_b29 : o2 ≠ b29 := Nat.ne_of_lt (Nat.lt_of_lt_of_le V.lt sz_b29)
  have q61 := ((q55.other W53 ne_o2_b50).other W54 ne_o2_b29)
  have ne_o0_b50 : o0 ≠ b50 := Nat.ne_of_lt (Nat.lt_of_lt_of_le E.lt sz_b50)
  have ne_o0_b29 : o0 ≠ b29 := Nat.ne_of_lt (Nat.lt_of_lt_of_le E.lt sz_b29)
  have q62 := ((q56.other W53 (Or.inl ne_o0_b50)).other W54 (Or.inl ne_o0_b29))
  have ne_b20_b50 : b20 ≠ b50 := Nat.ne_of_lt (Nat.lt_of_lt_of_le (Nat.lt_of_lt_of_le (Nat.lt_of_lt_of_le (Nat.lt_of_lt_of_le (Nat.lt_of_lt_of_le (Nat.lt_of_lt_of_le (Nat.lt_of_lt_of_le (Nat.lt_of_lt_of_le A20.lt (Keep.of_wr W23).1) E29.1) (Keep.of_wr W33).1) E37.1) (Keep.of_wr W41).1) E45.1) (Keep.of_wr W49).1) (Nat.le_of_eq g50.symm))
  have q63 := ((q57.other W53 ne_b20_b50).other W54 ne_b20_b29)
  have q64 := (V53.other W54 (Ne.symm ne_b29_b50))
  have ne_b20_b37 : b20 ≠ b37 := Nat.ne_of_lt (Nat.lt_of_lt_of_le (Nat.lt_of_lt_of_le (Nat.lt_of_lt_of_le (Nat.lt_of_lt_of_le A20.lt (Keep.of_wr W23).1) E29.1) (Keep.of_wr W33).1) (Nat.le_of_eq g37.symm))
  have ne_b37_b50 : b37 ≠ b50 := Nat.ne_of_lt (Nat.lt_of_lt_of_le (Nat.lt_of_lt_of_le (Nat.lt_of_lt_of_le (Nat.lt_of_lt_of_le A37.lt (Keep.of_wr W41).1) E45.1) (Keep.of_wr W49).1) (Nat.le_of_eq g50.symm))
  have ne_b29_b37 : b29 ≠ b37 := Nat.ne_of_lt (Nat.lt_of_lt_of_le (Nat.lt_of_lt_of_le A29.lt (Keep.of_wr W33).1) (Nat.le_of_eq g37.symm))
  have q65 := ((((((V_b37.other W41 (Ne.symm ne_b20_b37)).ext E45).other W49 (Ne.symm ne_b20_b37)).ext E50).other W53 ne_b37_b50).other W54 (Ne.symm ne_b29_b37))
  refine t3 X54 hx hby hZ e54 hw hown q61 q62 q63 q64 q65 ne_b37_b50 ⟨by decide, by decide⟩ (x := 1) rfl ⟨by decide, by decide⟩ rfl (f := 0) rfl ⟨by decide, by decide⟩ (f' := 1) rfl (i' := 2) rfl (iN := 1) rfl (Nat.le_of_ble_eq_true rfl) (jN := 0) rfl (Nat.le_of_ble_eq_true rfl) fun T60 h59 h60 X60 e60 W59 W60 V59 V60 => ?_
  have ne_o2_b37 : o2 ≠ b37 := Nat.ne_of_lt (Nat.lt_of_lt_of_le V.lt sz_b37)
  have q68 := ((q61.other W59 ne_o2_b50).other W60 ne_o2_b37)
  have ne_o0_b37 : o0 ≠ b37 := Nat.ne_of_lt (Nat.lt_of_lt_of_le E.lt sz_b37)
  have q69 := ((q62.other W59 (Or.inl ne_o0_b50)).other W60 (Or.inl ne_o0_b37))
  have q70 := ((q63.other W59 ne_b20_b50).other W60 ne_b20_b37)
  have q71 := (V59.other W60 (Ne.symm ne_b37_b50))
  have ne_b20_b45 : b20 ≠ b45 := Nat.ne_of_lt (Nat.lt_of_lt_of_le (Nat.lt_of_lt_of_le (Nat.lt_of_lt_of_le (Nat.lt_of_lt_of_le (Nat.lt_of_lt_of_le (Nat.lt_of_lt_of_le A20.lt (Keep.of_wr W23).1) E29.1) (Keep.of_wr W33).1) E37.1) (Keep.of_wr W41).1) (Nat.le_of_eq g45.symm))
  have ne_b45_b50 : b45 ≠ b50 := Nat.ne_of_lt (Nat.lt_of_lt_of_le (Nat.lt_of_lt_of_le A45.lt (Keep.of_wr W49).1) (Nat.le_of_eq g50.symm))
  have ne_b29_b45 : b29 ≠ b45 := Nat.ne_of_lt (Nat.lt_of_lt_of_le (Nat.lt_of_lt_of_le (Nat.lt_of_lt_of_le (Nat.lt_of_lt_of_le A29.lt (Keep.of_wr W33).1) E37.1) (Keep.of_wr W41).1) (Nat.le_of_eq g45.symm))
  have ne_b37_b45 : b37 ≠ b45 := Nat.ne_of_lt (Nat.lt_of_lt_of_le (Nat.lt_of_lt_of_le A37.lt (Keep.of_wr W41).1) (Nat.le_of_eq g45.symm))
  have q72 := ((((((V_b45.other W49 (Ne.symm ne_b20_b45)).ext E50).other W53 ne_b45_b50).other W54 (Ne.symm ne_b29_b45)).other W59 ne_b45_b50).other W60 (Ne.symm ne_b37_b45))
  refine t3 X60 hx hby hZ e60 hw hown q68 q69 q70 q71 q72 ne_b45_b50 ⟨by decide, by decide⟩ (x := 2) rfl ⟨by decide, by decide⟩ rfl (f := 0) rfl ⟨by decide, by decide⟩ (f' := 1) rfl (i' := 3) rfl (iN := 2) rfl (Nat.le_of_ble_eq_true rfl) (jN := 0) rfl (Nat.le_of_ble_eq_true rfl) fun T67 h66 h67 X67 e67 W66 W67 V66 V67 => ?_
  refine o_iload X67 hx hby d3_109 rfl (q := 111) rfl ?_
  refine o_aloadN X67 hx hby d3_111 rfl rfl (q := 112) rfl ?_
  have ne_o2_b45 : o2 ≠ b45 := Nat.ne_of_lt (Nat.lt_of_lt_of_le V.lt sz_b45)
  have q73 := ((q68.other W66 ne_o2_b50).other W67 ne_o2_b45)
  refine o_lenV X67 hx hby hZ e67 q73 d3_112 (q := 113) rfl ?_
  refine o_icY X67 hx hby d3_113 (flt (by decide : ¬ ((3 : Int32) < (3 : Int32)))).2.1 (by decide) (q := 146) (by decide) ?_
  have q74 := (((((((((((((((((((((((Keep.refl h0 [o0]).wr W2 (Or.inl (List.mem_of_getElem? (i := 0) rfl))).wr W3 (Or.inl (List.mem_of_getElem? (i := 0) rfl))).wr W7 (Or.inl (List.mem_of_getElem? (i := 0) rfl))).ext E11).wr W15 (Or.inr sz_b11)).wr W17 (Or.inr sz_b11)).wr W19 (Or.inr sz_b11)).ext E20).wr W23 (Or.inl (List.mem_of_getElem? (i := 0) rfl))).ext E29).wr W33 (Or.inr sz_b20)).ext E37).wr W41 (Or.inr sz_b20)).ext E45).wr W49 (Or.inr sz_b20)).ext E50).wr W53 (Or.inr sz_b50)).wr W54 (Or.inr sz_b29)).wr W59 (Or.inr sz_b50)).wr W60 (Or.inr sz_b37)).wr W66 (Or.inr sz_b50)).wr W67 (Or.inr sz_b45))
  have q75 := ((((((((((((((q25.wr W23).ext E29).wr W33).ext E37).wr W41).ext E45).wr W49).ext E50).wr W53).wr W54).wr W59).wr W60).wr W66).wr W67)
  have ne_o0_b45 : o0 ≠ b45 := Nat.ne_of_lt (Nat.lt_of_lt_of_le E.lt sz_b45)
  have q76 := ((((((((((((((((((((Fw3.other W7 (Or.inr (slot_ne (Or.inr (w_ hw 30 rfl)) (Or.inr (w_ hw 32 rfl)) (by decide) (t := (.array .int)) (t' := .int) (by decide) (by decide)))).ext E11).other W15 (Or.inl ne_o0_b11)).other W17 (Or.inl ne_o0_b11)).other W19 (Or.inl ne_o0_b11)).ext E20).other W23 (Or.inr (slot_ne (Or.inr (w_ hw 30 rfl)) (Or.inr (w_ hw 36 rfl)) (by decide) (t := (.array .int)) (t' := (.array (.array .int))) (by decide) (by decide)))).ext E29).other W33 (Or.inl ne_o0_b20)).ext E37).other W41 (Or.inl ne_o0_b20)).ext E45).other W49 (Or.inl ne_o0_b20)).ext E50).other W53 (Or.inl ne_o0_b50)).other W54 (Or.inl ne_o0_b29)).other W59 (Or.inl ne_o0_b50)).other W60 (Or.inl ne_o0_b37)).other W66 (Or.inl ne_o0_b50)).other W67 (Or.inl ne_o0_b45))
  have q77 := (((((((((((((((((((Fw7.ext E11).other W15 (Or.inl ne_o0_b11)).other W17 (Or.inl ne_o0_b11)).other W19 (Or.inl ne_o0_b11)).ext E20).other W23 (Or.inr (slot_ne (Or.inr (w_ hw 32 rfl)) (Or.inr (w_ hw 36 rfl)) (by decide) (t := .int) (t' := (.array (.array .int))) (by decide) (by decide)))).ext E29).other W33 (Or.inl ne_o0_b20)).ext E37).other W41 (Or.inl ne_o0_b20)).ext E45).other W49 (Or.inl ne_o0_b20)).ext E50).other W53 (Or.inl ne_o0_b50)).other W54 (Or.inl ne_o0_b29)).other W59 (Or.inl ne_o0_b50)).other W60 (Or.inl ne_o0_b37)).other W66 (Or.inl ne_o0_b50)).other W67 (Or.inl ne_o0_b45))
  exact own_outV X67 hx hlk hret (hb hby d3_146) (Q := Q3c012n3 Z o0 o1 o2 k2 h0 n0) (by rw [e67]; exact ⟨rfl, (Fr.snoc X67 (own_snoc (Fr.snoc X60 (own_snoc (Fr.snoc X54 (own_snoc (Fr.snoc X49 (Fr.snoc X41 (Fr.snoc X33 (Fr.snoc X23 (Fr.snoc X19 (Fr.snoc X17 (Fr.snoc X15 (Fr.snoc X7 (Fr.snoc X3 (Fr.snoc X2 N0 g_o0) g_o0) g_o0) g_b11) g_b11) g_b11) g_o0) g_b20) g_b20) g_b20) g_b50) g_b29) g_b50) g_b37) g_b50) g_b45), q74, q75, q76, q77⟩) (by decide) (by decide)
theorem ef_3c0120n3 (m : MethodId) (x0 : Addr) (x1 : Addr) (x2 : Addr) : entryFrame m #[(.ref x0), (.ref x1), (.ref x2), (.int (3 : Int32))] 9 = mkF m 0 #[.val (.ref x0), .val (.ref x1), .val (.ref x2), .val (.int (3 : Int32)), .unset, .unset, .unset, .unset, .unset] [] := by first | (simp [entryFrame, mkF, argsToLocals, Value.category]; done) | rfl
def Q3c0120n3 (Z : State) (o0 : Addr) (o1 : Addr) (o2 : Addr) (k2 : ClassId) (h0 : Heap) (n0 : Nat) (v : Option Value) (h : Heap) (L : List Loc) : Prop := v = none ∧ Fr n0 L ∧ Keep h0 h [o0] ∧ Exa Z h o0 "com/example/slimc/slimc/game/Observation" ∧ Fld Z h o0 "com/example/slimc/slimc/game/Observation" "classOf" "[I" (.ref o2) ∧ Fld Z h o0 "com/example/slimc/slimc/game/Observation" "classCount" "I" (.int (3 : Int32))
set_option maxRecDepth 65536 in
set_option maxHeartbeats 40000000 in
theorem rm3c0120n3 (l : Launch) (Z : State) (a0 : Array Value) (hw : ∀ d ∈ tables_1, d.before a0 Z = true) (ws : List Jvm.Cond) (o0 : Addr) (o1 : Addr) (o2 : Addr) (k2 : ClassId) (h0 : Heap) (n0 : Nat) (Z0 : n0 ≤ h0.size) (E : Exa Z h0 o0 "com/example/slimc/slimc/game/Observation") (F_name : Fld Z h0 o0 "com/example/slimc/slimc/game/Observation" "name" "Ljava/lang/String;" .null) (F_classOf : Fld Z h0 o0 "com/example/slimc/slimc/game/Observation" "classOf" "[I" .null) (F_classCount : Fld Z h0 o0 "com/example/slimc/slimc/game/Observation" "classCount" "I" (.int (0 : Int32))) (F_classes : Fld Z h0 o0 "com/example/slimc/slimc/game/Observation" "classes" "[[I" .null) (g_o0 : n0 ≤ o0) (V : Arv Z h0 o2 k2 .int (4 : Int32) [(.int (0 : Int32)), (.int (1 : Int32)), (.int (2 : Int32)), (.int (0 : Int32))] (.int (0 : Int32))) (n2 : o2 ≠ o0) :
    MetFree l (⟨"com/example/slimc/slimc/game/Observation", "<init>", "(Ljava/lang/String;[II)V"⟩ : MethodName) (head1 (Jvm.Cond.code (⟨"com/example/slimc/slimc/game/Observation", "<init>", "(Ljava/lang/String;[II)V"⟩ : MethodName) prog_66_method_1_code 9 none :: ws) ({ frames := 1, cells := 7, slots := 16, locals := 14 } : Room)) (fun a U => a = #[(.ref o0), (.ref o1), (.ref o2), (.int (3 : Int32))] ∧ Z.Warmed39 U.vm ∧ U.heap = h0) (fun _ _ _ _ _ => True) (fun _ U o U' => ∃ v L, o = .returned v ∧ Q3c0120n3 Z o0 o1 o2 k2 h0 n0 v U'.heap L ∧ FrameEnd U o U' L ({ frames := 1, cells := 7, slots := 16, locals := 14 } : Room).cells ({ frames := 1, cells := 7, slots := 16, locals := 14 } : Room).slots) := by
  refine MetFree.of_bodySF (plainFor_of_name pn_1) hisR ?_
  intro p e s m args below meth c s₁ Bd hml0 hP hK
  obtain ⟨rfl, hZ, hh⟩ := hP
  have hx := Bd.exec
  have hby := Bd.bytes
  have hml : c.maxLocals = 9 := hml0
  have hown : s.vm.findClass "com/example/slimc/slimc/game/Observation" = some m.cls := findClass_of_methodNamed Bd.named
  have hnm := (name_of_methodNamed Bd.named Bd.method).1
  have X0 : Stand p l e ({ frames := 1, cells := 7, slots := 16, locals := 14 } : Room) s m #[(.ref o0), (.ref o1), (.ref o2), (.int (3 : Int32))] below meth c s₁ [] 0 0 := Stand.of_body Bd
  have e0 : s₁.heap = h0 := by rw [← hh, Bd.state]; rfl
  have N0 := Fr.nil n0
  have hret := Bd.returns
  have hlk := BodyLoose.notSynchronized Bd
  show own_Out p e below (fun o U' => ∃ v L, o = .returned v ∧ Q3c0120n3 Z o0 o1 o2 k2 h0 n0 v U'.heap L ∧ FrameEnd s o U' L ({ frames := 1, cells := 7, slots := 16, locals := 14 } : Room).cells ({ frames := 1, cells := 7, slots := 16, locals := 14 } : Room).slots) (s₁.setTop (entryFrame m #[(.ref o0), (.ref o1), (.ref o2), (.int (3 : Int32))] 9))
  refine own_of (fun t k => castTop (ef_3c0120n3 m o0 o1 o2) k) ?_
  show own_Out p e below _ (s₁.setTop (mkF m 0 #[rv o0, rv o1, rv o2, iv 3, .unset, .unset, .unset, .unset, .unset] []))
  refine o_aloadN X0 hx hby d3_0 rfl rfl (q := 1) rfl ?_
  obtain ⟨T1, X1, e1, st1⟩ := initO X0 hx hZ hown (w_ hw 24 rfl) (w_ hw 25 rfl) (w_ hw 26 rfl) e0 (g := (mkF m 1 #[rv o0, rv o1, rv o2, iv 3, .unset, .unset, .unset, .unset, .unset] [.ref o0])) rfl (by rw [hml]; rfl) rfl (hb hby d3_1) (by decide) (W := 0) (by show 2 * 0 + _ ≤ _; exact Nat.le_of_eq rfl) (by decide)
  refine own_of st1 ?_
  show own_Out p e below _ (T1.setTop (mkF m 4 #[rv o0, rv o1, rv o2, iv 3, .unset, .unset, .unset, .unset, .unset] []))
  refine o_aloadN X1 hx hby d3_4 rfl rfl (q := 5) rfl ?_
  refine o_aloadN X1 hx hby d3_5 rfl rfl (q := 6) rfl ?_
  obtain ⟨T2, h2, X2, e2, W2, st2⟩ := putF X1 hx hZ hown (host := "") (Or.inl (w_ hw 27 rfl)) Via.refl e1 F_name E (Or.inr ⟨(w_ hw 28 rfl), rfl, hnm⟩) (w_ hw 11 rfl) (ty := (.object "java/lang/String")) (by decide) rfl rfl (g := (mkF m 6 #[rv o0, rv o1, rv o2, iv 3, .unset, .unset, .unset, .unset, .unset] [.ref o1, .ref o0])) rfl rfl (hb hby d3_6)
  have Fw2 := F_name.same W2
  refine own_of st2 ?_
  show own_Out p e below _ (T2.setTop (mkF m 9 #[rv o0, rv o1, rv o2, iv 3, .unset, .unset, .unset, .unset, .unset] []))
  refine o_aloadN X2 hx hby d3_9 rfl rfl (q := 10) rfl ?_
  refine o_aloadN X2 hx hby d3_10 rfl rfl (q := 11) rfl ?_
  have q4 := (F_classOf.other W2 (Or.inr (slot_ne (Or.inr (w_ hw 30 rfl)) (Or.inr (w_ hw 28 rfl)) (by decide) (t := (.array .int)) (t' := (.object "java/lang/String")) (by decide) (by decide))))
  have q5 := (E.wr W2)
  obtain ⟨T3, h3, X3, e3, W3, st3⟩ := putF X2 hx hZ hown (host := "") (Or.inl (w_ hw 29 rfl)) Via.refl e2 q4 q5 (Or.inr ⟨(w_ hw 30 rfl), rfl, hnm⟩) (w_ hw 11 rfl) (ty := (.array .int)) (by decide) rfl rfl (g := (mkF m 11 #[rv o0, rv o1, rv o2, iv 3, .unset, .unset, .unset, .unset, .unset] [.ref o2, .ref o0])) rfl rfl (hb hby d3_11)
  have q6 := (F_classOf.other W2 (Or.inr (slot_ne (Or.inr (w_ hw 30 rfl)) (Or.inr (w_ hw 28 rfl)) (by decide) (t := (.array .int)) (t' := (.object "java/lang/String")) (by decide) (by decide))))
  have Fw3 := q6.same W3
  refine own_of st3 ?_
  show own_Out p e below _ (T3.setTop (mkF m 14 #[rv o0, rv o1, rv o2, iv 3, .unset, .unset, .unset, .unset, .unset] []))
  refine o_aloadN X3 hx hby d3_14 rfl rfl (q := 15) rfl ?_
  refine o_iloadN X3 hx hby d3_15 rfl (q := 16) rfl ?_
  have q8 := ((F_classCount.other W2 (Or.inr (slot_ne (Or.inr (w_ hw 32 rfl)) (Or.inr (w_ hw 28 rfl)) (by decide) (t := .int) (t' := (.object "java/lang/String")) (by decide) (by decide)))).other W3 (Or.inr (slot_ne (Or.inr (w_ hw 32 rfl)) (Or.inr (w_ hw 30 rfl)) (by decide) (t := .int) (t' := (.array .int)) (by decide) (by decide))))
  have q9 := (q5.wr W3)
  obtain ⟨T7, h7, X7, e7, W7, st7⟩ := putF X3 hx hZ hown (host := "") (Or.inl (w_ hw 31 rfl)) Via.refl e3 q8 q9 (Or.inr ⟨(w_ hw 32 rfl), rfl, hnm⟩) (w_ hw 11 rfl) (ty := .int) (by decide) rfl rfl (g := (mkF m 16 #[rv o0, rv o1, rv o2, iv 3, .unset, .unset, .unset, .unset, .unset] [.int 3, .ref o0])) rfl rfl (hb hby d3_16)
  have q10 := ((F_classCount.other W2 (Or.inr (slot_ne (Or.inr (w_ hw 32 rfl)) (Or.inr (w_ hw 28 rfl)) (by decide) (t := .int) (t' := (.object "java/lang/String")) (by decide) (by decide)))).other W3 (Or.inr (slot_ne (Or.inr (w_ hw 32 rfl)) (Or.inr (w_ hw 30 rfl)) (by decide) (t := .int) (t' := (.array .int)) (by decide) (by decide))))
  have Fw7 := q10.same W7
  refine own_of st7 ?_
  show own_Out p e below _ (T7.setTop (mkF m 19 #[rv o0, rv o1, rv o2, iv 3, .unset, .unset, .unset, .unset, .unset] []))
  refine o_iloadN X7 hx hby d3_19 rfl (q := 20) rfl ?_
  obtain ⟨T11, h11, k11, X11, e11, E11, A11, Ex11, st11⟩ := newPE X7 hx hZ (w_ hw 5 rfl) e7 (g := (mkF m 20 #[rv o0, rv o1, rv o2, iv 3, .unset, .unset, .unset, .unset, .unset] [.int 3])) rfl (hb hby d3_20) rfl (by decide) (cap := 3) (by decide) (by decide) (by decide) (by decide) (ad := "[I") (by decide +kernel)
  obtain ⟨b11, g11⟩ : ∃ z, z = h7.size := ⟨_, rfl⟩
  rw [← g11] at A11 Ex11 st11
  have q12 := (Nat.le_trans (Nat.le_trans (Nat.le_trans Z0 (Keep.of_wr W2).1) (Keep.of_wr W3).1) (Keep.of_wr W7).1)
  have g_b11 : n0 ≤ b11 := Nat.le_trans q12 (Nat.le_of_eq g11.symm)
  have q13 := (Nat.le_trans (Nat.le_trans (Nat.le_trans (Nat.le_refl h0.size) (Keep.of_wr W2).1) (Keep.of_wr W3).1) (Keep.of_wr W7).1)
  have sz_b11 : h0.size ≤ b11 := Nat.le_trans q13 (Nat.le_of_eq g11.symm)
  have V_b11 : Arv Z h11 b11 k11 .int (3 : Int32) [(.int (0 : Int32)), (.int (0 : Int32)), (.int (0 : Int32))] (.int (0 : Int32)) := (Arv.new A11 (by decide)).pad (pad_rep [] (.int (0 : Int32)) 3)
  refine own_of st11 ?_
  show own_Out p e below _ (T11.setTop (mkF m 22 #[rv o0, rv o1, rv o2, iv 3, .unset, .unset, .unset, .unset, .unset] [.ref b11]))
  refine o_astore X11 hx hby d3_22 rfl (l' := #[rv o0, rv o1, rv o2, iv 3, rv b11, .unset, .unset, .unset, .unset]) rfl (q := 24) rfl ?_
  refine o_aloadN X11 hx hby d3_24 rfl rfl (q := 25) rfl ?_
  refine o_astore X11 hx hby d3_25 rfl (l' := #[rv o0, rv o1, rv o2, iv 3, rv b11, rv o2, .unset, .unset, .unset]) rfl (q := 27) rfl ?_
  refine o_aload X11 hx hby d3_27 rfl rfl (q := 29) rfl ?_
  have q14 := ((((V.other W2 n2).other W3 n2).other W7 n2).ext E11)
  refine o_lenV X11 hx hby hZ e11 q14 d3_29 (q := 30) rfl ?_
  refine o_istore X11 hx hby d3_30 (l' := #[rv o0, rv o1, rv o2, iv 3, rv b11, rv o2, iv 4, .unset, .unset]) rfl (q := 32) rfl ?_
  refine o_iconst X11 hx hby d3_32 (z := 0) rfl (q := 33) rfl ?_
  refine o_istore X11 hx hby d3_33 (l' := #[rv o0, rv o1, rv o2, iv 3, rv b11, rv o2, iv 4, iv 0, .unset]) rfl (q := 35) rfl ?_
  refine t1 X11 hx hby hZ e11 q14 V_b11 rfl ⟨by decide, by decide⟩ (cc := 0) rfl ⟨by decide, by decide⟩ (y := 0) rfl (y' := 1) rfl (i' := 1) rfl (iN := 0) rfl (Nat.le_of_ble_eq_true rfl) fun T15 h15 X15 e15 W15 V15 => ?_
  have ne_o2_b11 : o2 ≠ b11 := Nat.ne_of_lt (Nat.lt_of_lt_of_le V.lt sz_b11)
  have q16 := (q14.other W15 ne_o2_b11)
  refine t1 X15 hx hby hZ e15 q16 V15 rfl ⟨by decide, by decide⟩ (cc := 1) rfl ⟨by decide, by decide⟩ (y := 0) rfl (y' := 1) rfl (i' := 2) rfl (iN := 1) rfl (Nat.le_of_ble_eq_true rfl) fun T17 h17 X17 e17 W17 V17 => ?_
  have q18 := (q16.other W17 ne_o2_b11)
  refine t1 X17 hx hby hZ e17 q18 V17 rfl ⟨by decide, by decide⟩ (cc := 2) rfl ⟨by decide, by decide⟩ (y := 0) rfl (y' := 1) rfl (i' := 3) rfl (iN := 2) rfl (Nat.le_of_ble_eq_true rfl) fun T19 h19 X19 e19 W19 V19 => ?_
  have q20 := (q18.other W19 ne_o2_b11)
  refine t1 X19 hx hby hZ e19 q20 V19 rfl ⟨by decide, by decide⟩ (cc := 0) rfl ⟨by decide, by decide⟩ (y := 1) rfl (y' := 2) rfl (i' := 4) rfl (iN := 0) rfl (Nat.le_of_ble_eq_true rfl) fun T21 h21 X21 e21 W21 V21 => ?_
  refine o_iload X21 hx hby d3_35 rfl (q := 37) rfl ?_
  refine o_iload X21 hx hby d3_37 rfl (q := 39) rfl ?_
  refine o_icY X21 hx hby d3_39 (flt (by decide : ¬ ((4 : Int32) < (4 : Int32)))).2.1 (by decide) (q := 64) (by decide) ?_
  refine o_aloadN X21 hx hby d3_64 rfl rfl (q := 65) rfl ?_
  refine o_iloadN X21 hx hby d3_65 rfl (q := 66) rfl ?_
  obtain ⟨T22, h22, k22, X22, e22, E22, A22, Ex22, O22, st22⟩ := newRA X21 hx hZ hown (ty := .int) (by decide +kernel) (w_ hw 33 rfl) (w_ hw 34 rfl) e21 (g := (mkF m 66 #[rv o0, rv o1, rv o2, iv 3, rv b11, rv o2, iv 4, iv 4, iv 0] [.int 3, .ref o0])) rfl (hb hby d3_66) rfl (by decide) (cap := 3) (by decide) (by decide) (by decide) (by decide) (ad := "[[I") (by decide +kernel)
  obtain ⟨b22, g22⟩ : ∃ z, z = h21.size := ⟨_, rfl⟩
  rw [← g22] at A22 Ex22 st22
  have q23 := (Nat.le_trans (Nat.le_trans (Nat.le_trans (Nat.le_trans (Nat.le_trans q12 E11.1) (Keep.of_wr W15).1) (Keep.of_wr W17).1) (Keep.of_wr W19).1) (Keep.of_wr W21).1)
  have g_b22 : n0 ≤ b22 := Nat.le_trans q23 (Nat.le_of_eq g22.symm)
  have q24 := (Nat.le_trans (Nat.le_trans (Nat.le_trans (Nat.le_trans (Nat.le_trans q13 E11.1) (Keep.of_wr W15).1) (Keep.of_wr W17).1) (Keep.of_wr W19).1) (Keep.of_wr W21).1)
  have sz_b22 : h0.size ≤ b22 := Nat.le_trans q24 (Nat.le_of_eq g22.symm)
  have V_b22 : Arv Z h22 b22 k22 (.array .int) (3 : Int32) [.null, .null, .null] .null := (Arv.new A22 (by decide)).pad (pad_rep [] .null 3)
  refine own_of st22 ?_
  show own_Out p e below _ (T22.setTop (mkF m 69 #[rv o0, rv o1, rv o2, iv 3, rv b11, rv o2, iv 4, iv 4, iv 0] [.ref b22, .ref o0]))
  have ne_o0_b11 : o0 ≠ b11 := Nat.ne_of_lt (Nat.lt_of_lt_of_le E.lt sz_b11)
  have q26 := (((((((((F_classes.other W2 (Or.inr (slot_ne (Or.inr (w_ hw 36 rfl)) (Or.inr (w_ hw 28 rfl)) (by decide) (t := (.array (.array .int))) (t' := (.object "java/lang/String")) (by decide) (by decide)))).other W3 (Or.inr (slot_ne (Or.inr (w_ hw 36 rfl)) (Or.inr (w_ hw 30 rfl)) (by decide) (t := (.array (.array .int))) (t' := (.array .int)) (by decide) (by decide)))).other W7 (Or.inr (slot_ne (Or.inr (w_ hw 36 rfl)) (Or.inr (w_ hw 32 rfl)) (by decide) (t := (.array (.array .int))) (t' := .int) (by decide) (by decide)))).ext E11).other W15 (Or.inl ne_o0_b11)).other W17 (Or.inl ne_o0_b11)).other W19 (Or.inl ne_o0_b11)).other W21 (Or.inl ne_o0_b11)).ext E22)
  have q27 := (((((((q9.wr W7).ext E11).wr W15).wr W17).wr W19).wr W21).ext E22)
  obtain ⟨T25, h25, X25, e25, W25, st25⟩ := putF X22 hx hZ hown (host := "") (Or.inl (w_ hw 35 rfl)) Via.refl e22 q26 q27 (Or.inr ⟨(w_ hw 36 rfl), rfl, hnm⟩) (w_ hw 11 rfl) (ty := (.array (.array .int))) (by decide) rfl rfl (g := (mkF m 69 #[rv o0, rv o1, rv o2, iv 3, rv b11, rv o2, iv 4, iv 4, iv 0] [.ref b22, .ref o0])) rfl rfl (hb hby d3_69)
  have q28 := (((((((((F_classes.other W2 (Or.inr (slot_ne (Or.inr (w_ hw 36 rfl)) (Or.inr (w_ hw 28 rfl)) (by decide) (t := (.array (.array .int))) (t' := (.object "java/lang/String")) (by decide) (by decide)))).other W3 (Or.inr (slot_ne (Or.inr (w_ hw 36 rfl)) (Or.inr (w_ hw 30 rfl)) (by decide) (t := (.array (.array .int))) (t' := (.array .int)) (by decide) (by decide)))).other W7 (Or.inr (slot_ne (Or.inr (w_ hw 36 rfl)) (Or.inr (w_ hw 32 rfl)) (by decide) (t := (.array (.array .int))) (t' := .int) (by decide) (by decide)))).ext E11).other W15 (Or.inl ne_o0_b11)).other W17 (Or.inl ne_o0_b11)).other W19 (Or.inl ne_o0_b11)).other W21 (Or.inl ne_o0_b11)).ext E22)
  have Fw25 := q28.same W25
  refine own_of st25 ?_
  show own_Out p e below _ (T25.setTop (mkF m 72 #[rv o0, rv o1, rv o2, iv 3, rv b11, rv o2, iv 4, iv 4, iv 0] []))
  refine o_iconst X25 hx hby d3_72 (z := 0) rfl (q := 73) rfl ?_
  refine o_istore X25 hx hby d3_73 (l' := #[rv o0, rv o1, rv o2, iv 3, rv b11, iv 0, iv 4, iv 4, iv 0]) rfl (q := 75) rfl ?_
  refine o_iload X25 hx hby d3_75 rfl (q := 77) rfl ?_
  refine o_iloadN X25 hx hby d3_77 rfl (q := 78) rfl ?_
  refine o_icN X25 hx hby d3_78 (tlt (by decide : (0 : Int32) < (3 : Int32))).2.1 (q := 81) rfl ?_
  refine o_aloadN X25 hx hby d3_81 rfl rfl (q := 82) rfl ?_
  refine o_getF X25 hx hZ hown hby (w_ hw 35 rfl) Via.refl e25 Fw25 d3_82 (q := 85) rfl fun T29 X29 e29 => ?_
  refine o_iload X29 hx hby d3_85 rfl (q := 87) rfl ?_
  refine o_aload X29 hx hby d3_87 rfl rfl (q := 89) rfl ?_
  refine o_iload X29 hx hby d3_89 rfl (q := 91) rfl ?_
  have q30 := ((V21.ext E22).other W25 (Ne.symm ne_o0_b11))
  refine o_iaV X29 hx hby hZ e29 q30 ⟨by decide, by decide⟩ (v := .int 2) rfl d3_91 (q := 92) rfl ?_
  obtain ⟨T31, h31, k31, X31, e31, E31, A31, Ex31, st31⟩ := newPE X29 hx hZ (w_ hw 5 rfl) e29 (g := (mkF m 92 #[rv o0, rv o1, rv o2, iv 3, rv b11, iv 0, iv 4, iv 4, iv 0] [.int 2, .int 0, .ref b22])) rfl (hb hby d3_92) rfl (by decide) (cap := 2) (by decide) (by decide) (by decide) (by decide) (ad := "[I") (by decide +kernel)
  obtain ⟨b31, g31⟩ : ∃ z, z = h25.size := ⟨_, rfl⟩
  rw [← g31] at A31 Ex31 st31
  have q32 := (Nat.le_trans (Nat.le_trans q23 E22.1) (Keep.of_wr W25).1)
  have g_b31 : n0 ≤ b31 := Nat.le_trans q32 (Nat.le_of_eq g31.symm)
  have q33 := (Nat.le_trans (Nat.le_trans q24 E22.1) (Keep.of_wr W25).1)
  have sz_b31 : h0.size ≤ b31 := Nat.le_trans q33 (Nat.le_of_eq g31.symm)
  have V_b31 : Arv Z h31 b31 k31 .int (2 : Int32) [(.int (0 : Int32)), (.int (0 : Int32))] (.int (0 : Int32)) := (Arv.new A31 (by decide)).pad (pad_rep [] (.int (0 : Int32)) 2)
  refine own_of st31 ?_
  show own_Out p e below _ (T31.setTop (mkF m 94 #[rv o0, rv o1, rv o2, iv 3, rv b11, iv 0, iv 4, iv 4, iv 0] [.ref b31, .int 0, .ref b22]))
  have ne_o0_b22 : o0 ≠ b22 := Nat.ne_of_lt (Nat.lt_of_lt_of_le E.lt sz_b22)
  have q34 := ((V_b22.other W25 (Ne.symm ne_o0_b22)).ext E31)
  refine o_stVR X31 hx hby hZ e31 q34 ⟨by decide, by decide⟩ 0 rfl (Nat.le_of_ble_eq_true rfl) O22 (Ins.self Ex31) d3_94 (q := 95) rfl fun T35 h35 X35 e35 W35 V35 => ?_
  refine o_iinc X35 hx hby d3_95 rfl (l' := #[rv o0, rv o1, rv o2, iv 3, rv b11, iv 1, iv 4, iv 4, iv 0]) rfl (q := 98) rfl ?_
  refine o_goto X35 hx hby d3_98 (by decide) (q := 75) (by decide) ?_
  refine o_iload X35 hx hby d3_75 rfl (q := 77) rfl ?_
  refine o_iloadN X35 hx hby d3_77 rfl (q := 78) rfl ?_
  refine o_icN X35 hx hby d3_78 (tlt (by decide : (1 : Int32) < (3 : Int32))).2.1 (q := 81) rfl ?_
  refine o_aloadN X35 hx hby d3_81 rfl rfl (q := 82) rfl ?_
  have q37 := ((Fw25.ext E31).other W35 (Or.inl ne_o0_b22))
  refine o_getF X35 hx hZ hown hby (w_ hw 35 rfl) Via.refl e35 q37 d3_82 (q := 85) rfl fun T36 X36 e36 => ?_
  refine o_iload X36 hx hby d3_85 rfl (q := 87) rfl ?_
  refine o_aload X36 hx hby d3_87 rfl rfl (q := 89) rfl ?_
  refine o_iload X36 hx hby d3_89 rfl (q := 91) rfl ?_
  have ne_b11_b22 : b11 ≠ b22 := Nat.ne_of_lt (Nat.lt_of_lt_of_le (Nat.lt_of_lt_of_le (Nat.lt_of_lt_of_le (Nat.lt_of_lt_of_le (Nat.lt_of_lt_of_le A11.lt (Keep.of_wr W15).1) (Keep.of_wr W17).1) (Keep.of_wr W19).1) (Keep.of_wr W21).1) (Nat.le_of_eq g22.symm))
  have q38 := ((q30.ext E31).other W35 ne_b11_b22)
  refine o_iaV X36 hx hby hZ e36 q38 ⟨by decide, by decide⟩ (v := .int 1) rfl d3_91 (q := 92) rfl ?_
  obtain ⟨T39, h39, k39, X39, e39, E39, A39, Ex39, st39⟩ := newPE X36 hx hZ (w_ hw 5 rfl) e36 (g := (mkF m 92 #[rv o0, rv o1, rv o2, iv 3, rv b11, iv 1, iv 4, iv 4, iv 0] [.int 1, .int 1, .ref b22])) rfl (hb hby d3_92) rfl (by decide) (cap := 1) (by decide) (by decide) (by decide) (by decide) (ad := "[I") (by decide +kernel)
  obtain ⟨b39, g39⟩ : ∃ z, z = h35.size := ⟨_, rfl⟩
  rw [← g39] at A39 Ex39 st39
  have q40 := (Nat.le_trans (Nat.le_trans q32 E31.1) (Keep.of_wr W35).1)
  have g_b39 : n0 ≤ b39 := Nat.le_trans q40 (Nat.le_of_eq g39.symm)
  have q41 := (Nat.le_trans (Nat.le_trans q33 E31.1) (Keep.of_wr W35).1)
  have sz_b39 : h0.size ≤ b39 := Nat.le_trans q41 (Nat.le_of_eq g39.symm)
  have V_b39 : Arv Z h39 b39 k39 .int (1 : Int32) [(.int (0 : Int32))] (.int (0 : Int32)) := (Arv.new A39 (by decide)).pad (pad_rep [] (.int (0 : Int32)) 1)
  refine own_of st39 ?_
  show own_Out p e below _ (T39.setTop (mkF m 94 #[rv o0, rv o1, rv o2, iv 3, rv b11, iv 1, iv 4, iv 4, iv 0] [.ref b39, .int 1, .ref b22]))
  have q42 := (V35.ext E39)
  refine o_stVR X39 hx hby hZ e39 q42 ⟨by decide, by decide⟩ 1 rfl (Nat.le_of_ble_eq_true rfl) O22 (Ins.self Ex39) d3_94 (q := 95) rfl fun T43 h43 X43 e43 W43 V43 => ?_
  refine o_iinc X43 hx hby d3_95 rfl (l' := #[rv o0, rv o1, rv o2, iv 3, rv b11, iv 2, iv 4, iv 4, iv 0]) rfl (q := 98) rfl ?_
  refine o_goto X43 hx hby d3_98 (by decide) (q := 75) (by decide) ?_
  refine o_iload X43 hx hby d3_75 rfl (q := 77) rfl ?_
  refine o_iloadN X43 hx hby d3_77 rfl (q := 78) rfl ?_
  refine o_icN X43 hx hby d3_78 (tlt (by decide : (2 : Int32) < (3 : Int32))).2.1 (q := 81) rfl ?_
  refine o_aloadN X43 hx hby d3_81 rfl rfl (q := 82) rfl ?_
  have q45 := ((q37.ext E39).other W43 (Or.inl ne_o0_b22))
  refine o_getF X43 hx hZ hown hby (w_ hw 35 rfl) Via.refl e43 q45 d3_82 (q := 85) rfl fun T44 X44 e44 => ?_
  refine o_iload X44 hx hby d3_85 rfl (q := 87) rfl ?_
  refine o_aload X44 hx hby d3_87 rfl rfl (q := 89) rfl ?_
  refine o_iload X44 hx hby d3_89 rfl (q := 91) rfl ?_
  have q46 := ((q38.ext E39).other W43 ne_b11_b22)
  refine o_iaV X44 hx hby hZ e44 q46 ⟨by decide, by decide⟩ (v := .int 1) rfl d3_91 (q := 92) rfl ?_
  obtain ⟨T47, h47, k47, X47, e47, E47, A47, Ex47, st47⟩ := newPE X44 hx hZ (w_ hw 5 rfl) e44 (g := (mkF m 92 #[rv o0, rv o1, rv o2, iv 3, rv b11, iv 2, iv 4, iv 4, iv 0] [.int 1, .int 2, .ref b22])) rfl (hb hby d3_92) rfl (by decide) (cap := 1) (by decide) (by decide) (by decide) (by decide) (ad := "[I") (by decide +kernel)
  obtain ⟨b47, g47⟩ : ∃ z, z = h43.size := ⟨_, rfl⟩
  rw [← g47] at A47 Ex47 st47
  have q48 := (Nat.le_trans (Nat.le_trans q40 E39.1) (Keep.of_wr W43).1)
  have g_b47 : n0 ≤ b47 := Nat.le_trans q48 (Nat.le_of_eq g47.symm)
  have q49 := (Nat.le_trans (Nat.le_trans q41 E39.1) (Keep.of_wr W43).1)
  have sz_b47 : h0.size ≤ b47 := Nat.le_trans q49 (Nat.le_of_eq g47.symm)
  have V_b47 : Arv Z h47 b47 k47 .int (1 : Int32) [(.int (0 : Int32))] (.int (0 : Int32)) := (Arv.new A47 (by decide)).pad (pad_rep [] (.int (0 : Int32)) 1)
  refine own_of st47 ?_
  show own_Out p e below _ (T47.setTop (mkF m 94 #[rv o0, rv o1, rv o2, iv 3, rv b11, iv 2, iv 4, iv 4, iv 0] [.ref b47, .int 2, .ref b22]))
  have q50 := (V43.ext E47)
  refine o_stVR X47 hx hby hZ e47 q50 ⟨by decide, by decide⟩ 2 rfl (Nat.le_of_ble_eq_true rfl) O22 (Ins.self Ex47) d3_94 (q := 95) rfl fun T51 h51 X51 e51 W51 V51 => ?_
  refine o_iinc X51 hx hby d3_95 rfl (l' := #[rv o0, rv o1, rv o2, iv 3, rv b11, iv 3, iv 4, iv 4, iv 0]) rfl (q := 98) rfl ?_
  refine o_goto X51 hx hby d3_98 (by decide) (q := 75) (by decide) ?_
  refine o_iload X51 hx hby d3_75 rfl (q := 77) rfl ?_
  refine o_iloadN X51 hx hby d3_77 rfl (q := 78) rfl ?_
  refine o_icY X51 hx hby d3_78 (flt (by decide : ¬ ((3 : Int32) < (3 : Int32)))).2.1 (by decide) (q := 101) (by decide) ?_
  refine o_iloadN X51 hx hby d3_101 rfl (q := 102) rfl ?_
  obtain ⟨T52, h52, k52, X52, e52, E52, A52, Ex52, st52⟩ := newPE X51 hx hZ (w_ hw 5 rfl) e51 (g := (mkF m 102 #[rv o0, rv o1, rv o2, iv 3, rv b11, iv 3, iv 4, iv 4, iv 0] [.int 3])) rfl (hb hby d3_102) rfl (by decide) (cap := 3) (by decide) (by decide) (by decide) (by decide) (ad := "[I") (by decide +kernel)
  obtain ⟨b52, g52⟩ : ∃ z, z = h51.size := ⟨_, rfl⟩
  rw [← g52] at A52 Ex52 st52
  have q53 := (Nat.le_trans (Nat.le_trans q48 E47.1) (Keep.of_wr W51).1)
  have g_b52 : n0 ≤ b52 := Nat.le_trans q53 (Nat.le_of_eq g52.symm)
  have q54 := (Nat.le_trans (Nat.le_trans q49 E47.1) (Keep.of_wr W51).1)
  have sz_b52 : h0.size ≤ b52 := Nat.le_trans q54 (Nat.le_of_eq g52.symm)
  have V_b52 : Arv Z h52 b52 k52 .int (3 : Int32) [(.int (0 : Int32)), (.int (0 : Int32)), (.int (0 : Int32))] (.int (0 : Int32)) := (Arv.new A52 (by decide)).pad (pad_rep [] (.int (0 : Int32)) 3)
  refine own_of st52 ?_
  show own_Out p e below _ (T52.setTop (mkF m 104 #[rv o0, rv o1, rv o2, iv 3, rv b11, iv 3, iv 4, iv 4, iv 0] [.ref b52]))
  refine o_astore X52 hx hby d3_104 rfl (l' := #[rv o0, rv o1, rv o2, iv 3, rv b11, rv b52, iv 4, iv 4, iv 0]) rfl (q := 106) rfl ?_
  refine o_iconst X52 hx hby d3_106 (z := 0) rfl (q := 107) rfl ?_
  refine o_istore X52 hx hby d3_107 (l' := #[rv o0, rv o1, rv o2, iv 3, rv b11, rv b52, iv 0, iv 4, iv 0]) rfl (q := 109) rfl ?_
  have ne_o2_b22 : o2 ≠ b22 := Nat.ne_of_lt (Nat.lt_of_lt_of_le V.lt sz_b22)
  have q57 := ((((((((((q20.other W21 ne_o2_b11).ext E22).other W25 n2).ext E31).other W35 ne_o2_b22).ext E39).other W43 ne_o2_b22).ext E47).other W51 ne_o2_b22).ext E52)
  have q58 := (((q45.ext E47).other W51 (Or.inl ne_o0_b22)).ext E52)
  have q59 := (V51.ext E52)
  have ne_b22_b31 : b22 ≠ b31 := Nat.ne_of_lt (Nat.lt_of_lt_of_le (Nat.lt_of_lt_of_le A22.lt (Keep.of_wr W25).1) (Nat.le_of_eq g31.symm))
  have q60 := ((((((V_b31.other W35 (Ne.symm ne_b22_b31)).ext E39).other W43 (Ne.symm ne_b22_b31)).ext E47).other W51 (Ne.symm ne_b22_b31)).ext E52)
  have ne_b31_b52 : b31 ≠ b52 := Nat.ne_of_lt (Nat.lt_of_lt_of_le (Nat.lt_of_lt_of_le (Nat.lt_of_lt_of_le (Nat.lt_of_lt_of_le (Nat.lt_of_lt_of_le (Nat.lt_of_lt_of_le A31.lt (Keep.of_wr W35).1) E39.1) (Keep.of_wr W43).1) E47.1) (Keep.of_wr W51).1) (Nat.le_of_eq g52.symm))
  refine t3 X52 hx hby hZ e52 hw hown q57 q58 q59 V_b52 q60 ne_b31_b52 ⟨by decide, by decide⟩ (x := 0) rfl ⟨by decide, by decide⟩ rfl (f := 0) rfl ⟨by decide, by decide⟩ (f' := 1) rfl (i' := 1) rfl (iN := 0) rfl (Nat.le_of_ble_eq_true rfl) (jN := 0) rfl (Nat.le_of_ble_eq_true rfl) fun T56 h55 h56 X56 e56 W55 W56 V55 V56 => ?_
  have ne_o2_b52 : o2 ≠ b52 := Nat.ne_of_lt (Nat.lt_of_lt_of_le V.lt sz_b52)
  have ne_o2_b31 : o2 ≠ b31 := Nat.ne_of_lt (Nat.lt_of_lt_of_le V.lt sz_b31)
  have q63 := ((q57.other W55 ne_o2_b52).other W56 ne_o2_b31)
  have ne_o0_b52 : o0 ≠ b52 := Nat.ne_of_lt (Nat.lt_of_lt_of_le E.lt sz_b52)
  have ne_o0_b31 : o0 ≠ b31 := Nat.ne_of_lt (Nat.lt_of_lt_of_le E.lt sz_b31)
  have q64 := ((q58.other W55 (Or.inl ne_o0_b52)).other W56 (Or.inl ne_o0_b31))
  have ne_b22_b52 : b22 ≠ b52 := Nat.ne_of_lt (Nat.lt_of_lt_of_le (Nat.lt_of_lt_of_le (Nat.lt_of_lt_of_le (Nat.lt_of_lt_of_le (Nat.lt_of_lt_of_le (Nat.lt_of_lt_of_le (Nat.lt_of_lt_of_le (Nat.lt_of_lt_of_le A22.lt (Keep.of_wr W25).1) E31.1) (Keep.of_wr W35).1) E39.1) (Keep.of_wr W43).1) E47.1) (Keep.of_wr W51).1) (Nat.le_of_eq g52.symm))
  have q65 := ((q59.other W55 ne_b22_b52).other W56 ne_b22_b31)
  have q66 := (V55.other W56 (Ne.symm ne_b31_b52))
  have ne_b22_b39 : b22 ≠ b39 := Nat.ne_of_lt (Nat.lt_of_lt_of_le (Nat.lt_of_lt_of_le (Nat.lt_of_lt_of_le (Nat.lt_of_lt_of_le A22.lt (Keep.of_wr W25).1) E31.1) (Keep.of_wr W35).1) (Nat.le_of_eq g39.symm))
  have ne_b39_b52 : b39 ≠ b52 := Nat.ne_of_lt (Nat.lt_of_lt_of_le (Nat.lt_of_lt_of_le (Nat.lt_of_lt_of_le (Nat.lt_of_lt_of_le A39.lt (Keep.of_wr W43).1) E47.1) (Keep.of_wr W51).1) (Nat.le_of_eq g52.symm))
  have ne_b31_b39 : b31 ≠ b39 := Nat.ne_of_lt (Nat.lt_of_lt_of_le (Nat.lt_of_lt_of_le A31.lt (Keep.of_wr W35).1) (Nat.le_of_eq g39.symm))
  have q67 := ((((((V_b39.other W43 (Ne.symm ne_b22_b39)).ext E47).other W51 (Ne.symm ne_b22_b39)).ext E52).other W55 ne_b39_b52).other W56 (Ne.symm ne_b31_b39))
  refine t3 X56 hx hby hZ e56 hw hown q63 q64 q65 q66 q67 ne_b39_b52 ⟨by decide, by decide⟩ (x := 1) rfl ⟨by decide, by decide⟩ rfl (f := 0) rfl ⟨by decide, by decide⟩ (f' := 1) rfl (i' := 2) rfl (iN := 1) rfl (Nat.le_of_ble_eq_true rfl) (jN := 0) rfl (Nat.le_of_ble_eq_true rfl) fun T62 h61 h62 X62 e62 W61 W62 V61 V62 => ?_
  have ne_o2_b39 : o2 ≠ b39 := Nat.ne_of_lt (Nat.lt_of_lt_of_le V.lt sz_b39)
  have q70 := ((q63.other W61 ne_o2_b52).other W62 ne_o2_b39)
  have ne_o0_b39 : o0 ≠ b39 := Nat.ne_of_lt (Nat.lt_of_lt_of_le E.lt sz_b39)
  have q71 := ((q64.other W61 (Or.inl ne_o0_b52)).other W62 (Or.inl ne_o0_b39))
  have q72 := ((q65.other W61 ne_b22_b52).other W62 ne_b22_b39)
  have q73 := (V61.other W62 (Ne.symm ne_b39_b52))
  have ne_b22_b47 : b22 ≠ b47 := Nat.ne_of_lt (Nat.lt_of_lt_of_le (Nat.lt_of_lt_of_le (Nat.lt_of_lt_of_le (Nat.lt_of_lt_of_le (Nat.lt_of_lt_of_le (Nat.lt_of_lt_of_le A22.lt (Keep.of_wr W25).1) E31.1) (Keep.of_wr W35).1) E39.1) (Keep.of_wr W43).1) (Nat.le_of_eq g47.symm))
  have ne_b47_b52 : b47 ≠ b52 := Nat.ne_of_lt (Nat.lt_of_lt_of_le (Nat.lt_of_lt_of_le A47.lt (Keep.of_wr W51).1) (Nat.le_of_eq g52.symm))
  have ne_b31_b47 : b31 ≠ b47 := Nat.ne_of_lt (Nat.lt_of_lt_of_le (Nat.lt_of_lt_of_le (Nat.lt_of_lt_of_le (Nat.lt_of_lt_of_le A31.lt (Keep.of_wr W35).1) E39.1) (Keep.of_wr W43).1) (Nat.le_of_eq g47.symm))
  have ne_b39_b47 : b39 ≠ b47 := Nat.ne_of_lt (Nat.lt_of_lt_of_le (Nat.lt_of_lt_of_le A39.lt (Keep.of_wr W43).1) (Nat.le_of_eq g47.symm))
  have q74 := ((((((V_b47.other W51 (Ne.symm ne_b22_b47)).ext E52).other W55 ne_b47_b52).other W56 (Ne.symm ne_b31_b47)).other W61 ne_b47_b52).other W62 (Ne.symm ne_b39_b47))
  refine t3 X62 hx hby hZ e62 hw hown q70 q71 q72 q73 q74 ne_b47_b52 ⟨by decide, by decide⟩ (x := 2) rfl ⟨by decide, by decide⟩ rfl (f := 0) rfl ⟨by decide, by decide⟩ (f' := 1) rfl (i' := 3) rfl (iN := 2) rfl (Nat.le_of_ble_eq_true rfl) (jN := 0) rfl (Nat.le_of_ble_eq_true rfl) fun T69 h68 h69 X69 e69 W68 W69 V68 V69 => ?_
  have ne_o2_b47 : o2 ≠ b47 := Nat.ne_of_lt (Nat.lt_of_lt_of_le V.lt sz_b47)
  have q77 := ((q70.other W68 ne_o2_b52).other W69 ne_o2_b47)
  have ne_o0_b47 : o0 ≠ b47 := Nat.ne_of_lt (Nat.lt_of_lt_of_le E.lt sz_b47)
  have q78 := ((q71.other W68 (Or.inl ne_o0_b52)).other W69 (Or.inl ne_o0_b47))
  have q79 := ((q72.other W68 ne_b22_b52).other W69 ne_b22_b47)
  have q80 := (V68.other W69 (Ne.symm ne_b47_b52))
  have q81 := ((((V56.other W61 ne_b31_b52).other W62 ne_b31_b39).other W68 ne_b31_b52).other W69 ne_b31_b47)
  refine t3 X69 hx hby hZ e69 hw hown q77 q78 q79 q80 q81 ne_b31_b52 ⟨by decide, by decide⟩ (x := 0) rfl ⟨by decide, by decide⟩ rfl (f := 1) rfl ⟨by decide, by decide⟩ (f' := 2) rfl (i' := 4) rfl (iN := 0) rfl (Nat.le_of_ble_eq_true rfl) (jN := 1) rfl (Nat.le_of_ble_eq_true rfl) fun T76 h75 h76 X76 e76 W75 W76 V75 V76 => ?_
  refine o_iload X76 hx hby d3_109 rfl (q := 111) rfl ?_
  refine o_aloadN X76 hx hby d3_111 rfl rfl (q := 112) rfl ?_
  have q82 := ((q77.other W75 ne_o2_b52).other W76 ne_o2_b31)
  refine o_lenV X76 hx hby hZ e76 q82 d3_112 (q := 113) rfl ?_
  refine o_icY X76 hx hby d3_113 (flt (by decide : ¬ ((4 : Int32) < (4 : Int32)))).2.1 (by decide) (q := 146) (by decide) ?_
  have q83 := ((((((((((((((((((((((((((Keep.refl h0 [o0]).wr W2 (Or.inl (List.mem_of_getElem? (i := 0) rfl))).wr W3 (Or.inl (List.mem_of_getElem? (i := 0) rfl))).wr W7 (Or.inl (List.mem_of_getElem? (i := 0) rfl))).ext E11).wr W15 (Or.inr sz_b11)).wr W17 (Or.inr sz_b11)).wr W19 (Or.inr sz_b11)).wr W21 (Or.inr sz_b11)).ext E22).wr W25 (Or.inl (List.mem_of_getElem? (i := 0) rfl))).ext E31).wr W35 (Or.inr sz_b22)).ext E39).wr W43 (Or.inr sz_b22)).ext E47).wr W51 (Or.inr sz_b22)).ext E52).wr W55 (Or.inr sz_b52)).wr W56 (Or.inr sz_b31)).wr W61 (Or.inr sz_b52)).wr W62 (Or.inr sz_b39)).wr W68 (Or.inr sz_b52)).wr W69 (Or.inr sz_b47)).wr W75 (Or.inr sz_b52)).wr W76 (Or.inr sz_b31))
  have q84 := ((((((((((((((((q27.wr W25).ext E31).wr W35).ext E39).wr W43).ext E47).wr W51).ext E52).wr W55).wr W56).wr W61).wr W62).wr W68).wr W69).wr W75).wr W76)
  have q85 := (((((((((((((((((((((((Fw3.other W7 (Or.inr (slot_ne (Or.inr (w_ hw 30 rfl)) (Or.inr (w_ hw 32 rfl)) (by decide) (t := (.array .int)) (t' := .int) (by decide) (by decide)))).ext E11).other W15 (Or.inl ne_o0_b11)).other W17 (Or.inl ne_o0_b11)).other W19 (Or.inl ne_o0_b11)).other W21 (Or.inl ne_o0_b11)).ext E22).other W25 (Or.inr (slot_ne (Or.inr (w_ hw 30 rfl)) (Or.inr (w_ hw 36 rfl)) (by decide) (t := (.array .int)) (t' := (.array (.array .int))) (by decide) (by decide)))).ext E31).other W35 (Or.inl ne_o0_b22)).ext E39).other W43 (Or.inl ne_o0_b22)).ext E47).other W51 (Or.inl ne_o0_b22)).ext E52).other W55 (Or.inl ne_o0_b52)).other W56 (Or.inl ne_o0_b31)).other W61 (Or.inl ne_o0_b52)).other W62 (Or.inl ne_o0_b39)).other W68 (Or.inl ne_o0_b52)).other W69 (Or.inl ne_o0_b47)).other W75 (Or.inl ne_o0_b52)).other W76 (Or.inl ne_o0_b31))
  have q86 := ((((((((((((((((((((((Fw7.ext E11).other W15 (Or.inl ne_o0_b11)).other W17 (Or.inl ne_o0_b11)).other W19 (Or.inl ne_o0_b11)).other W21 (Or.inl ne_o0_b11)).ext E22).other W25 (Or.inr (slot_ne (Or.inr (w_ hw 32 rfl)) (Or.inr (w_ hw 36 rfl)) (by decide) (t := .int) (t' := (.array (.array .int))) (by decide) (by decide)))).ext E31).other W35 (Or.inl ne_o0_b22)).ext E39).other W43 (Or.inl ne_o0_b22)).ext E47).other W51 (Or.inl ne_o0_b22)).ext E52).other W55 (Or.inl ne_o0_b52)).other W56 (Or.inl ne_o0_b31)).other W61 (Or.inl ne_o0_b52)).other W62 (Or.inl ne_o0_b39)).other W68 (Or.inl ne_o0_b52)).other W69 (Or.inl ne_o0_b47)).other W75 (Or.inl ne_o0_b52)).other W76 (Or.inl ne_o0_b31))
  exact own_outV X76 hx hlk hret (hb hby d3_146) (Q := Q3c0120n3 Z o0 o1 o2 k2 h0 n0) (by rw [e76]; exact ⟨rfl, (Fr.snoc X76 (own_snoc (Fr.snoc X69 (own_snoc (Fr.snoc X62 (own_snoc (Fr.snoc X56 (own_snoc (Fr.snoc X51 (Fr.snoc X43 (Fr.snoc X35 (Fr.snoc X25 (Fr.snoc X21 (Fr.snoc X19 (Fr.snoc X17 (Fr.snoc X15 (Fr.snoc X7 (Fr.snoc X3 (Fr.snoc X2 N0 g_o0) g_o0) g_o0) g_b11) g_b11) g_b11) g_b11) g_o0) g_b22) g_b22) g_b22) g_b52) g_b31) g_b52) g_b39) g_b52) g_b47) g_b52) g_b31), q83, q84, q85, q86⟩) (by decide) (by decide)
theorem ef_3c0121n3 (m : MethodId) (x0 : Addr) (x1 : Addr) (x2 : Addr) : entryFrame m #[(.ref x0), (.ref x1), (.ref x2), (.int (3 : Int32))] 9 = mkF m 0 #[.val (.ref x0), .val (.ref x1), .val (.ref x2), .val (.int (3 : Int32)), .unset, .unset, .unset, .unset, .unset] [] := by first | (simp [entryFrame, mkF, argsToLocals, Value.category]; done) | rfl
def Q3c0121n3 (Z : State) (o0 : Addr) (o1 : Addr) (o2 : Addr) (k2 : ClassId) (h0 : Heap) (n0 : Nat) (v : Option Value) (h : Heap) (L : List Loc) : Prop := v = none ∧ Fr n0 L ∧ Keep h0 h [o0] ∧ Exa Z h o0 "com/example/slimc/slimc/game/Observation" ∧ Fld Z h o0 "com/example/slimc/slimc/game/Observation" "classOf" "[I" (.ref o2) ∧ Fld Z h o0 "com/example/slimc/slimc/game/Observation" "classCount" "I" (.int (3 : Int32))
set_option maxRecDepth 65536 in
set_option maxHeartbeats 40000000 in
theorem rm3c0121n3 (l : Launch) (Z : State) (a0 : Array Value) (hw : ∀ d ∈ tables_1, d.before a0 Z = true) (ws : List Jvm.Cond) (o0 : Addr) (o1 : Addr) (o2 : Addr) (k2 : ClassId) (h0 : Heap) (n0 : Nat) (Z0 : n0 ≤ h0.size) (E : Exa Z h0 o0 "com/example/slimc/slimc/game/Observation") (F_name : Fld Z h0 o0 "com/example/slimc/slimc/game/Observation" "name" "Ljava/lang/String;" .null) (F_classOf : Fld Z h0 o0 "com/example/slimc/slimc/game/Observation" "classOf" "[I" .null) (F_classCount : Fld Z h0 o0 "com/example/slimc/slimc/game/Observation" "classCount" "I" (.int (0 : Int32))) (F_classes : Fld Z h0 o0 "com/example/slimc/slimc/game/Observation" "classes" "[[I" .null) (g_o0 : n0 ≤ o0) (V : Arv Z h0 o2 k2 .int (4 : Int32) [(.int (0 : Int32)), (.int (1 : Int32)), (.int (2 : Int32)), (.int (1 : Int32))] (.int (0 : Int32))) (n2 : o2 ≠ o0) :
    MetFree l (⟨"com/example/slimc/slimc/game/Observation", "<init>", "(Ljava/lang/String;[II)V"⟩ : MethodName) (head1 (Jvm.Cond.code (⟨"com/example/slimc/slimc/game/Observation", "<init>", "(Ljava/lang/String;[II)V"⟩ : MethodName) prog_66_method_1_code 9 none :: ws) ({ frames := 1, cells := 7, slots := 16, locals := 14 } : Room)) (fun a U => a = #[(.ref o0), (.ref o1), (.ref o2), (.int (3 : Int32))] ∧ Z.Warmed39 U.vm ∧ U.heap = h0) (fun _ _ _ _ _ => True) (fun _ U o U' => ∃ v L, o = .returned v ∧ Q3c0121n3 Z o0 o1 o2 k2 h0 n0 v U'.heap L ∧ FrameEnd U o U' L ({ frames := 1, cells := 7, slots := 16, locals := 14 } : Room).cells ({ frames := 1, cells := 7, slots := 16, locals := 14 } : Room).slots) := by
  refine MetFree.of_bodySF (plainFor_of_name pn_1) hisR ?_
  intro p e s m args below meth c s₁ Bd hml0 hP hK
  obtain ⟨rfl, hZ, hh⟩ := hP
  have hx := Bd.exec
  have hby := Bd.bytes
  have hml : c.maxLocals = 9 := hml0
  have hown : s.vm.findClass "com/example/slimc/slimc/game/Observation" = some m.cls := findClass_of_methodNamed Bd.named
  have hnm := (name_of_methodNamed Bd.named Bd.method).1
  have X0 : Stand p l e ({ frames := 1, cells := 7, slots := 16, locals := 14 } : Room) s m #[(.ref o0), (.ref o1), (.ref o2), (.int (3 : Int32))] below meth c s₁ [] 0 0 := Stand.of_body Bd
  have e0 : s₁.heap = h0 := by rw [← hh, Bd.state]; rfl
  have N0 := Fr.nil n0
  have hret := Bd.returns
  have hlk := BodyLoose.notSynchronized Bd
  show own_Out p e below (fun o U' => ∃ v L, o = .returned v ∧ Q3c0121n3 Z o0 o1 o2 k2 h0 n0 v U'.heap L ∧ FrameEnd s o U' L ({ frames := 1, cells := 7, slots := 16, locals := 14 } : Room).cells ({ frames := 1, cells := 7, slots := 16, locals := 14 } : Room).slots) (s₁.setTop (entryFrame m #[(.ref o0), (.ref o1), (.ref o2), (.int (3 : Int32))] 9))
  refine own_of (fun t k => castTop (ef_3c0121n3 m o0 o1 o2) k) ?_
  show own_Out p e below _ (s₁.setTop (mkF m 0 #[rv o0, rv o1, rv o2, iv 3, .unset, .unset, .unset, .unset, .unset] []))
  refine o_aloadN X0 hx hby d3_0 rfl rfl (q := 1) rfl ?_
  obtain ⟨T1, X1, e1, st1⟩ := initO X0 hx hZ hown (w_ hw 24 rfl) (w_ hw 25 rfl) (w_ hw 26 rfl) e0 (g := (mkF m 1 #[rv o0, rv o1, rv o2, iv 3, .unset, .unset, .unset, .unset, .unset] [.ref o0])) rfl (by rw [hml]; rfl) rfl (hb hby d3_1) (by decide) (W := 0) (by show 2 * 0 + _ ≤ _; exact Nat.le_of_eq rfl) (by decide)
  refine own_of st1 ?_
  show own_Out p e below _ (T1.setTop (mkF m 4 #[rv o0, rv o1, rv o2, iv 3, .unset, .unset, .unset, .unset, .unset] []))
  refine o_aloadN X1 hx hby d3_4 rfl rfl (q := 5) rfl ?_
  refine o_aloadN X1 hx hby d3_5 rfl rfl (q := 6) rfl ?_
  obtain ⟨T2, h2, X2, e2, W2, st2⟩ := putF X1 hx hZ hown (host := "") (Or.inl (w_ hw 27 rfl)) Via.refl e1 F_name E (Or.inr ⟨(w_ hw 28 rfl), rfl, hnm⟩) (w_ hw 11 rfl) (ty := (.object "java/lang/String")) (by decide) rfl rfl (g := (mkF m 6 #[rv o0, rv o1, rv o2, iv 3, .unset, .unset, .unset, .unset, .unset] [.ref o1, .ref o0])) rfl rfl (hb hby d3_6)
  have Fw2 := F_name.same W2
  refine own_of st2 ?_
  show own_Out p e below _ (T2.setTop (mkF m 9 #[rv o0, rv o1, rv o2, iv 3, .unset, .unset, .unset, .unset, .unset] []))
  refine o_aloadN X2 hx hby d3_9 rfl rfl (q := 10) rfl ?_
  refine o_aloadN X2 hx hby d3_10 rfl rfl (q := 11) rfl ?_
  have q4 := (F_classOf.other W2 (Or.inr (slot_ne (Or.inr (w_ hw 30 rfl)) (Or.inr (w_ hw 28 rfl)) (by decide) (t := (.array .int)) (t' := (.object "java/lang/String")) (by decide) (by decide))))
  have q5 := (E.wr W2)
  obtain ⟨T3, h3, X3, e3, W3, st3⟩ := putF X2 hx hZ hown (host := "") (Or.inl (w_ hw 29 rfl)) Via.refl e2 q4 q5 (Or.inr ⟨(w_ hw 30 rfl), rfl, hnm⟩) (w_ hw 11 rfl) (ty := (.array .int)) (by decide) rfl rfl (g := (mkF m 11 #[rv o0, rv o1, rv o2, iv 3, .unset, .unset, .unset, .unset, .unset] [.ref o2, .ref o0])) rfl rfl (hb hby d3_11)
  have q6 := (F_classOf.other W2 (Or.inr (slot_ne (Or.inr (w_ hw 30 rfl)) (Or.inr (w_ hw 28 rfl)) (by decide) (t := (.array .int)) (t' := (.object "java/lang/String")) (by decide) (by decide))))
  have Fw3 := q6.same W3
  refine own_of st3 ?_
  show own_Out p e below _ (T3.setTop (mkF m 14 #[rv o0, rv o1, rv o2, iv 3, .unset, .unset, .unset, .unset, .unset] []))
  refine o_aloadN X3 hx hby d3_14 rfl rfl (q := 15) rfl ?_
  refine o_iloadN X3 hx hby d3_15 rfl (q := 16) rfl ?_
  have q8 := ((F_classCount.other W2 (Or.inr (slot_ne (Or.inr (w_ hw 32 rfl)) (Or.inr (w_ hw 28 rfl)) (by decide) (t := .int) (t' := (.object "java/lang/String")) (by decide) (by decide)))).other W3 (Or.inr (slot_ne (Or.inr (w_ hw 32 rfl)) (Or.inr (w_ hw 30 rfl)) (by decide) (t := .int) (t' := (.array .int)) (by decide) (by decide))))
  have q9 := (q5.wr W3)
  obtain ⟨T7, h7, X7, e7, W7, st7⟩ := putF X3 hx hZ hown (host := "") (Or.inl (w_ hw 31 rfl)) Via.refl e3 q8 q9 (Or.inr ⟨(w_ hw 32 rfl), rfl, hnm⟩) (w_ hw 11 rfl) (ty := .int) (by decide) rfl rfl (g := (mkF m 16 #[rv o0, rv o1, rv o2, iv 3, .unset, .unset, .unset, .unset, .unset] [.int 3, .ref o0])) rfl rfl (hb hby d3_16)
  have q10 := ((F_classCount.other W2 (Or.inr (slot_ne (Or.inr (w_ hw 32 rfl)) (Or.inr (w_ hw 28 rfl)) (by decide) (t := .int) (t' := (.object "java/lang/String")) (by decide) (by decide)))).other W3 (Or.inr (slot_ne (Or.inr (w_ hw 32 rfl)) (Or.inr (w_ hw 30 rfl)) (by decide) (t := .int) (t' := (.array .int)) (by decide) (by decide))))
  have Fw7 := q10.same W7
  refine own_of st7 ?_
  show own_Out p e below _ (T7.setTop (mkF m 19 #[rv o0, rv o1, rv o2, iv 3, .unset, .unset, .unset, .unset, .unset] []))
  refine o_iloadN X7 hx hby d3_19 rfl (q := 20) rfl ?_
  obtain ⟨T11, h11, k11, X11, e11, E11, A11, Ex11, st11⟩ := newPE X7 hx hZ (w_ hw 5 rfl) e7 (g := (mkF m 20 #[rv o0, rv o1, rv o2, iv 3, .unset, .unset, .unset, .unset, .unset] [.int 3])) rfl (hb hby d3_20) rfl (by decide) (cap := 3) (by decide) (by decide) (by decide) (by decide) (ad := "[I") (by decide +kernel)
  obtain ⟨b11, g11⟩ : ∃ z, z = h7.size := ⟨_, rfl⟩
  rw [← g11] at A11 Ex11 st11
  have q12 := (Nat.le_trans (Nat.le_trans (Nat.le_trans Z0 (Keep.of_wr W2).1) (Keep.of_wr W3).1) (Keep.of_wr W7).1)
  have g_b11 : n0 ≤ b11 := Nat.le_trans q12 (Nat.le_of_eq g11.symm)
  have q13 := (Nat.le_trans (Nat.le_trans (Nat.le_trans (Nat.le_refl h0.size) (Keep.of_wr W2).1) (Keep.of_wr W3).1) (Keep.of_wr W7).1)
  have sz_b11 : h0.size ≤ b11 := Nat.le_trans q13 (Nat.le_of_eq g11.symm)
  have V_b11 : Arv Z h11 b11 k11 .int (3 : Int32) [(.int (0 : Int32)), (.int (0 : Int32)), (.int (0 : Int32))] (.int (0 : Int32)) := (Arv.new A11 (by decide)).pad (pad_rep [] (.int (0 : Int32)) 3)
  refine own_of st11 ?_
  show own_Out p e below _ (T11.setTop (mkF m 22 #[rv o0, rv o1, rv o2, iv 3, .unset, .unset, .unset, .unset, .unset] [.ref b11]))
  refine o_astore X11 hx hby d3_22 rfl (l' := #[rv o0, rv o1, rv o2, iv 3, rv b11, .unset, .unset, .unset, .unset]) rfl (q := 24) rfl ?_
  refine o_aloadN X11 hx hby d3_24 rfl rfl (q := 25) rfl ?_
  refine o_astore X11 hx hby d3_25 rfl (l' := #[rv o0, rv o1, rv o2, iv 3, rv b11, rv o2, .unset, .unset, .unset]) rfl (q := 27) rfl ?_
  refine o_aload X11 hx hby d3_27 rfl rfl (q := 29) rfl ?_
  have q14 := ((((V.other W2 n2).other W3 n2).other W7 n2).ext E11)
  refine o_lenV X11 hx hby hZ e11 q14 d3_29 (q := 30) rfl ?_
  refine o_istore X11 hx hby d3_30 (l' := #[rv o0, rv o1, rv o2, iv 3, rv b11, rv o2, iv 4, .unset, .unset]) rfl (q := 32) rfl ?_
  refine o_iconst X11 hx hby d3_32 (z := 0) rfl (q := 33) rfl ?_
  refine o_istore X11 hx hby d3_33 (l' := #[rv o0, rv o1, rv o2, iv 3, rv b11, rv o2, iv 4, iv 0, .unset]) rfl (q := 35) rfl ?_
  refine t1 X11 hx hby hZ e11 q14 V_b11 rfl ⟨by decide, by decide⟩ (cc := 0) rfl ⟨by decide, by decide⟩ (y := 0) rfl (y' := 1) rfl (i' := 1) rfl (iN := 0) rfl (Nat.le_of_ble_eq_true rfl) fun T15 h15 X15 e15 W15 V15 => ?_
  have ne_o2_b11 : o2 ≠ b11 := Nat.ne_of_lt (Nat.lt_of_lt_of_le V.lt sz_b11)
  have q16 := (q14.other W15 ne_o2_b11)
  refine t1 X15 hx hby hZ e15 q16 V15 rfl ⟨by decide, by decide⟩ (cc := 1) rfl ⟨by decide, by decide⟩ (y := 0) rfl (y' := 1) rfl (i' := 2) rfl (iN := 1) rfl (Nat.le_of_ble_eq_true rfl) fun T17 h17 X17 e17 W17 V17 => ?_
  have q18 := (q16.other W17 ne_o2_b11)
  refine t1 X17 hx hby hZ e17 q18 V17 rfl ⟨by decide, by decide⟩ (cc := 2) rfl ⟨by decide, by decide⟩ (y := 0) rfl (y' := 1) rfl (i' := 3) rfl (iN := 2) rfl (Nat.le_of_ble_eq_true rfl) fun T19 h19 X19 e19 W19 V19 => ?_
  have q20 := (q18.other W19 ne_o2_b11)
  refine t1 X19 hx hby hZ e19 q20 V19 rfl ⟨by decide, by decide⟩ (cc := 1) rfl ⟨by decide, by decide⟩ (y := 1) rfl (y' := 2) rfl (i' := 4) rfl (iN := 1) rfl (Nat.le_of_ble_eq_true rfl) fun T21 h21 X21 e21 W21 V21 => ?_
  refine o_iload X21 hx hby d3_35 rfl (q := 37) rfl ?_
  refine o_iload X21 hx hby d3_37 rfl (q := 39) rfl ?_
  refine o_icY X21 hx hby d3_39 (flt (by decide : ¬ ((4 : Int32) < (4 : Int32)))).2.1 (by decide) (q := 64) (by decide) ?_
  refine o_aloadN X21 hx hby d3_64 rfl rfl (q := 65) rfl ?_
  refine o_iloadN X21 hx hby d3_65 rfl (q := 66) rfl ?_
  obtain ⟨T22, h22, k22, X22, e22, E22, A22, Ex22, O22, st22⟩ := newRA X21 hx hZ hown (ty := .int) (by decide +kernel) (w_ hw 33 rfl) (w_ hw 34 rfl) e21 (g := (mkF m 66 #[rv o0, rv o1, rv o2, iv 3, rv b11, rv o2, iv 4, iv 4, iv 1] [.int 3, .ref o0])) rfl (hb hby d3_66) rfl (by decide) (cap := 3) (by decide) (by decide) (by decide) (by decide) (ad := "[[I") (by decide +kernel)
  obtain ⟨b22, g22⟩ : ∃ z, z = h21.size := ⟨_, rfl⟩
  rw [← g22] at A22 Ex22 st22
  have q23 := (Nat.le_trans (Nat.le_trans (Nat.le_trans (Nat.le_trans (Nat.le_trans q12 E11.1) (Keep.of_wr W15).1) (Keep.of_wr W17).1) (Keep.of_wr W19).1) (Keep.of_wr W21).1)
  have g_b22 : n0 ≤ b22 := Nat.le_trans q23 (Nat.le_of_eq g22.symm)
  have q24 := (Nat.le_trans (Nat.le_trans (Nat.le_trans (Nat.le_trans (Nat.le_trans q13 E11.1) (Keep.of_wr W15).1) (Keep.of_wr W17).1) (Keep.of_wr W19).1) (Keep.of_wr W21).1)
  have sz_b22 : h0.size ≤ b22 := Nat.le_trans q24 (Nat.le_of_eq g22.symm)
  have V_b22 : Arv Z h22 b22 k22 (.array .int) (3 : Int32) [.null, .null, .null] .null := (Arv.new A22 (by decide)).pad (pad_rep [] .null 3)
  refine own_of st22 ?_
  show own_Out p e below _ (T22.setTop (mkF m 69 #[rv o0, rv o1, rv o2, iv 3, rv b11, rv o2, iv 4, iv 4, iv 1] [.ref b22, .ref o0]))
  have ne_o0_b11 : o0 ≠ b11 := Nat.ne_of_lt (Nat.lt_of_lt_of_le E.lt sz_b11)
  have q26 := (((((((((F_classes.other W2 (Or.inr (slot_ne (Or.inr (w_ hw 36 rfl)) (Or.inr (w_ hw 28 rfl)) (by decide) (t := (.array (.array .int))) (t' := (.object "java/lang/String")) (by decide) (by decide)))).other W3 (Or.inr (slot_ne (Or.inr (w_ hw 36 rfl)) (Or.inr (w_ hw 30 rfl)) (by decide) (t := (.array (.array .int))) (t' := (.array .int)) (by decide) (by decide)))).other W7 (Or.inr (slot_ne (Or.inr (w_ hw 36 rfl)) (Or.inr (w_ hw 32 rfl)) (by decide) (t := (.array (.array .int))) (t' := .int) (by decide) (by decide)))).ext E11).other W15 (Or.inl ne_o0_b11)).other W17 (Or.inl ne_o0_b11)).other W19 (Or.inl ne_o0_b11)).other W21 (Or.inl ne_o0_b11)).ext E22)
  have q27 := (((((((q9.wr W7).ext E11).wr W15).wr W17).wr W19).wr W21).ext E22)
  obtain ⟨T25, h25, X25, e25, W25, st25⟩ := putF X22 hx hZ hown (host := "") (Or.inl (w_ hw 35 rfl)) Via.refl e22 q26 q27 (Or.inr ⟨(w_ hw 36 rfl), rfl, hnm⟩) (w_ hw 11 rfl) (ty := (.array (.array .int))) (by decide) rfl rfl (g := (mkF m 69 #[rv o0, rv o1, rv o2, iv 3, rv b11, rv o2, iv 4, iv 4, iv 1] [.ref b22, .ref o0])) rfl rfl (hb hby d3_69)
  have q28 := (((((((((F_classes.other W2 (Or.inr (slot_ne (Or.inr (w_ hw 36 rfl)) (Or.inr (w_ hw 28 rfl)) (by decide) (t := (.array (.array .int))) (t' := (.object "java/lang/String")) (by decide) (by decide)))).other W3 (Or.inr (slot_ne (Or.inr (w_ hw 36 rfl)) (Or.inr (w_ hw 30 rfl)) (by decide) (t := (.array (.array .int))) (t' := (.array .int)) (by decide) (by decide)))).other W7 (Or.inr (slot_ne (Or.inr (w_ hw 36 rfl)) (Or.inr (w_ hw 32 rfl)) (by decide) (t := (.array (.array .int))) (t' := .int) (by decide) (by decide)))).ext E11).other W15 (Or.inl ne_o0_b11)).other W17 (Or.inl ne_o0_b11)).other W19 (Or.inl ne_o0_b11)).other W21 (Or.inl ne_o0_b11)).ext E22)
  have Fw25 := q28.same W25
  refine own_of st25 ?_
  show own_Out p e below _ (T25.setTop (mkF m 72 #[rv o0, rv o1, rv o2, iv 3, rv b11, rv o2, iv 4, iv 4, iv 1] []))
  refine o_iconst X25 hx hby d3_72 (z := 0) rfl (q := 73) rfl ?_
  refine o_istore X25 hx hby d3_73 (l' := #[rv o0, rv o1, rv o2, iv 3, rv b11, iv 0, iv 4, iv 4, iv 1]) rfl (q := 75) rfl ?_
  refine o_iload X25 hx hby d3_75 rfl (q := 77) rfl ?_
  refine o_iloadN X25 hx hby d3_77 rfl (q := 78) rfl ?_
  refine o_icN X25 hx hby d3_78 (tlt (by decide : (0 : Int32) < (3 : Int32))).2.1 (q := 81) rfl ?_
  refine o_aloadN X25 hx hby d3_81 rfl rfl (q := 82) rfl ?_
  refine o_getF X25 hx hZ hown hby (w_ hw 35 rfl) Via.refl e25 Fw25 d3_82 (q := 85) rfl fun T29 X29 e29 => ?_
  refine o_iload X29 hx hby d3_85 rfl (q := 87) rfl ?_
  refine o_aload X29 hx hby d3_87 rfl rfl (q := 89) rfl ?_
  refine o_iload X29 hx hby d3_89 rfl (q := 91) rfl ?_
  have q30 := ((V21.ext E22).other W25 (Ne.symm ne_o0_b11))
  refine o_iaV X29 hx hby hZ e29 q30 ⟨by decide, by decide⟩ (v := .int 1) rfl d3_91 (q := 92) rfl ?_
  obtain ⟨T31, h31, k31, X31, e31, E31, A31, Ex31, st31⟩ := newPE X29 hx hZ (w_ hw 5 rfl) e29 (g := (mkF m 92 #[rv o0, rv o1, rv o2, iv 3, rv b11, iv 0, iv 4, iv 4, iv 1] [.int 1, .int 0, .ref b22])) rfl (hb hby d3_92) rfl (by decide) (cap := 1) (by decide) (by decide) (by decide) (by decide) (ad := "[I") (by decide +kernel)
  obtain ⟨b31, g31⟩ : ∃ z, z = h25.size := ⟨_, rfl⟩
  rw [← g31] at A31 Ex31 st31
  have q32 := (Nat.le_trans (Nat.le_trans q23 E22.1) (Keep.of_wr W25).1)
  have g_b31 : n0 ≤ b31 := Nat.le_trans q32 (Nat.le_of_eq g31.symm)
  have q33 := (Nat.le_trans (Nat.le_trans q24 E22.1) (Keep.of_wr W25).1)
  have sz_b31 : h0.size ≤ b31 := Nat.le_trans q33 (Nat.le_of_eq g31.symm)
  have V_b31 : Arv Z h31 b31 k31 .int (1 : Int32) [(.int (0 : Int32))] (.int (0 : Int32)) := (Arv.new A31 (by decide)).pad (pad_rep [] (.int (0 : Int32)) 1)
  refine own_of st31 ?_
  show own_Out p e below _ (T31.setTop (mkF m 94 #[rv o0, rv o1, rv o2, iv 3, rv b11, iv 0, iv 4, iv 4, iv 1] [.ref b31, .int 0, .ref b22]))
  have ne_o0_b22 : o0 ≠ b22 := Nat.ne_of_lt (Nat.lt_of_lt_of_le E.lt sz_b22)
  have q34 := ((V_b22.other W25 (Ne.symm ne_o0_b22)).ext E31)
  refine o_stVR X31 hx hby hZ e31 q34 ⟨by decide, by decide⟩ 0 rfl (Nat.le_of_ble_eq_true rfl) O22 (Ins.self Ex31) d3_94 (q := 95) rfl fun T35 h35 X35 e35 W35 V35 => ?_
  refine o_iinc X35 hx hby d3_95 rfl (l' := #[rv o0, rv o1, rv o2, iv 3, rv b11, iv 1, iv 4, iv 4, iv 1]) rfl (q := 98) rfl ?_
  refine o_goto X35 hx hby d3_98 (by decide) (q := 75) (by decide) ?_
  refine o_iload X35 hx hby d3_75 rfl (q := 77) rfl ?_
  refine o_iloadN X35 hx hby d3_77 rfl (q := 78) rfl ?_
  refine o_icN X35 hx hby d3_78 (tlt (by decide : (1 : Int32) < (3 : Int32))).2.1 (q := 81) rfl ?_
  refine o_aloadN X35 hx hby d3_81 rfl rfl (q := 82) rfl ?_
  have q37 := ((Fw25.ext E31).other W35 (Or.inl ne_o0_b22))
  refine o_getF X35 hx hZ hown hby (w_ hw 35 rfl) Via.refl e35 q37 d3_82 (q := 85) rfl fun T36 X36 e36 => ?_
  refine o_iload X36 hx hby d3_85 rfl (q := 87) rfl ?_
  refine o_aload X36 hx hby d3_87 rfl rfl (q := 89) rfl ?_
  refine o_iload X36 hx hby d3_89 rfl (q := 91) rfl ?_
  have ne_b11_b22 : b11 ≠ b22 := Nat.ne_of_lt (Nat.lt_of_lt_of_le (Nat.lt_of_lt_of_le (Nat.lt_of_lt_of_le (Nat.lt_of_lt_of_le (Nat.lt_of_lt_of_le A11.lt (Keep.of_wr W15).1) (Keep.of_wr W17).1) (Keep.of_wr W19).1) (Keep.of_wr W21).1) (Nat.le_of_eq g22.symm))
  have q38 := ((q30.ext E31).other W35 ne_b11_b22)
  refine o_iaV X36 hx hby hZ e36 q38 ⟨by decide, by decide⟩ (v := .int 2) rfl d3_91 (q := 92) rfl ?_
  obtain ⟨T39, h39, k39, X39, e39, E39, A39, Ex39, st39⟩ := newPE X36 hx hZ (w_ hw 5 rfl) e36 (g := (mkF m 92 #[rv o0, rv o1, rv o2, iv 3, rv b11, iv 1, iv 4, iv 4, iv 1] [.int 2, .int 1, .ref b22])) rfl (hb hby d3_92) rfl (by decide) (cap := 2) (by decide) (by decide) (by decide) (by decide) (ad := "[I") (by decide +kernel)
  obtain ⟨b39, g39⟩ : ∃ z, z = h35.size := ⟨_, rfl⟩
  rw [← g39] at A39 Ex39 st39
  have q40 := (Nat.le_trans (Nat.le_trans q32 E31.1) (Keep.of_wr W35).1)
  have g_b39 : n0 ≤ b39 := Nat.le_trans q40 (Nat.le_of_eq g39.symm)
  have q41 := (Nat.le_trans (Nat.le_trans q33 E31.1) (Keep.of_wr W35).1)
  have sz_b39 : h0.size ≤ b39 := Nat.le_trans q41 (Nat.le_of_eq g39.symm)
  have V_b39 : Arv Z h39 b39 k39 .int (2 : Int32) [(.int (0 : Int32)), (.int (0 : Int32))] (.int (0 : Int32)) := (Arv.new A39 (by decide)).pad (pad_rep [] (.int (0 : Int32)) 2)
  refine own_of st39 ?_
  show own_Out p e below _ (T39.setTop (mkF m 94 #[rv o0, rv o1, rv o2, iv 3, rv b11, iv 1, iv 4, iv 4, iv 1] [.ref b39, .int 1, .ref b22]))
  have q42 := (V35.ext E39)
  refine o_stVR X39 hx hby hZ e39 q42 ⟨by decide, by decide⟩ 1 rfl (Nat.le_of_ble_eq_true rfl) O22 (Ins.self Ex39) d3_94 (q := 95) rfl fun T43 h43 X43 e43 W43 V43 => ?_
  refine o_iinc X43 hx hby d3_95 rfl (l' := #[rv o0, rv o1, rv o2, iv 3, rv b11, iv 2, iv 4, iv 4, iv 1]) rfl (q := 98) rfl ?_
  refine o_goto X43 hx hby d3_98 (by decide) (q := 75) (by decide) ?_
  refine o_iload X43 hx hby d3_75 rfl (q := 77) rfl ?_
  refine o_iloadN X43 hx hby d3_77 rfl (q := 78) rfl ?_
  refine o_icN X43 hx hby d3_78 (tlt (by decide : (2 : Int32) < (3 : Int32))).2.1 (q := 81) rfl ?_
  refine o_aloadN X43 hx hby d3_81 rfl rfl (q := 82) rfl ?_
  have q45 := ((q37.ext E39).other W43 (Or.inl ne_o0_b22))
  refine o_getF X43 hx hZ hown hby (w_ hw 35 rfl) Via.refl e43 q45 d3_82 (q := 85) rfl fun T44 X44 e44 => ?_
  refine o_iload X44 hx hby d3_85 rfl (q := 87) rfl ?_
  refine o_aload X44 hx hby d3_87 rfl rfl (q := 89) rfl ?_
  refine o_iload X44 hx hby d3_89 rfl (q := 91) rfl ?_
  have q46 := ((q38.ext E39).other W43 ne_b11_b22)
  refine o_iaV X44 hx hby hZ e44 q46 ⟨by decide, by decide⟩ (v := .int 1) rfl d3_91 (q := 92) rfl ?_
  obtain ⟨T47, h47, k47, X47, e47, E47, A47, Ex47, st47⟩ := newPE X44 hx hZ (w_ hw 5 rfl) e44 (g := (mkF m 92 #[rv o0, rv o1, rv o2, iv 3, rv b11, iv 2, iv 4, iv 4, iv 1] [.int 1, .int 2, .ref b22])) rfl (hb hby d3_92) rfl (by decide) (cap := 1) (by decide) (by decide) (by decide) (by decide) (ad := "[I") (by decide +kernel)
  obtain ⟨b47, g47⟩ : ∃ z, z = h43.size := ⟨_, rfl⟩
  rw [← g47] at A47 Ex47 st47
  have q48 := (Nat.le_trans (Nat.le_trans q40 E39.1) (Keep.of_wr W43).1)
  have g_b47 : n0 ≤ b47 := Nat.le_trans q48 (Nat.le_of_eq g47.symm)
  have q49 := (Nat.le_trans (Nat.le_trans q41 E39.1) (Keep.of_wr W43).1)
  have sz_b47 : h0.size ≤ b47 := Nat.le_trans q49 (Nat.le_of_eq g47.symm)
  have V_b47 : Arv Z h47 b47 k47 .int (1 : Int32) [(.int (0 : Int32))] (.int (0 : Int32)) := (Arv.new A47 (by decide)).pad (pad_rep [] (.int (0 : Int32)) 1)
  refine own_of st47 ?_
  show own_Out p e below _ (T47.setTop (mkF m 94 #[rv o0, rv o1, rv o2, iv 3, rv b11, iv 2, iv 4, iv 4, iv 1] [.ref b47, .int 2, .ref b22]))
  have q50 := (V43.ext E47)
  refine o_stVR X47 hx hby hZ e47 q50 ⟨by decide, by decide⟩ 2 rfl (Nat.le_of_ble_eq_true rfl) O22 (Ins.self Ex47) d3_94 (q := 95) rfl fun T51 h51 X51 e51 W51 V51 => ?_
  refine o_iinc X51 hx hby d3_95 rfl (l' := #[rv o0, rv o1, rv o2, iv 3, rv b11, iv 3, iv 4, iv 4, iv 1]) rfl (q := 98) rfl ?_
  refine o_goto X51 hx hby d3_98 (by decide) (q := 75) (by decide) ?_
  refine o_iload X51 hx hby d3_75 rfl (q := 77) rfl ?_
  refine o_iloadN X51 hx hby d3_77 rfl (q := 78) rfl ?_
  refine o_icY X51 hx hby d3_78 (flt (by decide : ¬ ((3 : Int32) < (3 : Int32)))).2.1 (by decide) (q := 101) (by decide) ?_
  refine o_iloadN X51 hx hby d3_101 rfl (q := 102) rfl ?_
  obtain ⟨T52, h52, k52, X52, e52, E52, A52, Ex52, st52⟩ := newPE X51 hx hZ (w_ hw 5 rfl) e51 (g := (mkF m 102 #[rv o0, rv o1, rv o2, iv 3, rv b11, iv 3, iv 4, iv 4, iv 1] [.int 3])) rfl (hb hby d3_102) rfl (by decide) (cap := 3) (by decide) (by decide) (by decide) (by decide) (ad := "[I") (by decide +kernel)
  obtain ⟨b52, g52⟩ : ∃ z, z = h51.size := ⟨_, rfl⟩
  rw [← g52] at A52 Ex52 st52
  have q53 := (Nat.le_trans (Nat.le_trans q48 E47.1) (Keep.of_wr W51).1)
  have g_b52 : n0 ≤ b52 := Nat.le_trans q53 (Nat.le_of_eq g52.symm)
  have q54 := (Nat.le_trans (Nat.le_trans q49 E47.1) (Keep.of_wr W51).1)
  have sz_b52 : h0.size ≤ b52 := Nat.le_trans q54 (Nat.le_of_eq g52.symm)
  have V_b52 : Arv Z h52 b52 k52 .int (3 : Int32) [(.int (0 : Int32)), (.int (0 : Int32)), (.int (0 : Int32))] (.int (0 : Int32)) := (Arv.new A52 (by decide)).pad (pad_rep [] (.int (0 : Int32)) 3)
  refine own_of st52 ?_
  show own_Out p e below _ (T52.setTop (mkF m 104 #[rv o0, rv o1, rv o2, iv 3, rv b11, iv 3, iv 4, iv 4, iv 1] [.ref b52]))
  refine o_astore X52 hx hby d3_104 rfl (l' := #[rv o0, rv o1, rv o2, iv 3, rv b11, rv b52, iv 4, iv 4, iv 1]) rfl (q := 106) rfl ?_
  refine o_iconst X52 hx hby d3_106 (z := 0) rfl (q := 107) rfl ?_
  refine o_istore X52 hx hby d3_107 (l' := #[rv o0, rv o1, rv o2, iv 3, rv b11, rv b52, iv 0, iv 4, iv 1]) rfl (q := 109) rfl ?_
  have ne_o2_b22 : o2 ≠ b22 := Nat.ne_of_lt (Nat.lt_of_lt_of_le V.lt sz_b22)
  have q57 := ((((((((((q20.other W21 ne_o2_b11).ext E22).other W25 n2).ext E31).other W35 ne_o2_b22).ext E39).other W43 ne_o2_b22).ext E47).other W51 ne_o2_b22).ext E52)
  have q58 := (((q45.ext E47).other W51 (Or.inl ne_o0_b22)).ext E52)
  have q59 := (V51.ext E52)
  have ne_b22_b31 : b22 ≠ b31 := Nat.ne_of_lt (Nat.lt_of_lt_of_le (Nat.lt_of_lt_of_le A22.lt (Keep.of_wr W25).1) (Nat.le_of_eq g31.symm))
  have q60 := ((((((V_b31.other W35 (Ne.symm ne_b22_b31)).ext E39).other W43 (Ne.symm ne_b22_b31)).ext E47).other W51 (Ne.symm ne_b22_b31)).ext E52)
  have ne_b31_b52 : b31 ≠ b52 := Nat.ne_of_lt (Nat.lt_of_lt_of_le (Nat.lt_of_lt_of_le (Nat.lt_of_lt_of_le (Nat.lt_of_lt_of_le (Nat.lt_of_lt_of_le (Nat.lt_of_lt_of_le A31.lt (Keep.of_wr W35).1) E39.1) (Keep.of_wr W43).1) E47.1) (Keep.of_wr W51).1) (Nat.le_of_eq g52.symm))
  refine t3 X52 hx hby hZ e52 hw hown q57 q58 q59 V_b52 q60 ne_b31_b52 ⟨by decide, by decide⟩ (x := 0) rfl ⟨by decide, by decide⟩ rfl (f := 0) rfl ⟨by decide, by decide⟩ (f' := 1) rfl (i' := 1) rfl (iN := 0) rfl (Nat.le_of_ble_eq_true rfl) (jN := 0) rfl (Nat.le_of_ble_eq_true rfl) fun T56 h55 h56 X56 e56 W55 W56 V55 V56 => ?_
  have ne_o2_b52 : o2 ≠ b52 := Nat.ne_of_lt (Nat.lt_of_lt_of_le V.lt sz_b52)
  have ne_o2_b31 : o2 ≠ b31 := Nat.ne_of_lt (Nat.lt_of_lt_of_le V.lt sz_b31)
  have q63 := ((q57.other W55 ne_o2_b52).other W56 ne_o2_b31)
  have ne_o0_b52 : o0 ≠ b52 := Nat.ne_of_lt (Nat.lt_of_lt_of_le E.lt sz_b52)
  have ne_o0_b31 : o0 ≠ b31 := Nat.ne_of_lt (Nat.lt_of_lt_of_le E.lt sz_b31)
  have q64 := ((q58.other W55 (Or.inl ne_o0_b52)).other W56 (Or.inl ne_o0_b31))
  have ne_b22_b52 : b22 ≠ b52 := Nat.ne_of_lt (Nat.lt_of_lt_of_le (Nat.lt_of_lt_of_le (Nat.lt_of_lt_of_le (Nat.lt_of_lt_of_le (Nat.lt_of_lt_of_le (Nat.lt_of_lt_of_le (Nat.lt_of_lt_of_le (Nat.lt_of_lt_of_le A22.lt (Keep.of_wr W25).1) E31.1) (Keep.of_wr W35).1) E39.1) (Keep.of_wr W43).1) E47.1) (Keep.of_wr W51).1) (Nat.le_of_eq g52.symm))
  have q65 := ((q59.other W55 ne_b22_b52).other W56 ne_b22_b31)
  have q66 := (V55.other W56 (Ne.symm ne_b31_b52))
  have ne_b22_b39 : b22 ≠ b39 := Nat.ne_of_lt (Nat.lt_of_lt_of_le (Nat.lt_of_lt_of_le (Nat.lt_of_lt_of_le (Nat.lt_of_lt_of_le A22.lt (Keep.of_wr W25).1) E31.1) (Keep.of_wr W35).1) (Nat.le_of_eq g39.symm))
  have ne_b39_b52 : b39 ≠ b52 := Nat.ne_of_lt (Nat.lt_of_lt_of_le (Nat.lt_of_lt_of_le (Nat.lt_of_lt_of_le (Nat.lt_of_lt_of_le A39.lt (Keep.of_wr W43).1) E47.1) (Keep.of_wr W51).1) (Nat.le_of_eq g52.symm))
  have ne_b31_b39 : b31 ≠ b39 := Nat.ne_of_lt (Nat.lt_of_lt_of_le (Nat.lt_of_lt_of_le A31.lt (Keep.of_wr W35).1) (Nat.le_of_eq g39.symm))
  have q67 := ((((((V_b39.other W43 (Ne.symm ne_b22_b39)).ext E47).other W51 (Ne.symm ne_b22_b39)).ext E52).other W55 ne_b39_b52).other W56 (Ne.symm ne_b31_b39))
  refine t3 X56 hx hby hZ e56 hw hown q63 q64 q65 q66 q67 ne_b39_b52 ⟨by decide, by decide⟩ (x := 1) rfl ⟨by decide, by decide⟩ rfl (f := 0) rfl ⟨by decide, by decide⟩ (f' := 1) rfl (i' := 2) rfl (iN := 1) rfl (Nat.le_of_ble_eq_true rfl) (jN := 0) rfl (Nat.le_of_ble_eq_true rfl) fun T62 h61 h62 X62 e62 W61 W62 V61 V62 => ?_
  have ne_o2_b39 : o2 ≠ b39 := Nat.ne_of_lt (Nat.lt_of_lt_of_le V.lt sz_b39)
  have q70 := ((q63.other W61 ne_o2_b52).other W62 ne_o2_b39)
  have ne_o0_b39 : o0 ≠ b39 := Nat.ne_of_lt (Nat.lt_of_lt_of_le E.lt sz_b39)
  have q71 := ((q64.other W61 (Or.inl ne_o0_b52)).other W62 (Or.inl ne_o0_b39))
  have q72 := ((q65.other W61 ne_b22_b52).other W62 ne_b22_b39)
  have q73 := (V61.other W62 (Ne.symm ne_b39_b52))
  have ne_b22_b47 : b22 ≠ b47 := Nat.ne_of_lt (Nat.lt_of_lt_of_le (Nat.lt_of_lt_of_le (Nat.lt_of_lt_of_le (Nat.lt_of_lt_of_le (Nat.lt_of_lt_of_le (Nat.lt_of_lt_of_le A22.lt (Keep.of_wr W25).1) E31.1) (Keep.of_wr W35).1) E39.1) (Keep.of_wr W43).1) (Nat.le_of_eq g47.symm))
  have ne_b47_b52 : b47 ≠ b52 := Nat.ne_of_lt (Nat.lt_of_lt_of_le (Nat.lt_of_lt_of_le A47.lt (Keep.of_wr W51).1) (Nat.le_of_eq g52.symm))
  have ne_b31_b47 : b31 ≠ b47 := Nat.ne_of_lt (Nat.lt_of_lt_of_le (Nat.lt_of_lt_of_le (Nat.lt_of_lt_of_le (Nat.lt_of_lt_of_le A31.lt (Keep.of_wr W35).1) E39.1) (Keep.of_wr W43).1) (Nat.le_of_eq g47.symm))
  have ne_b39_b47 : b39 ≠ b47 := Nat.ne_of_lt (Nat.lt_of_lt_of_le (Nat.lt_of_lt_of_le A39.lt (Keep.of_wr W43).1) (Nat.le_of_eq g47.symm))
  have q74 := ((((((V_b47.other W51 (Ne.symm ne_b22_b47)).ext E52).other W55 ne_b47_b52).other W56 (Ne.symm ne_b31_b47)).other W61 ne_b47_b52).other W62 (Ne.symm ne_b39_b47))
  refine t3 X62 hx hby hZ e62 hw hown q70 q71 q72 q73 q74 ne_b47_b52 ⟨by decide, by decide⟩ (x := 2) rfl ⟨by decide, by decide⟩ rfl (f := 0) rfl ⟨by decide, by decide⟩ (f' := 1) rfl (i' := 3) rfl (iN := 2) rfl (Nat.le_of_ble_eq_true rfl) (jN := 0) rfl (Nat.le_of_ble_eq_true rfl) fun T69 h68 h69 X69 e69 W68 W69 V68 V69 => ?_
  have ne_o2_b47 : o2 ≠ b47 := Nat.ne_of_lt (Nat.lt_of_lt_of_le V.lt sz_b47)
  have q77 := ((q70.other W68 ne_o2_b52).other W69 ne_o2_b47)
  have ne_o0_b47 : o0 ≠ b47 := Nat.ne_of_lt (Nat.lt_of_lt_of_le E.lt sz_b47)
  have q78 := ((q71.other W68 (Or.inl ne_o0_b52)).other W69 (Or.inl ne_o0_b47))
  have q79 := ((q72.other W68 ne_b22_b52).other W69 ne_b22_b47)
  have q80 := (V68.other W69 (Ne.symm ne_b47_b52))
  have q81 := ((V62.other W68 ne_b39_b52).other W69 ne_b39_b47)
  refine t3 X69 hx hby hZ e69 hw hown q77 q78 q79 q80 q81 ne_b39_b52 ⟨by decide, by decide⟩ (x := 1) rfl ⟨by decide, by decide⟩ rfl (f := 1) rfl ⟨by decide, by decide⟩ (f' := 2) rfl (i' := 4) rfl (iN := 1) rfl (Nat.le_of_ble_eq_true rfl) (jN := 1) rfl (Nat.le_of_ble_eq_true rfl) fun T76 h75 h76 X76 e76 W75 W76 V75 V76 => ?_
  refine o_iload X76 hx hby d3_109 rfl (q := 111) rfl ?_
  refine o_aloadN X76 hx hby d3_111 rfl rfl (q := 112) rfl ?_
  have q82 := ((q77.other W75 ne_o2_b52).other W76 ne_o2_b39)
  refine o_lenV X76 hx hby hZ e76 q82 d3_112 (q := 113) rfl ?_
  refine o_icY X76 hx hby d3_113 (flt (by decide : ¬ ((4 : Int32) < (4 : Int32)))).2.1 (by decide) (q := 146) (by decide) ?_
  have q83 := ((((((((((((((((((((((((((Keep.refl h0 [o0]).wr W2 (Or.inl (List.mem_of_getElem? (i := 0) rfl))).wr W3 (Or.inl (List.mem_of_getElem? (i := 0) rfl))).wr W7 (Or.inl (List.mem_of_getElem? (i := 0) rfl))).ext E11).wr W15 (Or.inr sz_b11)).wr W17 (Or.inr sz_b11)).wr W19 (Or.inr sz_b11)).wr W21 (Or.inr sz_b11)).ext E22).wr W25 (Or.inl (List.mem_of_getElem? (i := 0) rfl))).ext E31).wr W35 (Or.inr sz_b22)).ext E39).wr W43 (Or.inr sz_b22)).ext E47).wr W51 (Or.inr sz_b22)).ext E52).wr W55 (Or.inr sz_b52)).wr W56 (Or.inr sz_b31)).wr W61 (Or.inr sz_b52)).wr W62 (Or.inr sz_b39)).wr W68 (Or.inr sz_b52)).wr W69 (Or.inr sz_b47)).wr W75 (Or.inr sz_b52)).wr W76 (Or.inr sz_b39))
  have q84 := ((((((((((((((((q27.wr W25).ext E31).wr W35).ext E39).wr W43).ext E47).wr W51).ext E52).wr W55).wr W56).wr W61).wr W62).wr W68).wr W69).wr W75).wr W76)
  have q85 := (((((((((((((((((((((((Fw3.other W7 (Or.inr (slot_ne (Or.inr (w_ hw 30 rfl)) (Or.inr (w_ hw 32 rfl)) (by decide) (t := (.array .int)) (t' := .int) (by decide) (by decide)))).ext E11).other W15 (Or.inl ne_o0_b11)).other W17 (Or.inl ne_o0_b11)).other W19 (Or.inl ne_o0_b11)).other W21 (Or.inl ne_o0_b11)).ext E22).other W25 (Or.inr (slot_ne (Or.inr (w_ hw 30 rfl)) (Or.inr (w_ hw 36 rfl)) (by decide) (t := (.array .int)) (t' := (.array (.array .int))) (by decide) (by decide)))).ext E31).other W35 (Or.inl ne_o0_b22)).ext E39).other W43 (Or.inl ne_o0_b22)).ext E47).other W51 (Or.inl ne_o0_b22)).ext E52).other W55 (Or.inl ne_o0_b52)).other W56 (Or.inl ne_o0_b31)).other W61 (Or.inl ne_o0_b52)).other W62 (Or.inl ne_o0_b39)).other W68 (Or.inl ne_o0_b52)).other W69 (Or.inl ne_o0_b47)).other W75 (Or.inl ne_o0_b52)).other W76 (Or.inl ne_o0_b39))
  have q86 := ((((((((((((((((((((((Fw7.ext E11).other W15 (Or.inl ne_o0_b11)).other W17 (Or.inl ne_o0_b11)).other W19 (Or.inl ne_o0_b11)).other W21 (Or.inl ne_o0_b11)).ext E22).other W25 (Or.inr (slot_ne (Or.inr (w_ hw 32 rfl)) (Or.inr (w_ hw 36 rfl)) (by decide) (t := .int) (t' := (.array (.array .int))) (by decide) (by decide)))).ext E31).other W35 (Or.inl ne_o0_b22)).ext E39).other W43 (Or.inl ne_o0_b22)).ext E47).other W51 (Or.inl ne_o0_b22)).ext E52).other W55 (Or.inl ne_o0_b52)).other W56 (Or.inl ne_o0_b31)).other W61 (Or.inl ne_o0_b52)).other W62 (Or.inl ne_o0_b39)).other W68 (Or.inl ne_o0_b52)).other W69 (Or.inl ne_o0_b47)).other W75 (Or.inl ne_o0_b52)).other W76 (Or.inl ne_o0_b39))
  exact own_outV X76 hx hlk hret (hb hby d3_146) (Q := Q3c0121n3 Z o0 o1 o2 k2 h0 n0) (by rw [e76]; exact ⟨rfl, (Fr.snoc X76 (own_snoc (Fr.snoc X69 (own_snoc (Fr.snoc X62 (own_snoc (Fr.snoc X56 (own_snoc (Fr.snoc X51 (Fr.snoc X43 (Fr.snoc X35 (Fr.snoc X25 (Fr.snoc X21 (Fr.snoc X19 (Fr.snoc X17 (Fr.snoc X15 (Fr.snoc X7 (Fr.snoc X3 (Fr.snoc X2 N0 g_o0) g_o0) g_o0) g_b11) g_b11) g_b11) g_b11) g_o0) g_b22) g_b22) g_b22) g_b52) g_b31) g_b52) g_b39) g_b52) g_b47) g_b52) g_b39), q83, q84, q85, q86⟩) (by decide) (by decide)
theorem ef_3c0122n3 (m : MethodId) (x0 : Addr) (x1 : Addr) (x2 : Addr) : entryFrame m #[(.ref x0), (.ref x1), (.ref x2), (.int (3 : Int32))] 9 = mkF m 0 #[.val (.ref x0), .val (.ref x1), .val (.ref x2), .val (.int (3 : Int32)), .unset, .unset, .unset, .unset, .unset] [] := by first | (simp [entryFrame, mkF, argsToLocals, Value.category]; done) | rfl
def Q3c0122n3 (Z : State) (o0 : Addr) (o1 : Addr) (o2 : Addr) (k2 : ClassId) (h0 : Heap) (n0 : Nat) (v : Option Value) (h : Heap) (L : List Loc) : Prop := v = none ∧ Fr n0 L ∧ Keep h0 h [o0] ∧ Exa Z h o0 "com/example/slimc/slimc/game/Observation" ∧ Fld Z h o0 "com/example/slimc/slimc/game/Observation" "classOf" "[I" (.ref o2) ∧ Fld Z h o0 "com/example/slimc/slimc/game/Observation" "classCount" "I" (.int (3 : Int32))
set_option maxRecDepth 65536 in
set_option maxHeartbeats 40000000 in
theorem rm3c0122n3 (l : Launch) (Z : State) (a0 : Array Value) (hw : ∀ d ∈ tables_1, d.before a0 Z = true) (ws : List Jvm.Cond) (o0 : Addr) (o1 : Addr) (o2 : Addr) (k2 : ClassId) (h0 : Heap) (n0 : Nat) (Z0 : n0 ≤ h0.size) (E : Exa Z h0 o0 "com/example/slimc/slimc/game/Observation") (F_name : Fld Z h0 o0 "com/example/slimc/slimc/game/Observation" "name" "Ljava/lang/String;" .null) (F_classOf : Fld Z h0 o0 "com/example/slimc/slimc/game/Observation" "classOf" "[I" .null) (F_classCount : Fld Z h0 o0 "com/example/slimc/slimc/game/Observation" "classCount" "I" (.int (0 : Int32))) (F_classes : Fld Z h0 o0 "com/example/slimc/slimc/game/Observation" "classes" "[[I" .null) (g_o0 : n0 ≤ o0) (V : Arv Z h0 o2 k2 .int (4 : Int32) [(.int (0 : Int32)), (.int (1 : Int32)), (.int (2 : Int32)), (.int (2 : Int32))] (.int (0 : Int32))) (n2 : o2 ≠ o0) :
    MetFree l (⟨"com/example/slimc/slimc/game/Observation", "<init>", "(Ljava/lang/String;[II)V"⟩ : MethodName) (head1 (Jvm.Cond.code (⟨"com/example/slimc/slimc/game/Observation", "<init>", "(Ljava/lang/String;[II)V"⟩ : MethodName) prog_66_method_1_code 9 none :: ws) ({ frames := 1, cells := 7, slots := 16, locals := 14 } : Room)) (fun a U => a = #[(.ref o0), (.ref o1), (.ref o2), (.int (3 : Int32))] ∧ Z.Warmed39 U.vm ∧ U.heap = h0) (fun _ _ _ _ _ => True) (fun _ U o U' => ∃ v L, o = .returned v ∧ Q3c0122n3 Z o0 o1 o2 k2 h0 n0 v U'.heap L ∧ FrameEnd U o U' L ({ frames := 1, cells := 7, slots := 16, locals := 14 } : Room).cells ({ frames := 1, cells := 7, slots := 16, locals := 14 } : Room).slots) := by
  refine MetFree.of_bodySF (plainFor_of_name pn_1) hisR ?_
  intro p e s m args below meth c s₁ Bd hml0 hP hK
  obtain ⟨rfl, hZ, hh⟩ := hP
  have hx := Bd.exec
  have hby := Bd.bytes
  have hml : c.maxLocals = 9 := hml0
  have hown : s.vm.findClass "com/example/slimc/slimc/game/Observation" = some m.cls := findClass_of_methodNamed Bd.named
  have hnm := (name_of_methodNamed Bd.named Bd.method).1
  have X0 : Stand p l e ({ frames := 1, cells := 7, slots := 16, locals := 14 } : Room) s m #[(.ref o0), (.ref o1), (.ref o2), (.int (3 : Int32))] below meth c s₁ [] 0 0 := Stand.of_body Bd
  have e0 : s₁.heap = h0 := by rw [← hh, Bd.state]; rfl
  have N0 := Fr.nil n0
  have hret := Bd.returns
  have hlk := BodyLoose.notSynchronized Bd
  show own_Out p e below (fun o U' => ∃ v L, o = .returned v ∧ Q3c0122n3 Z o0 o1 o2 k2 h0 n0 v U'.heap L ∧ FrameEnd s o U' L ({ frames := 1, cells := 7, slots := 16, locals := 14 } : Room).cells ({ frames := 1, cells := 7, slots := 16, locals := 14 } : Room).slots) (s₁.setTop (entryFrame m #[(.ref o0), (.ref o1), (.ref o2), (.int (3 : Int32))] 9))
  refine own_of (fun t k => castTop (ef_3c0122n3 m o0 o1 o2) k) ?_
  show own_Out p e below _ (s₁.setTop (mkF m 0 #[rv o0, rv o1, rv o2, iv 3, .unset, .unset, .unset, .unset, .unset] []))
  refine o_aloadN X0 hx hby d3_0 rfl rfl (q := 1) rfl ?_
  obtain ⟨T1, X1, e1, st1⟩ := initO X0 hx hZ hown (w_ hw 24 rfl) (w_ hw 25 rfl) (w_ hw 26 rfl) e0 (g := (mkF m 1 #[rv o0, rv o1, rv o2, iv 3, .unset, .unset, .unset, .unset, .unset] [.ref o0])) rfl (by rw [hml]; rfl) rfl (hb hby d3_1) (by decide) (W := 0) (by show 2 * 0 + _ ≤ _; exact Nat.le_of_eq rfl) (by decide)
  refine own_of st1 ?_
  show own_Out p e below _ (T1.setTop (mkF m 4 #[rv o0, rv o1, rv o2, iv 3, .unset, .unset, .unset, .unset, .unset] []))
  refine o_aloadN X1 hx hby d3_4 rfl rfl (q := 5) rfl ?_
  refine o_aloadN X1 hx hby d3_5 rfl rfl (q := 6) rfl ?_
  obtain ⟨T2, h2, X2, e2, W2, st2⟩ := putF X1 hx hZ hown (host := "") (Or.inl (w_ hw 27 rfl)) Via.refl e1 F_name E (Or.inr ⟨(w_ hw 28 rfl), rfl, hnm⟩) (w_ hw 11 rfl) (ty := (.object "java/lang/String")) (by decide) rfl rfl (g := (mkF m 6 #[rv o0, rv o1, rv o2, iv 3, .unset, .unset, .unset, .unset, .unset] [.ref o1, .ref o0])) rfl rfl (hb hby d3_6)
  have Fw2 := F_name.same W2
  refine own_of st2 ?_
  show own_Out p e below _ (T2.setTop (mkF m 9 #[rv o0, rv o1, rv o2, iv 3, .unset, .unset, .unset, .unset, .unset] []))
  refine o_aloadN X2 hx hby d3_9 rfl rfl (q := 10) rfl ?_
  refine o_aloadN X2 hx hby d3_10 rfl rfl (q := 11) rfl ?_
  have q4 := (F_classOf.other W2 (Or.inr (slot_ne (Or.inr (w_ hw 30 rfl)) (Or.inr (w_ hw 28 rfl)) (by decide) (t := (.array .int)) (t' := (.object "java/lang/String")) (by decide) (by decide))))
  have q5 := (E.wr W2)
  obtain ⟨T3, h3, X3, e3, W3, st3⟩ := putF X2 hx hZ hown (host := "") (Or.inl (w_ hw 29 rfl)) Via.refl e2 q4 q5 (Or.inr ⟨(w_ hw 30 rfl), rfl, hnm⟩) (w_ hw 11 rfl) (ty := (.array .int)) (by decide) rfl rfl (g := (mkF m 11 #[rv o0, rv o1, rv o2, iv 3, .unset, .unset, .unset, .unset, .unset] [.ref o2, .ref o0])) rfl rfl (hb hby d3_11)
  have q6 := (F_classOf.other W2 (Or.inr (slot_ne (Or.inr (w_ hw 30 rfl)) (Or.inr (w_ hw 28 rfl)) (by decide) (t := (.array .int)) (t' := (.object "java/lang/String")) (by decide) (by decide))))
  have Fw3 := q6.same W3
  refine own_of st3 ?_
  show own_Out p e below _ (T3.setTop (mkF m 14 #[rv o0, rv o1, rv o2, iv 3, .unset, .unset, .unset, .unset, .unset] []))
  refine o_aloadN X3 hx hby d3_14 rfl rfl (q := 15) rfl ?_
  refine o_iloadN X3 hx hby d3_15 rfl (q := 16) rfl ?_
  have q8 := ((F_classCount.other W2 (Or.inr (slot_ne (Or.inr (w_ hw 32 rfl)) (Or.inr (w_ hw 28 rfl)) (by decide) (t := .int) (t' := (.object "java/lang/String")) (by decide) (by decide)))).other W3 (Or.inr (slot_ne (Or.inr (w_ hw 32 rfl)) (Or.inr (w_ hw 30 rfl)) (by decide) (t := .int) (t' := (.array .int)) (by decide) (by decide))))
  have q9 := (q5.wr W3)
  obtain ⟨T7, h7, X7, e7, W7, st7⟩ := putF X3 hx hZ hown (host := "") (Or.inl (w_ hw 31 rfl)) Via.refl e3 q8 q9 (Or.inr ⟨(w_ hw 32 rfl), rfl, hnm⟩) (w_ hw 11 rfl) (ty := .int) (by decide) rfl rfl (g := (mkF m 16 #[rv o0, rv o1, rv o2, iv 3, .unset, .unset, .unset, .unset, .unset] [.int 3, .ref o0])) rfl rfl (hb hby d3_16)
  have q10 := ((F_classCount.other W2 (Or.inr (slot_ne (Or.inr (w_ hw 32 rfl)) (Or.inr (w_ hw 28 rfl)) (by decide) (t := .int) (t' := (.object "java/lang/String")) (by decide) (by decide)))).other W3 (Or.inr (slot_ne (Or.inr (w_ hw 32 rfl)) (Or.inr (w_ hw 30 rfl)) (by decide) (t := .int) (t' := (.array .int)) (by decide) (by decide))))
  have Fw7 := q10.same W7
  refine own_of st7 ?_
  show own_Out p e below _ (T7.setTop (mkF m 19 #[rv o0, rv o1, rv o2, iv 3, .unset, .unset, .unset, .unset, .unset] []))
  refine o_iloadN X7 hx hby d3_19 rfl (q := 20) rfl ?_
  obtain ⟨T11, h11, k11, X11, e11, E11, A11, Ex11, st11⟩ := newPE X7 hx hZ (w_ hw 5 rfl) e7 (g := (mkF m 20 #[rv o0, rv o1, rv o2, iv 3, .unset, .unset, .unset, .unset, .unset] [.int 3])) rfl (hb hby d3_20) rfl (by decide) (cap := 3) (by decide) (by decide) (by decide) (by decide) (ad := "[I") (by decide +kernel)
  obtain ⟨b11, g11⟩ : ∃ z, z = h7.size := ⟨_, rfl⟩
  rw [← g11] at A11 Ex11 st11
  have q12 := (Nat.le_trans (Nat.le_trans (Nat.le_trans Z0 (Keep.of_wr W2).1) (Keep.of_wr W3).1) (Keep.of_wr W7).1)
  have g_b11 : n0 ≤ b11 := Nat.le_trans q12 (Nat.le_of_eq g11.symm)
  have q13 := (Nat.le_trans (Nat.le_trans (Nat.le_trans (Nat.le_refl h0.size) (Keep.of_wr W2).1) (Keep.of_wr W3).1) (Keep.of_wr W7).1)
  have sz_b11 : h0.size ≤ b11 := Nat.le_trans q13 (Nat.le_of_eq g11.symm)
  have V_b11 : Arv Z h11 b11 k11 .int (3 : Int32) [(.int (0 : Int32)), (.int (0 : Int32)), (.int (0 : Int32))] (.int (0 : Int32)) := (Arv.new A11 (by decide)).pad (pad_rep [] (.int (0 : Int32)) 3)
  refine own_of st11 ?_
  show own_Out p e below _ (T11.setTop (mkF m 22 #[rv o0, rv o1, rv o2, iv 3, .unset, .unset, .unset, .unset, .unset] [.ref b11]))
  refine o_astore X11 hx hby d3_22 rfl (l' := #[rv o0, rv o1, rv o2, iv 3, rv b11, .unset, .unset, .unset, .unset]) rfl (q := 24) rfl ?_
  refine o_aloadN X11 hx hby d3_24 rfl rfl (q := 25) rfl ?_
  refine o_astore X11 hx hby d3_25 rfl (l' := #[rv o0, rv o1, rv o2, iv 3, rv b11, rv o2, .unset, .unset, .unset]) rfl (q := 27) rfl ?_
  refine o_aload X11 hx hby d3_27 rfl rfl (q := 29) rfl ?_
  have q14 := ((((V.other W2 n2).other W3 n2).other W7 n2).ext E11)
  refine o_lenV X11 hx hby hZ e11 q14 d3_29 (q := 30) rfl ?_
  refine o_istore X11 hx hby d3_30 (l' := #[rv o0, rv o1, rv o2, iv 3, rv b11, rv o2, iv 4, .unset, .unset]) rfl (q := 32) rfl ?_
  refine o_iconst X11 hx hby d3_32 (z := 0) rfl (q := 33) rfl ?_
  refine o_istore X11 hx hby d3_33 (l' := #[rv o0, rv o1, rv o2, iv 3, rv b11, rv o2, iv 4, iv 0, .unset]) rfl (q := 35) rfl ?_
  refine t1 X11 hx hby hZ e11 q14 V_b11 rfl ⟨by decide, by decide⟩ (cc := 0) rfl ⟨by decide, by decide⟩ (y := 0) rfl (y' := 1) rfl (i' := 1) rfl (iN := 0) rfl (Nat.le_of_ble_eq_true rfl) fun T15 h15 X15 e15 W15 V15 => ?_
  have ne_o2_b11 : o2 ≠ b11 := Nat.ne_of_lt (Nat.lt_of_lt_of_le V.lt sz_b11)
  have q16 := (q14.other W15 ne_o2_b11)
  refine t1 X15 hx hby hZ e15 q16 V15 rfl ⟨by decide, by decide⟩ (cc := 1) rfl ⟨by decide, by decide⟩ (y := 0) rfl (y' := 1) rfl (i' := 2) rfl (iN := 1) rfl (Nat.le_of_ble_eq_true rfl) fun T17 h17 X17 e17 W17 V17 => ?_
  have q18 := (q16.other W17 ne_o2_b11)
  refine t1 X17 hx hby hZ e17 q18 V17 rfl ⟨by decide, by decide⟩ (cc := 2) rfl ⟨by decide, by decide⟩ (y := 0) rfl (y' := 1) rfl (i' := 3) rfl (iN := 2) rfl (Nat.le_of_ble_eq_true rfl) fun T19 h19 X19 e19 W19 V19 => ?_
  have q20 := (q18.other W19 ne_o2_b11)
  refine t1 X19 hx hby hZ e19 q20 V19 rfl ⟨by decide, by decide⟩ (cc := 2) rfl ⟨by decide, by decide⟩ (y := 1) rfl (y' := 2) rfl (i' := 4) rfl (iN := 2) rfl (Nat.le_of_ble_eq_true rfl) fun T21 h21 X21 e21 W21 V21 => ?_
  refine o_iload X21 hx hby d3_35 rfl (q := 37) rfl ?_
  refine o_iload X21 hx hby d3_37 rfl (q := 39) rfl ?_
  refine o_icY X21 hx hby d3_39 (flt (by decide : ¬ ((4 : Int32) < (4 : Int32)))).2.1 (by decide) (q := 64) (by decide) ?_
  refine o_aloadN X21 hx hby d3_64 rfl rfl (q := 65) rfl ?_
  refine o_iloadN X21 hx hby d3_65 rfl (q := 66) rfl ?_
  obtain ⟨T22, h22, k22, X22, e22, E22, A22, Ex22, O22, st22⟩ := newRA X21 hx hZ hown (ty := .int) (by decide +kernel) (w_ hw 33 rfl) (w_ hw 34 rfl) e21 (g := (mkF m 66 #[rv o0, rv o1, rv o2, iv 3, rv b11, rv o2, iv 4, iv 4, iv 2] [.int 3, .ref o0])) rfl (hb hby d3_66) rfl (by decide) (cap := 3) (by decide) (by decide) (by decide) (by decide) (ad := "[[I") (by decide +kernel)
  obtain ⟨b22, g22⟩ : ∃ z, z = h21.size := ⟨_, rfl⟩
  rw [← g22] at A22 Ex22 st22
  have q23 := (Nat.le_trans (Nat.le_trans (Nat.le_trans (Nat.le_trans (Nat.le_trans q12 E11.1) (Keep.of_wr W15).1) (Keep.of_wr W17).1) (Keep.of_wr W19).1) (Keep.of_wr W21).1)
  have g_b22 : n0 ≤ b22 := Nat.le_trans q23 (Nat.le_of_eq g22.symm)
  have q24 := (Nat.le_trans (Nat.le_trans (Nat.le_trans (Nat.le_trans (Nat.le_trans q13 E11.1) (Keep.of_wr W15).1) (Keep.of_wr W17).1) (Keep.of_wr W19).1) (Keep.of_wr W21).1)
  have sz_b22 : h0.size ≤ b22 := Nat.le_trans q24 (Nat.le_of_eq g22.symm)
  have V_b22 : Arv Z h22 b22 k22 (.array .int) (3 : Int32) [.null, .null, .null] .null := (Arv.new A22 (by decide)).pad (pad_rep [] .null 3)
  refine own_of st22 ?_
  show own_Out p e below _ (T22.setTop (mkF m 69 #[rv o0, rv o1, rv o2, iv 3, rv b11, rv o2, iv 4, iv 4, iv 2] [.ref b22, .ref o0]))
  have ne_o0_b11 : o0 ≠ b11 := Nat.ne_of_lt (Nat.lt_of_lt_of_le E.lt sz_b11)
  have q26 := (((((((((F_classes.other W2 (Or.inr (slot_ne (Or.inr (w_ hw 36 rfl)) (Or.inr (w_ hw 28 rfl)) (by decide) (t := (.array (.array .int))) (t' := (.object "java/lang/String")) (by decide) (by decide)))).other W3 (Or.inr (slot_ne (Or.inr (w_ hw 36 rfl)) (Or.inr (w_ hw 30 rfl)) (by decide) (t := (.array (.array .int))) (t' := (.array .int)) (by decide) (by decide)))).other W7 (Or.inr (slot_ne (Or.inr (w_ hw 36 rfl)) (Or.inr (w_ hw 32 rfl)) (by decide) (t := (.array (.array .int))) (t' := .int) (by decide) (by decide)))).ext E11).other W15 (Or.inl ne_o0_b11)).other W17 (Or.inl ne_o0_b11)).other W19 (Or.inl ne_o0_b11)).other W21 (Or.inl ne_o0_b11)).ext E22)
  have q27 := (((((((q9.wr W7).ext E11).wr W15).wr W17).wr W19).wr W21).ext E22)
  obtain ⟨T25, h25, X25, e25, W25, st25⟩ := putF X22 hx hZ hown (host := "") (Or.inl (w_ hw 35 rfl)) Via.refl e22 q26 q27 (Or.inr ⟨(w_ hw 36 rfl), rfl, hnm⟩) (w_ hw 11 rfl) (ty := (.array (.array .int))) (by decide) rfl rfl (g := (mkF m 69 #[rv o0, rv o1, rv o2, iv 3, rv b11, rv o2, iv 4, iv 4, iv 2] [.ref b22, .ref o0])) rfl rfl (hb hby d3_69)
  have q28 := (((((((((F_classes.other W2 (Or.inr (slot_ne (Or.inr (w_ hw 36 rfl)) (Or.inr (w_ hw 28 rfl)) (by decide) (t := (.array (.array .int))) (t' := (.object "java/lang/String")) (by decide) (by decide)))).other W3 (Or.inr (slot_ne (Or.inr (w_ hw 36 rfl)) (Or.inr (w_ hw 30 rfl)) (by decide) (t := (.array (.array .int))) (t' := (.array .int)) (by decide) (by decide)))).other W7 (Or.inr (slot_ne (Or.inr (w_ hw 36 rfl)) (Or.inr (w_ hw 32 rfl)) (by decide) (t := (.array (.array .int))) (t' := .int) (by decide) (by decide)))).ext E11).other W15 (Or.inl ne_o0_b11)).other W17 (Or.inl ne_o0_b11)).other W19 (Or.inl ne_o0_b11)).other W21 (Or.inl ne_o0_b11)).ext E22)
  have Fw25 := q28.same W25
  refine own_of st25 ?_
  show own_Out p e below _ (T25.setTop (mkF m 72 #[rv o0, rv o1, rv o2, iv 3, rv b11, rv o2, iv 4, iv 4, iv 2] []))
  refine o_iconst X25 hx hby d3_72 (z := 0) rfl (q := 73) rfl ?_
  refine o_istore X25 hx hby d3_73 (l' := #[rv o0, rv o1, rv o2, iv 3, rv b11, iv 0, iv 4, iv 4, iv 2]) rfl (q := 75) rfl ?_
  refine o_iload X25 hx hby d3_75 rfl (q := 77) rfl ?_
  refine o_iloadN X25 hx hby d3_77 rfl (q := 78) rfl ?_
  refine o_icN X25 hx hby d3_78 (tlt (by decide : (0 : Int32) < (3 : Int32))).2.1 (q := 81) rfl ?_
  refine o_aloadN X25 hx hby d3_81 rfl rfl (q := 82) rfl ?_
  refine o_getF X25 hx hZ hown hby (w_ hw 35 rfl) Via.refl e25 Fw25 d3_82 (q := 85) rfl fun T29 X29 e29 => ?_
  refine o_iload X29 hx hby d3_85 rfl (q := 87) rfl ?_
  refine o_aload X29 hx hby d3_87 rfl rfl (q := 89) rfl ?_
  refine o_iload X29 hx hby d3_89 rfl (q := 91) rfl ?_
  have q30 := ((V21.ext E22).other W25 (Ne.symm ne_o0_b11))
  refine o_iaV X29 hx hby hZ e29 q30 ⟨by decide, by decide⟩ (v := .int 1) rfl d3_91 (q := 92) rfl ?_
  obtain ⟨T31, h31, k31, X31, e31, E31, A31, Ex31, st31⟩ := newPE X29 hx hZ (w_ hw 5 rfl) e29 (g := (mkF m 92 #[rv o0, rv o1, rv o2, iv 3, rv b11, iv 0, iv 4, iv 4, iv 2] [.int 1, .int 0, .ref b22])) rfl (hb hby d3_92) rfl (by decide) (cap := 1) (by decide) (by decide) (by decide) (by decide) (ad := "[I") (by decide +kernel)
  obtain ⟨b31, g31⟩ : ∃ z, z = h25.size := ⟨_, rfl⟩
  rw [← g31] at A31 Ex31 st31
  have q32 := (Nat.le_trans (Nat.le_trans q23 E22.1) (Keep.of_wr W25).1)
  have g_b31 : n0 ≤ b31 := Nat.le_trans q32 (Nat.le_of_eq g31.symm)
  have q33 := (Nat.le_trans (Nat.le_trans q24 E22.1) (Keep.of_wr W25).1)
  have sz_b31 : h0.size ≤ b31 := Nat.le_trans q33 (Nat.le_of_eq g31.symm)
  have V_b31 : Arv Z h31 b31 k31 .int (1 : Int32) [(.int (0 : Int32))] (.int (0 : Int32)) := (Arv.new A31 (by decide)).pad (pad_rep [] (.int (0 : Int32)) 1)
  refine own_of st31 ?_
  show own_Out p e below _ (T31.setTop (mkF m 94 #[rv o0, rv o1, rv o2, iv 3, rv b11, iv 0, iv 4, iv 4, iv 2] [.ref b31, .int 0, .ref b22]))
  have ne_o0_b22 : o0 ≠ b22 := Nat.ne_of_lt (Nat.lt_of_lt_of_le E.lt sz_b22)
  have q34 := ((V_b22.other W25 (Ne.symm ne_o0_b22)).ext E31)
  refine o_stVR X31 hx hby hZ e31 q34 ⟨by decide, by decide⟩ 0 rfl (Nat.le_of_ble_eq_true rfl) O22 (Ins.self Ex31) d3_94 (q := 95) rfl fun T35 h35 X35 e35 W35 V35 => ?_
  refine o_iinc X35 hx hby d3_95 rfl (l' := #[rv o0, rv o1, rv o2, iv 3, rv b11, iv 1, iv 4, iv 4, iv 2]) rfl (q := 98) rfl ?_
  refine o_goto X35 hx hby d3_98 (by decide) (q := 75) (by decide) ?_
  refine o_iload X35 hx hby d3_75 rfl (q := 77) rfl ?_
  refine o_iloadN X35 hx hby d3_77 rfl (q := 78) rfl ?_
  refine o_icN X35 hx hby d3_78 (tlt (by decide : (1 : Int32) < (3 : Int32))).2.1 (q := 81) rfl ?_
  refine o_aloadN X35 hx hby d3_81 rfl rfl (q := 82) rfl ?_
  have q37 := ((Fw25.ext E31).other W35 (Or.inl ne_o0_b22))
  refine o_getF X35 hx hZ hown hby (w_ hw 35 rfl) Via.refl e35 q37 d3_82 (q := 85) rfl fun T36 X36 e36 => ?_
  refine o_iload X36 hx hby d3_85 rfl (q := 87) rfl ?_
  refine o_aload X36 hx hby d3_87 rfl rfl (q := 89) rfl ?_
  refine o_iload X36 hx hby d3_89 rfl (q := 91) rfl ?_
  have ne_b11_b22 : b11 ≠ b22 := Nat.ne_of_lt (Nat.lt_of_lt_of_le (Nat.lt_of_lt_of_le (Nat.lt_of_lt_of_le (Nat.lt_of_lt_of_le (Nat.lt_of_lt_of_le A11.lt (Keep.of_wr W15).1) (Keep.of_wr W17).1) (Keep.of_wr W19).1) (Keep.of_wr W21).1) (Nat.le_of_eq g22.symm))
  have q38 := ((q30.ext E31).other W35 ne_b11_b22)
  refine o_iaV X36 hx hby hZ e36 q38 ⟨by decide, by decide⟩ (v := .int 1) rfl d3_91 (q := 92) rfl ?_
  obtain ⟨T39, h39, k39, X39, e39, E39, A39, Ex39, st39⟩ := newPE X36 hx hZ (w_ hw 5 rfl) e36 (g := (mkF m 92 #[rv o0, rv o1, rv o2, iv 3, rv b11, iv 1, iv 4, iv 4, iv 2] [.int 1, .int 1, .ref b22])) rfl (hb hby d3_92) rfl (by decide) (cap := 1) (by decide) (by decide) (by decide) (by decide) (ad := "[I") (by decide +kernel)
  obtain ⟨b39, g39⟩ : ∃ z, z = h35.size := ⟨_, rfl⟩
  rw [← g39] at A39 Ex39 st39
  have q40 := (Nat.le_trans (Nat.le_trans q32 E31.1) (Keep.of_wr W35).1)
  have g_b39 : n0 ≤ b39 := Nat.le_trans q40 (Nat.le_of_eq g39.symm)
  have q41 := (Nat.le_trans (Nat.le_trans q33 E31.1) (Keep.of_wr W35).1)
  have sz_b39 : h0.size ≤ b39 := Nat.le_trans q41 (Nat.le_of_eq g39.symm)
  have V_b39 : Arv Z h39 b39 k39 .int (1 : Int32) [(.int (0 : Int32))] (.int (0 : Int32)) := (Arv.new A39 (by decide)).pad (pad_rep [] (.int (0 : Int32)) 1)
  refine own_of st39 ?_
  show own_Out p e below _ (T39.setTop (mkF m 94 #[rv o0, rv o1, rv o2, iv 3, rv b11, iv 1, iv 4, iv 4, iv 2] [.ref b39, .int 1, .ref b22]))
  have q42 := (V35.ext E39)
  refine o_stVR X39 hx hby hZ e39 q42 ⟨by decide, by decide⟩ 1 rfl (Nat.le_of_ble_eq_true rfl) O22 (Ins.self Ex39) d3_94 (q := 95) rfl fun T43 h43 X43 e43 W43 V43 => ?_
  refine o_iinc X43 hx hby d3_95 rfl (l' := #[rv o0, rv o1, rv o2, iv 3, rv b11, iv 2, iv 4, iv 4, iv 2]) rfl (q := 98) rfl ?_
  refine o_goto X43 hx hby d3_98 (by decide) (q := 75) (by decide) ?_
  refine o_iload X43 hx hby d3_75 rfl (q := 77) rfl ?_
  refine o_iloadN X43 hx hby d3_77 rfl (q := 78) rfl ?_
  refine o_icN X43 hx hby d3_78 (tlt (by decide : (2 : Int32) < (3 : Int32))).2.1 (q := 81) rfl ?_
  refine o_aloadN X43 hx hby d3_81 rfl rfl (q := 82) rfl ?_
  have q45 := ((q37.ext E39).other W43 (Or.inl ne_o0_b22))
  refine o_getF X43 hx hZ hown hby (w_ hw 35 rfl) Via.refl e43 q45 d3_82 (q := 85) rfl fun T44 X44 e44 => ?_
  refine o_iload X44 hx hby d3_85 rfl (q := 87) rfl ?_
  refine o_aload X44 hx hby d3_87 rfl rfl (q := 89) rfl ?_
  refine o_iload X44 hx hby d3_89 rfl (q := 91) rfl ?_
  have q46 := ((q38.ext E39).other W43 ne_b11_b22)
  refine o_iaV X44 hx hby hZ e44 q46 ⟨by decide, by decide⟩ (v := .int 2) rfl d3_91 (q := 92) rfl ?_
  obtain ⟨T47, h47, k47, X47, e47, E47, A47, Ex47, st47⟩ := newPE X44 hx hZ (w_ hw 5 rfl) e44 (g := (mkF m 92 #[rv o0, rv o1, rv o2, iv 3, rv b11, iv 2, iv 4, iv 4, iv 2] [.int 2, .int 2, .ref b22])) rfl (hb hby d3_92) rfl (by decide) (cap := 2) (by decide) (by decide) (by decide) (by decide) (ad := "[I") (by decide +kernel)
  obtain ⟨b47, g47⟩ : ∃ z, z = h43.size := ⟨_, rfl⟩
  rw [← g47] at A47 Ex47 st47
  have q48 := (Nat.le_trans (Nat.le_trans q40 E39.1) (Keep.of_wr W43).1)
  have g_b47 : n0 ≤ b47 := Nat.le_trans q48 (Nat.le_of_eq g47.symm)
  have q49 := (Nat.le_trans (Nat.le_trans q41 E39.1) (Keep.of_wr W43).1)
  have sz_b47 : h0.size ≤ b47 := Nat.le_trans q49 (Nat.le_of_eq g47.symm)
  have V_b47 : Arv Z h47 b47 k47 .int (2 : Int32) [(.int (0 : Int32)), (.int (0 : Int32))] (.int (0 : Int32)) := (Arv.new A47 (by decide)).pad (pad_rep [] (.int (0 : Int32)) 2)
  refine own_of st47 ?_
  show own_Out p e below _ (T47.setTop (mkF m 94 #[rv o0, rv o1, rv o2, iv 3, rv b11, iv 2, iv 4, iv 4, iv 2] [.ref b47, .int 2, .ref b22]))
  have q50 := (V43.ext E47)
  refine o_stVR X47 hx hby hZ e47 q50 ⟨by decide, by decide⟩ 2 rfl (Nat.le_of_ble_eq_true rfl) O22 (Ins.self Ex47) d3_94 (q := 95) rfl fun T51 h51 X51 e51 W51 V51 => ?_
  refine o_iinc X51 hx hby d3_95 rfl (l' := #[rv o0, rv o1, rv o2, iv 3, rv b11, iv 3, iv 4, iv 4, iv 2]) rfl (q := 98) rfl ?_
  refine o_goto X51 hx hby d3_98 (by decide) (q := 75) (by decide) ?_
  refine o_iload X51 hx hby d3_75 rfl (q := 77) rfl ?_
  refine o_iloadN X51 hx hby d3_77 rfl (q := 78) rfl ?_
  refine o_icY X51 hx hby d3_78 (flt (by decide : ¬ ((3 : Int32) < (3 : Int32)))).2.1 (by decide) (q := 101) (by decide) ?_
  refine o_iloadN X51 hx hby d3_101 rfl (q := 102) rfl ?_
  obtain ⟨T52, h52, k52, X52, e52, E52, A52, Ex52, st52⟩ := newPE X51 hx hZ (w_ hw 5 rfl) e51 (g := (mkF m 102 #[rv o0, rv o1, rv o2, iv 3, rv b11, iv 3, iv 4, iv 4, iv 2] [.int 3])) rfl (hb hby d3_102) rfl (by decide) (cap := 3) (by decide) (by decide) (by decide) (by decide) (ad := "[I") (by decide +kernel)
  obtain ⟨b52, g52⟩ : ∃ z, z = h51.size := ⟨_, rfl⟩
  rw [← g52] at A52 Ex52 st52
  have q53 := (Nat.le_trans (Nat.le_trans q48 E47.1) (Keep.of_wr W51).1)
  have g_b52 : n0 ≤ b52 := Nat.le_trans q53 (Nat.le_of_eq g52.symm)
  have q54 := (Nat.le_trans (Nat.le_trans q49 E47.1) (Keep.of_wr W51).1)
  have sz_b52 : h0.size ≤ b52 := Nat.le_trans q54 (Nat.le_of_eq g52.symm)
  have V_b52 : Arv Z h52 b52 k52 .int (3 : Int32) [(.int (0 : Int32)), (.int (0 : Int32)), (.int (0 : Int32))] (.int (0 : Int32)) := (Arv.new A52 (by decide)).pad (pad_rep [] (.int (0 : Int32)) 3)
  refine own_of st52 ?_
  show own_Out p e below _ (T52.setTop (mkF m 104 #[rv o0, rv o1, rv o2, iv 3, rv b11, iv 3, iv 4, iv 4, iv 2] [.ref b52]))
  refine o_astore X52 hx hby d3_104 rfl (l' := #[rv o0, rv o1, rv o2, iv 3, rv b11, rv b52, iv 4, iv 4, iv 2]) rfl (q := 106) rfl ?_
  refine o_iconst X52 hx hby d3_106 (z := 0) rfl (q := 107) rfl ?_
  refine o_istore X52 hx hby d3_107 (l' := #[rv o0, rv o1, rv o2, iv 3, rv b11, rv b52, iv 0, iv 4, iv 2]) rfl (q := 109) rfl ?_
  have ne_o2_b22 : o2 ≠ b22 := Nat.ne_of_lt (Nat.lt_of_lt_of_le V.lt sz_b22)
  have q57 := ((((((((((q20.other W21 ne_o2_b11).ext E22).other W25 n2).ext E31).other W35 ne_o2_b22).ext E39).other W43 ne_o2_b22).ext E47).other W51 ne_o2_b22).ext E52)
  have q58 := (((q45.ext E47).other W51 (Or.inl ne_o0_b22)).ext E52)
  have q59 := (V51.ext E52)
  have ne_b22_b31 : b22 ≠ b31 := Nat.ne_of_lt (Nat.lt_of_lt_of_le (Nat.lt_of_lt_of_le A22.lt (Keep.of_wr W25).1) (Nat.le_of_eq g31.symm))
  have q60 := ((((((V_b31.other W35 (Ne.symm ne_b22_b31)).ext E39).other W43 (Ne.symm ne_b22_b31)).ext E47).other W51 (Ne.symm ne_b22_b31)).ext E52)
  have ne_b31_b52 : b31 ≠ b52 := Nat.ne_of_lt (Nat.lt_of_lt_of_le (Nat.lt_of_lt_of_le (Nat.lt_of_lt_of_le (Nat.lt_of_lt_of_le (Nat.lt_of_lt_of_le (Nat.lt_of_lt_of_le A31.lt (Keep.of_wr W35).1) E39.1) (Keep.of_wr W43).1) E47.1) (Keep.of_wr W51).1) (Nat.le_of_eq g52.symm))
  refine t3 X52 hx hby hZ e52 hw hown q57 q58 q59 V_b52 q60 ne_b31_b52 ⟨by decide, by decide⟩ (x := 0) rfl ⟨by decide, by decide⟩ rfl (f := 0) rfl ⟨by decide, by decide⟩ (f' := 1) rfl (i' := 1) rfl (iN := 0) rfl (Nat.le_of_ble_eq_true rfl) (jN := 0) rfl (Nat.le_of_ble_eq_true rfl) fun T56 h55 h56 X56 e56 W55 W56 V55 V56 => ?_
  have ne_o2_b52 : o2 ≠ b52 := Nat.ne_of_lt (Nat.lt_of_lt_of_le V.lt sz_b52)
  have ne_o2_b31 : o2 ≠ b31 := Nat.ne_of_lt (Nat.lt_of_lt_of_le V.lt sz_b31)
  have q63 := ((q57.other W55 ne_o2_b52).other W56 ne_o2_b31)
  have ne_o0_b52 : o0 ≠ b52 := Nat.ne_of_lt (Nat.lt_of_lt_of_le E.lt sz_b52)
  have ne_o0_b31 : o0 ≠ b31 := Nat.ne_of_lt (Nat.lt_of_lt_of_le E.lt sz_b31)
  have q64 := ((q58.other W55 (Or.inl ne_o0_b52)).other W56 (Or.inl ne_o0_b31))
  have ne_b22_b52 : b22 ≠ b52 := Nat.ne_of_lt (Nat.lt_of_lt_of_le (Nat.lt_of_lt_of_le (Nat.lt_of_lt_of_le (Nat.lt_of_lt_of_le (Nat.lt_of_lt_of_le (Nat.lt_of_lt_of_le (Nat.lt_of_lt_of_le (Nat.lt_of_lt_of_le A22.lt (Keep.of_wr W25).1) E31.1) (Keep.of_wr W35).1) E39.1) (Keep.of_wr W43).1) E47.1) (Keep.of_wr W51).1) (Nat.le_of_eq g52.symm))
  have q65 := ((q59.other W55 ne_b22_b52).other W56 ne_b22_b31)
  have q66 := (V55.other W56 (Ne.symm ne_b31_b52))
  have ne_b22_b39 : b22 ≠ b39 := Nat.ne_of_lt (Nat.lt_of_lt_of_le (Nat.lt_of_lt_of_le (Nat.lt_of_lt_of_le (Nat.lt_of_lt_of_le A22.lt (Keep.of_wr W25).1) E31.1) (Keep.of_wr W35).1) (Nat.le_of_eq g39.symm))
  have ne_b39_b52 : b39 ≠ b52 := Nat.ne_of_lt (Nat.lt_of_lt_of_le (Nat.lt_of_lt_of_le (Nat.lt_of_lt_of_le (Nat.lt_of_lt_of_le A39.lt (Keep.of_wr W43).1) E47.1) (Keep.of_wr W51).1) (Nat.le_of_eq g52.symm))
  have ne_b31_b39 : b31 ≠ b39 := Nat.ne_of_lt (Nat.lt_of_lt_of_le (Nat.lt_of_lt_of_le A31.lt (Keep.of_wr W35).1) (Nat.le_of_eq g39.symm))
  have q67 := ((((((V_b39.other W43 (Ne.symm ne_b22_b39)).ext E47).other W51 (Ne.symm ne_b22_b39)).ext E52).other W55 ne_b39_b52).other W56 (Ne.symm ne_b31_b39))
  refine t3 X56 hx hby hZ e56 hw hown q63 q64 q65 q66 q67 ne_b39_b52 ⟨by decide, by decide⟩ (x := 1) rfl ⟨by decide, by decide⟩ rfl (f := 0) rfl ⟨by decide, by decide⟩ (f' := 1) rfl (i' := 2) rfl (iN := 1) rfl (Nat.le_of_ble_eq_true rfl) (jN := 0) rfl (Nat.le_of_ble_eq_true rfl) fun T62 h61 h62 X62 e62 W61 W62 V61 V62 => ?_
  have ne_o2_b39 : o2 ≠ b39 := Nat.ne_of_lt (Nat.lt_of_lt_of_le V.lt sz_b39)
  have q70 := ((q63.other W61 ne_o2_b52).other W62 ne_o2_b39)
  have ne_o0_b39 : o0 ≠ b39 := Nat.ne_of_lt (Nat.lt_of_lt_of_le E.lt sz_b39)
  have q71 := ((q64.other W61 (Or.inl ne_o0_b52)).other W62 (Or.inl ne_o0_b39))
  have q72 := ((q65.other W61 ne_b22_b52).other W62 ne_b22_b39)
  have q73 := (V61.other W62 (Ne.symm ne_b39_b52))
  have ne_b22_b47 : b22 ≠ b47 := Nat.ne_of_lt (Nat.lt_of_lt_of_le (Nat.lt_of_lt_of_le (Nat.lt_of_lt_of_le (Nat.lt_of_lt_of_le (Nat.lt_of_lt_of_le (Nat.lt_of_lt_of_le A22.lt (Keep.of_wr W25).1) E31.1) (Keep.of_wr W35).1) E39.1) (Keep.of_wr W43).1) (Nat.le_of_eq g47.symm))
  have ne_b47_b52 : b47 ≠ b52 := Nat.ne_of_lt (Nat.lt_of_lt_of_le (Nat.lt_of_lt_of_le A47.lt (Keep.of_wr W51).1) (Nat.le_of_eq g52.symm))
  have ne_b31_b47 : b31 ≠ b47 := Nat.ne_of_lt (Nat.lt_of_lt_of_le (Nat.lt_of_lt_of_le (Nat.lt_of_lt_of_le (Nat.lt_of_lt_of_le A31.lt (Keep.of_wr W35).1) E39.1) (Keep.of_wr W43).1) (Nat.le_of_eq g47.symm))
  have ne_b39_b47 : b39 ≠ b47 := Nat.ne_of_lt (Nat.lt_of_lt_of_le (Nat.lt_of_lt_of_le A39.lt (Keep.of_wr W43).1) (Nat.le_of_eq g47.symm))
  have q74 := ((((((V_b47.other W51 (Ne.symm ne_b22_b47)).ext E52).other W55 ne_b47_b52).other W56 (Ne.symm ne_b31_b47)).other W61 ne_b47_b52).other W62 (Ne.symm ne_b39_b47))
  refine t3 X62 hx hby hZ e62 hw hown q70 q71 q72 q73 q74 ne_b47_b52 ⟨by decide, by decide⟩ (x := 2) rfl ⟨by decide, by decide⟩ rfl (f := 0) rfl ⟨by decide, by decide⟩ (f' := 1) rfl (i' := 3) rfl (iN := 2) rfl (Nat.le_of_ble_eq_true rfl) (jN := 0) rfl (Nat.le_of_ble_eq_true rfl) fun T69 h68 h69 X69 e69 W68 W69 V68 V69 => ?_
  have ne_o2_b47 : o2 ≠ b47 := Nat.ne_of_lt (Nat.lt_of_lt_of_le V.lt sz_b47)
  have q77 := ((q70.other W68 ne_o2_b52).other W69 ne_o2_b47)
  have ne_o0_b47 : o0 ≠ b47 := Nat.ne_of_lt (Nat.lt_of_lt_of_le E.lt sz_b47)
  have q78 := ((q71.other W68 (Or.inl ne_o0_b52)).other W69 (Or.inl ne_o0_b47))
  have q79 := ((q72.other W68 ne_b22_b52).other W69 ne_b22_b47)
  have q80 := (V68.other W69 (Ne.symm ne_b47_b52))
  refine t3 X69 hx hby hZ e69 hw hown q77 q78 q79 q80 V69 ne_b47_b52 ⟨by decide, by decide⟩ (x := 2) rfl ⟨by decide, by decide⟩ rfl (f := 1) rfl ⟨by decide, by decide⟩ (f' := 2) rfl (i' := 4) rfl (iN := 2) rfl (Nat.le_of_ble_eq_true rfl) (jN := 1) rfl (Nat.le_of_ble_eq_true rfl) fun T76 h75 h76 X76 e76 W75 W76 V75 V76 => ?_
  refine o_iload X76 hx hby d3_109 rfl (q := 111) rfl ?_
  refine o_aloadN X76 hx hby d3_111 rfl rfl (q := 112) rfl ?_
  have q81 := ((q77.other W75 ne_o2_b52).other W76 ne_o2_b47)
  refine o_lenV X76 hx hby hZ e76 q81 d3_112 (q := 113) rfl ?_
  refine o_icY X76 hx hby d3_113 (flt (by decide : ¬ ((4 : Int32) < (4 : Int32)))).2.1 (by decide) (q := 146) (by decide) ?_
  have q82 := ((((((((((((((((((((((((((Keep.refl h0 [o0]).wr W2 (Or.inl (List.mem_of_getElem? (i := 0) rfl))).wr W3 (Or.inl (List.mem_of_getElem? (i := 0) rfl))).wr W7 (Or.inl (List.mem_of_getElem? (i := 0) rfl))).ext E11).wr W15 (Or.inr sz_b11)).wr W17 (Or.inr sz_b11)).wr W19 (Or.inr sz_b11)).wr W21 (Or.inr sz_b11)).ext E22).wr W25 (Or.inl (List.mem_of_getElem? (i := 0) rfl))).ext E31).wr W35 (Or.inr sz_b22)).ext E39).wr W43 (Or.inr sz_b22)).ext E47).wr W51 (Or.inr sz_b22)).ext E52).wr W55 (Or.inr sz_b52)).wr W56 (Or.inr sz_b31)).wr W61 (Or.inr sz_b52)).wr W62 (Or.inr sz_b39)).wr W68 (Or.inr sz_b52)).wr W69 (Or.inr sz_b47)).wr W75 (Or.inr sz_b52)).wr W76 (Or.inr sz_b47))
  have q83 := ((((((((((((((((q27.wr W25).ext E31).wr W35).ext E39).wr W43).ext E47).wr W51).ext E52).wr W55).wr W56).wr W61).wr W62).wr W68).wr W69).wr W75).wr W76)
  have q84 := (((((((((((((((((((((((Fw3.other W7 (Or.inr (slot_ne (Or.inr (w_ hw 30 rfl)) (Or.inr (w_ hw 32 rfl)) (by decide) (t := (.array .int)) (t' := .int) (by decide) (by decide)))).ext E11).other W15 (Or.inl ne_o0_b11)).other W17 (Or.inl ne_o0_b11)).other W19 (Or.inl ne_o0_b11)).other W21 (Or.inl ne_o0_b11)).ext E22).other W25 (Or.inr (slot_ne (Or.inr (w_ hw 30 rfl)) (Or.inr (w_ hw 36 rfl)) (by decide) (t := (.array .int)) (t' := (.array (.array .int))) (by decide) (by decide)))).ext E31).other W35 (Or.inl ne_o0_b22)).ext E39).other W43 (Or.inl ne_o0_b22)).ext E47).other W51 (Or.inl ne_o0_b22)).ext E52).other W55 (Or.inl ne_o0_b52)).other W56 (Or.inl ne_o0_b31)).other W61 (Or.inl ne_o0_b52)).other W62 (Or.inl ne_o0_b39)).other W68 (Or.inl ne_o0_b52)).other W69 (Or.inl ne_o0_b47)).other W75 (Or.inl ne_o0_b52)).other W76 (Or.inl ne_o0_b47))
  have q85 := ((((((((((((((((((((((Fw7.ext E11).other W15 (Or.inl ne_o0_b11)).other W17 (Or.inl ne_o0_b11)).other W19 (Or.inl ne_o0_b11)).other W21 (Or.inl ne_o0_b11)).ext E22).other W25 (Or.inr (slot_ne (Or.inr (w_ hw 32 rfl)) (Or.inr (w_ hw 36 rfl)) (by decide) (t := .int) (t' := (.array (.array .int))) (by decide) (by decide)))).ext E31).other W35 (Or.inl ne_o0_b22)).ext E39).other W43 (Or.inl ne_o0_b22)).ext E47).other W51 (Or.inl ne_o0_b22)).ext E52).other W55 (Or.inl ne_o0_b52)).other W56 (Or.inl ne_o0_b31)).other W61 (Or.inl ne_o0_b52)).other W62 (Or.inl ne_o0_b39)).other W68 (Or.inl ne_o0_b52)).other W69 (Or.inl ne_o0_b47)).other W75 (Or.inl ne_o0_b52)).other W76 (Or.inl ne_o0_b47))
  exact own_outV X76 hx hlk hret (hb hby d3_146) (Q := Q3c0122n3 Z o0 o1 o2 k2 h0 n0) (by rw [e76]; exact ⟨rfl, (Fr.snoc X76 (own_snoc (Fr.snoc X69 (own_snoc (Fr.snoc X62 (own_snoc (Fr.snoc X56 (own_snoc (Fr.snoc X51 (Fr.snoc X43 (Fr.snoc X35 (Fr.snoc X25 (Fr.snoc X21 (Fr.snoc X19 (Fr.snoc X17 (Fr.snoc X15 (Fr.snoc X7 (Fr.snoc X3 (Fr.snoc X2 N0 g_o0) g_o0) g_o0) g_b11) g_b11) g_b11) g_b11) g_o0) g_b22) g_b22) g_b22) g_b52) g_b31) g_b52) g_b39) g_b52) g_b47) g_b52) g_b47), q82, q83, q84, q85⟩) (by decide) (by decide)
theorem ef_3c0123n4 (m : MethodId) (x0 : Addr) (x1 : Addr) (x2 : Addr) : entryFrame m #[(.ref x0), (.ref x1), (.ref x2), (.int (4 : Int32))] 9 = mkF m 0 #[.val (.ref x0), .val (.ref x1), .val (.ref x2), .val (.int (4 : Int32)), .unset, .unset, .unset, .unset, .unset] [] := by first | (simp [entryFrame, mkF, argsToLocals, Value.category]; done) | rfl
def Q3c0123n4 (Z : State) (o0 : Addr) (o1 : Addr) (o2 : Addr) (k2 : ClassId) (h0 : Heap) (n0 : Nat) (v : Option Value) (h : Heap) (L : List Loc) : Prop := v = none ∧ Fr n0 L ∧ Keep h0 h [o0] ∧ Exa Z h o0 "com/example/slimc/slimc/game/Observation" ∧ Fld Z h o0 "com/example/slimc/slimc/game/Observation" "classOf" "[I" (.ref o2) ∧ Fld Z h o0 "com/example/slimc/slimc/game/Observation" "classCount" "I" (.int (4 : Int32))
set_option maxRecDepth 65536 in
set_option maxHeartbeats 40000000 in
theorem rm3c0123n4 (l : Launch) (Z : State) (a0 : Array Value) (hw : ∀ d ∈ tables_1, d.before a0 Z = true) (ws : List Jvm.Cond) (o0 : Addr) (o1 : Addr) (o2 : Addr) (k2 : ClassId) (h0 : Heap) (n0 : Nat) (Z0 : n0 ≤ h0.size) (E : Exa Z h0 o0 "com/example/slimc/slimc/game/Observation") (F_name : Fld Z h0 o0 "com/example/slimc/slimc/game/Observation" "name" "Ljava/lang/String;" .null) (F_classOf : Fld Z h0 o0 "com/example/slimc/slimc/game/Observation" "classOf" "[I" .null) (F_classCount : Fld Z h0 o0 "com/example/slimc/slimc/game/Observation" "classCount" "I" (.int (0 : Int32))) (F_classes : Fld Z h0 o0 "com/example/slimc/slimc/game/Observation" "classes" "[[I" .null) (g_o0 : n0 ≤ o0) (V : Arv Z h0 o2 k2 .int (4 : Int32) [(.int (0 : Int32)), (.int (1 : Int32)), (.int (2 : Int32)), (.int (3 : Int32))] (.int (0 : Int32))) (n2 : o2 ≠ o0) :
    MetFree l (⟨"com/example/slimc/slimc/game/Observation", "<init>", "(Ljava/lang/String;[II)V"⟩ : MethodName) (head1 (Jvm.Cond.code (⟨"com/example/slimc/slimc/game/Observation", "<init>", "(Ljava/lang/String;[II)V"⟩ : MethodName) prog_66_method_1_code 9 none :: ws) ({ frames := 1, cells := 7, slots := 16, locals := 14 } : Room)) (fun a U => a = #[(.ref o0), (.ref o1), (.ref o2), (.int (4 : Int32))] ∧ Z.Warmed39 U.vm ∧ U.heap = h0) (fun _ _ _ _ _ => True) (fun _ U o U' => ∃ v L, o = .returned v ∧ Q3c0123n4 Z o0 o1 o2 k2 h0 n0 v U'.heap L ∧ FrameEnd U o U' L ({ frames := 1, cells := 7, slots := 16, locals := 14 } : Room).cells ({ frames := 1, cells := 7, slots := 16, locals := 14 } : Room).slots) := by
  refine MetFree.of_bodySF (plainFor_of_name pn_1) hisR ?_
  intro p e s m args below meth c s₁ Bd hml0 hP hK
  obtain ⟨rfl, hZ, hh⟩ := hP
  have hx := Bd.exec
  have hby := Bd.bytes
  have hml : c.maxLocals = 9 := hml0
  have hown : s.vm.findClass "com/example/slimc/slimc/game/Observation" = some m.cls := findClass_of_methodNamed Bd.named
  have hnm := (name_of_methodNamed Bd.named Bd.method).1
  have X0 : Stand p l e ({ frames := 1, cells := 7, slots := 16, locals := 14 } : Room) s m #[(.ref o0), (.ref o1), (.ref o2), (.int (4 : Int32))] below meth c s₁ [] 0 0 := Stand.of_body Bd
  have e0 : s₁.heap = h0 := by rw [← hh, Bd.state]; rfl
  have N0 := Fr.nil n0
  have hret := Bd.returns
  have hlk := BodyLoose.notSynchronized Bd
  show own_Out p e below (fun o U' => ∃ v L, o = .returned v ∧ Q3c0123n4 Z o0 o1 o2 k2 h0 n0 v U'.heap L ∧ FrameEnd s o U' L ({ frames := 1, cells := 7, slots := 16, locals := 14 } : Room).cells ({ frames := 1, cells := 7, slots := 16, locals := 14 } : Room).slots) (s₁.setTop (entryFrame m #[(.ref o0), (.ref o1), (.ref o2), (.int (4 : Int32))] 9))
  refine own_of (fun t k => castTop (ef_3c0123n4 m o0 o1 o2) k) ?_
  show own_Out p e below _ (s₁.setTop (mkF m 0 #[rv o0, rv o1, rv o2, iv 4, .unset, .unset, .unset, .unset, .unset] []))
  refine o_aloadN X0 hx hby d3_0 rfl rfl (q := 1) rfl ?_
  obtain ⟨T1, X1, e1, st1⟩ := initO X0 hx hZ hown (w_ hw 24 rfl) (w_ hw 25 rfl) (w_ hw 26 rfl) e0 (g := (mkF m 1 #[rv o0, rv o1, rv o2, iv 4, .unset, .unset, .unset, .unset, .unset] [.ref o0])) rfl (by rw [hml]; rfl) rfl (hb hby d3_1) (by decide) (W := 0) (by show 2 * 0 + _ ≤ _; exact Nat.le_of_eq rfl) (by decide)
  refine own_of st1 ?_
  show own_Out p e below _ (T1.setTop (mkF m 4 #[rv o0, rv o1, rv o2, iv 4, .unset, .unset, .unset, .unset, .unset] []))
  refine o_aloadN X1 hx hby d3_4 rfl rfl (q := 5) rfl ?_
  refine o_aloadN X1 hx hby d3_5 rfl rfl (q := 6) rfl ?_
  obtain ⟨T2, h2, X2, e2, W2, st2⟩ := putF X1 hx hZ hown (host := "") (Or.inl (w_ hw 27 rfl)) Via.refl e1 F_name E (Or.inr ⟨(w_ hw 28 rfl), rfl, hnm⟩) (w_ hw 11 rfl) (ty := (.object "java/lang/String")) (by decide) rfl rfl (g := (mkF m 6 #[rv o0, rv o1, rv o2, iv 4, .unset, .unset, .unset, .unset, .unset] [.ref o1, .ref o0])) rfl rfl (hb hby d3_6)
  have Fw2 := F_name.same W2
  refine own_of st2 ?_
  show own_Out p e below _ (T2.setTop (mkF m 9 #[rv o0, rv o1, rv o2, iv 4, .unset, .unset, .unset, .unset, .unset] []))
  refine o_aloadN X2 hx hby d3_9 rfl rfl (q := 10) rfl ?_
  refine o_aloadN X2 hx hby d3_10 rfl rfl (q := 11) rfl ?_
  have q4 := (F_classOf.other W2 (Or.inr (slot_ne (Or.inr (w_ hw 30 rfl)) (Or.inr (w_ hw 28 rfl)) (by decide) (t := (.array .int)) (t' := (.object "java/lang/String")) (by decide) (by decide))))
  have q5 := (E.wr W2)
  obtain ⟨T3, h3, X3, e3, W3, st3⟩ := putF X2 hx hZ hown (host := "") (Or.inl (w_ hw 29 rfl)) Via.refl e2 q4 q5 (Or.inr ⟨(w_ hw 30 rfl), rfl, hnm⟩) (w_ hw 11 rfl) (ty := (.array .int)) (by decide) rfl rfl (g := (mkF m 11 #[rv o0, rv o1, rv o2, iv 4, .unset, .unset, .unset, .unset, .unset] [.ref o2, .ref o0])) rfl rfl (hb hby d3_11)
  have q6 := (F_classOf.other W2 (Or.inr (slot_ne (Or.inr (w_ hw 30 rfl)) (Or.inr (w_ hw 28 rfl)) (by decide) (t := (.array .int)) (t' := (.object "java/lang/String")) (by decide) (by decide))))
  have Fw3 := q6.same W3
  refine own_of st3 ?_
  show own_Out p e below _ (T3.setTop (mkF m 14 #[rv o0, rv o1, rv o2, iv 4, .unset, .unset, .unset, .unset, .unset] []))
  refine o_aloadN X3 hx hby d3_14 rfl rfl (q := 15) rfl ?_
  refine o_iloadN X3 hx hby d3_15 rfl (q := 16) rfl ?_
  have q8 := ((F_classCount.other W2 (Or.inr (slot_ne (Or.inr (w_ hw 32 rfl)) (Or.inr (w_ hw 28 rfl)) (by decide) (t := .int) (t' := (.object "java/lang/String")) (by decide) (by decide)))).other W3 (Or.inr (slot_ne (Or.inr (w_ hw 32 rfl)) (Or.inr (w_ hw 30 rfl)) (by decide) (t := .int) (t' := (.array .int)) (by decide) (by decide))))
  have q9 := (q5.wr W3)
  obtain ⟨T7, h7, X7, e7, W7, st7⟩ := putF X3 hx hZ hown (host := "") (Or.inl (w_ hw 31 rfl)) Via.refl e3 q8 q9 (Or.inr ⟨(w_ hw 32 rfl), rfl, hnm⟩) (w_ hw 11 rfl) (ty := .int) (by decide) rfl rfl (g := (mkF m 16 #[rv o0, rv o1, rv o2, iv 4, .unset, .unset, .unset, .unset, .unset] [.int 4, .ref o0])) rfl rfl (hb hby d3_16)
  have q10 := ((F_classCount.other W2 (Or.inr (slot_ne (Or.inr (w_ hw 32 rfl)) (Or.inr (w_ hw 28 rfl)) (by decide) (t := .int) (t' := (.object "java/lang/String")) (by decide) (by decide)))).other W3 (Or.inr (slot_ne (Or.inr (w_ hw 32 rfl)) (Or.inr (w_ hw 30 rfl)) (by decide) (t := .int) (t' := (.array .int)) (by decide) (by decide))))
  have Fw7 := q10.same W7
  refine own_of st7 ?_
  show own_Out p e below _ (T7.setTop (mkF m 19 #[rv o0, rv o1, rv o2, iv 4, .unset, .unset, .unset, .unset, .unset] []))
  refine o_iloadN X7 hx hby d3_19 rfl (q := 20) rfl ?_
  obtain ⟨T11, h11, k11, X11, e11, E11, A11, Ex11, st11⟩ := newPE X7 hx hZ (w_ hw 5 rfl) e7 (g := (mkF m 20 #[rv o0, rv o1, rv o2, iv 4, .unset, .unset, .unset, .unset, .unset] [.int 4])) rfl (hb hby d3_20) rfl (by decide) (cap := 4) (by decide) (by decide) (by decide) (by decide) (ad := "[I") (by decide +kernel)
  obtain ⟨b11, g11⟩ : ∃ z, z = h7.size := ⟨_, rfl⟩
  rw [← g11] at A11 Ex11 st11
  have q12 := (Nat.le_trans (Nat.le_trans (Nat.le_trans Z0 (Keep.of_wr W2).1) (Keep.of_wr W3).1) (Keep.of_wr W7).1)
  have g_b11 : n0 ≤ b11 := Nat.le_trans q12 (Nat.le_of_eq g11.symm)
  have q13 := (Nat.le_trans (Nat.le_trans (Nat.le_trans (Nat.le_refl h0.size) (Keep.of_wr W2).1) (Keep.of_wr W3).1) (Keep.of_wr W7).1)
  have sz_b11 : h0.size ≤ b11 := Nat.le_trans q13 (Nat.le_of_eq g11.symm)
  have V_b11 : Arv Z h11 b11 k11 .int (4 : Int32) [(.int (0 : Int32)), (.int (0 : Int32)), (.int (0 : Int32)), (.int (0 : Int32))] (.int (0 : Int32)) := (Arv.new A11 (by decide)).pad (pad_rep [] (.int (0 : Int32)) 4)
  refine own_of st11 ?_
  show own_Out p e below _ (T11.setTop (mkF m 22 #[rv o0, rv o1, rv o2, iv 4, .unset, .unset, .unset, .unset, .unset] [.ref b11]))
  refine o_astore X11 hx hby d3_22 rfl (l' := #[rv o0, rv o1, rv o2, iv 4, rv b11, .unset, .unset, .unset, .unset]) rfl (q := 24) rfl ?_
  refine o_aloadN X11 hx hby d3_24 rfl rfl (q := 25) rfl ?_
  refine o_astore X11 hx hby d3_25 rfl (l' := #[rv o0, rv o1, rv o2, iv 4, rv b11, rv o2, .unset, .unset, .unset]) rfl (q := 27) rfl ?_
  refine o_aload X11 hx hby d3_27 rfl rfl (q := 29) rfl ?_
  have q14 := ((((V.other W2 n2).other W3 n2).other W7 n2).ext E11)
  refine o_lenV X11 hx hby hZ e11 q14 d3_29 (q := 30) rfl ?_
  refine o_istore X11 hx hby d3_30 (l' := #[rv o0, rv o1, rv o2, iv 4, rv b11, rv o2, iv 4, .unset, .unset]) rfl (q := 32) rfl ?_
  refine o_iconst X11 hx hby d3_32 (z := 0) rfl (q := 33) rfl ?_
  refine o_istore X11 hx hby d3_33 (l' := #[rv o0, rv o1, rv o2, iv 4, rv b11, rv o2, iv 4, iv 0, .unset]) rfl (q := 35) rfl ?_
  refine t1 X11 hx hby hZ e11 q14 V_b11 rfl ⟨by decide, by decide⟩ (cc := 0) rfl ⟨by decide, by decide⟩ (y := 0) rfl (y' := 1) rfl (i' := 1) rfl (iN := 0) rfl (Nat.le_of_ble_eq_true rfl) fun T15 h15 X15 e15 W15 V15 => ?_
  have ne_o2_b11 : o2 ≠ b11 := Nat.ne_of_lt (Nat.lt_of_lt_of_le V.lt sz_b11)
  have q16 := (q14.other W15 ne_o2_b11)
  refine t1 X15 hx hby hZ e15 q16 V15 rfl ⟨by decide, by decide⟩ (cc := 1) rfl ⟨by decide, by decide⟩ (y := 0) rfl (y' := 1) rfl (i' := 2) rfl (iN := 1) rfl (Nat.le_of_ble_eq_true rfl) fun T17 h17 X17 e17 W17 V17 => ?_
  have q18 := (q16.other W17 ne_o2_b11)
  refine t1 X17 hx hby hZ e17 q18 V17 rfl ⟨by decide, by decide⟩ (cc := 2) rfl ⟨by decide, by decide⟩ (y := 0) rfl (y' := 1) rfl (i' := 3) rfl (iN := 2) rfl (Nat.le_of_ble_eq_true rfl) fun T19 h19 X19 e19 W19 V19 => ?_
  have q20 := (q18.other W19 ne_o2_b11)
  refine t1 X19 hx hby hZ e19 q20 V19 rfl ⟨by decide, by decide⟩ (cc := 3) rfl ⟨by decide, by decide⟩ (y := 0) rfl (y' := 1) rfl (i' := 4) rfl (iN := 3) rfl (Nat.le_of_ble_eq_true rfl) fun T21 h21 X21 e21 W21 V21 => ?_
  refine o_iload X21 hx hby d3_35 rfl (q := 37) rfl ?_
  refine o_iload X21 hx hby d3_37 rfl (q := 39) rfl ?_
  refine o_icY X21 hx hby d3_39 (flt (by decide : ¬ ((4 : Int32) < (4 : Int32)))).2.1 (by decide) (q := 64) (by decide) ?_
  refine o_aloadN X21 hx hby d3_64 rfl rfl (q := 65) rfl ?_
  refine o_iloadN X21 hx hby d3_65 rfl (q := 66) rfl ?_
  obtain ⟨T22, h22, k22, X22, e22, E22, A22, Ex22, O22, st22⟩ := newRA X21 hx hZ hown (ty := .int) (by decide +kernel) (w_ hw 33 rfl) (w_ hw 34 rfl) e21 (g := (mkF m 66 #[rv o0, rv o1, rv o2, iv 4, rv b11, rv o2, iv 4, iv 4, iv 3] [.int 4, .ref o0])) rfl (hb hby d3_66) rfl (by decide) (cap := 4) (by decide) (by decide) (by decide) (by decide) (ad := "[[I") (by decide +kernel)
  obtain ⟨b22, g22⟩ : ∃ z, z = h21.size := ⟨_, rfl⟩
  rw [← g22] at A22 Ex22 st22
  have q23 := (Nat.le_trans (Nat.le_trans (Nat.le_trans (Nat.le_trans (Nat.le_trans q12 E11.1) (Keep.of_wr W15).1) (Keep.of_wr W17).1) (Keep.of_wr W19).1) (Keep.of_wr W21).1)
  have g_b22 : n0 ≤ b22 := Nat.le_trans q23 (Nat.le_of_eq g22.symm)
  have q24 := (Nat.le_trans (Nat.le_trans (Nat.le_trans (Nat.le_trans (Nat.le_trans q13 E11.1) (Keep.of_wr W15).1) (Keep.of_wr W17).1) (Keep.of_wr W19).1) (Keep.of_wr W21).1)
  have sz_b22 : h0.size ≤ b22 := Nat.le_trans q24 (Nat.le_of_eq g22.symm)
  have V_b22 : Arv Z h22 b22 k22 (.array .int) (4 : Int32) [.null, .null, .null, .null] .null := (Arv.new A22 (by decide)).pad (pad_rep [] .null 4)
  refine own_of st22 ?_
  show own_Out p e below _ (T22.setTop (mkF m 69 #[rv o0, rv o1, rv o2, iv 4, rv b11, rv o2, iv 4, iv 4, iv 3] [.ref b22, .ref o0]))
  have ne_o0_b11 : o0 ≠ b11 := Nat.ne_of_lt (Nat.lt_of_lt_of_le E.lt sz_b11)
  have q26 := (((((((((F_classes.other W2 (Or.inr (slot_ne (Or.inr (w_ hw 36 rfl)) (Or.inr (w_ hw 28 rfl)) (by decide) (t := (.array (.array .int))) (t' := (.object "java/lang/String")) (by decide) (by decide)))).other W3 (Or.inr (slot_ne (Or.inr (w_ hw 36 rfl)) (Or.inr (w_ hw 30 rfl)) (by decide) (t := (.array (.array .int))) (t' := (.array .int)) (by decide) (by decide)))).other W7 (Or.inr (slot_ne (Or.inr (w_ hw 36 rfl)) (Or.inr (w_ hw 32 rfl)) (by decide) (t := (.array (.array .int))) (t' := .int) (by decide) (by decide)))).ext E11).other W15 (Or.inl ne_o0_b11)).other W17 (Or.inl ne_o0_b11)).other W19 (Or.inl ne_o0_b11)).other W21 (Or.inl ne_o0_b11)).ext E22)
  have q27 := (((((((q9.wr W7).ext E11).wr W15).wr W17).wr W19).wr W21).ext E22)
  obtain ⟨T25, h25, X25, e25, W25, st25⟩ := putF X22 hx hZ hown (host := "") (Or.inl (w_ hw 35 rfl)) Via.refl e22 q26 q27 (Or.inr ⟨(w_ hw 36 rfl), rfl, hnm⟩) (w_ hw 11 rfl) (ty := (.array (.array .int))) (by decide) rfl rfl (g := (mkF m 69 #[rv o0, rv o1, rv o2, iv 4, rv b11, rv o2, iv 4, iv 4, iv 3] [.ref b22, .ref o0])) rfl rfl (hb hby d3_69)
  have q28 := (((((((((F_classes.other W2 (Or.inr (slot_ne (Or.inr (w_ hw 36 rfl)) (Or.inr (w_ hw 28 rfl)) (by decide) (t := (.array (.array .int))) (t' := (.object "java/lang/String")) (by decide) (by decide)))).other W3 (Or.inr (slot_ne (Or.inr (w_ hw 36 rfl)) (Or.inr (w_ hw 30 rfl)) (by decide) (t := (.array (.array .int))) (t' := (.array .int)) (by decide) (by decide)))).other W7 (Or.inr (slot_ne (Or.inr (w_ hw 36 rfl)) (Or.inr (w_ hw 32 rfl)) (by decide) (t := (.array (.array .int))) (t' := .int) (by decide) (by decide)))).ext E11).other W15 (Or.inl ne_o0_b11)).other W17 (Or.inl ne_o0_b11)).other W19 (Or.inl ne_o0_b11)).other W21 (Or.inl ne_o0_b11)).ext E22)
  have Fw25 := q28.same W25
  refine own_of st25 ?_
  show own_Out p e below _ (T25.setTop (mkF m 72 #[rv o0, rv o1, rv o2, iv 4, rv b11, rv o2, iv 4, iv 4, iv 3] []))
  refine o_iconst X25 hx hby d3_72 (z := 0) rfl (q := 73) rfl ?_
  refine o_istore X25 hx hby d3_73 (l' := #[rv o0, rv o1, rv o2, iv 4, rv b11, iv 0, iv 4, iv 4, iv 3]) rfl (q := 75) rfl ?_
  refine o_iload X25 hx hby d3_75 rfl (q := 77) rfl ?_
  refine o_iloadN X25 hx hby d3_77 rfl (q := 78) rfl ?_
  refine o_icN X25 hx hby d3_78 (tlt (by decide : (0 : Int32) < (4 : Int32))).2.1 (q := 81) rfl ?_
  refine o_aloadN X25 hx hby d3_81 rfl rfl (q := 82) rfl ?_
  refine o_getF X25 hx hZ hown hby (w_ hw 35 rfl) Via.refl e25 Fw25 d3_82 (q := 85) rfl fun T29 X29 e29 => ?_
  refine o_iload X29 hx hby d3_85 rfl (q := 87) rfl ?_
  refine o_aload X29 hx hby d3_87 rfl rfl (q := 89) rfl ?_
  refine o_iload X29 hx hby d3_89 rfl (q := 91) rfl ?_
  have q30 := ((V21.ext E22).other W25 (Ne.symm ne_o0_b11))
  refine o_iaV X29 hx hby hZ e29 q30 ⟨by decide, by decide⟩ (v := .int 1) rfl d3_91 (q := 92) rfl ?_
  obtain ⟨T31, h31, k31, X31, e31, E31, A31, Ex31, st31⟩ := newPE X29 hx hZ (w_ hw 5 rfl) e29 (g := (mkF m 92 #[rv o0, rv o1, rv o2, iv 4, rv b11, iv 0, iv 4, iv 4, iv 3] [.int 1, .int 0, .ref b22])) rfl (hb hby d3_92) rfl (by decide) (cap := 1) (by decide) (by decide) (by decide) (by decide) (ad := "[I") (by decide +kernel)
  obtain ⟨b31, g31⟩ : ∃ z, z = h25.size := ⟨_, rfl⟩
  rw [← g31] at A31 Ex31 st31
  have q32 := (Nat.le_trans (Nat.le_trans q23 E22.1) (Keep.of_wr W25).1)
  have g_b31 : n0 ≤ b31 := Nat.le_trans q32 (Nat.le_of_eq g31.symm)
  have q33 := (Nat.le_trans (Nat.le_trans q24 E22.1) (Keep.of_wr W25).1)
  have sz_b31 : h0.size ≤ b31 := Nat.le_trans q33 (Nat.le_of_eq g31.symm)
  have V_b31 : Arv Z h31 b31 k31 .int (1 : Int32) [(.int (0 : Int32))] (.int (0 : Int32)) := (Arv.new A31 (by decide)).pad (pad_rep [] (.int (0 : Int32)) 1)
  refine own_of st31 ?_
  show own_Out p e below _ (T31.setTop (mkF m 94 #[rv o0, rv o1, rv o2, iv 4, rv b11, iv 0, iv 4, iv 4, iv 3] [.ref b31, .int 0, .ref b22]))
  have ne_o0_b22 : o0 ≠ b22 := Nat.ne_of_lt (Nat.lt_of_lt_of_le E.lt sz_b22)
  have q34 := ((V_b22.other W25 (Ne.symm ne_o0_b22)).ext E31)
  refine o_stVR X31 hx hby hZ e31 q34 ⟨by decide, by decide⟩ 0 rfl (Nat.le_of_ble_eq_true rfl) O22 (Ins.self Ex31) d3_94 (q := 95) rfl fun T35 h35 X35 e35 W35 V35 => ?_
  refine o_iinc X35 hx hby d3_95 rfl (l' := #[rv o0, rv o1, rv o2, iv 4, rv b11, iv 1, iv 4, iv 4, iv 3]) rfl (q := 98) rfl ?_
  refine o_goto X35 hx hby d3_98 (by decide) (q := 75) (by decide) ?_
  refine o_iload X35 hx hby d3_75 rfl (q := 77) rfl ?_
  refine o_iloadN X35 hx hby d3_77 rfl (q := 78) rfl ?_
  refine o_icN X35 hx hby d3_78 (tlt (by decide : (1 : Int32) < (4 : Int32))).2.1 (q := 81) rfl ?_
  refine o_aloadN X35 hx hby d3_81 rfl rfl (q := 82) rfl ?_
  have q37 := ((Fw25.ext E31).other W35 (Or.inl ne_o0_b22))
  refine o_getF X35 hx hZ hown hby (w_ hw 35 rfl) Via.refl e35 q37 d3_82 (q := 85) rfl fun T36 X36 e36 => ?_
  refine o_iload X36 hx hby d3_85 rfl (q := 87) rfl ?_
  refine o_aload X36 hx hby d3_87 rfl rfl (q := 89) rfl ?_
  refine o_iload X36 hx hby d3_89 rfl (q := 91) rfl ?_
  have ne_b11_b22 : b11 ≠ b22 := Nat.ne_of_lt (Nat.lt_of_lt_of_le (Nat.lt_of_lt_of_le (Nat.lt_of_lt_of_le (Nat.lt_of_lt_of_le (Nat.lt_of_lt_of_le A11.lt (Keep.of_wr W15).1) (Keep.of_wr W17).1) (Keep.of_wr W19).1) (Keep.of_wr W21).1) (Nat.le_of_eq g22.symm))
  have q38 := ((q30.ext E31).other W35 ne_b11_b22)
  refine o_iaV X36 hx hby hZ e36 q38 ⟨by decide, by decide⟩ (v := .int 1) rfl d3_91 (q := 92) rfl ?_
  obtain ⟨T39, h39, k39, X39, e39, E39, A39, Ex39, st39⟩ := newPE X36 hx hZ (w_ hw 5 rfl) e36 (g := (mkF m 92 #[rv o0, rv o1, rv o2, iv 4, rv b11, iv 1, iv 4, iv 4, iv 3] [.int 1, .int 1, .ref b22])) rfl (hb hby d3_92) rfl (by decide) (cap := 1) (by decide) (by decide) (by decide) (by decide) (ad := "[I") (by decide +kernel)
  obtain ⟨b39, g39⟩ : ∃ z, z = h35.size := ⟨_, rfl⟩
  rw [← g39] at A39 Ex39 st39
  have q40 := (Nat.le_trans (Nat.le_trans q32 E31.1) (Keep.of_wr W35).1)
  have g_b39 : n0 ≤ b39 := Nat.le_trans q40 (Nat.le_of_eq g39.symm)
  have q41 := (Nat.le_trans (Nat.le_trans q33 E31.1) (Keep.of_wr W35).1)
  have sz_b39 : h0.size ≤ b39 := Nat.le_trans q41 (Nat.le_of_eq g39.symm)
  have V_b39 : Arv Z h39 b39 k39 .int (1 : Int32) [(.int (0 : Int32))] (.int (0 : Int32)) := (Arv.new A39 (by decide)).pad (pad_rep [] (.int (0 : Int32)) 1)
  refine own_of st39 ?_
  show own_Out p e below _ (T39.setTop (mkF m 94 #[rv o0, rv o1, rv o2, iv 4, rv b11, iv 1, iv 4, iv 4, iv 3] [.ref b39, .int 1, .ref b22]))
  have q42 := (V35.ext E39)
  refine o_stVR X39 hx hby hZ e39 q42 ⟨by decide, by decide⟩ 1 rfl (Nat.le_of_ble_eq_true rfl) O22 (Ins.self Ex39) d3_94 (q := 95) rfl fun T43 h43 X43 e43 W43 V43 => ?_
  refine o_iinc X43 hx hby d3_95 rfl (l' := #[rv o0, rv o1, rv o2, iv 4, rv b11, iv 2, iv 4, iv 4, iv 3]) rfl (q := 98) rfl ?_
  refine o_goto X43 hx hby d3_98 (by decide) (q := 75) (by decide) ?_
  refine o_iload X43 hx hby d3_75 rfl (q := 77) rfl ?_
  refine o_iloadN X43 hx hby d3_77 rfl (q := 78) rfl ?_
  refine o_icN X43 hx hby d3_78 (tlt (by decide : (2 : Int32) < (4 : Int32))).2.1 (q := 81) rfl ?_
  refine o_aloadN X43 hx hby d3_81 rfl rfl (q := 82) rfl ?_
  have q45 := ((q37.ext E39).other W43 (Or.inl ne_o0_b22))
  refine o_getF X43 hx hZ hown hby (w_ hw 35 rfl) Via.refl e43 q45 d3_82 (q := 85) rfl fun T44 X44 e44 => ?_
  refine o_iload X44 hx hby d3_85 rfl (q := 87) rfl ?_
  refine o_aload X44 hx hby d3_87 rfl rfl (q := 89) rfl ?_
  refine o_iload X44 hx hby d3_89 rfl (q := 91) rfl ?_
  have q46 := ((q38.ext E39).other W43 ne_b11_b22)
  refine o_iaV X44 hx hby hZ e44 q46 ⟨by decide, by decide⟩ (v := .int 1) rfl d3_91 (q := 92) rfl ?_
  obtain ⟨T47, h47, k47, X47, e47, E47, A47, Ex47, st47⟩ := newPE X44 hx hZ (w_ hw 5 rfl) e44 (g := (mkF m 92 #[rv o0, rv o1, rv o2, iv 4, rv b11, iv 2, iv 4, iv 4, iv 3] [.int 1, .int 2, .ref b22])) rfl (hb hby d3_92) rfl (by decide) (cap := 1) (by decide) (by decide) (by decide) (by decide) (ad := "[I") (by decide +kernel)
  obtain ⟨b47, g47⟩ : ∃ z, z = h43.size := ⟨_, rfl⟩
  rw [← g47] at A47 Ex47 st47
  have q48 := (Nat.le_trans (Nat.le_trans q40 E39.1) (Keep.of_wr W43).1)
  have g_b47 : n0 ≤ b47 := Nat.le_trans q48 (Nat.le_of_eq g47.symm)
  have q49 := (Nat.le_trans (Nat.le_trans q41 E39.1) (Keep.of_wr W43).1)
  have sz_b47 : h0.size ≤ b47 := Nat.le_trans q49 (Nat.le_of_eq g47.symm)
  have V_b47 : Arv Z h47 b47 k47 .int (1 : Int32) [(.int (0 : Int32))] (.int (0 : Int32)) := (Arv.new A47 (by decide)).pad (pad_rep [] (.int (0 : Int32)) 1)
  refine own_of st47 ?_
  show own_Out p e below _ (T47.setTop (mkF m 94 #[rv o0, rv o1, rv o2, iv 4, rv b11, iv 2, iv 4, iv 4, iv 3] [.ref b47, .int 2, .ref b22]))
  have q50 := (V43.ext E47)
  refine o_stVR X47 hx hby hZ e47 q50 ⟨by decide, by decide⟩ 2 rfl (Nat.le_of_ble_eq_true rfl) O22 (Ins.self Ex47) d3_94 (q := 95) rfl fun T51 h51 X51 e51 W51 V51 => ?_
  refine o_iinc X51 hx hby d3_95 rfl (l' := #[rv o0, rv o1, rv o2, iv 4, rv b11, iv 3, iv 4, iv 4, iv 3]) rfl (q := 98) rfl ?_
  refine o_goto X51 hx hby d3_98 (by decide) (q := 75) (by decide) ?_
  refine o_iload X51 hx hby d3_75 rfl (q := 77) rfl ?_
  refine o_iloadN X51 hx hby d3_77 rfl (q := 78) rfl ?_
  refine o_icN X51 hx hby d3_78 (tlt (by decide : (3 : Int32) < (4 : Int32))).2.1 (q := 81) rfl ?_
  refine o_aloadN X51 hx hby d3_81 rfl rfl (q := 82) rfl ?_
  have q53 := ((q45.ext E47).other W51 (Or.inl ne_o0_b22))
  refine o_getF X51 hx hZ hown hby (w_ hw 35 rfl) Via.refl e51 q53 d3_82 (q := 85) rfl fun T52 X52 e52 => ?_
  refine o_iload X52 hx hby d3_85 rfl (q := 87) rfl ?_
  refine o_aload X52 hx hby d3_87 rfl rfl (q := 89) rfl ?_
  refine o_iload X52 hx hby d3_89 rfl (q := 91) rfl ?_
  have q54 := ((q46.ext E47).other W51 ne_b11_b22)
  refine o_iaV X52 hx hby hZ e52 q54 ⟨by decide, by decide⟩ (v := .int 1) rfl d3_91 (q := 92) rfl ?_
  obtain ⟨T55, h55, k55, X55, e55, E55, A55, Ex55, st55⟩ := newPE X52 hx hZ (w_ hw 5 rfl) e52 (g := (mkF m 92 #[rv o0, rv o1, rv o2, iv 4, rv b11, iv 3, iv 4, iv 4, iv 3] [.int 1, .int 3, .ref b22])) rfl (hb hby d3_92) rfl (by decide) (cap := 1) (by decide) (by decide) (by decide) (by decide) (ad := "[I") (by decide +kernel)
  obtain ⟨b55, g55⟩ : ∃ z, z = h51.size := ⟨_, rfl⟩
  rw [← g55] at A55 Ex55 st55
  have q56 := (Nat.le_trans (Nat.le_trans q48 E47.1) (Keep.of_wr W51).1)
  have g_b55 : n0 ≤ b55 := Nat.le_trans q56 (Nat.le_of_eq g55.symm)
  have q57 := (Nat.le_trans (Nat.le_trans q49 E47.1) (Keep.of_wr W51).1)
  have sz_b55 : h0.size ≤ b55 := Nat.le_trans q57 (Nat.le_of_eq g55.symm)
  have V_b55 : Arv Z h55 b55 k55 .int (1 : Int32) [(.int (0 : Int32))] (.int (0 : Int32)) := (Arv.new A55 (by decide)).pad (pad_rep [] (.int (0 : Int32)) 1)
  refine own_of st55 ?_
  show own_Out p e below _ (T55.setTop (mkF m 94 #[rv o0, rv o1, rv o2, iv 4, rv b11, iv 3, iv 4, iv 4, iv 3] [.ref b55, .int 3, .ref b22]))
  have q58 := (V51.ext E55)
  refine o_stVR X55 hx hby hZ e55 q58 ⟨by decide, by decide⟩ 3 rfl (Nat.le_of_ble_eq_true rfl) O22 (Ins.self Ex55) d3_94 (q := 95) rfl fun T59 h59 X59 e59 W59 V59 => ?_
  refine o_iinc X59 hx hby d3_95 rfl (l' := #[rv o0, rv o1, rv o2, iv 4, rv b11, iv 4, iv 4, iv 4, iv 3]) rfl (q := 98) rfl ?_
  refine o_goto X59 hx hby d3_98 (by decide) (q := 75) (by decide) ?_
  refine o_iload X59 hx hby d3_75 rfl (q := 77) rfl ?_
  refine o_iloadN X59 hx hby d3_77 rfl (q := 78) rfl ?_
  refine o_icY X59 hx hby d3_78 (flt (by decide : ¬ ((4 : Int32) < (4 : Int32)))).2.1 (by decide) (q := 101) (by decide) ?_
  refine o_iloadN X59 hx hby d3_101 rfl (q := 102) rfl ?_
  obtain ⟨T60, h60, k60, X60, e60, E60, A60, Ex60, st60⟩ := newPE X59 hx hZ (w_ hw 5 rfl) e59 (g := (mkF m 102 #[rv o0, rv o1, rv o2, iv 4, rv b11, iv 4, iv 4, iv 4, iv 3] [.int 4])) rfl (hb hby d3_102) rfl (by decide) (cap := 4) (by decide) (by decide) (by decide) (by decide) (ad := "[I") (by decide +kernel)
  obtain ⟨b60, g60⟩ : ∃ z, z = h59.size := ⟨_, rfl⟩
  rw [← g60] at A60 Ex60 st60
  have q61 := (Nat.le_trans (Nat.le_trans q56 E55.1) (Keep.of_wr W59).1)
  have g_b60 : n0 ≤ b60 := Nat.le_trans q61 (Nat.le_of_eq g60.symm)
  have q62 := (Nat.le_trans (Nat.le_trans q57 E55.1) (Keep.of_wr W59).1)
  have sz_b60 : h0.size ≤ b60 := Nat.le_trans q62 (Nat.le_of_eq g60.symm)
  have V_b60 : Arv Z h60 b60 k60 .int (4 : Int32) [(.int (0 : Int32)), (.int (0 : Int32)), (.int (0 : Int32)), (.int (0 : Int32))] (.int (0 : Int32)) := (Arv.new A60 (by decide)).pad (pad_rep [] (.int (0 : Int32)) 4)
  refine own_of st60 ?_
  show own_Out p e below _ (T60.setTop (mkF m 104 #[rv o0, rv o1, rv o2, iv 4, rv b11, iv 4, iv 4, iv 4, iv 3] [.ref b60]))
  refine o_astore X60 hx hby d3_104 rfl (l' := #[rv o0, rv o1, rv o2, iv 4, rv b11, rv b60, iv 4, iv 4, iv 3]) rfl (q := 106) rfl ?_
  refine o_iconst X60 hx hby d3_106 (z := 0) rfl (q := 107) rfl ?_
  refine o_istore X60 hx hby d3_107 (l' := #[rv o0, rv o1, rv o2, iv 4, rv b11, rv b60, iv 0, iv 4, iv 3]) rfl (q := 109) rfl ?_
  have ne_o2_b22 : o2 ≠ b22 := Nat.ne_of_lt (Nat.lt_of_lt_of_le V.lt sz_b22)
  have q65 := ((((((((((((q20.other W21 ne_o2_b11).ext E22).other W25 n2).ext E31).other W35 ne_o2_b22).ext E39).other W43 ne_o2_b22).ext E47).other W51 ne_o2_b22).ext E55).other W59 ne_o2_b22).ext E60)
  have q66 := (((q53.ext E55).other W59 (Or.inl ne_o0_b22)).ext E60)
  have q67 := (V59.ext E60)
  have ne_b22_b31 : b22 ≠ b31 := Nat.ne_of_lt (Nat.lt_of_lt_of_le (Nat.lt_of_lt_of_le A22.lt (Keep.of_wr W25).1) (Nat.le_of_eq g31.symm))
  have q68 := ((((((((V_b31.other W35 (Ne.symm ne_b22_b31)).ext E39).other W43 (Ne.symm ne_b22_b31)).ext E47).other W51 (Ne.symm ne_b22_b31)).ext E55).other W59 (Ne.symm ne_b22_b31)).ext E60)
  have ne_b31_b60 : b31 ≠ b60 := Nat.ne_of_lt (Nat.lt_of_lt_of_le (Nat.lt_of_lt_of_le (Nat.lt_of_lt_of_le (Nat.lt_of_lt_of_le (Nat.lt_of_lt_of_le (Nat.lt_of_lt_of_le (Nat.lt_of_lt_of_le (Nat.lt_of_lt_of_le A31.lt (Keep.of_wr W35).1) E39.1) (Keep.of_wr W43).1) E47.1) (Keep.of_wr W51).1) E55.1) (Keep.of_wr W59).1) (Nat.le_of_eq g60.symm))
  refine t3 X60 hx hby hZ e60 hw hown q65 q66 q67 V_b60 q68 ne_b31_b60 ⟨by decide, by decide⟩ (x := 0) rfl ⟨by decide, by decide⟩ rfl (f := 0) rfl ⟨by decide, by decide⟩ (f' := 1) rfl (i' := 1) rfl (iN := 0) rfl (Nat.le_of_ble_eq_true rfl) (jN := 0) rfl (Nat.le_of_ble_eq_true rfl) fun T64 h63 h64 X64 e64 W63 W64 V63 V64 => ?_
  have ne_o2_b60 : o2 ≠ b60 := Nat.ne_of_lt (Nat.lt_of_lt_of_le V.lt sz_b60)
  have ne_o2_b31 : o2 ≠ b31 := Nat.ne_of_lt (Nat.lt_of_lt_of_le V.lt sz_b31)
  have q71 := ((q65.other W63 ne_o2_b60).other W64 ne_o2_b31)
  have ne_o0_b60 : o0 ≠ b60 := Nat.ne_of_lt (Nat.lt_of_lt_of_le E.lt sz_b60)
  have ne_o0_b31 : o0 ≠ b31 := Nat.ne_of_lt (Nat.lt_of_lt_of_le E.lt sz_b31)
  have q72 := ((q66.other W63 (Or.inl ne_o0_b60)).other W64 (Or.inl ne_o0_b31))
  have ne_b22_b60 : b22 ≠ b60 := Nat.ne_of_lt (Nat.lt_of_lt_of_le (Nat.lt_of_lt_of_le (Nat.lt_of_lt_of_le (Nat.lt_of_lt_of_le (Nat.lt_of_lt_of_le (Nat.lt_of_lt_of_le (Nat.lt_of_lt_of_le (Nat.lt_of_lt_of_le (Nat.lt_of_lt_of_le (Nat.lt_of_lt_of_le A22.lt (Keep.of_wr W25).1) E31.1) (Keep.of_wr W35).1) E39.1) (Keep.of_wr W43).1) E47.1) (Keep.of_wr W51).1) E55.1) (Keep.of_wr W59).1) (Nat.le_of_eq g60.symm))
  have q73 := ((q67.other W63 ne_b22_b60).other W64 ne_b22_b31)
  have q74 := (V63.other W64 (Ne.symm ne_b31_b60))
  have ne_b22_b39 : b22 ≠ b39 := Nat.ne_of_lt (Nat.lt_of_lt_of_le (Nat.lt_of_lt_of_le (Nat.lt_of_lt_of_le (Nat.lt_of_lt_of_le A22.lt (Keep.of_wr W25).1) E31.1) (Keep.of_wr W35).1) (Nat.le_of_eq g39.symm))
  have ne_b39_b60 : b39 ≠ b60 := Nat.ne_of_lt (Nat.lt_of_lt_of_le (Nat.lt_of_lt_of_le (Nat.lt_of_lt_of_le (Nat.lt_of_lt_of_le (Nat.lt_of_lt_of_le (Nat.lt_of_lt_of_le A39.lt (Keep.of_wr W43).1) E47.1) (Keep.of_wr W51).1) E55.1) (Keep.of_wr W59).1) (Nat.le_of_eq g60.symm))
  have ne_b31_b39 : b31 ≠ b39 := Nat.ne_of_lt (Nat.lt_of_lt_of_le (Nat.lt_of_lt_of_le A31.lt (Keep.of_wr W35).1) (Nat.le_of_eq g39.symm))
  have q75 := ((((((((V_b39.other W43 (Ne.symm ne_b22_b39)).ext E47).other W51 (Ne.symm ne_b22_b39)).ext E55).other W59 (Ne.symm ne_b22_b39)).ext E60).other W63 ne_b39_b60).other W64 (Ne.symm ne_b31_b39))
  refine t3 X64 hx hby hZ e64 hw hown q71 q72 q73 q74 q75 ne_b39_b60 ⟨by decide, by decide⟩ (x := 1) rfl ⟨by decide, by decide⟩ rfl (f := 0) rfl ⟨by decide, by decide⟩ (f' := 1) rfl (i' := 2) rfl (iN := 1) rfl (Nat.le_of_ble_eq_true rfl) (jN := 0) rfl (Nat.le_of_ble_eq_true rfl) fun T70 h69 h70 X70 e70 W69 W70 V69 V70 => ?_
  have ne_o2_b39 : o2 ≠ b39 := Nat.ne_of_lt (Nat.lt_of_lt_of_le V.lt sz_b39)
  have q78 := ((q71.other W69 ne_o2_b60).other W70 ne_o2_b39)
  have ne_o0_b39 : o0 ≠ b39 := Nat.ne_of_lt (Nat.lt_of_lt_of_le E.lt sz_b39)
  have q79 := ((q72.other W69 (Or.inl ne_o0_b60)).other W70 (Or.inl ne_o0_b39))
  have q80 := ((q73.other W69 ne_b22_b60).other W70 ne_b22_b39)
  have q81 := (V69.other W70 (Ne.symm ne_b39_b60))
  have ne_b22_b47 : b22 ≠ b47 := Nat.ne_of_lt (Nat.lt_of_lt_of_le (Nat.lt_of_lt_of_le (Nat.lt_of_lt_of_le (Nat.lt_of_lt_of_le (Nat.lt_of_lt_of_le (Nat.lt_of_lt_of_le A22.lt (Keep.of_wr W25).1) E31.1) (Keep.of_wr W35).1) E39.1) (Keep.of_wr W43).1) (Nat.le_of_eq g47.symm))
  have ne_b47_b60 : b47 ≠ b60 := Nat.ne_of_lt (Nat.lt_of_lt_of_le (Nat.lt_of_lt_of_le (Nat.lt_of_lt_of_le (Nat.lt_of_lt_of_le A47.lt (Keep.of_wr W51).1) E55.1) (Keep.of_wr W59).1) (Nat.le_of_eq g60.symm))
  have ne_b31_b47 : b31 ≠ b47 := Nat.ne_of_lt (Nat.lt_of_lt_of_le (Nat.lt_of_lt_of_le (Nat.lt_of_lt_of_le (Nat.lt_of_lt_of_le A31.lt (Keep.of_wr W35).1) E39.1) (Keep.of_wr W43).1) (Nat.le_of_eq g47.symm))
  have ne_b39_b47 : b39 ≠ b47 := Nat.ne_of_lt (Nat.lt_of_lt_of_le (Nat.lt_of_lt_of_le A39.lt (Keep.of_wr W43).1) (Nat.le_of_eq g47.symm))
  have q82 := ((((((((V_b47.other W51 (Ne.symm ne_b22_b47)).ext E55).other W59 (Ne.symm ne_b22_b47)).ext E60).other W63 ne_b47_b60).other W64 (Ne.symm ne_b31_b47)).other W69 ne_b47_b60).other W70 (Ne.symm ne_b39_b47))
  refine t3 X70 hx hby hZ e70 hw hown q78 q79 q80 q81 q82 ne_b47_b60 ⟨by decide, by decide⟩ (x := 2) rfl ⟨by decide, by decide⟩ rfl (f := 0) rfl ⟨by decide, by decide⟩ (f' := 1) rfl (i' := 3) rfl (iN := 2) rfl (Nat.le_of_ble_eq_true rfl) (jN := 0) rfl (Nat.le_of_ble_eq_true rfl) fun T77 h76 h77 X77 e77 W76 W77 V76 V77 => ?_
  have ne_o2_b47 : o2 ≠ b47 := Nat.ne_of_lt (Nat.lt_of_lt_of_le V.lt sz_b47)
  have q85 := ((q78.other W76 ne_o2_b60).other W77 ne_o2_b47)
  have ne_o0_b47 : o0 ≠ b47 := Nat.ne_of_lt (Nat.lt_of_lt_of_le E.lt sz_b47)
  have q86 := ((q79.other W76 (Or.inl ne_o0_b60)).other W77 (Or.inl ne_o0_b47))
  have q87 := ((q80.other W76 ne_b22_b60).other W77 ne_b22_b47)
  have q88 := (V76.other W77 (Ne.symm ne_b47_b60))
  have ne_b22_b55 : b22 ≠ b55 := Nat.ne_of_lt (Nat.lt_of_lt_of_le (Nat.lt_of_lt_of_le (Nat.lt_of_lt_of_le (Nat.lt_of_lt_of_le (Nat.lt_of_lt_of_le (Nat.lt_of_lt_of_le (Nat.lt_of_lt_of_le (Nat.lt_of_lt_of_le A22.lt (Keep.of_wr W25).1) E31.1) (Keep.of_wr W35).1) E39.1) (Keep.of_wr W43).1) E47.1) (Keep.of_wr W51).1) (Nat.le_of_eq g55.symm))
  have ne_b55_b60 : b55 ≠ b60 := Nat.ne_of_lt (Nat.lt_of_lt_of_le (Nat.lt_of_lt_of_le A55.lt (Keep.of_wr W59).1) (Nat.le_of_eq g60.symm))
  have ne_b31_b55 : b31 ≠ b55 := Nat.ne_of_lt (Nat.lt_of_lt_of_le (Nat.lt_of_lt_of_le (Nat.lt_of_lt_of_le (Nat.lt_of_lt_of_le (Nat.lt_of_lt_of_le (Nat.lt_of_lt_of_le A31.lt (Keep.of_wr W35).1) E39.1) (Keep.of_wr W43).1) E47.1) (Keep.of_wr W51).1) (Nat.le_of_eq g55.symm))
  have ne_b39_b55 : b39 ≠ b55 := Nat.ne_of_lt (Nat.lt_of_lt_of_le (Nat.lt_of_lt_of_le (Nat.lt_of_lt_of_le (Nat.lt_of_lt_of_le A39.lt (Keep.of_wr W43).1) E47.1) (Keep.of_wr W51).1) (Nat.le_of_eq g55.symm))
  have ne_b47_b55 : b47 ≠ b55 := Nat.ne_of_lt (Nat.lt_of_lt_of_le (Nat.lt_of_lt_of_le A47.lt (Keep.of_wr W51).1) (Nat.le_of_eq g55.symm))
  have q89 := ((((((((V_b55.other W59 (Ne.symm ne_b22_b55)).ext E60).other W63 ne_b55_b60).other W64 (Ne.symm ne_b31_b55)).other W69 ne_b55_b60).other W70 (Ne.symm ne_b39_b55)).other W76 ne_b55_b60).other W77 (Ne.symm ne_b47_b55))
  refine t3 X77 hx hby hZ e77 hw hown q85 q86 q87 q88 q89 ne_b55_b60 ⟨by decide, by decide⟩ (x := 3) rfl ⟨by decide, by decide⟩ rfl (f := 0) rfl ⟨by decide, by decide⟩ (f' := 1) rfl (i' := 4) rfl (iN := 3) rfl (Nat.le_of_ble_eq_true rfl) (jN := 0) rfl (Nat.le_of_ble_eq_true rfl) fun T84 h83 h84 X84 e84 W83 W84 V83 V84 => ?_
  refine o_iload X84 hx hby d3_109 rfl (q := 111) rfl ?_
  refine o_aloadN X84 hx hby d3_111 rfl rfl (q := 112) rfl ?_
  have ne_o2_b55 : o2 ≠ b55 := Nat.ne_of_lt (Nat.lt_of_lt_of_le V.lt sz_b55)
  have q90 := ((q85.other W83 ne_o2_b60).other W84 ne_o2_b55)
  refine o_lenV X84 hx hby hZ e84 q90 d3_112 (q := 113) rfl ?_
  refine o_icY X84 hx hby d3_113 (flt (by decide : ¬ ((4 : Int32) < (4 : Int32)))).2.1 (by decide) (q := 146) (by decide) ?_
  have q91 := ((((((((((((((((((((((((((((Keep.refl h0 [o0]).wr W2 (Or.inl (List.mem_of_getElem? (i := 0) rfl))).wr W3 (Or.inl (List.mem_of_getElem? (i := 0) rfl))).wr W7 (Or.inl (List.mem_of_getElem? (i := 0) rfl))).ext E11).wr W15 (Or.inr sz_b11)).wr W17 (Or.inr sz_b11)).wr W19 (Or.inr sz_b11)).wr W21 (Or.inr sz_b11)).ext E22).wr W25 (Or.inl (List.mem_of_getElem? (i := 0) rfl))).ext E31).wr W35 (Or.inr sz_b22)).ext E39).wr W43 (Or.inr sz_b22)).ext E47).wr W51 (Or.inr sz_b22)).ext E55).wr W59 (Or.inr sz_b22)).ext E60).wr W63 (Or.inr sz_b60)).wr W64 (Or.inr sz_b31)).wr W69 (Or.inr sz_b60)).wr W70 (Or.inr sz_b39)).wr W76 (Or.inr sz_b60)).wr W77 (Or.inr sz_b47)).wr W83 (Or.inr sz_b60)).wr W84 (Or.inr sz_b55))
  have q92 := ((((((((((((((((((q27.wr W25).ext E31).wr W35).ext E39).wr W43).ext E47).wr W51).ext E55).wr W59).ext E60).wr W63).wr W64).wr W69).wr W70).wr W76).wr W77).wr W83).wr W84)
  have ne_o0_b55 : o0 ≠ b55 := Nat.ne_of_lt (Nat.lt_of_lt_of_le E.lt sz_b55)
  have q93 := (((((((((((((((((((((((((Fw3.other W7 (Or.inr (slot_ne (Or.inr (w_ hw 30 rfl)) (Or.inr (w_ hw 32 rfl)) (by decide) (t := (.array .int)) (t' := .int) (by decide) (by decide)))).ext E11).other W15 (Or.inl ne_o0_b11)).other W17 (Or.inl ne_o0_b11)).other W19 (Or.inl ne_o0_b11)).other W21 (Or.inl ne_o0_b11)).ext E22).other W25 (Or.inr (slot_ne (Or.inr (w_ hw 30 rfl)) (Or.inr (w_ hw 36 rfl)) (by decide) (t := (.array .int)) (t' := (.array (.array .int))) (by decide) (by decide)))).ext E31).other W35 (Or.inl ne_o0_b22)).ext E39).other W43 (Or.inl ne_o0_b22)).ext E47).other W51 (Or.inl ne_o0_b22)).ext E55).other W59 (Or.inl ne_o0_b22)).ext E60).other W63 (Or.inl ne_o0_b60)).other W64 (Or.inl ne_o0_b31)).other W69 (Or.inl ne_o0_b60)).other W70 (Or.inl ne_o0_b39)).other W76 (Or.inl ne_o0_b60)).other W77 (Or.inl ne_o0_b47)).other W83 (Or.inl ne_o0_b60)).other W84 (Or.inl ne_o0_b55))
  have q94 := ((((((((((((((((((((((((Fw7.ext E11).other W15 (Or.inl ne_o0_b11)).other W17 (Or.inl ne_o0_b11)).other W19 (Or.inl ne_o0_b11)).other W21 (Or.inl ne_o0_b11)).ext E22).other W25 (Or.inr (slot_ne (Or.inr (w_ hw 32 rfl)) (Or.inr (w_ hw 36 rfl)) (by decide) (t := .int) (t' := (.array (.array .int))) (by decide) (by decide)))).ext E31).other W35 (Or.inl ne_o0_b22)).ext E39).other W43 (Or.inl ne_o0_b22)).ext E47).other W51 (Or.inl ne_o0_b22)).ext E55).other W59 (Or.inl ne_o0_b22)).ext E60).other W63 (Or.inl ne_o0_b60)).other W64 (Or.inl ne_o0_b31)).other W69 (Or.inl ne_o0_b60)).other W70 (Or.inl ne_o0_b39)).other W76 (Or.inl ne_o0_b60)).other W77 (Or.inl ne_o0_b47)).other W83 (Or.inl ne_o0_b60)).other W84 (Or.inl ne_o0_b55))
  exact own_outV X84 hx hlk hret (hb hby d3_146) (Q := Q3c0123n4 Z o0 o1 o2 k2 h0 n0) (by rw [e84]; exact ⟨rfl, (Fr.snoc X84 (own_snoc (Fr.snoc X77 (own_snoc (Fr.snoc X70 (own_snoc (Fr.snoc X64 (own_snoc (Fr.snoc X59 (Fr.snoc X51 (Fr.snoc X43 (Fr.snoc X35 (Fr.snoc X25 (Fr.snoc X21 (Fr.snoc X19 (Fr.snoc X17 (Fr.snoc X15 (Fr.snoc X7 (Fr.snoc X3 (Fr.snoc X2 N0 g_o0) g_o0) g_o0) g_b11) g_b11) g_b11) g_b11) g_o0) g_b22) g_b22) g_b22) g_b22) g_b60) g_b31) g_b60) g_b39) g_b60) g_b47) g_b60) g_b55), q91, q92, q93, q94⟩) (by decide) (by decide)
def QG (Z : State) (o0 o2 : Addr) (cnt : Int32) (h0 : Heap) (n0 : Nat) (v : Option Value) (h : Heap) (L : List Loc) : Prop := v = none ∧ Fr n0 L ∧ Keep h0 h [o0] ∧ Exa Z h o0 "com/example/slimc/slimc/game/Observation" ∧ Fld Z h o0 "com/example/slimc/slimc/game/Observation" "classOf" "[I" (.ref o2) ∧ Fld Z h o0 "com/example/slimc/slimc/game/Observation" "classCount" "I" (.int cnt)
def CtorOk (vs : List Value) (n cnt : Int32) : Prop := ∀ (l : Launch) (Z : State) (a0 : Array Value) (hw : ∀ d ∈ tables_1, d.before a0 Z = true) (ws : List Jvm.Cond) (o0 o1 o2 : Addr) (k2 : ClassId) (h0 : Heap) (n0 : Nat) (Z0 : n0 ≤ h0.size) (E : Exa Z h0 o0 "com/example/slimc/slimc/game/Observation") (F_name : Fld Z h0 o0 "com/example/slimc/slimc/game/Observation" "name" "Ljava/lang/String;" .null) (F_classOf : Fld Z h0 o0 "com/example/slimc/slimc/game/Observation" "classOf" "[I" .null) (F_classCount : Fld Z h0 o0 "com/example/slimc/slimc/game/Observation" "classCount" "I" (.int (0 : Int32))) (F_classes : Fld Z h0 o0 "com/example/slimc/slimc/game/Observation" "classes" "[[I" .null) (g_o0 : n0 ≤ o0) (V : Arv Z h0 o2 k2 .int n vs (.int (0 : Int32))) (n2 : o2 ≠ o0),
    MetFree l (⟨"com/example/slimc/slimc/game/Observation", "<init>", "(Ljava/lang/String;[II)V"⟩ : MethodName) (head1 (Jvm.Cond.code (⟨"com/example/slimc/slimc/game/Observation", "<init>", "(Ljava/lang/String;[II)V"⟩ : MethodName) prog_66_method_1_code 9 none :: ws) ({ frames := 1, cells := 7, slots := 16, locals := 14 } : Room)) (fun a U => a = #[(.ref o0), (.ref o1), (.ref o2), (.int cnt)] ∧ Z.Warmed39 U.vm ∧ U.heap = h0) (fun _ _ _ _ _ => True) (fun _ U o U' => ∃ v L, o = .returned v ∧ QG Z o0 o2 cnt h0 n0 v U'.heap L ∧ FrameEnd U o U' L ({ frames := 1, cells := 7, slots := 16, locals := 14 } : Room).cells ({ frames := 1, cells := 7, slots := 16, locals := 14 } : Room).slots)
theorem ct_use {vs : List Value} {n cnt : Int32} (hct : CtorOk vs n cnt) (l : Launch) (Z : State) (a0 : Array Value) (hw : ∀ d ∈ tables_1, d.before a0 Z = true) (ws : List Jvm.Cond) (o0 o1 o2 : Addr) (k2 : ClassId) (h0 : Heap) (n0 : Nat) (Z0 : n0 ≤ h0.size) (E : Exa Z h0 o0 "com/example/slimc/slimc/game/Observation") (F_name : Fld Z h0 o0 "com/example/slimc/slimc/game/Observation" "name" "Ljava/lang/String;" .null) (F_classOf : Fld Z h0 o0 "com/example/slimc/slimc/game/Observation" "classOf" "[I" .null) (F_classCount : Fld Z h0 o0 "com/example/slimc/slimc/game/Observation" "classCount" "I" (.int (0 : Int32))) (F_classes : Fld Z h0 o0 "com/example/slimc/slimc/game/Observation" "classes" "[[I" .null) (g_o0 : n0 ≤ o0) (V : Arv Z h0 o2 k2 .int n vs (.int (0 : Int32))) (n2 : o2 ≠ o0) :
    MetFree l (⟨"com/example/slimc/slimc/game/Observation", "<init>", "(Ljava/lang/String;[II)V"⟩ : MethodName) (head1 (Jvm.Cond.code (⟨"com/example/slimc/slimc/game/Observation", "<init>", "(Ljava/lang/String;[II)V"⟩ : MethodName) prog_66_method_1_code 9 none :: ws) ({ frames := 1, cells := 7, slots := 16, locals := 14 } : Room)) (fun a U => a = #[(.ref o0), (.ref o1), (.ref o2), (.int cnt)] ∧ Z.Warmed39 U.vm ∧ U.heap = h0) (fun _ _ _ _ _ => True) (fun _ U o U' => ∃ v L, o = .returned v ∧ QG Z o0 o2 cnt h0 n0 v U'.heap L ∧ FrameEnd U o U' L ({ frames := 1, cells := 7, slots := 16, locals := 14 } : Room).cells ({ frames := 1, cells := 7, slots := 16, locals := 14 } : Room).slots) := hct l Z a0 hw ws o0 o1 o2 k2 h0 n0 Z0 E F_name F_classOf F_classCount F_classes g_o0 V n2
theorem d5_0 : decode prog_66_method_9_code 0 = .ok (.aload_n 0, 1) := by decide +kernel
theorem d5_1 : decode prog_66_method_9_code 1 = .ok (.getfield 17, 3) := by decide +kernel
theorem d5_4 : decode prog_66_method_9_code 4 = .ok (.aload_n 0, 1) := by decide +kernel
theorem d5_5 : decode prog_66_method_9_code 5 = .ok (.getfield 13, 3) := by decide +kernel
theorem d5_8 : decode prog_66_method_9_code 8 = .ok (.arraylength, 1) := by decide +kernel
theorem d5_9 : decode prog_66_method_9_code 9 = .ok (.if_icmp .ne 7, 3) := by decide +kernel
theorem d5_12 : decode prog_66_method_9_code 12 = .ok (.iconst 1, 1) := by decide +kernel
theorem d5_13 : decode prog_66_method_9_code 13 = .ok (.goto 4, 3) := by decide +kernel
theorem d5_16 : decode prog_66_method_9_code 16 = .ok (.iconst 0, 1) := by decide +kernel
theorem d5_17 : decode prog_66_method_9_code 17 = .ok (.ireturn, 1) := by decide +kernel
theorem ef_5 (m : MethodId) (x0 : Addr) : entryFrame m #[(.ref x0)] 1 = mkF m 0 #[.val (.ref x0)] [] := by first | (simp [entryFrame, mkF, argsToLocals, Value.category]; done) | rfl
def fsep (cnt : Int32) (ln : Int32) : Int32 := if cnt = ln then (1 : Int32)
  else (0 : Int32)
def Q5 (Z : State) (o0 : Addr) (oa : Addr) (k : ClassId) (vs : List Value) (cnt : Int32) (ln : Int32) (h0 : Heap) (n0 : Nat) (v : Option Value) (h : Heap) (L : List Loc) : Prop := v = some (.int (fsep cnt ln)) ∧ Fr n0 L ∧ h = h0
set_option maxRecDepth 65536 in
set_option maxHeartbeats 40000000 in
theorem rm5 (l : Launch) (Z : State) (a0 : Array Value) (hw : ∀ d ∈ tables_1, d.before a0 Z = true) (ws : List Jvm.Cond) (o0 : Addr) (oa : Addr) (k : ClassId) (vs : List Value) (cnt : Int32) (ln : Int32) (h0 : Heap) (n0 : Nat) (Z0 : n0 ≤ h0.size) (Fo : Fld Z h0 o0 "com/example/slimc/slimc/game/Observation" "classOf" "[I" (.ref oa)) (Fc : Fld Z h0 o0 "com/example/slimc/slimc/game/Observation" "classCount" "I" (.int cnt)) (V : Arv Z h0 oa k .int ln vs (.int (0 : Int32))) :
    MetFree l (⟨"com/example/slimc/slimc/game/Observation", "separatesAll", "()Z"⟩ : MethodName) (head1 (Jvm.Cond.code (⟨"com/example/slimc/slimc/game/Observation", "separatesAll", "()Z"⟩ : MethodName) prog_66_method_9_code 1 (some .boolean) :: ws) ({ frames := 0, cells := 0, slots := 0, locals := 0 } : Room)) (fun a U => a = #[(.ref o0)] ∧ Z.Warmed39 U.vm ∧ U.heap = h0) (fun _ _ _ _ _ => True) (fun _ U o U' => ∃ v L, o = .returned v ∧ Q5 Z o0 oa k vs cnt ln h0 n0 v U'.heap L ∧ FrameEnd U o U' L ({ frames := 0, cells := 0, slots := 0, locals := 0 } : Room).cells ({ frames := 0, cells := 0, slots := 0, locals := 0 } : Room).slots) := by
  refine MetFree.of_bodySF (plainFor_of_name pn_1) hisR ?_
  intro p e s m args below meth c s₁ Bd hml0 hP hK
  obtain ⟨rfl, hZ, hh⟩ := hP
  have hx := Bd.exec
  have hby := Bd.bytes
  have hml : c.maxLocals = 1 := hml0
  have hown : s.vm.findClass "com/example/slimc/slimc/game/Observation" = some m.cls := findClass_of_methodNamed Bd.named
  have hnm := (name_of_methodNamed Bd.named Bd.method).1
  have X0 : Stand p l e ({ frames := 0, cells := 0, slots := 0, locals := 0 } : Room) s m #[(.ref o0)] below meth c s₁ [] 0 0 := Stand.of_body Bd
  have e0 : s₁.heap = h0 := by rw [← hh, Bd.state]; rfl
  have N0 := Fr.nil n0
  have hret := Bd.returns
  have hlk := BodyLoose.notSynchronized Bd
  show own_Out p e below (fun o U' => ∃ v L, o = .returned v ∧ Q5 Z o0 oa k vs cnt ln h0 n0 v U'.heap L ∧ FrameEnd s o U' L ({ frames := 0, cells := 0, slots := 0, locals := 0 } : Room).cells ({ frames := 0, cells := 0, slots := 0, locals := 0 } : Room).slots) (s₁.setTop (entryFrame m #[(.ref o0)] 1))
  refine own_of (fun t k => castTop (ef_5 m o0) k) ?_
  show own_Out p e below _ (s₁.setTop (mkF m 0 #[rv o0] []))
  refine o_aloadN X0 hx hby d5_0 rfl rfl (q := 1) rfl ?_
  refine o_getF X0 hx hZ hown hby (w_ hw 31 rfl) Via.refl e0 Fc d5_1 (q := 4) rfl fun T1 X1 e1 => ?_
  refine o_aloadN X1 hx hby d5_4 rfl rfl (q := 5) rfl ?_
  refine o_getF X1 hx hZ hown hby (w_ hw 29 rfl) Via.refl e1 Fo d5_5 (q := 8) rfl fun T2 X2 e2 => ?_
  refine o_lenV X2 hx hby hZ e2 V d5_8 (q := 9) rfl ?_
  by_cases hc9_3 : cnt = ln
  · skip
    refine o_icN X2 hx hby d5_9 (teq hc9_3).2 (q := 12) rfl ?_
    refine o_iconst X2 hx hby d5_12 (z := 1) rfl (q := 13) rfl ?_
    refine o_goto X2 hx hby d5_13 (by decide) (q := 17) (by decide) ?_
    exact own_outN X2 hx hlk (t := .boolean) hret (by simp) (hb hby d5_17) (z' := (1 : Int32)) rfl (Q := Q5 Z o0 oa k vs cnt ln h0 n0) ⟨by simp only [fsep, if_pos hc9_3], N0, e2⟩ (by decide) (by decide)
  · skip
    refine o_icY X2 hx hby d5_9 (feq hc9_3).2 (by decide) (q := 16) (by decide) ?_
    refine o_iconst X2 hx hby d5_16 (z := 0) rfl (q := 17) rfl ?_
    exact own_outN X2 hx hlk (t := .boolean) hret (by simp) (hb hby d5_17) (z' := (0 : Int32)) rfl (Q := Q5 Z o0 oa k vs cnt ln h0 n0) ⟨by simp only [fsep, if_neg hc9_3], N0, e2⟩ (by decide) (by decide)
theorem own_rem (x d : Int32) (D : Int) (hd : d.toInt = D) (h0 : 0 < D) : 0 ≤ ((x &&& (2147483647 : Int32)) % d).toInt ∧ ((x &&& (2147483647 : Int32)) % d).toInt < D := by
  have h := c_mask x 2147483647 31 (by decide) (by decide)
  have r := (c_irem (x &&& (2147483647 : Int32)) d D hd).1 (by omega)
  rw [r]; exact ⟨Int.emod_nonneg _ (by omega), Int.emod_lt_of_pos _ h0⟩
theorem own_c2 {z x : Int32} (h : z = ((x &&& (2147483647 : Int32)) % (2 : Int32))) : z = 0 ∨ z = 1 := by
  have r := own_rem x 2 2 rfl (by decide); rw [← h] at r
  simp only [← Int32.toInt_inj]; show z.toInt = 0 ∨ z.toInt = 1; omega
theorem own_c3 {z x : Int32} (h : z = ((x &&& (2147483647 : Int32)) % (3 : Int32))) : z = 0 ∨ z = 1 ∨ z = 2 := by
  have r := own_rem x 3 3 rfl (by decide); rw [← h] at r
  simp only [← Int32.toInt_inj]; show z.toInt = 0 ∨ z.toInt = 1 ∨ z.toInt = 2; omega
theorem own_c4 {z x : Int32} (h : z = ((x &&& (2147483647 : Int32)) % (4 : Int32))) : z = 0 ∨ z = 1 ∨ z = 2 ∨ z = 3 := by
  have r := own_rem x 4 4 rfl (by decide); rw [← h] at r
  simp only [← Int32.toInt_inj]; show z.toInt = 0 ∨ z.toInt = 1 ∨ z.toInt = 2 ∨ z.toInt = 3; omega
theorem own_c5 {z x : Int32} (h : z = ((x &&& (2147483647 : Int32)) % (5 : Int32))) : z = 0 ∨ z = 1 ∨ z = 2 ∨ z = 3 ∨ z = 4 := by
  have r := own_rem x 5 5 rfl (by decide); rw [← h] at r
  simp only [← Int32.toInt_inj]; show z.toInt = 0 ∨ z.toInt = 1 ∨ z.toInt = 2 ∨ z.toInt = 3 ∨ z.toInt = 4; omega
theorem own_max0 {a x : Int32} (h : 0 ≤ a.toInt ∧ a.toInt < 4) (g : 0 ≤ x.toInt ∧ x.toInt < 4) : 0 ≤ (fmax a x).toInt ∧ (fmax a x).toInt < 4 := by
  unfold fmax; split <;> assumption
theorem own_p2 {a : Int32} (h : 0 ≤ a.toInt ∧ a.toInt < 4) : (a + (2 : Int32)).toInt = a.toInt + 2 := by
  have n2 : (2 : Int32).toInt = 2 := rfl
  have e := c_iadd a 2; have r := rng32 (a + (2 : Int32)); omega
theorem own_nz {a : Int32} (h : 0 ≤ a.toInt ∧ a.toInt < 4) : (a + (2 : Int32)) ≠ 0 := fun q => by
  have e := own_p2 h; rw [q] at e; have n0 : (0 : Int32).toInt = 0 := rfl; omega
theorem own_rm {a x : Int32} (h : 0 ≤ a.toInt ∧ a.toInt < 2) : 0 ≤ ((x &&& (2147483647 : Int32)) % (a + (2 : Int32))).toInt ∧ ((x &&& (2147483647 : Int32)) % (a + (2 : Int32))).toInt < 4 := by
  have e := own_p2 (a := a) (by omega)
  have r := own_rem x (a + (2 : Int32)) _ e (by omega)
  omega
theorem own_l0 : 0 ≤ (0 : Int32).toInt ∧ (0 : Int32).toInt < 4 := by decide
theorem own_l1 : 0 ≤ (1 : Int32).toInt ∧ (1 : Int32).toInt < 4 := by decide
theorem own_max1 {a x : Int32} (h : 0 ≤ a.toInt ∧ a.toInt < 2) (g : 0 ≤ x.toInt ∧ x.toInt < 2) : 0 ≤ (fmax a x).toInt ∧ (fmax a x).toInt < 2 := by
  unfold fmax; split <;> assumption
theorem own_r2 (x : Int32) : 0 ≤ ((x &&& (2147483647 : Int32)) % (2 : Int32)).toInt ∧ ((x &&& (2147483647 : Int32)) % (2 : Int32)).toInt < 2 := own_rem x 2 2 rfl (by decide)
theorem own_lt4 {z : Int32} {D : Int} (h : 0 ≤ z.toInt ∧ z.toInt < D) (d : D ≤ 4) : 0 ≤ z.toInt ∧ z.toInt < 4 := ⟨h.1, Int.lt_of_lt_of_le h.2 d⟩
theorem pd_0 : parseMethodDescriptor "(IIIII)Z" = some ⟨[.int, .int, .int, .int, .int], some .boolean⟩ := by decide +kernel
theorem own_wS {a0 : Array Value} {Z : State} (hw : ∀ d ∈ tables_1, d.before a0 Z = true) : ∀ d ∈ Bundle.stringAtoms, d.before a0 Z = true := by
  intro d hd
  simp only [Bundle.stringAtoms, List.mem_cons, List.not_mem_nil, or_false] at hd
  rcases hd with rfl | rfl | rfl | rfl | rfl | rfl | rfl
  · exact (hw _ (List.mem_of_getElem? (i := 14) rfl))
  · exact (hw _ (List.mem_of_getElem? (i := 15) rfl))
  · exact (hw _ (List.mem_of_getElem? (i := 16) rfl))
  · exact (hw _ (List.mem_of_getElem? (i := 17) rfl))
  · exact (hw _ (List.mem_of_getElem? (i := 18) rfl))
  · exact (hw _ (List.mem_of_getElem? (i := 19) rfl))
  · exact (hw _ (List.mem_of_getElem? (i := 20) rfl))
theorem pd_1 : parseMethodDescriptor "(Ljava/lang/String;[II)V" = some ⟨[(.object "java/lang/String"), (.array .int), .int], none⟩ := by decide +kernel
theorem pd_2 : parseMethodDescriptor "()Z" = some ⟨[], some .boolean⟩ := by decide +kernel
set_option maxRecDepth 65536 in
set_option maxHeartbeats 40000000 in
theorem sg208 {p : Program} {l : Launch} {e : Env} {s : State} {m : MethodId} {args : Array Value} {below : List Frame} {meth : Method} {c : Code} {T0 : State} {locs : List Loc} {Z : State} {a0 : Array Value} {Q : Option Value → Heap → List Loc → Prop} (p0 : Int32) (p1 : Int32) (p2 : Int32) (p3 : Int32) (nn : Int32) (c0 : Int32) (m1 : Int32) (c1 : Int32) (m2 : Int32) (c2 : Int32) (m3 : Int32) (c3 : Int32) (m4 : Int32) (oa : Addr) (cnt : Int32) (ka : ClassId) (vs : List Value) (ln : Int32) (h0 : Heap) (n0 : Nat)
    (X0 : Stand p l e room_1 s m args below meth c T0 locs 1 4) (hx : p.tables.exec = Jvm.exec) (hZ : Z.Warmed39 s.vm) (hw : ∀ d ∈ tables_1, d.before a0 Z = true) (hby : c.code = code) (hml : c.maxLocals = 17) (hown : s.vm.findClass "com/example/slimc/slimc/game/ObservationSeparatesAllPinLaw" = some m.cls) (hret : meth.sig.returnType = ret) (hlk : meth.locks = false)
    (hQ : ∀ h L, Fr n0 L → Q (some (.int 1)) h L) (e0 : T0.heap = h0) (Z0 : n0 ≤ h0.size) (N0 : Fr n0 locs) (Va : Arv Z h0 oa ka .int ln vs (.int (0 : Int32))) (hct : CtorOk vs ln cnt) (hq : (fsep cnt ln) = (fad nn c0 c1 c2 c3)) :
    own_Out p e below (fun o U' => ∃ v L, o = .returned v ∧ Q v U'.heap L ∧ ReturnedEndW s o U' L 16 64) (T0.setTop (mkF m 208 #[.val (.int p0), .val (.int p1), .val (.int p2), .val (.int p3), .val (.int nn), .val (.int c0), .val (.int m1), .val (.int c1), .val (.int m2), .val (.int c2), .val (.int m3), .val (.int c3), .val (.int m4), .val (.ref oa), .val (.int cnt), .unset, .unset] [])) := by
  show own_Out p e below _ (T0.setTop (mkF m 208 #[iv p0, iv p1, iv p2, iv p3, iv nn, iv c0, iv m1, iv c1, iv m2, iv c2, iv m3, iv c3, iv m4, rv oa, iv cnt, .unset, .unset] []))
  refine o_iload X0 hx hby at_208 rfl (q := 210) rfl ?_
  refine o_iload X0 hx hby at_210 rfl (q := 212) rfl ?_
  refine o_iload X0 hx hby at_212 rfl (q := 214) rfl ?_
  refine o_iload X0 hx hby at_214 rfl (q := 216) rfl ?_
  refine o_iload X0 hx hby at_216 rfl (q := 218) rfl ?_
  obtain ⟨_, _, ⟨T1, L1, k1, n1⟩, -, X1, ⟨Lc1, hQ1, l1, y1, z1⟩, st1⟩ := Jvm.LawKit.callS X0 hx (y := (⟨"com/example/slimc/slimc/game/ObservationSeparatesAllPinLaw", "allDistinct", "(IIIII)Z"⟩ : MethodName)) hown (mvT hZ (w_ hw 6 rfl)) (mvT hZ (w_ hw 7 rfl)) (mvT hZ (w_ hw 8 rfl)) (mvT hZ (w_ hw 9 rfl)) (by decide) (backOf (W := 0) (rm2 l Z a0 hw [] nn c0 c1 c2 c3 h0 n0 Z0 ) hZ (w_ hw 9 rfl) (w_ hw 8 rfl) (by decide) (by decide)) (g := (mkF m 218 #[iv p0, iv p1, iv p2, iv p3, iv nn, iv c0, iv m1, iv c1, iv m2, iv c2, iv m3, iv c3, iv m4, rv oa, iv cnt, .unset, .unset] [.int c3, .int c2, .int c1, .int c0, .int nn])) rfl (by rw [hml]; rfl) (argsL := [(.int nn), (.int c0), (.int c1), (.int c2), (.int c3)]) (rest := []) (lenOf pd_0 rfl) rfl (by show 2 * 0 + _ ≤ _; exact Nat.le_of_eq rfl) (hb hby at_218) (fun _ _ => ⟨rfl, e0, (by decide : 1 + 0 ≤ _), (by decide : 4 + 0 ≤ _)⟩)
  dsimp only [Pt.U, Pt.locs, Pt.cells, Pt.slots] at X1 l1 y1 z1 st1 hQ1
  subst l1 y1 z1
  obtain ⟨rfl, N1q, hh1⟩ := hQ1
  have N1 := Fr.app N0 N1q
  refine own_of st1 ?_
  show own_Out p e below _ (T1.setTop (mkF m 221 #[iv p0, iv p1, iv p2, iv p3, iv nn, iv c0, iv m1, iv c1, iv m2, iv c2, iv m3, iv c3, iv m4, rv oa, iv cnt, .unset, .unset] [.int (fad nn c0 c1 c2 c3)]))
  refine o_istore X1 hx hby at_221 (l' := #[iv p0, iv p1, iv p2, iv p3, iv nn, iv c0, iv m1, iv c1, iv m2, iv c2, iv m3, iv c3, iv m4, rv oa, iv cnt, iv (fad nn c0 c1 c2 c3), .unset]) rfl (q := 223) rfl ?_
  obtain ⟨T2, h2, X2, e2, E2, A2, D2, -, st2⟩ := newO X1 hx hZ hown (w_ hw 10 rfl) (w_ hw 11 rfl) (w_ hw 12 rfl) hh1 (g := (mkF m 223 #[iv p0, iv p1, iv p2, iv p3, iv nn, iv c0, iv m1, iv c1, iv m2, iv c2, iv m3, iv c3, iv m4, rv oa, iv cnt, iv (fad nn c0 c1 c2 c3), .unset] [])) rfl (hb hby at_223) (by decide) (by decide)
  obtain ⟨b2, g2⟩ : ∃ z, z = h0.size := ⟨_, rfl⟩
  rw [← g2] at A2 D2 st2
  have g_b2 : n0 ≤ b2 := Nat.le_trans Z0 (Nat.le_of_eq g2.symm)
  have F_b2_name : Fld Z h2 b2 "com/example/slimc/slimc/game/Observation" "name" "Ljava/lang/String;" .null := D2 (Or.inr (w_ hw 28 rfl)) (ty := (.object "java/lang/String")) (by decide)
  have F_b2_classOf : Fld Z h2 b2 "com/example/slimc/slimc/game/Observation" "classOf" "[I" .null := D2 (Or.inr (w_ hw 30 rfl)) (ty := (.array .int)) (by decide)
  have F_b2_classCount : Fld Z h2 b2 "com/example/slimc/slimc/game/Observation" "classCount" "I" (.int (0 : Int32)) := D2 (Or.inr (w_ hw 32 rfl)) (ty := .int) (by decide)
  have F_b2_classes : Fld Z h2 b2 "com/example/slimc/slimc/game/Observation" "classes" "[[I" .null := D2 (Or.inr (w_ hw 36 rfl)) (ty := (.array (.array .int))) (by decide)
  refine own_of st2 ?_
  show own_Out p e below _ (T2.setTop (mkF m 226 #[iv p0, iv p1, iv p2, iv p3, iv nn, iv c0, iv m1, iv c1, iv m2, iv c2, iv m3, iv c3, iv m4, rv oa, iv cnt, iv (fad nn c0 c1 c2 c3), .unset] [.ref b2]))
  refine o_dup X2 hx hby at_226 rfl (q := 227) rfl ?_
  obtain ⟨a3, T3, h3, k3, X3, e3, E3, S3, ks3, hZ3, hown3, st3⟩ := ldcS (s := s) (vm0 := s.vm) X2 hx hZ hown (w_ hw 13 rfl) (own_wS hw) e2 ((State.WarmedH.refl s).since 0) (Nat.zero_le _) (g := (mkF m 227 #[iv p0, iv p1, iv p2, iv p3, iv nn, iv c0, iv m1, iv c1, iv m2, iv c2, iv m3, iv c3, iv m4, rv oa, iv cnt, iv (fad nn c0 c1 c2 c3), .unset] [.ref b2, .ref b2])) rfl (hb hby at_227) (n := 4) (by decide +kernel) (by decide) (by decide) (by decide)
  refine own_of st3 ?_
  show own_Out p e below _ (T3.setTop (mkF m 229 #[iv p0, iv p1, iv p2, iv p3, iv nn, iv c0, iv m1, iv c1, iv m2, iv c2, iv m3, iv c3, iv m4, rv oa, iv cnt, iv (fad nn c0 c1 c2 c3), .unset] [.ref a3, .ref b2, .ref b2]))
  refine o_aload X3 hx hby at_229 rfl rfl (q := 231) rfl ?_
  refine o_iload X3 hx hby at_231 rfl (q := 233) rfl ?_
  have ne_oa_b2 : oa ≠ b2 := Nat.ne_of_lt (Nat.lt_of_lt_of_le Va.lt (Nat.le_of_eq g2.symm))
  have q5 := (A2.ext E3)
  have q6 := (F_b2_name.ext E3)
  have q7 := (F_b2_classOf.ext E3)
  have q8 := (F_b2_classCount.ext E3)
  have q9 := (F_b2_classes.ext E3)
  have q10 := ((Va.ext E2).ext E3)
  have q11 := (Nat.le_trans (Nat.le_trans Z0 E2.1) E3.1)
  obtain ⟨_, _, ⟨T4, L4, k4, n4⟩, -, X4, ⟨Lc4, hQ4, l4, y4, z4⟩, st4⟩ := X3.specialBack hx (y := (⟨"com/example/slimc/slimc/game/Observation", "<init>", "(Ljava/lang/String;[II)V"⟩ : MethodName)) rfl hown3 (mvT hZ3 (w_ hw 21 rfl)) (mvT hZ3 (w_ hw 22 rfl)) (mvT hZ3 (w_ hw 23 rfl)) (by decide) (backOf (W := 1) (ct_use hct l Z a0 hw [] b2 a3 oa ka h3 n0 q11 q5 q6 q7 q8 q9 g_b2 q10 ne_oa_b2) hZ3 (w_ hw 23 rfl) (w_ hw 12 rfl) (by decide) (by decide)) (g := (mkF m 233 #[iv p0, iv p1, iv p2, iv p3, iv nn, iv c0, iv m1, iv c1, iv m2, iv c2, iv m3, iv c3, iv m4, rv oa, iv cnt, iv (fad nn c0 c1 c2 c3), .unset] [.int cnt, .ref oa, .ref a3, .ref b2, .ref b2])) rfl (by rw [hml]; rfl) (Steps.refl _) (a := b2) (argsL := [(.ref a3), (.ref oa), (.int cnt)]) (rest := [(.ref b2)]) (lenOf pd_1 rfl) rfl (by show 2 * 0 + _ ≤ _; exact Nat.le_of_eq rfl) (hb hby at_233) (fun _ _ => ⟨rfl, e3, (by decide : 4 + 7 ≤ _), (by decide : 16 + 16 ≤ _)⟩)
  dsimp only [Pt.U, Pt.locs, Pt.cells, Pt.slots] at X4 l4 y4 z4 st4 hQ4
  subst l4 y4 z4
  obtain ⟨rfl, N4q, K4, E4, Fo4, Fc4⟩ := hQ4
  have N4 := Fr.app N1 N4q
  refine own_of (fun _ k => st4.trans k) ?_
  show own_Out p e below _ (T4.setTop (mkF m 236 #[iv p0, iv p1, iv p2, iv p3, iv nn, iv c0, iv m1, iv c1, iv m2, iv c2, iv m3, iv c3, iv m4, rv oa, iv cnt, iv (fad nn c0 c1 c2 c3), .unset] [.ref b2]))
  refine o_astore X4 hx hby at_236 rfl (l' := #[iv p0, iv p1, iv p2, iv p3, iv nn, iv c0, iv m1, iv c1, iv m2, iv c2, iv m3, iv c3, iv m4, rv oa, iv cnt, iv (fad nn c0 c1 c2 c3), rv b2]) rfl (q := 238) rfl ?_
  refine o_aload X4 hx hby at_238 rfl rfl (q := 240) rfl ?_
  have q13 := (q10.keep K4 (ninS ne_oa_b2 nin0))
  have q14 := (Nat.le_trans q11 K4.1)
  obtain ⟨cq12, kq12, q12a, q12b, q12c⟩ := isOf hZ3 rfl E4
  obtain ⟨_, _, ⟨T12, L12, k12, n12⟩, -, X12, ⟨Lc12, hQ12, l12, y12, z12⟩, st12⟩ := X4.virtualBack hx (y := (⟨"com/example/slimc/slimc/game/Observation", "separatesAll", "()Z"⟩ : MethodName)) (z := (⟨"com/example/slimc/slimc/game/Observation", "separatesAll", "()Z"⟩ : MethodName)) hown3 (mvT hZ3 (w_ hw 37 rfl)) (mvT hZ3 (w_ hw 38 rfl)) (notFace_of_selects (args := #[]) (mvT hZ3 (w_ hw 40 rfl))) (mvT hZ3 (w_ hw 40 rfl)) (mvT hZ3 (w_ hw 39 rfl)) (by decide) (backOf (W := 0) (rm5 l Z a0 hw [] b2 oa ka _ cnt ln T4.heap n0 q14 Fo4 Fc4 q13) hZ3 (w_ hw 41 rfl) (w_ hw 12 rfl) (by decide) (by decide)) q12a q12c (g := (mkF m 240 #[iv p0, iv p1, iv p2, iv p3, iv nn, iv c0, iv m1, iv c1, iv m2, iv c2, iv m3, iv c3, iv m4, rv oa, iv cnt, iv (fad nn c0 c1 c2 c3), rv b2] [.ref b2])) rfl (by rw [hml]; rfl) (Steps.refl _) (argsL := []) (rest := []) (lenOf pd_2 rfl) rfl (by show 2 * 0 + _ ≤ _; exact Nat.le_of_eq rfl) (hb hby at_240) (fun _ _ => ⟨rfl, rfl, (by decide : 11 + 0 ≤ _), (by decide : 32 + 0 ≤ _)⟩)
  dsimp only [Pt.U, Pt.locs, Pt.cells, Pt.slots] at X12 l12 y12 z12 st12 hQ12
  subst l12 y12 z12
  obtain ⟨rfl, N12q, hh12⟩ := hQ12
  have N12 := Fr.app N4 N12q
  refine own_of (fun _ k => st12.trans k) ?_
  show own_Out p e below _ (T12.setTop (mkF m 243 #[iv p0, iv p1, iv p2, iv p3, iv nn, iv c0, iv m1, iv c1, iv m2, iv c2, iv m3, iv c3, iv m4, rv oa, iv cnt, iv (fad nn c0 c1 c2 c3), rv b2] [.int (fsep cnt ln)]))
  refine o_iload X12 hx hby at_243 rfl (q := 245) rfl ?_
  refine o_icN X12 hx hby at_245 (teq hq).2 (q := 248) rfl ?_
  refine o_iconst X12 hx hby at_248 (z := 1) rfl (q := 249) rfl ?_
  refine o_goto X12 hx hby at_249 (by decide) (q := 253) (by decide) ?_
  have q15 := (Nat.le_trans ks3 K4.1)
  exact own_outNW (s := s) (vm₁ := T3.vm) X12 S3 (by rw [hh12]; exact q15) hx hlk (t := .boolean) hret (by simp) (hb hby at_253) (z' := (1 : Int32)) rfl (Q := Q) (hQ _ _ N12) (by decide) (by decide)
theorem own_q0 {nn  x1 x2 x3 : Int32} (hn : nn = (0 : Int32))  : CtorOk [] (0 : Int32) (0 : Int32) ∧ (fsep (0 : Int32) (0 : Int32)) = (fad nn (0 : Int32) x1 x2 x3) := by
  subst hn
  exact ⟨fun l Z a0 hw ws o0 o1 o2 k2 h0 n0 Z0 E a b c d g V n2 => rm3cn0 l Z a0 hw ws o0 o1 o2 k2 h0 n0 Z0 E a b c d g V n2, by simp [fsep, fad]⟩
theorem own_q1 {nn  x1 x2 x3 : Int32} (hn : nn = (1 : Int32))  : CtorOk [(.int (0 : Int32))] (1 : Int32) (1 : Int32) ∧ (fsep (1 : Int32) (1 : Int32)) = (fad nn (0 : Int32) x1 x2 x3) := by
  subst hn
  exact ⟨fun l Z a0 hw ws o0 o1 o2 k2 h0 n0 Z0 E a b c d g V n2 => rm3c0n1 l Z a0 hw ws o0 o1 o2 k2 h0 n0 Z0 E a b c d g V n2, by simp [fsep, fad]⟩
theorem own_q2 {nn p1 c1 x2 x3 : Int32} (hn : nn = (2 : Int32)) (h1 : c1 = ((p1 &&& (2147483647 : Int32)) % (2 : Int32))) : CtorOk [(.int (0 : Int32)), (.int c1)] (2 : Int32) ((fmax (0 : Int32) c1) + (1 : Int32)) ∧ (fsep ((fmax (0 : Int32) c1) + (1 : Int32)) (2 : Int32)) = (fad nn (0 : Int32) c1 x2 x3) := by
  subst hn
  rcases own_c2 h1 with rfl | rfl
  · skip
    have e : ((fmax (0 : Int32) (0 : Int32)) + (1 : Int32)) = (1 : Int32) := by decide
    rw [e]
    exact ⟨fun l Z a0 hw ws o0 o1 o2 k2 h0 n0 Z0 E a b c d g V n2 => rm3c00n1 l Z a0 hw ws o0 o1 o2 k2 h0 n0 Z0 E a b c d g V n2, by simp [fsep, fad]⟩
  · skip
    have e : ((fmax (0 : Int32) (1 : Int32)) + (1 : Int32)) = (2 : Int32) := by decide
    rw [e]
    exact ⟨fun l Z a0 hw ws o0 o1 o2 k2 h0 n0 Z0 E a b c d g V n2 => rm3c01n2 l Z a0 hw ws o0 o1 o2 k2 h0 n0 Z0 E a b c d g V n2, by simp [fsep, fad]⟩
theorem own_q3 {nn p1 p2 c1 c2 x3 : Int32} (hn : nn = (3 : Int32)) (h1 : c1 = ((p1 &&& (2147483647 : Int32)) % (2 : Int32))) (h2 : c2 = ((p2 &&& (2147483647 : Int32)) % ((fmax (0 : Int32) c1) + (2 : Int32)))) : CtorOk [(.int (0 : Int32)), (.int c1), (.int c2)] (3 : Int32) ((fmax (fmax (0 : Int32) c1) c2) + (1 : Int32)) ∧ (fsep ((fmax (fmax (0 : Int32) c1) c2) + (1 : Int32)) (3 : Int32)) = (fad nn (0 : Int32) c1 c2 x3) := by
  subst hn
  rcases own_c2 h1 with rfl | rfl
  · skip
    rw [show ((fmax (0 : Int32) (0 : Int32)) + (2 : Int32)) = (2 : Int32) by decide] at h2
    rcases own_c2 h2 with rfl | rfl
    · skip
      have e : ((fmax (fmax (0 : Int32) (0 : Int32)) (0 : Int32)) + (1 : Int32)) = (1 : Int32) := by decide
      rw [e]
      exact ⟨fun l Z a0 hw ws o0 o1 o2 k2 h0 n0 Z0 E a b c d g V n2 => rm3c000n1 l Z a0 hw ws o0 o1 o2 k2 h0 n0 Z0 E a b c d g V n2, by simp [fsep, fad]⟩
    · skip
      have e : ((fmax (fmax (0 : Int32) (0 : Int32)) (1 : Int32)) + (1 : Int32)) = (2 : Int32) := by decide
      rw [e]
      exact ⟨fun l Z a0 hw ws o0 o1 o2 k2 h0 n0 Z0 E a b c d g V n2 => rm3c001n2 l Z a0 hw ws o0 o1 o2 k2 h0 n0 Z0 E a b c d g V n2, by simp [fsep, fad]⟩
  · skip
    rw [show ((fmax (0 : Int32) (1 : Int32)) + (2 : Int32)) = (3 : Int32) by decide] at h2
    rcases own_c3 h2 with rfl | rfl | rfl
    · skip
      have e : ((fmax (fmax (0 : Int32) (1 : Int32)) (0 : Int32)) + (1 : Int32)) = (2 : Int32) := by decide
      rw [e]
      exact ⟨fun l Z a0 hw ws o0 o1 o2 k2 h0 n0 Z0 E a b c d g V n2 => rm3c010n2 l Z a0 hw ws o0 o1 o2 k2 h0 n0 Z0 E a b c d g V n2, by simp [fsep, fad]⟩
    · skip
      have e : ((fmax (fmax (0 : Int32) (1 : Int32)) (1 : Int32)) + (1 : Int32)) = (2 : Int32) := by decide
      rw [e]
      exact ⟨fun l Z a0 hw ws o0 o1 o2 k2 h0 n0 Z0 E a b c d g V n2 => rm3c011n2 l Z a0 hw ws o0 o1 o2 k2 h0 n0 Z0 E a b c d g V n2, by simp [fsep, fad]⟩
    · skip
      have e : ((fmax (fmax (0 : Int32) (1 : Int32)) (2 : Int32)) + (1 : Int32)) = (3 : Int32) := by decide
      rw [e]
      exact ⟨fun l Z a0 hw ws o0 o1 o2 k2 h0 n0 Z0 E a b c d g V n2 => rm3c012n3 l Z a0 hw ws o0 o1 o2 k2 h0 n0 Z0 E a b c d g V n2, by simp [fsep, fad]⟩
theorem own_q4 {nn p1 p2 p3 c1 c2 c3 : Int32} (hn : nn = (4 : Int32)) (h1 : c1 = ((p1 &&& (2147483647 : Int32)) % (2 : Int32))) (h2 : c2 = ((p2 &&& (2147483647 : Int32)) % ((fmax (0 : Int32) c1) + (2 : Int32)))) (h3 : c3 = ((p3 &&& (2147483647 : Int32)) % ((fmax (fmax (0 : Int32) c1) c2) + (2 : Int32)))) : CtorOk [(.int (0 : Int32)), (.int c1), (.int c2), (.int c3)] (4 : Int32) ((fmax (fmax (fmax (0 : Int32) c1) c2) c3) + (1 : Int32)) ∧ (fsep ((fmax (fmax (fmax (0 : Int32) c1) c2) c3) + (1 : Int32)) (4 : Int32)) = (fad nn (0 : Int32) c1 c2 c3) := by
  subst hn
  rcases own_c2 h1 with rfl | rfl
  · skip
    rw [show ((fmax (0 : Int32) (0 : Int32)) + (2 : Int32)) = (2 : Int32) by decide] at h2
    rcases own_c2 h2 with rfl | rfl
    · skip
      rw [show ((fmax (fmax (0 : Int32) (0 : Int32)) (0 : Int32)) + (2 : Int32)) = (2 : Int32) by decide] at h3
      rcases own_c2 h3 with rfl | rfl
      · skip
        have e : ((fmax (fmax (fmax (0 : Int32) (0 : Int32)) (0 : Int32)) (0 : Int32)) + (1 : Int32)) = (1 : Int32) := by decide
        rw [e]
        exact ⟨fun l Z a0 hw ws o0 o1 o2 k2 h0 n0 Z0 E a b c d g V n2 => rm3c0000n1 l Z a0 hw ws o0 o1 o2 k2 h0 n0 Z0 E a b c d g V n2, by simp [fsep, fad]⟩
      · skip
        have e : ((fmax (fmax (fmax (0 : Int32) (0 : Int32)) (0 : Int32)) (1 : Int32)) + (1 : Int32)) = (2 : Int32) := by decide
        rw [e]
        exact ⟨fun l Z a0 hw ws o0 o1 o2 k2 h0 n0 Z0 E a b c d g V n2 => rm3c0001n2 l Z a0 hw ws o0 o1 o2 k2 h0 n0 Z0 E a b c d g V n2, by simp [fsep, fad]⟩
    · skip
      rw [show ((fmax (fmax (0 : Int32) (0 : Int32)) (1 : Int32)) + (2 : Int32)) = (3 : Int32) by decide] at h3
      rcases own_c3 h3 with rfl | rfl | rfl
      · skip
        have e : ((fmax (fmax (fmax (0 : Int32) (0 : Int32)) (1 : Int32)) (0 : Int32)) + (1 : Int32)) = (2 : Int32) := by decide
        rw [e]
        exact ⟨fun l Z a0 hw ws o0 o1 o2 k2 h0 n0 Z0 E a b c d g V n2 => rm3c0010n2 l Z a0 hw ws o0 o1 o2 k2 h0 n0 Z0 E a b c d g V n2, by simp [fsep, fad]⟩
      · skip
        have e : ((fmax (fmax (fmax (0 : Int32) (0 : Int32)) (1 : Int32)) (1 : Int32)) + (1 : Int32)) = (2 : Int32) := by decide
        rw [e]
        exact ⟨fun l Z a0 hw ws o0 o1 o2 k2 h0 n0 Z0 E a b c d g V n2 => rm3c0011n2 l Z a0 hw ws o0 o1 o2 k2 h0 n0 Z0 E a b c d g V n2, by simp [fsep, fad]⟩
      · skip
        have e : ((fmax (fmax (fmax (0 : Int32) (0 : Int32)) (1 : Int32)) (2 : Int32)) + (1 : Int32)) = (3 : Int32) := by decide
        rw [e]
        exact ⟨fun l Z a0 hw ws o0 o1 o2 k2 h0 n0 Z0 E a b c d g V n2 => rm3c0012n3 l Z a0 hw ws o0 o1 o2 k2 h0 n0 Z0 E a b c d g V n2, by simp [fsep, fad]⟩
  · skip
    rw [show ((fmax (0 : Int32) (1 : Int32)) + (2 : Int32)) = (3 : Int32) by decide] at h2
    rcases own_c3 h2 with rfl | rfl | rfl
    · skip
      rw [show ((fmax (fmax (0 : Int32) (1 : Int32)) (0 : Int32)) + (2 : Int32)) = (3 : Int32) by decide] at h3
      rcases own_c3 h3 with rfl | rfl | rfl
      · skip
        have e : ((fmax (fmax (fmax (0 : Int32) (1 : Int32)) (0 : Int32)) (0 : Int32)) + (1 : Int32)) = (2 : Int32) := by decide
        rw [e]
        exact ⟨fun l Z a0 hw ws o0 o1 o2 k2 h0 n0 Z0 E a b c d g V n2 => rm3c0100n2 l Z a0 hw ws o0 o1 o2 k2 h0 n0 Z0 E a b c d g V n2, by simp [fsep, fad]⟩
      · skip
        have e : ((fmax (fmax (fmax (0 : Int32) (1 : Int32)) (0 : Int32)) (1 : Int32)) + (1 : Int32)) = (2 : Int32) := by decide
        rw [e]
        exact ⟨fun l Z a0 hw ws o0 o1 o2 k2 h0 n0 Z0 E a b c d g V n2 => rm3c0101n2 l Z a0 hw ws o0 o1 o2 k2 h0 n0 Z0 E a b c d g V n2, by simp [fsep, fad]⟩
      · skip
        have e : ((fmax (fmax (fmax (0 : Int32) (1 : Int32)) (0 : Int32)) (2 : Int32)) + (1 : Int32)) = (3 : Int32) := by decide
        rw [e]
        exact ⟨fun l Z a0 hw ws o0 o1 o2 k2 h0 n0 Z0 E a b c d g V n2 => rm3c0102n3 l Z a0 hw ws o0 o1 o2 k2 h0 n0 Z0 E a b c d g V n2, by simp [fsep, fad]⟩
    · skip
      rw [show ((fmax (fmax (0 : Int32) (1 : Int32)) (1 : Int32)) + (2 : Int32)) = (3 : Int32) by decide] at h3
      rcases own_c3 h3 with rfl | rfl | rfl
      · skip
        have e : ((fmax (fmax (fmax (0 : Int32) (1 : Int32)) (1 : Int32)) (0 : Int32)) + (1 : Int32)) = (2 : Int32) := by decide
        rw [e]
        exact ⟨fun l Z a0 hw ws o0 o1 o2 k2 h0 n0 Z0 E a b c d g V n2 => rm3c0110n2 l Z a0 hw ws o0 o1 o2 k2 h0 n0 Z0 E a b c d g V n2, by simp [fsep, fad]⟩
      · skip
        have e : ((fmax (fmax (fmax (0 : Int32) (1 : Int32)) (1 : Int32)) (1 : Int32)) + (1 : Int32)) = (2 : Int32) := by decide
        rw [e]
        exact ⟨fun l Z a0 hw ws o0 o1 o2 k2 h0 n0 Z0 E a b c d g V n2 => rm3c0111n2 l Z a0 hw ws o0 o1 o2 k2 h0 n0 Z0 E a b c d g V n2, by simp [fsep, fad]⟩
      · skip
        have e : ((fmax (fmax (fmax (0 : Int32) (1 : Int32)) (1 : Int32)) (2 : Int32)) + (1 : Int32)) = (3 : Int32) := by decide
        rw [e]
        exact ⟨fun l Z a0 hw ws o0 o1 o2 k2 h0 n0 Z0 E a b c d g V n2 => rm3c0112n3 l Z a0 hw ws o0 o1 o2 k2 h0 n0 Z0 E a b c d g V n2, by simp [fsep, fad]⟩
    · skip
      rw [show ((fmax (fmax (0 : Int32) (1 : Int32)) (2 : Int32)) + (2 : Int32)) = (4 : Int32) by decide] at h3
      rcases own_c4 h3 with rfl | rfl | rfl | rfl
      · skip
        have e : ((fmax (fmax (fmax (0 : Int32) (1 : Int32)) (2 : Int32)) (0 : Int32)) + (1 : Int32)) = (3 : Int32) := by decide
        rw [e]
        exact ⟨fun l Z a0 hw ws o0 o1 o2 k2 h0 n0 Z0 E a b c d g V n2 => rm3c0120n3 l Z a0 hw ws o0 o1 o2 k2 h0 n0 Z0 E a b c d g V n2, by simp [fsep, fad]⟩
      · skip
        have e : ((fmax (fmax (fmax (0 : Int32) (1 : Int32)) (2 : Int32)) (1 : Int32)) + (1 : Int32)) = (3 : Int32) := by decide
        rw [e]
        exact ⟨fun l Z a0 hw ws o0 o1 o2 k2 h0 n0 Z0 E a b c d g V n2 => rm3c0121n3 l Z a0 hw ws o0 o1 o2 k2 h0 n0 Z0 E a b c d g V n2, by simp [fsep, fad]⟩
      · skip
        have e : ((fmax (fmax (fmax (0 : Int32) (1 : Int32)) (2 : Int32)) (2 : Int32)) + (1 : Int32)) = (3 : Int32) := by decide
        rw [e]
        exact ⟨fun l Z a0 hw ws o0 o1 o2 k2 h0 n0 Z0 E a b c d g V n2 => rm3c0122n3 l Z a0 hw ws o0 o1 o2 k2 h0 n0 Z0 E a b c d g V n2, by simp [fsep, fad]⟩
      · skip
        have e : ((fmax (fmax (fmax (0 : Int32) (1 : Int32)) (2 : Int32)) (3 : Int32)) + (1 : Int32)) = (4 : Int32) := by decide
        rw [e]
        exact ⟨fun l Z a0 hw ws o0 o1 o2 k2 h0 n0 Z0 E a b c d g V n2 => rm3c0123n4 l Z a0 hw ws o0 o1 o2 k2 h0 n0 Z0 E a b c d g V n2, by simp [fsep, fad]⟩
theorem own_n4 {x z : Int32} (h : z = ((x &&& (2147483647 : Int32)) % (5 : Int32))) (h0 : ¬ (z = (0 : Int32))) (h1 : ¬ (z = (1 : Int32))) (h2 : ¬ (z = (2 : Int32))) (h3 : ¬ (z = (3 : Int32))) : z = (4 : Int32) := by
  rcases own_c5 h with q | q | q | q | q <;> simp_all
theorem pd_3 : parseMethodDescriptor "(II)I" = some ⟨[.int, .int], some .int⟩ := by decide +kernel
theorem ef_0 (m : MethodId) (x0 : Int32) (x1 : Int32) (x2 : Int32) (x3 : Int32) : entryFrame m #[(.int x0), (.int x1), (.int x2), (.int x3)] maxLocals = mkF m 0 #[.val (.int x0), .val (.int x1), .val (.int x2), .val (.int x3), .unset, .unset, .unset, .unset, .unset, .unset, .unset, .unset, .unset, .unset, .unset, .unset, .unset] [] := by first | (simp [entryFrame, mkF, argsToLocals, Value.category, maxLocals]; done) | rfl
def Q0 (Z : State) (p0 : Int32) (p1 : Int32) (p2 : Int32) (p3 : Int32) (h0 : Heap) (n0 : Nat) (v : Option Value) (h : Heap) (L : List Loc) : Prop := v = some (.int 1) ∧ Fr n0 L
set_option maxRecDepth 65536 in
set_option maxHeartbeats 40000000 in
theorem rm0 (l : Launch) (Z : State) (a0 : Array Value) (hw : ∀ d ∈ tables_1, d.before a0 Z = true) (ws : List Jvm.Cond) (p0 : Int32) (p1 : Int32) (p2 : Int32) (p3 : Int32) (h0 : Heap) (n0 : Nat) (Z0 : n0 ≤ h0.size) :
    MetFree l x (head1 (Jvm.Cond.code x code maxLocals ret :: ws) room_1) (fun a U => a = #[(.int p0), (.int p1), (.int p2), (.int p3)] ∧ Z.Warmed39 U.vm ∧ U.heap = h0) (fun _ _ _ _ _ => True) (fun _ U o U' => ∃ v L, o = .returned v ∧ Q0 Z p0 p1 p2 p3 h0 n0 v U'.heap L ∧ ReturnedEndW U o U' L 16 64) := by
  refine MetFree.of_bodySF (plainFor_of_name pn_0) hisR ?_
  intro p e s m args below meth c s₁ Bd hml0 hP hK
  obtain ⟨rfl, hZ, hh⟩ := hP
  have hx := Bd.exec
  have hby := Bd.bytes
  have hml : c.maxLocals = 17 := hml0
  have hown : s.vm.findClass "com/example/slimc/slimc/game/ObservationSeparatesAllPinLaw" = some m.cls := findClass_of_methodNamed Bd.named
  have hnm := (name_of_methodNamed Bd.named Bd.method).1
  have X0 : Stand p l e room_1 s m #[(.int p0), (.int p1), (.int p2), (.int p3)] below meth c s₁ [] 0 0 := Stand.of_body Bd
  have e0 : s₁.heap = h0 := by rw [← hh, Bd.state]; rfl
  have N0 := Fr.nil n0
  have hret := Bd.returns
  have hlk := BodyLoose.notSynchronized Bd
  show own_Out p e below (fun o U' => ∃ v L, o = .returned v ∧ Q0 Z p0 p1 p2 p3 h0 n0 v U'.heap L ∧ ReturnedEndW s o U' L 16 64) (s₁.setTop (entryFrame m #[(.int p0), (.int p1), (.int p2), (.int p3)] maxLocals))
  refine own_of (fun t k => castTop (ef_0 m p0 p1 p2 p3) k) ?_
  show own_Out p e below _ (s₁.setTop (mkF m 0 #[iv p0, iv p1, iv p2, iv p3, .unset, .unset, .unset, .unset, .unset, .unset, .unset, .unset, .unset, .unset, .unset, .unset, .unset] []))
  refine o_iloadN X0 hx hby at_0 rfl (q := 1) rfl ?_
  refine o_ldcI X0 hx hZ hown hby (w_ hw 0 rfl) at_1 (q := 3) rfl ?_
  refine o_iand X0 hx hby at_3 rfl (q := 4) rfl ?_
  refine o_iconst X0 hx hby at_4 (z := 5) rfl (q := 5) rfl ?_
  refine o_irem X0 hx hby at_5 (by decide) (q := 6) rfl ?_
  refine o_istore X0 hx hby at_6 (l' := #[iv p0, iv p1, iv p2, iv p3, iv ((p0 &&& (2147483647 : Int32)) % (5 : Int32)), .unset, .unset, .unset, .unset, .unset, .unset, .unset, .unset, .unset, .unset, .unset, .unset]) rfl (q := 8) rfl ?_
  refine o_iconst X0 hx hby at_8 (z := 0) rfl (q := 9) rfl ?_
  refine o_istore X0 hx hby at_9 (l' := #[iv p0, iv p1, iv p2, iv p3, iv ((p0 &&& (2147483647 : Int32)) % (5 : Int32)), iv 0, .unset, .unset, .unset, .unset, .unset, .unset, .unset, .unset, .unset, .unset, .unset]) rfl (q := 11) rfl ?_
  refine o_iconst X0 hx hby at_11 (z := 0) rfl (q := 12) rfl ?_
  refine o_istore X0 hx hby at_12 (l' := #[iv p0, iv p1, iv p2, iv p3, iv ((p0 &&& (2147483647 : Int32)) % (5 : Int32)), iv 0, iv 0, .unset, .unset, .unset, .unset, .unset, .unset, .unset, .unset, .unset, .unset]) rfl (q := 14) rfl ?_
  refine o_iloadN X0 hx hby at_14 rfl (q := 15) rfl ?_
  refine o_ldcI X0 hx hZ hown hby (w_ hw 0 rfl) at_15 (q := 17) rfl ?_
  refine o_iand X0 hx hby at_17 rfl (q := 18) rfl ?_
  refine o_iload X0 hx hby at_18 rfl (q := 20) rfl ?_
  refine o_iconst X0 hx hby at_20 (z := 2) rfl (q := 21) rfl ?_
  refine o_iadd X0 hx hby at_21 (z := 2) rfl (q := 22) rfl ?_
  refine o_irem X0 hx hby at_22 (by decide) (q := 23) rfl ?_
  refine o_istore X0 hx hby at_23 (l' := #[iv p0, iv p1, iv p2, iv p3, iv ((p0 &&& (2147483647 : Int32)) % (5 : Int32)), iv 0, iv 0, iv ((p1 &&& (2147483647 : Int32)) % (2 : Int32)), .unset, .unset, .unset, .unset, .unset, .unset, .unset, .unset, .unset]) rfl (q := 25) rfl ?_
  refine o_iload X0 hx hby at_25 rfl (q := 27) rfl ?_
  refine o_iload X0 hx hby at_27 rfl (q := 29) rfl ?_
  obtain ⟨_, _, ⟨T1, L1, k1, n1⟩, -, X1, ⟨Lc1, hQ1, l1, y1, z1⟩, st1⟩ := Jvm.LawKit.callS X0 hx (y := (⟨"java/lang/Math", "max", "(II)I"⟩ : MethodName)) hown (mvT hZ (w_ hw 1 rfl)) (mvT hZ (w_ hw 2 rfl)) (mvT hZ (w_ hw 3 rfl)) (mvT hZ (w_ hw 4 rfl)) (by decide) (backOf (W := 0) (rm1 l Z a0 hw [] (0 : Int32) ((p1 &&& (2147483647 : Int32)) % (2 : Int32)) h0 n0 Z0 ) hZ (w_ hw 4 rfl) (w_ hw 3 rfl) (by decide) (by decide)) (g := (mkF m 29 #[iv p0, iv p1, iv p2, iv p3, iv ((p0 &&& (2147483647 : Int32)) % (5 : Int32)), iv 0, iv 0, iv ((p1 &&& (2147483647 : Int32)) % (2 : Int32)), .unset, .unset, .unset, .unset, .unset, .unset, .unset, .unset, .unset] [.int ((p1 &&& (2147483647 : Int32)) % (2 : Int32)), .int 0])) rfl (by rw [hml]; rfl) (argsL := [(.int (0 : Int32)), (.int ((p1 &&& (2147483647 : Int32)) % (2 : Int32)))]) (rest := []) (lenOf pd_3 rfl) rfl (by show 2 * 0 + _ ≤ _; exact Nat.le_of_eq rfl) (hb hby at_29) (fun _ _ => ⟨rfl, e0, (by decide : 0 + 0 ≤ _), (by decide : 0 + 0 ≤ _)⟩)
  dsimp only [Pt.U, Pt.locs, Pt.cells, Pt.slots] at X1 l1 y1 z1 st1 hQ1
  subst l1 y1 z1
  obtain ⟨rfl, N1q, hh1⟩ := hQ1
  have N1 := Fr.app N0 N1q
  refine own_of st1 ?_
  show own_Out p e below _ (T1.setTop (mkF m 32 #[iv p0, iv p1, iv p2, iv p3, iv ((p0 &&& (2147483647 : Int32)) % (5 : Int32)), iv 0, iv 0, iv ((p1 &&& (2147483647 : Int32)) % (2 : Int32)), .unset, .unset, .unset, .unset, .unset, .unset, .unset, .unset, .unset] [.int (fmax (0 : Int32) ((p1 &&& (2147483647 : Int32)) % (2 : Int32)))]))
  refine o_istore X1 hx hby at_32 (l' := #[iv p0, iv p1, iv p2, iv p3, iv ((p0 &&& (2147483647 : Int32)) % (5 : Int32)), iv 0, iv 0, iv ((p1 &&& (2147483647 : Int32)) % (2 : Int32)), iv (fmax (0 : Int32) ((p1 &&& (2147483647 : Int32)) % (2 : Int32))), .unset, .unset, .unset, .unset, .unset, .unset, .unset, .unset]) rfl (q := 34) rfl ?_
  refine o_iloadN X1 hx hby at_34 rfl (q := 35) rfl ?_
  refine o_ldcI X1 hx hZ hown hby (w_ hw 0 rfl) at_35 (q := 37) rfl ?_
  refine o_iand X1 hx hby at_37 rfl (q := 38) rfl ?_
  refine o_iload X1 hx hby at_38 rfl (q := 40) rfl ?_
  refine o_iconst X1 hx hby at_40 (z := 2) rfl (q := 41) rfl ?_
  refine o_iadd X1 hx hby at_41 rfl (q := 42) rfl ?_
  refine o_irem X1 hx hby at_42 (own_nz (own_max0 (by decide) (own_lt4 (own_rem p1 2 2 rfl (by decide)) (by decide)))) (q := 43) rfl ?_
  refine o_istore X1 hx hby at_43 (l' := #[iv p0, iv p1, iv p2, iv p3, iv ((p0 &&& (2147483647 : Int32)) % (5 : Int32)), iv 0, iv 0, iv ((p1 &&& (2147483647 : Int32)) % (2 : Int32)), iv (fmax (0 : Int32) ((p1 &&& (2147483647 : Int32)) % (2 : Int32))), iv ((p2 &&& (2147483647 : Int32)) % ((fmax (0 : Int32) ((p1 &&& (2147483647 : Int32)) % (2 : Int32))) + (2 : Int32))), .unset, .unset, .unset, .unset, .unset, .unset, .unset]) rfl (q := 45) rfl ?_
  refine o_iload X1 hx hby at_45 rfl (q := 47) rfl ?_
  refine o_iload X1 hx hby at_47 rfl (q := 49) rfl ?_
  obtain ⟨_, _, ⟨T2, L2, k2, n2⟩, -, X2, ⟨Lc2, hQ2, l2, y2, z2⟩, st2⟩ := Jvm.LawKit.callS X1 hx (y := (⟨"java/lang/Math", "max", "(II)I"⟩ : MethodName)) hown (mvT hZ (w_ hw 1 rfl)) (mvT hZ (w_ hw 2 rfl)) (mvT hZ (w_ hw 3 rfl)) (mvT hZ (w_ hw 4 rfl)) (by decide) (backOf (W := 0) (rm1 l Z a0 hw [] (fmax (0 : Int32) ((p1 &&& (2147483647 : Int32)) % (2 : Int32))) ((p2 &&& (2147483647 : Int32)) % ((fmax (0 : Int32) ((p1 &&& (2147483647 : Int32)) % (2 : Int32))) + (2 : Int32))) h0 n0 Z0 ) hZ (w_ hw 4 rfl) (w_ hw 3 rfl) (by decide) (by decide)) (g := (mkF m 49 #[iv p0, iv p1, iv p2, iv p3, iv ((p0 &&& (2147483647 : Int32)) % (5 : Int32)), iv 0, iv 0, iv ((p1 &&& (2147483647 : Int32)) % (2 : Int32)), iv (fmax (0 : Int32) ((p1 &&& (2147483647 : Int32)) % (2 : Int32))), iv ((p2 &&& (2147483647 : Int32)) % ((fmax (0 : Int32) ((p1 &&& (2147483647 : Int32)) % (2 : Int32))) + (2 : Int32))), .unset, .unset, .unset, .unset, .unset, .unset, .unset] [.int ((p2 &&& (2147483647 : Int32)) % ((fmax (0 : Int32) ((p1 &&& (2147483647 : Int32)) % (2 : Int32))) + (2 : Int32))), .int (fmax (0 : Int32) ((p1 &&& (2147483647 : Int32)) % (2 : Int32)))])) rfl (by rw [hml]; rfl) (argsL := [(.int (fmax (0 : Int32) ((p1 &&& (2147483647 : Int32)) % (2 : Int32)))), (.int ((p2 &&& (2147483647 : Int32)) % ((fmax (0 : Int32) ((p1 &&& (2147483647 : Int32)) % (2 : Int32))) + (2 : Int32))))]) (rest := []) (lenOf pd_3 rfl) rfl (by show 2 * 0 + _ ≤ _; exact Nat.le_of_eq rfl) (hb hby at_49) (fun _ _ => ⟨rfl, hh1, (by decide : 0 + 0 ≤ _), (by decide : 0 + 0 ≤ _)⟩)
  dsimp only [Pt.U, Pt.locs, Pt.cells, Pt.slots] at X2 l2 y2 z2 st2 hQ2
  subst l2 y2 z2
  obtain ⟨rfl, N2q, hh2⟩ := hQ2
  have N2 := Fr.app N1 N2q
  refine own_of st2 ?_
  show own_Out p e below _ (T2.setTop (mkF m 52 #[iv p0, iv p1, iv p2, iv p3, iv ((p0 &&& (2147483647 : Int32)) % (5 : Int32)), iv 0, iv 0, iv ((p1 &&& (2147483647 : Int32)) % (2 : Int32)), iv (fmax (0 : Int32) ((p1 &&& (2147483647 : Int32)) % (2 : Int32))), iv ((p2 &&& (2147483647 : Int32)) % ((fmax (0 : Int32) ((p1 &&& (2147483647 : Int32)) % (2 : Int32))) + (2 : Int32))), .unset, .unset, .unset, .unset, .unset, .unset, .unset] [.int (fmax (fmax (0 : Int32) ((p1 &&& (2147483647 : Int32)) % (2 : Int32))) ((p2 &&& (2147483647 : Int32)) % ((fmax (0 : Int32) ((p1 &&& (2147483647 : Int32)) % (2 : Int32))) + (2 : Int32))))]))
  refine o_istore X2 hx hby at_52 (l' := #[iv p0, iv p1, iv p2, iv p3, iv ((p0 &&& (2147483647 : Int32)) % (5 : Int32)), iv 0, iv 0, iv ((p1 &&& (2147483647 : Int32)) % (2 : Int32)), iv (fmax (0 : Int32) ((p1 &&& (2147483647 : Int32)) % (2 : Int32))), iv ((p2 &&& (2147483647 : Int32)) % ((fmax (0 : Int32) ((p1 &&& (2147483647 : Int32)) % (2 : Int32))) + (2 : Int32))), iv (fmax (fmax (0 : Int32) ((p1 &&& (2147483647 : Int32)) % (2 : Int32))) ((p2 &&& (2147483647 : Int32)) % ((fmax (0 : Int32) ((p1 &&& (2147483647 : Int32)) % (2 : Int32))) + (2 : Int32)))), .unset, .unset, .unset, .unset, .unset, .unset]) rfl (q := 54) rfl ?_
  refine o_iloadN X2 hx hby at_54 rfl (q := 55) rfl ?_
  refine o_ldcI X2 hx hZ hown hby (w_ hw 0 rfl) at_55 (q := 57) rfl ?_
  refine o_iand X2 hx hby at_57 rfl (q := 58) rfl ?_
  refine o_iload X2 hx hby at_58 rfl (q := 60) rfl ?_
  refine o_iconst X2 hx hby at_60 (z := 2) rfl (q := 61) rfl ?_
  refine o_iadd X2 hx hby at_61 rfl (q := 62) rfl ?_
  refine o_irem X2 hx hby at_62 (own_nz (own_max0 (own_max0 (by decide) (own_lt4 (own_rem p1 2 2 rfl (by decide)) (by decide))) (own_rm (own_max1 (by decide) (own_r2 p1))))) (q := 63) rfl ?_
  refine o_istore X2 hx hby at_63 (l' := #[iv p0, iv p1, iv p2, iv p3, iv ((p0 &&& (2147483647 : Int32)) % (5 : Int32)), iv 0, iv 0, iv ((p1 &&& (2147483647 : Int32)) % (2 : Int32)), iv (fmax (0 : Int32) ((p1 &&& (2147483647 : Int32)) % (2 : Int32))), iv ((p2 &&& (2147483647 : Int32)) % ((fmax (0 : Int32) ((p1 &&& (2147483647 : Int32)) % (2 : Int32))) + (2 : Int32))), iv (fmax (fmax (0 : Int32) ((p1 &&& (2147483647 : Int32)) % (2 : Int32))) ((p2 &&& (2147483647 : Int32)) % ((fmax (0 : Int32) ((p1 &&& (2147483647 : Int32)) % (2 : Int32))) + (2 : Int32)))), iv ((p3 &&& (2147483647 : Int32)) % ((fmax (fmax (0 : Int32) ((p1 &&& (2147483647 : Int32)) % (2 : Int32))) ((p2 &&& (2147483647 : Int32)) % ((fmax (0 : Int32) ((p1 &&& (2147483647 : Int32)) % (2 : Int32))) + (2 : Int32)))) + (2 : Int32))), .unset, .unset, .unset, .unset, .unset]) rfl (q := 65) rfl ?_
  refine o_iload X2 hx hby at_65 rfl (q := 67) rfl ?_
  refine o_iload X2 hx hby at_67 rfl (q := 69) rfl ?_
  obtain ⟨_, _, ⟨T3, L3, k3, n3⟩, -, X3, ⟨Lc3, hQ3, l3, y3, z3⟩, st3⟩ := Jvm.LawKit.callS X2 hx (y := (⟨"java/lang/Math", "max", "(II)I"⟩ : MethodName)) hown (mvT hZ (w_ hw 1 rfl)) (mvT hZ (w_ hw 2 rfl)) (mvT hZ (w_ hw 3 rfl)) (mvT hZ (w_ hw 4 rfl)) (by decide) (backOf (W := 0) (rm1 l Z a0 hw [] (fmax (fmax (0 : Int32) ((p1 &&& (2147483647 : Int32)) % (2 : Int32))) ((p2 &&& (2147483647 : Int32)) % ((fmax (0 : Int32) ((p1 &&& (2147483647 : Int32)) % (2 : Int32))) + (2 : Int32)))) ((p3 &&& (2147483647 : Int32)) % ((fmax (fmax (0 : Int32) ((p1 &&& (2147483647 : Int32)) % (2 : Int32))) ((p2 &&& (2147483647 : Int32)) % ((fmax (0 : Int32) ((p1 &&& (2147483647 : Int32)) % (2 : Int32))) + (2 : Int32)))) + (2 : Int32))) h0 n0 Z0 ) hZ (w_ hw 4 rfl) (w_ hw 3 rfl) (by decide) (by decide)) (g := (mkF m 69 #[iv p0, iv p1, iv p2, iv p3, iv ((p0 &&& (2147483647 : Int32)) % (5 : Int32)), iv 0, iv 0, iv ((p1 &&& (2147483647 : Int32)) % (2 : Int32)), iv (fmax (0 : Int32) ((p1 &&& (2147483647 : Int32)) % (2 : Int32))), iv ((p2 &&& (2147483647 : Int32)) % ((fmax (0 : Int32) ((p1 &&& (2147483647 : Int32)) % (2 : Int32))) + (2 : Int32))), iv (fmax (fmax (0 : Int32) ((p1 &&& (2147483647 : Int32)) % (2 : Int32))) ((p2 &&& (2147483647 : Int32)) % ((fmax (0 : Int32) ((p1 &&& (2147483647 : Int32)) % (2 : Int32))) + (2 : Int32)))), iv ((p3 &&& (2147483647 : Int32)) % ((fmax (fmax (0 : Int32) ((p1 &&& (2147483647 : Int32)) % (2 : Int32))) ((p2 &&& (2147483647 : Int32)) % ((fmax (0 : Int32) ((p1 &&& (2147483647 : Int32)) % (2 : Int32))) + (2 : Int32)))) + (2 : Int32))), .unset, .unset, .unset, .unset, .unset] [.int ((p3 &&& (2147483647 : Int32)) % ((fmax (fmax (0 : Int32) ((p1 &&& (2147483647 : Int32)) % (2 : Int32))) ((p2 &&& (2147483647 : Int32)) % ((fmax (0 : Int32) ((p1 &&& (2147483647 : Int32)) % (2 : Int32))) + (2 : Int32)))) + (2 : Int32))), .int (fmax (fmax (0 : Int32) ((p1 &&& (2147483647 : Int32)) % (2 : Int32))) ((p2 &&& (2147483647 : Int32)) % ((fmax (0 : Int32) ((p1 &&& (2147483647 : Int32)) % (2 : Int32))) + (2 : Int32))))])) rfl (by rw [hml]; rfl) (argsL := [(.int (fmax (fmax (0 : Int32) ((p1 &&& (2147483647 : Int32)) % (2 : Int32))) ((p2 &&& (2147483647 : Int32)) % ((fmax (0 : Int32) ((p1 &&& (2147483647 : Int32)) % (2 : Int32))) + (2 : Int32))))), (.int ((p3 &&& (2147483647 : Int32)) % ((fmax (fmax (0 : Int32) ((p1 &&& (2147483647 : Int32)) % (2 : Int32))) ((p2 &&& (2147483647 : Int32)) % ((fmax (0 : Int32) ((p1 &&& (2147483647 : Int32)) % (2 : Int32))) + (2 : Int32)))) + (2 : Int32))))]) (rest := []) (lenOf pd_3 rfl) rfl (by show 2 * 0 + _ ≤ _; exact Nat.le_of_eq rfl) (hb hby at_69) (fun _ _ => ⟨rfl, hh2, (by decide : 0 + 0 ≤ _), (by decide : 0 + 0 ≤ _)⟩)
  dsimp only [Pt.U, Pt.locs, Pt.cells, Pt.slots] at X3 l3 y3 z3 st3 hQ3
  subst l3 y3 z3
  obtain ⟨rfl, N3q, hh3⟩ := hQ3
  have N3 := Fr.app N2 N3q
  refine own_of st3 ?_
  show own_Out p e below _ (T3.setTop (mkF m 72 #[iv p0, iv p1, iv p2, iv p3, iv ((p0 &&& (2147483647 : Int32)) % (5 : Int32)), iv 0, iv 0, iv ((p1 &&& (2147483647 : Int32)) % (2 : Int32)), iv (fmax (0 : Int32) ((p1 &&& (2147483647 : Int32)) % (2 : Int32))), iv ((p2 &&& (2147483647 : Int32)) % ((fmax (0 : Int32) ((p1 &&& (2147483647 : Int32)) % (2 : Int32))) + (2 : Int32))), iv (fmax (fmax (0 : Int32) ((p1 &&& (2147483647 : Int32)) % (2 : Int32))) ((p2 &&& (2147483647 : Int32)) % ((fmax (0 : Int32) ((p1 &&& (2147483647 : Int32)) % (2 : Int32))) + (2 : Int32)))), iv ((p3 &&& (2147483647 : Int32)) % ((fmax (fmax (0 : Int32) ((p1 &&& (2147483647 : Int32)) % (2 : Int32))) ((p2 &&& (2147483647 : Int32)) % ((fmax (0 : Int32) ((p1 &&& (2147483647 : Int32)) % (2 : Int32))) + (2 : Int32)))) + (2 : Int32))), .unset, .unset, .unset, .unset, .unset] [.int (fmax (fmax (fmax (0 : Int32) ((p1 &&& (2147483647 : Int32)) % (2 : Int32))) ((p2 &&& (2147483647 : Int32)) % ((fmax (0 : Int32) ((p1 &&& (2147483647 : Int32)) % (2 : Int32))) + (2 : Int32)))) ((p3 &&& (2147483647 : Int32)) % ((fmax (fmax (0 : Int32) ((p1 &&& (2147483647 : Int32)) % (2 : Int32))) ((p2 &&& (2147483647 : Int32)) % ((fmax (0 : Int32) ((p1 &&& (2147483647 : Int32)) % (2 : Int32))) + (2 : Int32)))) + (2 : Int32))))]))
  refine o_istore X3 hx hby at_72 (l' := #[iv p0, iv p1, iv p2, iv p3, iv ((p0 &&& (2147483647 : Int32)) % (5 : Int32)), iv 0, iv 0, iv ((p1 &&& (2147483647 : Int32)) % (2 : Int32)), iv (fmax (0 : Int32) ((p1 &&& (2147483647 : Int32)) % (2 : Int32))), iv ((p2 &&& (2147483647 : Int32)) % ((fmax (0 : Int32) ((p1 &&& (2147483647 : Int32)) % (2 : Int32))) + (2 : Int32))), iv (fmax (fmax (0 : Int32) ((p1 &&& (2147483647 : Int32)) % (2 : Int32))) ((p2 &&& (2147483647 : Int32)) % ((fmax (0 : Int32) ((p1 &&& (2147483647 : Int32)) % (2 : Int32))) + (2 : Int32)))), iv ((p3 &&& (2147483647 : Int32)) % ((fmax (fmax (0 : Int32) ((p1 &&& (2147483647 : Int32)) % (2 : Int32))) ((p2 &&& (2147483647 : Int32)) % ((fmax (0 : Int32) ((p1 &&& (2147483647 : Int32)) % (2 : Int32))) + (2 : Int32)))) + (2 : Int32))), iv (fmax (fmax (fmax (0 : Int32) ((p1 &&& (2147483647 : Int32)) % (2 : Int32))) ((p2 &&& (2147483647 : Int32)) % ((fmax (0 : Int32) ((p1 &&& (2147483647 : Int32)) % (2 : Int32))) + (2 : Int32)))) ((p3 &&& (2147483647 : Int32)) % ((fmax (fmax (0 : Int32) ((p1 &&& (2147483647 : Int32)) % (2 : Int32))) ((p2 &&& (2147483647 : Int32)) % ((fmax (0 : Int32) ((p1 &&& (2147483647 : Int32)) % (2 : Int32))) + (2 : Int32)))) + (2 : Int32)))), .unset, .unset, .unset, .unset]) rfl (q := 74) rfl ?_
  refine o_iload X3 hx hby at_74 rfl (q := 76) rfl ?_
  by_cases hc76_4 : ((p0 &&& (2147483647 : Int32)) % (5 : Int32)) = (0 : Int32)
  · skip
    refine o_ifN X3 hx hby at_76 ((if0 _ _).trans (teq hc76_4).2) (q := 79) rfl ?_
    refine o_iconst X3 hx hby at_79 (z := 0) rfl (q := 80) rfl ?_
    obtain ⟨T5, h5, k5, X5, e5, E5, A5, st5⟩ := newP X3 hx hZ (w_ hw 5 rfl) hh3 (g := (mkF m 80 #[iv p0, iv p1, iv p2, iv p3, iv ((p0 &&& (2147483647 : Int32)) % (5 : Int32)), iv 0, iv 0, iv ((p1 &&& (2147483647 : Int32)) % (2 : Int32)), iv (fmax (0 : Int32) ((p1 &&& (2147483647 : Int32)) % (2 : Int32))), iv ((p2 &&& (2147483647 : Int32)) % ((fmax (0 : Int32) ((p1 &&& (2147483647 : Int32)) % (2 : Int32))) + (2 : Int32))), iv (fmax (fmax (0 : Int32) ((p1 &&& (2147483647 : Int32)) % (2 : Int32))) ((p2 &&& (2147483647 : Int32)) % ((fmax (0 : Int32) ((p1 &&& (2147483647 : Int32)) % (2 : Int32))) + (2 : Int32)))), iv ((p3 &&& (2147483647 : Int32)) % ((fmax (fmax (0 : Int32) ((p1 &&& (2147483647 : Int32)) % (2 : Int32))) ((p2 &&& (2147483647 : Int32)) % ((fmax (0 : Int32) ((p1 &&& (2147483647 : Int32)) % (2 : Int32))) + (2 : Int32)))) + (2 : Int32))), iv (fmax (fmax (fmax (0 : Int32) ((p1 &&& (2147483647 : Int32)) % (2 : Int32))) ((p2 &&& (2147483647 : Int32)) % ((fmax (0 : Int32) ((p1 &&& (2147483647 : Int32)) % (2 : Int32))) + (2 : Int32)))) ((p3 &&& (2147483647 : Int32)) % ((fmax (fmax (0 : Int32) ((p1 &&& (2147483647 : Int32)) % (2 : Int32))) ((p2 &&& (2147483647 : Int32)) % ((fmax (0 : Int32) ((p1 &&& (2147483647 : Int32)) % (2 : Int32))) + (2 : Int32)))) + (2 : Int32)))), .unset, .unset, .unset, .unset] [.int 0])) rfl (hb hby at_80) rfl (by decide) (cap := 0) (by decide) (by decide) (by decide) (by decide)
    obtain ⟨b5, g5⟩ : ∃ z, z = h0.size := ⟨_, rfl⟩
    rw [← g5] at A5 st5
    have g_b5 : n0 ≤ b5 := Nat.le_trans Z0 (Nat.le_of_eq g5.symm)
    have V_b5 : Arv Z h5 b5 k5 .int (0 : Int32) [] (.int (0 : Int32)) := (Arv.new A5 (by decide)).pad (pad_rep [] (.int (0 : Int32)) 0)
    refine own_of st5 ?_
    show own_Out p e below _ (T5.setTop (mkF m 82 #[iv p0, iv p1, iv p2, iv p3, iv ((p0 &&& (2147483647 : Int32)) % (5 : Int32)), iv 0, iv 0, iv ((p1 &&& (2147483647 : Int32)) % (2 : Int32)), iv (fmax (0 : Int32) ((p1 &&& (2147483647 : Int32)) % (2 : Int32))), iv ((p2 &&& (2147483647 : Int32)) % ((fmax (0 : Int32) ((p1 &&& (2147483647 : Int32)) % (2 : Int32))) + (2 : Int32))), iv (fmax (fmax (0 : Int32) ((p1 &&& (2147483647 : Int32)) % (2 : Int32))) ((p2 &&& (2147483647 : Int32)) % ((fmax (0 : Int32) ((p1 &&& (2147483647 : Int32)) % (2 : Int32))) + (2 : Int32)))), iv ((p3 &&& (2147483647 : Int32)) % ((fmax (fmax (0 : Int32) ((p1 &&& (2147483647 : Int32)) % (2 : Int32))) ((p2 &&& (2147483647 : Int32)) % ((fmax (0 : Int32) ((p1 &&& (2147483647 : Int32)) % (2 : Int32))) + (2 : Int32)))) + (2 : Int32))), iv (fmax (fmax (fmax (0 : Int32) ((p1 &&& (2147483647 : Int32)) % (2 : Int32))) ((p2 &&& (2147483647 : Int32)) % ((fmax (0 : Int32) ((p1 &&& (2147483647 : Int32)) % (2 : Int32))) + (2 : Int32)))) ((p3 &&& (2147483647 : Int32)) % ((fmax (fmax (0 : Int32) ((p1 &&& (2147483647 : Int32)) % (2 : Int32))) ((p2 &&& (2147483647 : Int32)) % ((fmax (0 : Int32) ((p1 &&& (2147483647 : Int32)) % (2 : Int32))) + (2 : Int32)))) + (2 : Int32)))), .unset, .unset, .unset, .unset] [.ref b5]))
    refine o_astore X5 hx hby at_82 rfl (l' := #[iv p0, iv p1, iv p2, iv p3, iv ((p0 &&& (2147483647 : Int32)) % (5 : Int32)), iv 0, iv 0, iv ((p1 &&& (2147483647 : Int32)) % (2 : Int32)), iv (fmax (0 : Int32) ((p1 &&& (2147483647 : Int32)) % (2 : Int32))), iv ((p2 &&& (2147483647 : Int32)) % ((fmax (0 : Int32) ((p1 &&& (2147483647 : Int32)) % (2 : Int32))) + (2 : Int32))), iv (fmax (fmax (0 : Int32) ((p1 &&& (2147483647 : Int32)) % (2 : Int32))) ((p2 &&& (2147483647 : Int32)) % ((fmax (0 : Int32) ((p1 &&& (2147483647 : Int32)) % (2 : Int32))) + (2 : Int32)))), iv ((p3 &&& (2147483647 : Int32)) % ((fmax (fmax (0 : Int32) ((p1 &&& (2147483647 : Int32)) % (2 : Int32))) ((p2 &&& (2147483647 : Int32)) % ((fmax (0 : Int32) ((p1 &&& (2147483647 : Int32)) % (2 : Int32))) + (2 : Int32)))) + (2 : Int32))), iv (fmax (fmax (fmax (0 : Int32) ((p1 &&& (2147483647 : Int32)) % (2 : Int32))) ((p2 &&& (2147483647 : Int32)) % ((fmax (0 : Int32) ((p1 &&& (2147483647 : Int32)) % (2 : Int32))) + (2 : Int32)))) ((p3 &&& (2147483647 : Int32)) % ((fmax (fmax (0 : Int32) ((p1 &&& (2147483647 : Int32)) % (2 : Int32))) ((p2 &&& (2147483647 : Int32)) % ((fmax (0 : Int32) ((p1 &&& (2147483647 : Int32)) % (2 : Int32))) + (2 : Int32)))) + (2 : Int32)))), rv b5, .unset, .unset, .unset]) rfl (q := 84) rfl ?_
    refine o_iconst X5 hx hby at_84 (z := 0) rfl (q := 85) rfl ?_
    refine o_istore X5 hx hby at_85 (l' := #[iv p0, iv p1, iv p2, iv p3, iv ((p0 &&& (2147483647 : Int32)) % (5 : Int32)), iv 0, iv 0, iv ((p1 &&& (2147483647 : Int32)) % (2 : Int32)), iv (fmax (0 : Int32) ((p1 &&& (2147483647 : Int32)) % (2 : Int32))), iv ((p2 &&& (2147483647 : Int32)) % ((fmax (0 : Int32) ((p1 &&& (2147483647 : Int32)) % (2 : Int32))) + (2 : Int32))), iv (fmax (fmax (0 : Int32) ((p1 &&& (2147483647 : Int32)) % (2 : Int32))) ((p2 &&& (2147483647 : Int32)) % ((fmax (0 : Int32) ((p1 &&& (2147483647 : Int32)) % (2 : Int32))) + (2 : Int32)))), iv ((p3 &&& (2147483647 : Int32)) % ((fmax (fmax (0 : Int32) ((p1 &&& (2147483647 : Int32)) % (2 : Int32))) ((p2 &&& (2147483647 : Int32)) % ((fmax (0 : Int32) ((p1 &&& (2147483647 : Int32)) % (2 : Int32))) + (2 : Int32)))) + (2 : Int32))), iv (fmax (fmax (fmax (0 : Int32) ((p1 &&& (2147483647 : Int32)) % (2 : Int32))) ((p2 &&& (2147483647 : Int32)) % ((fmax (0 : Int32) ((p1 &&& (2147483647 : Int32)) % (2 : Int32))) + (2 : Int32)))) ((p3 &&& (2147483647 : Int32)) % ((fmax (fmax (0 : Int32) ((p1 &&& (2147483647 : Int32)) % (2 : Int32))) ((p2 &&& (2147483647 : Int32)) % ((fmax (0 : Int32) ((p1 &&& (2147483647 : Int32)) % (2 : Int32))) + (2 : Int32)))) + (2 : Int32)))), rv b5, iv 0, .unset, .unset]) rfl (q := 87) rfl ?_
    refine o_goto X5 hx hby at_87 (by decide) (q := 208) (by decide) ?_
    have q6 := (Nat.le_trans Z0 E5.1)
    exact sg208 (Q := Q0 Z p0 p1 p2 p3 h0 n0) p0 p1 p2 p3 ((p0 &&& (2147483647 : Int32)) % (5 : Int32)) (0 : Int32) (0 : Int32) ((p1 &&& (2147483647 : Int32)) % (2 : Int32)) (fmax (0 : Int32) ((p1 &&& (2147483647 : Int32)) % (2 : Int32))) ((p2 &&& (2147483647 : Int32)) % ((fmax (0 : Int32) ((p1 &&& (2147483647 : Int32)) % (2 : Int32))) + (2 : Int32))) (fmax (fmax (0 : Int32) ((p1 &&& (2147483647 : Int32)) % (2 : Int32))) ((p2 &&& (2147483647 : Int32)) % ((fmax (0 : Int32) ((p1 &&& (2147483647 : Int32)) % (2 : Int32))) + (2 : Int32)))) ((p3 &&& (2147483647 : Int32)) % ((fmax (fmax (0 : Int32) ((p1 &&& (2147483647 : Int32)) % (2 : Int32))) ((p2 &&& (2147483647 : Int32)) % ((fmax (0 : Int32) ((p1 &&& (2147483647 : Int32)) % (2 : Int32))) + (2 : Int32)))) + (2 : Int32))) (fmax (fmax (fmax (0 : Int32) ((p1 &&& (2147483647 : Int32)) % (2 : Int32))) ((p2 &&& (2147483647 : Int32)) % ((fmax (0 : Int32) ((p1 &&& (2147483647 : Int32)) % (2 : Int32))) + (2 : Int32)))) ((p3 &&& (2147483647 : Int32)) % ((fmax (fmax (0 : Int32) ((p1 &&& (2147483647 : Int32)) % (2 : Int32))) ((p2 &&& (2147483647 : Int32)) % ((fmax (0 : Int32) ((p1 &&& (2147483647 : Int32)) % (2 : Int32))) + (2 : Int32)))) + (2 : Int32)))) b5 (0 : Int32) k5 [] (0 : Int32) h5 n0 (own_more X5 (by decide) (by decide)) hx hZ hw hby hml hown hret hlk (fun _ _ N => ⟨rfl, N⟩) e5 q6 N3 V_b5 (own_q0 (x1 := ((p1 &&& (2147483647 : Int32)) % (2 : Int32))) (x2 := ((p2 &&& (2147483647 : Int32)) % ((fmax (0 : Int32) ((p1 &&& (2147483647 : Int32)) % (2 : Int32))) + (2 : Int32)))) (x3 := ((p3 &&& (2147483647 : Int32)) % ((fmax (fmax (0 : Int32) ((p1 &&& (2147483647 : Int32)) % (2 : Int32))) ((p2 &&& (2147483647 : Int32)) % ((fmax (0 : Int32) ((p1 &&& (2147483647 : Int32)) % (2 : Int32))) + (2 : Int32)))) + (2 : Int32)))) hc76_4).1 (own_q0 (x1 := ((p1 &&& (2147483647 : Int32)) % (2 : Int32))) (x2 := ((p2 &&& (2147483647 : Int32)) % ((fmax (0 : Int32) ((p1 &&& (2147483647 : Int32)) % (2 : Int32))) + (2 : Int32)))) (x3 := ((p3 &&& (2147483647 : Int32)) % ((fmax (fmax (0 : Int32) ((p1 &&& (2147483647 : Int32)) % (2 : Int32))) ((p2 &&& (2147483647 : Int32)) % ((fmax (0 : Int32) ((p1 &&& (2147483647 : Int32)) % (2 : Int32))) + (2 : Int32)))) + (2 : Int32)))) hc76_4).2
  · skip
    refine o_ifY X3 hx hby at_76 ((if0 _ _).trans (feq hc76_4).2) (by decide) (q := 90) (by decide) ?_
    refine o_iload X3 hx hby at_90 rfl (q := 92) rfl ?_
    refine o_iconst X3 hx hby at_92 (z := 1) rfl (q := 93) rfl ?_
    by_cases hc93_7 : ((p0 &&& (2147483647 : Int32)) % (5 : Int32)) = (1 : Int32)
    · skip
      refine o_icN X3 hx hby at_93 (teq hc93_7).2 (q := 96) rfl ?_
      refine o_iconst X3 hx hby at_96 (z := 1) rfl (q := 97) rfl ?_
      obtain ⟨T8, h8, k8, X8, e8, E8, A8, st8⟩ := newP X3 hx hZ (w_ hw 5 rfl) hh3 (g := (mkF m 97 #[iv p0, iv p1, iv p2, iv p3, iv ((p0 &&& (2147483647 : Int32)) % (5 : Int32)), iv 0, iv 0, iv ((p1 &&& (2147483647 : Int32)) % (2 : Int32)), iv (fmax (0 : Int32) ((p1 &&& (2147483647 : Int32)) % (2 : Int32))), iv ((p2 &&& (2147483647 : Int32)) % ((fmax (0 : Int32) ((p1 &&& (2147483647 : Int32)) % (2 : Int32))) + (2 : Int32))), iv (fmax (fmax (0 : Int32) ((p1 &&& (2147483647 : Int32)) % (2 : Int32))) ((p2 &&& (2147483647 : Int32)) % ((fmax (0 : Int32) ((p1 &&& (2147483647 : Int32)) % (2 : Int32))) + (2 : Int32)))), iv ((p3 &&& (2147483647 : Int32)) % ((fmax (fmax (0 : Int32) ((p1 &&& (2147483647 : Int32)) % (2 : Int32))) ((p2 &&& (2147483647 : Int32)) % ((fmax (0 : Int32) ((p1 &&& (2147483647 : Int32)) % (2 : Int32))) + (2 : Int32)))) + (2 : Int32))), iv (fmax (fmax (fmax (0 : Int32) ((p1 &&& (2147483647 : Int32)) % (2 : Int32))) ((p2 &&& (2147483647 : Int32)) % ((fmax (0 : Int32) ((p1 &&& (2147483647 : Int32)) % (2 : Int32))) + (2 : Int32)))) ((p3 &&& (2147483647 : Int32)) % ((fmax (fmax (0 : Int32) ((p1 &&& (2147483647 : Int32)) % (2 : Int32))) ((p2 &&& (2147483647 : Int32)) % ((fmax (0 : Int32) ((p1 &&& (2147483647 : Int32)) % (2 : Int32))) + (2 : Int32)))) + (2 : Int32)))), .unset, .unset, .unset, .unset] [.int 1])) rfl (hb hby at_97) rfl (by decide) (cap := 1) (by decide) (by decide) (by decide) (by decide)
      obtain ⟨b8, g8⟩ : ∃ z, z = h0.size := ⟨_, rfl⟩
      rw [← g8] at A8 st8
      have g_b8 : n0 ≤ b8 := Nat.le_trans Z0 (Nat.le_of_eq g8.symm)
      have V_b8 : Arv Z h8 b8 k8 .int (1 : Int32) [(.int (0 : Int32))] (.int (0 : Int32)) := (Arv.new A8 (by decide)).pad (pad_rep [] (.int (0 : Int32)) 1)
      refine own_of st8 ?_
      show own_Out p e below _ (T8.setTop (mkF m 99 #[iv p0, iv p1, iv p2, iv p3, iv ((p0 &&& (2147483647 : Int32)) % (5 : Int32)), iv 0, iv 0, iv ((p1 &&& (2147483647 : Int32)) % (2 : Int32)), iv (fmax (0 : Int32) ((p1 &&& (2147483647 : Int32)) % (2 : Int32))), iv ((p2 &&& (2147483647 : Int32)) % ((fmax (0 : Int32) ((p1 &&& (2147483647 : Int32)) % (2 : Int32))) + (2 : Int32))), iv (fmax (fmax (0 : Int32) ((p1 &&& (2147483647 : Int32)) % (2 : Int32))) ((p2 &&& (2147483647 : Int32)) % ((fmax (0 : Int32) ((p1 &&& (2147483647 : Int32)) % (2 : Int32))) + (2 : Int32)))), iv ((p3 &&& (2147483647 : Int32)) % ((fmax (fmax (0 : Int32) ((p1 &&& (2147483647 : Int32)) % (2 : Int32))) ((p2 &&& (2147483647 : Int32)) % ((fmax (0 : Int32) ((p1 &&& (2147483647 : Int32)) % (2 : Int32))) + (2 : Int32)))) + (2 : Int32))), iv (fmax (fmax (fmax (0 : Int32) ((p1 &&& (2147483647 : Int32)) % (2 : Int32))) ((p2 &&& (2147483647 : Int32)) % ((fmax (0 : Int32) ((p1 &&& (2147483647 : Int32)) % (2 : Int32))) + (2 : Int32)))) ((p3 &&& (2147483647 : Int32)) % ((fmax (fmax (0 : Int32) ((p1 &&& (2147483647 : Int32)) % (2 : Int32))) ((p2 &&& (2147483647 : Int32)) % ((fmax (0 : Int32) ((p1 &&& (2147483647 : Int32)) % (2 : Int32))) + (2 : Int32)))) + (2 : Int32)))), .unset, .unset, .unset, .unset] [.ref b8]))
      refine o_dup X8 hx hby at_99 rfl (q := 100) rfl ?_
      refine o_iconst X8 hx hby at_100 (z := 0) rfl (q := 101) rfl ?_
      refine o_iload X8 hx hby at_101 rfl (q := 103) rfl ?_
      refine o_stV X8 hx hby hZ e8 V_b8 ⟨by decide, by decide⟩ 0 rfl (Nat.le_of_ble_eq_true rfl) at_103 (q := 104) rfl fun T9 h9 X9 e9 W9 V9 => ?_
      refine o_astore X9 hx hby at_104 rfl (l' := #[iv p0, iv p1, iv p2, iv p3, iv ((p0 &&& (2147483647 : Int32)) % (5 : Int32)), iv 0, iv 0, iv ((p1 &&& (2147483647 : Int32)) % (2 : Int32)), iv (fmax (0 : Int32) ((p1 &&& (2147483647 : Int32)) % (2 : Int32))), iv ((p2 &&& (2147483647 : Int32)) % ((fmax (0 : Int32) ((p1 &&& (2147483647 : Int32)) % (2 : Int32))) + (2 : Int32))), iv (fmax (fmax (0 : Int32) ((p1 &&& (2147483647 : Int32)) % (2 : Int32))) ((p2 &&& (2147483647 : Int32)) % ((fmax (0 : Int32) ((p1 &&& (2147483647 : Int32)) % (2 : Int32))) + (2 : Int32)))), iv ((p3 &&& (2147483647 : Int32)) % ((fmax (fmax (0 : Int32) ((p1 &&& (2147483647 : Int32)) % (2 : Int32))) ((p2 &&& (2147483647 : Int32)) % ((fmax (0 : Int32) ((p1 &&& (2147483647 : Int32)) % (2 : Int32))) + (2 : Int32)))) + (2 : Int32))), iv (fmax (fmax (fmax (0 : Int32) ((p1 &&& (2147483647 : Int32)) % (2 : Int32))) ((p2 &&& (2147483647 : Int32)) % ((fmax (0 : Int32) ((p1 &&& (2147483647 : Int32)) % (2 : Int32))) + (2 : Int32)))) ((p3 &&& (2147483647 : Int32)) % ((fmax (fmax (0 : Int32) ((p1 &&& (2147483647 : Int32)) % (2 : Int32))) ((p2 &&& (2147483647 : Int32)) % ((fmax (0 : Int32) ((p1 &&& (2147483647 : Int32)) % (2 : Int32))) + (2 : Int32)))) + (2 : Int32)))), rv b8, .unset, .unset, .unset]) rfl (q := 106) rfl ?_
      refine o_iconst X9 hx hby at_106 (z := 1) rfl (q := 107) rfl ?_
      refine o_istore X9 hx hby at_107 (l' := #[iv p0, iv p1, iv p2, iv p3, iv ((p0 &&& (2147483647 : Int32)) % (5 : Int32)), iv 0, iv 0, iv ((p1 &&& (2147483647 : Int32)) % (2 : Int32)), iv (fmax (0 : Int32) ((p1 &&& (2147483647 : Int32)) % (2 : Int32))), iv ((p2 &&& (2147483647 : Int32)) % ((fmax (0 : Int32) ((p1 &&& (2147483647 : Int32)) % (2 : Int32))) + (2 : Int32))), iv (fmax (fmax (0 : Int32) ((p1 &&& (2147483647 : Int32)) % (2 : Int32))) ((p2 &&& (2147483647 : Int32)) % ((fmax (0 : Int32) ((p1 &&& (2147483647 : Int32)) % (2 : Int32))) + (2 : Int32)))), iv ((p3 &&& (2147483647 : Int32)) % ((fmax (fmax (0 : Int32) ((p1 &&& (2147483647 : Int32)) % (2 : Int32))) ((p2 &&& (2147483647 : Int32)) % ((fmax (0 : Int32) ((p1 &&& (2147483647 : Int32)) % (2 : Int32))) + (2 : Int32)))) + (2 : Int32))), iv (fmax (fmax (fmax (0 : Int32) ((p1 &&& (2147483647 : Int32)) % (2 : Int32))) ((p2 &&& (2147483647 : Int32)) % ((fmax (0 : Int32) ((p1 &&& (2147483647 : Int32)) % (2 : Int32))) + (2 : Int32)))) ((p3 &&& (2147483647 : Int32)) % ((fmax (fmax (0 : Int32) ((p1 &&& (2147483647 : Int32)) % (2 : Int32))) ((p2 &&& (2147483647 : Int32)) % ((fmax (0 : Int32) ((p1 &&& (2147483647 : Int32)) % (2 : Int32))) + (2 : Int32)))) + (2 : Int32)))), rv b8, iv 1, .unset, .unset]) rfl (q := 109) rfl ?_
      refine o_goto X9 hx hby at_109 (by decide) (q := 208) (by decide) ?_
      have q10 := (Nat.le_trans (Nat.le_trans Z0 E8.1) (Keep.of_wr W9).1)
      exact sg208 (Q := Q0 Z p0 p1 p2 p3 h0 n0) p0 p1 p2 p3 ((p0 &&& (2147483647 : Int32)) % (5 : Int32)) (0 : Int32) (0 : Int32) ((p1 &&& (2147483647 : Int32)) % (2 : Int32)) (fmax (0 : Int32) ((p1 &&& (2147483647 : Int32)) % (2 : Int32))) ((p2 &&& (2147483647 : Int32)) % ((fmax (0 : Int32) ((p1 &&& (2147483647 : Int32)) % (2 : Int32))) + (2 : Int32))) (fmax (fmax (0 : Int32) ((p1 &&& (2147483647 : Int32)) % (2 : Int32))) ((p2 &&& (2147483647 : Int32)) % ((fmax (0 : Int32) ((p1 &&& (2147483647 : Int32)) % (2 : Int32))) + (2 : Int32)))) ((p3 &&& (2147483647 : Int32)) % ((fmax (fmax (0 : Int32) ((p1 &&& (2147483647 : Int32)) % (2 : Int32))) ((p2 &&& (2147483647 : Int32)) % ((fmax (0 : Int32) ((p1 &&& (2147483647 : Int32)) % (2 : Int32))) + (2 : Int32)))) + (2 : Int32))) (fmax (fmax (fmax (0 : Int32) ((p1 &&& (2147483647 : Int32)) % (2 : Int32))) ((p2 &&& (2147483647 : Int32)) % ((fmax (0 : Int32) ((p1 &&& (2147483647 : Int32)) % (2 : Int32))) + (2 : Int32)))) ((p3 &&& (2147483647 : Int32)) % ((fmax (fmax (0 : Int32) ((p1 &&& (2147483647 : Int32)) % (2 : Int32))) ((p2 &&& (2147483647 : Int32)) % ((fmax (0 : Int32) ((p1 &&& (2147483647 : Int32)) % (2 : Int32))) + (2 : Int32)))) + (2 : Int32)))) b8 (1 : Int32) k8 [(.int (0 : Int32))] (1 : Int32) h9 n0 (own_more X9 (by decide) (by decide)) hx hZ hw hby hml hown hret hlk (fun _ _ N => ⟨rfl, N⟩) e9 q10 (Fr.snoc X9 N3 g_b8) V9 (own_q1 (x1 := ((p1 &&& (2147483647 : Int32)) % (2 : Int32))) (x2 := ((p2 &&& (2147483647 : Int32)) % ((fmax (0 : Int32) ((p1 &&& (2147483647 : Int32)) % (2 : Int32))) + (2 : Int32)))) (x3 := ((p3 &&& (2147483647 : Int32)) % ((fmax (fmax (0 : Int32) ((p1 &&& (2147483647 : Int32)) % (2 : Int32))) ((p2 &&& (2147483647 : Int32)) % ((fmax (0 : Int32) ((p1 &&& (2147483647 : Int32)) % (2 : Int32))) + (2 : Int32)))) + (2 : Int32)))) hc93_7).1 (own_q1 (x1 := ((p1 &&& (2147483647 : Int32)) % (2 : Int32))) (x2 := ((p2 &&& (2147483647 : Int32)) % ((fmax (0 : Int32) ((p1 &&& (2147483647 : Int32)) % (2 : Int32))) + (2 : Int32)))) (x3 := ((p3 &&& (2147483647 : Int32)) % ((fmax (fmax (0 : Int32) ((p1 &&& (2147483647 : Int32)) % (2 : Int32))) ((p2 &&& (2147483647 : Int32)) % ((fmax (0 : Int32) ((p1 &&& (2147483647 : Int32)) % (2 : Int32))) + (2 : Int32)))) + (2 : Int32)))) hc93_7).2
    · skip
      refine o_icY X3 hx hby at_93 (feq hc93_7).2 (by decide) (q := 112) (by decide) ?_
      refine o_iload X3 hx hby at_112 rfl (q := 114) rfl ?_
      refine o_iconst X3 hx hby at_114 (z := 2) rfl (q := 115) rfl ?_
      by_cases hc115_11 : ((p0 &&& (2147483647 : Int32)) % (5 : Int32)) = (2 : Int32)
      · skip
        refine o_icN X3 hx hby at_115 (teq hc115_11).2 (q := 118) rfl ?_
        refine o_iconst X3 hx hby at_118 (z := 2) rfl (q := 119) rfl ?_
        obtain ⟨T12, h12, k12, X12, e12, E12, A12, st12⟩ := newP X3 hx hZ (w_ hw 5 rfl) hh3 (g := (mkF m 119 #[iv p0, iv p1, iv p2, iv p3, iv ((p0 &&& (2147483647 : Int32)) % (5 : Int32)), iv 0, iv 0, iv ((p1 &&& (2147483647 : Int32)) % (2 : Int32)), iv (fmax (0 : Int32) ((p1 &&& (2147483647 : Int32)) % (2 : Int32))), iv ((p2 &&& (2147483647 : Int32)) % ((fmax (0 : Int32) ((p1 &&& (2147483647 : Int32)) % (2 : Int32))) + (2 : Int32))), iv (fmax (fmax (0 : Int32) ((p1 &&& (2147483647 : Int32)) % (2 : Int32))) ((p2 &&& (2147483647 : Int32)) % ((fmax (0 : Int32) ((p1 &&& (2147483647 : Int32)) % (2 : Int32))) + (2 : Int32)))), iv ((p3 &&& (2147483647 : Int32)) % ((fmax (fmax (0 : Int32) ((p1 &&& (2147483647 : Int32)) % (2 : Int32))) ((p2 &&& (2147483647 : Int32)) % ((fmax (0 : Int32) ((p1 &&& (2147483647 : Int32)) % (2 : Int32))) + (2 : Int32)))) + (2 : Int32))), iv (fmax (fmax (fmax (0 : Int32) ((p1 &&& (2147483647 : Int32)) % (2 : Int32))) ((p2 &&& (2147483647 : Int32)) % ((fmax (0 : Int32) ((p1 &&& (2147483647 : Int32)) % (2 : Int32))) + (2 : Int32)))) ((p3 &&& (2147483647 : Int32)) % ((fmax (fmax (0 : Int32) ((p1 &&& (2147483647 : Int32)) % (2 : Int32))) ((p2 &&& (2147483647 : Int32)) % ((fmax (0 : Int32) ((p1 &&& (2147483647 : Int32)) % (2 : Int32))) + (2 : Int32)))) + (2 : Int32)))), .unset, .unset, .unset, .unset] [.int 2])) rfl (hb hby at_119) rfl (by decide) (cap := 2) (by decide) (by decide) (by decide) (by decide)
        obtain ⟨b12, g12⟩ : ∃ z, z = h0.size := ⟨_, rfl⟩
        rw [← g12] at A12 st12
        have g_b12 : n0 ≤ b12 := Nat.le_trans Z0 (Nat.le_of_eq g12.symm)
        have V_b12 : Arv Z h12 b12 k12 .int (2 : Int32) [(.int (0 : Int32)), (.int (0 : Int32))] (.int (0 : Int32)) := (Arv.new A12 (by decide)).pad (pad_rep [] (.int (0 : Int32)) 2)
        refine own_of st12 ?_
        show own_Out p e below _ (T12.setTop (mkF m 121 #[iv p0, iv p1, iv p2, iv p3, iv ((p0 &&& (2147483647 : Int32)) % (5 : Int32)), iv 0, iv 0, iv ((p1 &&& (2147483647 : Int32)) % (2 : Int32)), iv (fmax (0 : Int32) ((p1 &&& (2147483647 : Int32)) % (2 : Int32))), iv ((p2 &&& (2147483647 : Int32)) % ((fmax (0 : Int32) ((p1 &&& (2147483647 : Int32)) % (2 : Int32))) + (2 : Int32))), iv (fmax (fmax (0 : Int32) ((p1 &&& (2147483647 : Int32)) % (2 : Int32))) ((p2 &&& (2147483647 : Int32)) % ((fmax (0 : Int32) ((p1 &&& (2147483647 : Int32)) % (2 : Int32))) + (2 : Int32)))), iv ((p3 &&& (2147483647 : Int32)) % ((fmax (fmax (0 : Int32) ((p1 &&& (2147483647 : Int32)) % (2 : Int32))) ((p2 &&& (2147483647 : Int32)) % ((fmax (0 : Int32) ((p1 &&& (2147483647 : Int32)) % (2 : Int32))) + (2 : Int32)))) + (2 : Int32))), iv (fmax (fmax (fmax (0 : Int32) ((p1 &&& (2147483647 : Int32)) % (2 : Int32))) ((p2 &&& (2147483647 : Int32)) % ((fmax (0 : Int32) ((p1 &&& (2147483647 : Int32)) % (2 : Int32))) + (2 : Int32)))) ((p3 &&& (2147483647 : Int32)) % ((fmax (fmax (0 : Int32) ((p1 &&& (2147483647 : Int32)) % (2 : Int32))) ((p2 &&& (2147483647 : Int32)) % ((fmax (0 : Int32) ((p1 &&& (2147483647 : Int32)) % (2 : Int32))) + (2 : Int32)))) + (2 : Int32)))), .unset, .unset, .unset, .unset] [.ref b12]))
        refine o_dup X12 hx hby at_121 rfl (q := 122) rfl ?_
        refine o_iconst X12 hx hby at_122 (z := 0) rfl (q := 123) rfl ?_
        refine o_iload X12 hx hby at_123 rfl (q := 125) rfl ?_
        refine o_stV X12 hx hby hZ e12 V_b12 ⟨by decide, by decide⟩ 0 rfl (Nat.le_of_ble_eq_true rfl) at_125 (q := 126) rfl fun T13 h13 X13 e13 W13 V13 => ?_
        refine o_dup X13 hx hby at_126 rfl (q := 127) rfl ?_
        refine o_iconst X13 hx hby at_127 (z := 1) rfl (q := 128) rfl ?_
        refine o_iload X13 hx hby at_128 rfl (q := 130) rfl ?_
        refine o_stV X13 hx hby hZ e13 V13 ⟨by decide, by decide⟩ 1 rfl (Nat.le_of_ble_eq_true rfl) at_130 (q := 131) rfl fun T14 h14 X14 e14 W14 V14 => ?_
        refine o_astore X14 hx hby at_131 rfl (l' := #[iv p0, iv p1, iv p2, iv p3, iv ((p0 &&& (2147483647 : Int32)) % (5 : Int32)), iv 0, iv 0, iv ((p1 &&& (2147483647 : Int32)) % (2 : Int32)), iv (fmax (0 : Int32) ((p1 &&& (2147483647 : Int32)) % (2 : Int32))), iv ((p2 &&& (2147483647 : Int32)) % ((fmax (0 : Int32) ((p1 &&& (2147483647 : Int32)) % (2 : Int32))) + (2 : Int32))), iv (fmax (fmax (0 : Int32) ((p1 &&& (2147483647 : Int32)) % (2 : Int32))) ((p2 &&& (2147483647 : Int32)) % ((fmax (0 : Int32) ((p1 &&& (2147483647 : Int32)) % (2 : Int32))) + (2 : Int32)))), iv ((p3 &&& (2147483647 : Int32)) % ((fmax (fmax (0 : Int32) ((p1 &&& (2147483647 : Int32)) % (2 : Int32))) ((p2 &&& (2147483647 : Int32)) % ((fmax (0 : Int32) ((p1 &&& (2147483647 : Int32)) % (2 : Int32))) + (2 : Int32)))) + (2 : Int32))), iv (fmax (fmax (fmax (0 : Int32) ((p1 &&& (2147483647 : Int32)) % (2 : Int32))) ((p2 &&& (2147483647 : Int32)) % ((fmax (0 : Int32) ((p1 &&& (2147483647 : Int32)) % (2 : Int32))) + (2 : Int32)))) ((p3 &&& (2147483647 : Int32)) % ((fmax (fmax (0 : Int32) ((p1 &&& (2147483647 : Int32)) % (2 : Int32))) ((p2 &&& (2147483647 : Int32)) % ((fmax (0 : Int32) ((p1 &&& (2147483647 : Int32)) % (2 : Int32))) + (2 : Int32)))) + (2 : Int32)))), rv b12, .unset, .unset, .unset]) rfl (q := 133) rfl ?_
        refine o_iload X14 hx hby at_133 rfl (q := 135) rfl ?_
        refine o_iconst X14 hx hby at_135 (z := 1) rfl (q := 136) rfl ?_
        refine o_iadd X14 hx hby at_136 rfl (q := 137) rfl ?_
        refine o_istore X14 hx hby at_137 (l' := #[iv p0, iv p1, iv p2, iv p3, iv ((p0 &&& (2147483647 : Int32)) % (5 : Int32)), iv 0, iv 0, iv ((p1 &&& (2147483647 : Int32)) % (2 : Int32)), iv (fmax (0 : Int32) ((p1 &&& (2147483647 : Int32)) % (2 : Int32))), iv ((p2 &&& (2147483647 : Int32)) % ((fmax (0 : Int32) ((p1 &&& (2147483647 : Int32)) % (2 : Int32))) + (2 : Int32))), iv (fmax (fmax (0 : Int32) ((p1 &&& (2147483647 : Int32)) % (2 : Int32))) ((p2 &&& (2147483647 : Int32)) % ((fmax (0 : Int32) ((p1 &&& (2147483647 : Int32)) % (2 : Int32))) + (2 : Int32)))), iv ((p3 &&& (2147483647 : Int32)) % ((fmax (fmax (0 : Int32) ((p1 &&& (2147483647 : Int32)) % (2 : Int32))) ((p2 &&& (2147483647 : Int32)) % ((fmax (0 : Int32) ((p1 &&& (2147483647 : Int32)) % (2 : Int32))) + (2 : Int32)))) + (2 : Int32))), iv (fmax (fmax (fmax (0 : Int32) ((p1 &&& (2147483647 : Int32)) % (2 : Int32))) ((p2 &&& (2147483647 : Int32)) % ((fmax (0 : Int32) ((p1 &&& (2147483647 : Int32)) % (2 : Int32))) + (2 : Int32)))) ((p3 &&& (2147483647 : Int32)) % ((fmax (fmax (0 : Int32) ((p1 &&& (2147483647 : Int32)) % (2 : Int32))) ((p2 &&& (2147483647 : Int32)) % ((fmax (0 : Int32) ((p1 &&& (2147483647 : Int32)) % (2 : Int32))) + (2 : Int32)))) + (2 : Int32)))), rv b12, iv ((fmax (0 : Int32) ((p1 &&& (2147483647 : Int32)) % (2 : Int32))) + (1 : Int32)), .unset, .unset]) rfl (q := 139) rfl ?_
        refine o_goto X14 hx hby at_139 (by decide) (q := 208) (by decide) ?_
        have q15 := (Nat.le_trans (Nat.le_trans (Nat.le_trans Z0 E12.1) (Keep.of_wr W13).1) (Keep.of_wr W14).1)
        exact sg208 (Q := Q0 Z p0 p1 p2 p3 h0 n0) p0 p1 p2 p3 ((p0 &&& (2147483647 : Int32)) % (5 : Int32)) (0 : Int32) (0 : Int32) ((p1 &&& (2147483647 : Int32)) % (2 : Int32)) (fmax (0 : Int32) ((p1 &&& (2147483647 : Int32)) % (2 : Int32))) ((p2 &&& (2147483647 : Int32)) % ((fmax (0 : Int32) ((p1 &&& (2147483647 : Int32)) % (2 : Int32))) + (2 : Int32))) (fmax (fmax (0 : Int32) ((p1 &&& (2147483647 : Int32)) % (2 : Int32))) ((p2 &&& (2147483647 : Int32)) % ((fmax (0 : Int32) ((p1 &&& (2147483647 : Int32)) % (2 : Int32))) + (2 : Int32)))) ((p3 &&& (2147483647 : Int32)) % ((fmax (fmax (0 : Int32) ((p1 &&& (2147483647 : Int32)) % (2 : Int32))) ((p2 &&& (2147483647 : Int32)) % ((fmax (0 : Int32) ((p1 &&& (2147483647 : Int32)) % (2 : Int32))) + (2 : Int32)))) + (2 : Int32))) (fmax (fmax (fmax (0 : Int32) ((p1 &&& (2147483647 : Int32)) % (2 : Int32))) ((p2 &&& (2147483647 : Int32)) % ((fmax (0 : Int32) ((p1 &&& (2147483647 : Int32)) % (2 : Int32))) + (2 : Int32)))) ((p3 &&& (2147483647 : Int32)) % ((fmax (fmax (0 : Int32) ((p1 &&& (2147483647 : Int32)) % (2 : Int32))) ((p2 &&& (2147483647 : Int32)) % ((fmax (0 : Int32) ((p1 &&& (2147483647 : Int32)) % (2 : Int32))) + (2 : Int32)))) + (2 : Int32)))) b12 ((fmax (0 : Int32) ((p1 &&& (2147483647 : Int32)) % (2 : Int32))) + (1 : Int32)) k12 [(.int (0 : Int32)), (.int ((p1 &&& (2147483647 : Int32)) % (2 : Int32)))] (2 : Int32) h14 n0 (own_more X14 (by decide) (by decide)) hx hZ hw hby hml hown hret hlk (fun _ _ N => ⟨rfl, N⟩) e14 q15 (Fr.snoc X14 (Fr.snoc X13 N3 g_b12) g_b12) V14 (own_q2 (x2 := ((p2 &&& (2147483647 : Int32)) % ((fmax (0 : Int32) ((p1 &&& (2147483647 : Int32)) % (2 : Int32))) + (2 : Int32)))) (x3 := ((p3 &&& (2147483647 : Int32)) % ((fmax (fmax (0 : Int32) ((p1 &&& (2147483647 : Int32)) % (2 : Int32))) ((p2 &&& (2147483647 : Int32)) % ((fmax (0 : Int32) ((p1 &&& (2147483647 : Int32)) % (2 : Int32))) + (2 : Int32)))) + (2 : Int32)))) hc115_11 rfl).1 (own_q2 (x2 := ((p2 &&& (2147483647 : Int32)) % ((fmax (0 : Int32) ((p1 &&& (2147483647 : Int32)) % (2 : Int32))) + (2 : Int32)))) (x3 := ((p3 &&& (2147483647 : Int32)) % ((fmax (fmax (0 : Int32) ((p1 &&& (2147483647 : Int32)) % (2 : Int32))) ((p2 &&& (2147483647 : Int32)) % ((fmax (0 : Int32) ((p1 &&& (2147483647 : Int32)) % (2 : Int32))) + (2 : Int32)))) + (2 : Int32)))) hc115_11 rfl).2
      · skip
        refine o_icY X3 hx hby at_115 (feq hc115_11).2 (by decide) (q := 142) (by decide) ?_
        refine o_iload X3 hx hby at_142 rfl (q := 144) rfl ?_
        refine o_iconst X3 hx hby at_144 (z := 3) rfl (q := 145) rfl ?_
        by_cases hc145_16 : ((p0 &&& (2147483647 : Int32)) % (5 : Int32)) = (3 : Int32)
        · skip
          refine o_icN X3 hx hby at_145 (teq hc145_16).2 (q := 148) rfl ?_
          refine o_iconst X3 hx hby at_148 (z := 3) rfl (q := 149) rfl ?_
          obtain ⟨T17, h17, k17, X17, e17, E17, A17, st17⟩ := newP X3 hx hZ (w_ hw 5 rfl) hh3 (g := (mkF m 149 #[iv p0, iv p1, iv p2, iv p3, iv ((p0 &&& (2147483647 : Int32)) % (5 : Int32)), iv 0, iv 0, iv ((p1 &&& (2147483647 : Int32)) % (2 : Int32)), iv (fmax (0 : Int32) ((p1 &&& (2147483647 : Int32)) % (2 : Int32))), iv ((p2 &&& (2147483647 : Int32)) % ((fmax (0 : Int32) ((p1 &&& (2147483647 : Int32)) % (2 : Int32))) + (2 : Int32))), iv (fmax (fmax (0 : Int32) ((p1 &&& (2147483647 : Int32)) % (2 : Int32))) ((p2 &&& (2147483647 : Int32)) % ((fmax (0 : Int32) ((p1 &&& (2147483647 : Int32)) % (2 : Int32))) + (2 : Int32)))), iv ((p3 &&& (2147483647 : Int32)) % ((fmax (fmax (0 : Int32) ((p1 &&& (2147483647 : Int32)) % (2 : Int32))) ((p2 &&& (2147483647 : Int32)) % ((fmax (0 : Int32) ((p1 &&& (2147483647 : Int32)) % (2 : Int32))) + (2 : Int32)))) + (2 : Int32))), iv (fmax (fmax (fmax (0 : Int32) ((p1 &&& (2147483647 : Int32)) % (2 : Int32))) ((p2 &&& (2147483647 : Int32)) % ((fmax (0 : Int32) ((p1 &&& (2147483647 : Int32)) % (2 : Int32))) + (2 : Int32)))) ((p3 &&& (2147483647 : Int32)) % ((fmax (fmax (0 : Int32) ((p1 &&& (2147483647 : Int32)) % (2 : Int32))) ((p2 &&& (2147483647 : Int32)) % ((fmax (0 : Int32) ((p1 &&& (2147483647 : Int32)) % (2 : Int32))) + (2 : Int32)))) + (2 : Int32)))), .unset, .unset, .unset, .unset] [.int 3])) rfl (hb hby at_149) rfl (by decide) (cap := 3) (by decide) (by decide) (by decide) (by decide)
          obtain ⟨b17, g17⟩ : ∃ z, z = h0.size := ⟨_, rfl⟩
          rw [← g17] at A17 st17
          have g_b17 : n0 ≤ b17 := Nat.le_trans Z0 (Nat.le_of_eq g17.symm)
          have V_b17 : Arv Z h17 b17 k17 .int (3 : Int32) [(.int (0 : Int32)), (.int (0 : Int32)), (.int (0 : Int32))] (.int (0 : Int32)) := (Arv.new A17 (by decide)).pad (pad_rep [] (.int (0 : Int32)) 3)
          refine own_of st17 ?_
          show own_Out p e below _ (T17.setTop (mkF m 151 #[iv p0, iv p1, iv p2, iv p3, iv ((p0 &&& (2147483647 : Int32)) % (5 : Int32)), iv 0, iv 0, iv ((p1 &&& (2147483647 : Int32)) % (2 : Int32)), iv (fmax (0 : Int32) ((p1 &&& (2147483647 : Int32)) % (2 : Int32))), iv ((p2 &&& (2147483647 : Int32)) % ((fmax (0 : Int32) ((p1 &&& (2147483647 : Int32)) % (2 : Int32))) + (2 : Int32))), iv (fmax (fmax (0 : Int32) ((p1 &&& (2147483647 : Int32)) % (2 : Int32))) ((p2 &&& (2147483647 : Int32)) % ((fmax (0 : Int32) ((p1 &&& (2147483647 : Int32)) % (2 : Int32))) + (2 : Int32)))), iv ((p3 &&& (2147483647 : Int32)) % ((fmax (fmax (0 : Int32) ((p1 &&& (2147483647 : Int32)) % (2 : Int32))) ((p2 &&& (2147483647 : Int32)) % ((fmax (0 : Int32) ((p1 &&& (2147483647 : Int32)) % (2 : Int32))) + (2 : Int32)))) + (2 : Int32))), iv (fmax (fmax (fmax (0 : Int32) ((p1 &&& (2147483647 : Int32)) % (2 : Int32))) ((p2 &&& (2147483647 : Int32)) % ((fmax (0 : Int32) ((p1 &&& (2147483647 : Int32)) % (2 : Int32))) + (2 : Int32)))) ((p3 &&& (2147483647 : Int32)) % ((fmax (fmax (0 : Int32) ((p1 &&& (2147483647 : Int32)) % (2 : Int32))) ((p2 &&& (2147483647 : Int32)) % ((fmax (0 : Int32) ((p1 &&& (2147483647 : Int32)) % (2 : Int32))) + (2 : Int32)))) + (2 : Int32)))), .unset, .unset, .unset, .unset] [.ref b17]))
          refine o_dup X17 hx hby at_151 rfl (q := 152) rfl ?_
          refine o_iconst X17 hx hby at_152 (z := 0) rfl (q := 153) rfl ?_
          refine o_iload X17 hx hby at_153 rfl (q := 155) rfl ?_
          refine o_stV X17 hx hby hZ e17 V_b17 ⟨by decide, by decide⟩ 0 rfl (Nat.le_of_ble_eq_true rfl) at_155 (q := 156) rfl fun T18 h18 X18 e18 W18 V18 => ?_
          refine o_dup X18 hx hby at_156 rfl (q := 157) rfl ?_
          refine o_iconst X18 hx hby at_157 (z := 1) rfl (q := 158) rfl ?_
          refine o_iload X18 hx hby at_158 rfl (q := 160) rfl ?_
          refine o_stV X18 hx hby hZ e18 V18 ⟨by decide, by decide⟩ 1 rfl (Nat.le_of_ble_eq_true rfl) at_160 (q := 161) rfl fun T19 h19 X19 e19 W19 V19 => ?_
          refine o_dup X19 hx hby at_161 rfl (q := 162) rfl ?_
          refine o_iconst X19 hx hby at_162 (z := 2) rfl (q := 163) rfl ?_
          refine o_iload X19 hx hby at_163 rfl (q := 165) rfl ?_
          refine o_stV X19 hx hby hZ e19 V19 ⟨by decide, by decide⟩ 2 rfl (Nat.le_of_ble_eq_true rfl) at_165 (q := 166) rfl fun T20 h20 X20 e20 W20 V20 => ?_
          refine o_astore X20 hx hby at_166 rfl (l' := #[iv p0, iv p1, iv p2, iv p3, iv ((p0 &&& (2147483647 : Int32)) % (5 : Int32)), iv 0, iv 0, iv ((p1 &&& (2147483647 : Int32)) % (2 : Int32)), iv (fmax (0 : Int32) ((p1 &&& (2147483647 : Int32)) % (2 : Int32))), iv ((p2 &&& (2147483647 : Int32)) % ((fmax (0 : Int32) ((p1 &&& (2147483647 : Int32)) % (2 : Int32))) + (2 : Int32))), iv (fmax (fmax (0 : Int32) ((p1 &&& (2147483647 : Int32)) % (2 : Int32))) ((p2 &&& (2147483647 : Int32)) % ((fmax (0 : Int32) ((p1 &&& (2147483647 : Int32)) % (2 : Int32))) + (2 : Int32)))), iv ((p3 &&& (2147483647 : Int32)) % ((fmax (fmax (0 : Int32) ((p1 &&& (2147483647 : Int32)) % (2 : Int32))) ((p2 &&& (2147483647 : Int32)) % ((fmax (0 : Int32) ((p1 &&& (2147483647 : Int32)) % (2 : Int32))) + (2 : Int32)))) + (2 : Int32))), iv (fmax (fmax (fmax (0 : Int32) ((p1 &&& (2147483647 : Int32)) % (2 : Int32))) ((p2 &&& (2147483647 : Int32)) % ((fmax (0 : Int32) ((p1 &&& (2147483647 : Int32)) % (2 : Int32))) + (2 : Int32)))) ((p3 &&& (2147483647 : Int32)) % ((fmax (fmax (0 : Int32) ((p1 &&& (2147483647 : Int32)) % (2 : Int32))) ((p2 &&& (2147483647 : Int32)) % ((fmax (0 : Int32) ((p1 &&& (2147483647 : Int32)) % (2 : Int32))) + (2 : Int32)))) + (2 : Int32)))), rv b17, .unset, .unset, .unset]) rfl (q := 168) rfl ?_
          refine o_iload X20 hx hby at_168 rfl (q := 170) rfl ?_
          refine o_iconst X20 hx hby at_170 (z := 1) rfl (q := 171) rfl ?_
          refine o_iadd X20 hx hby at_171 rfl (q := 172) rfl ?_
          refine o_istore X20 hx hby at_172 (l' := #[iv p0, iv p1, iv p2, iv p3, iv ((p0 &&& (2147483647 : Int32)) % (5 : Int32)), iv 0, iv 0, iv ((p1 &&& (2147483647 : Int32)) % (2 : Int32)), iv (fmax (0 : Int32) ((p1 &&& (2147483647 : Int32)) % (2 : Int32))), iv ((p2 &&& (2147483647 : Int32)) % ((fmax (0 : Int32) ((p1 &&& (2147483647 : Int32)) % (2 : Int32))) + (2 : Int32))), iv (fmax (fmax (0 : Int32) ((p1 &&& (2147483647 : Int32)) % (2 : Int32))) ((p2 &&& (2147483647 : Int32)) % ((fmax (0 : Int32) ((p1 &&& (2147483647 : Int32)) % (2 : Int32))) + (2 : Int32)))), iv ((p3 &&& (2147483647 : Int32)) % ((fmax (fmax (0 : Int32) ((p1 &&& (2147483647 : Int32)) % (2 : Int32))) ((p2 &&& (2147483647 : Int32)) % ((fmax (0 : Int32) ((p1 &&& (2147483647 : Int32)) % (2 : Int32))) + (2 : Int32)))) + (2 : Int32))), iv (fmax (fmax (fmax (0 : Int32) ((p1 &&& (2147483647 : Int32)) % (2 : Int32))) ((p2 &&& (2147483647 : Int32)) % ((fmax (0 : Int32) ((p1 &&& (2147483647 : Int32)) % (2 : Int32))) + (2 : Int32)))) ((p3 &&& (2147483647 : Int32)) % ((fmax (fmax (0 : Int32) ((p1 &&& (2147483647 : Int32)) % (2 : Int32))) ((p2 &&& (2147483647 : Int32)) % ((fmax (0 : Int32) ((p1 &&& (2147483647 : Int32)) % (2 : Int32))) + (2 : Int32)))) + (2 : Int32)))), rv b17, iv ((fmax (fmax (0 : Int32) ((p1 &&& (2147483647 : Int32)) % (2 : Int32))) ((p2 &&& (2147483647 : Int32)) % ((fmax (0 : Int32) ((p1 &&& (2147483647 : Int32)) % (2 : Int32))) + (2 : Int32)))) + (1 : Int32)), .unset, .unset]) rfl (q := 174) rfl ?_
          refine o_goto X20 hx hby at_174 (by decide) (q := 208) (by decide) ?_
          have q21 := (Nat.le_trans (Nat.le_trans (Nat.le_trans (Nat.le_trans Z0 E17.1) (Keep.of_wr W18).1) (Keep.of_wr W19).1) (Keep.of_wr W20).1)
          exact sg208 (Q := Q0 Z p0 p1 p2 p3 h0 n0) p0 p1 p2 p3 ((p0 &&& (2147483647 : Int32)) % (5 : Int32)) (0 : Int32) (0 : Int32) ((p1 &&& (2147483647 : Int32)) % (2 : Int32)) (fmax (0 : Int32) ((p1 &&& (2147483647 : Int32)) % (2 : Int32))) ((p2 &&& (2147483647 : Int32)) % ((fmax (0 : Int32) ((p1 &&& (2147483647 : Int32)) % (2 : Int32))) + (2 : Int32))) (fmax (fmax (0 : Int32) ((p1 &&& (2147483647 : Int32)) % (2 : Int32))) ((p2 &&& (2147483647 : Int32)) % ((fmax (0 : Int32) ((p1 &&& (2147483647 : Int32)) % (2 : Int32))) + (2 : Int32)))) ((p3 &&& (2147483647 : Int32)) % ((fmax (fmax (0 : Int32) ((p1 &&& (2147483647 : Int32)) % (2 : Int32))) ((p2 &&& (2147483647 : Int32)) % ((fmax (0 : Int32) ((p1 &&& (2147483647 : Int32)) % (2 : Int32))) + (2 : Int32)))) + (2 : Int32))) (fmax (fmax (fmax (0 : Int32) ((p1 &&& (2147483647 : Int32)) % (2 : Int32))) ((p2 &&& (2147483647 : Int32)) % ((fmax (0 : Int32) ((p1 &&& (2147483647 : Int32)) % (2 : Int32))) + (2 : Int32)))) ((p3 &&& (2147483647 : Int32)) % ((fmax (fmax (0 : Int32) ((p1 &&& (2147483647 : Int32)) % (2 : Int32))) ((p2 &&& (2147483647 : Int32)) % ((fmax (0 : Int32) ((p1 &&& (2147483647 : Int32)) % (2 : Int32))) + (2 : Int32)))) + (2 : Int32)))) b17 ((fmax (fmax (0 : Int32) ((p1 &&& (2147483647 : Int32)) % (2 : Int32))) ((p2 &&& (2147483647 : Int32)) % ((fmax (0 : Int32) ((p1 &&& (2147483647 : Int32)) % (2 : Int32))) + (2 : Int32)))) + (1 : Int32)) k17 [(.int (0 : Int32)), (.int ((p1 &&& (2147483647 : Int32)) % (2 : Int32))), (.int ((p2 &&& (2147483647 : Int32)) % ((fmax (0 : Int32) ((p1 &&& (2147483647 : Int32)) % (2 : Int32))) + (2 : Int32))))] (3 : Int32) h20 n0 (own_more X20 (by decide) (by decide)) hx hZ hw hby hml hown hret hlk (fun _ _ N => ⟨rfl, N⟩) e20 q21 (Fr.snoc X20 (Fr.snoc X19 (Fr.snoc X18 N3 g_b17) g_b17) g_b17) V20 (own_q3 (x3 := ((p3 &&& (2147483647 : Int32)) % ((fmax (fmax (0 : Int32) ((p1 &&& (2147483647 : Int32)) % (2 : Int32))) ((p2 &&& (2147483647 : Int32)) % ((fmax (0 : Int32) ((p1 &&& (2147483647 : Int32)) % (2 : Int32))) + (2 : Int32)))) + (2 : Int32)))) hc145_16 rfl rfl).1 (own_q3 (x3 := ((p3 &&& (2147483647 : Int32)) % ((fmax (fmax (0 : Int32) ((p1 &&& (2147483647 : Int32)) % (2 : Int32))) ((p2 &&& (2147483647 : Int32)) % ((fmax (0 : Int32) ((p1 &&& (2147483647 : Int32)) % (2 : Int32))) + (2 : Int32)))) + (2 : Int32)))) hc145_16 rfl rfl).2
        · skip
          refine o_icY X3 hx hby at_145 (feq hc145_16).2 (by decide) (q := 177) (by decide) ?_
          refine o_iconst X3 hx hby at_177 (z := 4) rfl (q := 178) rfl ?_
          obtain ⟨T22, h22, k22, X22, e22, E22, A22, st22⟩ := newP X3 hx hZ (w_ hw 5 rfl) hh3 (g := (mkF m 178 #[iv p0, iv p1, iv p2, iv p3, iv ((p0 &&& (2147483647 : Int32)) % (5 : Int32)), iv 0, iv 0, iv ((p1 &&& (2147483647 : Int32)) % (2 : Int32)), iv (fmax (0 : Int32) ((p1 &&& (2147483647 : Int32)) % (2 : Int32))), iv ((p2 &&& (2147483647 : Int32)) % ((fmax (0 : Int32) ((p1 &&& (2147483647 : Int32)) % (2 : Int32))) + (2 : Int32))), iv (fmax (fmax (0 : Int32) ((p1 &&& (2147483647 : Int32)) % (2 : Int32))) ((p2 &&& (2147483647 : Int32)) % ((fmax (0 : Int32) ((p1 &&& (2147483647 : Int32)) % (2 : Int32))) + (2 : Int32)))), iv ((p3 &&& (2147483647 : Int32)) % ((fmax (fmax (0 : Int32) ((p1 &&& (2147483647 : Int32)) % (2 : Int32))) ((p2 &&& (2147483647 : Int32)) % ((fmax (0 : Int32) ((p1 &&& (2147483647 : Int32)) % (2 : Int32))) + (2 : Int32)))) + (2 : Int32))), iv (fmax (fmax (fmax (0 : Int32) ((p1 &&& (2147483647 : Int32)) % (2 : Int32))) ((p2 &&& (2147483647 : Int32)) % ((fmax (0 : Int32) ((p1 &&& (2147483647 : Int32)) % (2 : Int32))) + (2 : Int32)))) ((p3 &&& (2147483647 : Int32)) % ((fmax (fmax (0 : Int32) ((p1 &&& (2147483647 : Int32)) % (2 : Int32))) ((p2 &&& (2147483647 : Int32)) % ((fmax (0 : Int32) ((p1 &&& (2147483647 : Int32)) % (2 : Int32))) + (2 : Int32)))) + (2 : Int32)))), .unset, .unset, .unset, .unset] [.int 4])) rfl (hb hby at_178) rfl (by decide) (cap := 4) (by decide) (by decide) (by decide) (by decide)
          obtain ⟨b22, g22⟩ : ∃ z, z = h0.size := ⟨_, rfl⟩
          rw [← g22] at A22 st22
          have g_b22 : n0 ≤ b22 := Nat.le_trans Z0 (Nat.le_of_eq g22.symm)
          have V_b22 : Arv Z h22 b22 k22 .int (4 : Int32) [(.int (0 : Int32)), (.int (0 : Int32)), (.int (0 : Int32)), (.int (0 : Int32))] (.int (0 : Int32)) := (Arv.new A22 (by decide)).pad (pad_rep [] (.int (0 : Int32)) 4)
          refine own_of st22 ?_
          show own_Out p e below _ (T22.setTop (mkF m 180 #[iv p0, iv p1, iv p2, iv p3, iv ((p0 &&& (2147483647 : Int32)) % (5 : Int32)), iv 0, iv 0, iv ((p1 &&& (2147483647 : Int32)) % (2 : Int32)), iv (fmax (0 : Int32) ((p1 &&& (2147483647 : Int32)) % (2 : Int32))), iv ((p2 &&& (2147483647 : Int32)) % ((fmax (0 : Int32) ((p1 &&& (2147483647 : Int32)) % (2 : Int32))) + (2 : Int32))), iv (fmax (fmax (0 : Int32) ((p1 &&& (2147483647 : Int32)) % (2 : Int32))) ((p2 &&& (2147483647 : Int32)) % ((fmax (0 : Int32) ((p1 &&& (2147483647 : Int32)) % (2 : Int32))) + (2 : Int32)))), iv ((p3 &&& (2147483647 : Int32)) % ((fmax (fmax (0 : Int32) ((p1 &&& (2147483647 : Int32)) % (2 : Int32))) ((p2 &&& (2147483647 : Int32)) % ((fmax (0 : Int32) ((p1 &&& (2147483647 : Int32)) % (2 : Int32))) + (2 : Int32)))) + (2 : Int32))), iv (fmax (fmax (fmax (0 : Int32) ((p1 &&& (2147483647 : Int32)) % (2 : Int32))) ((p2 &&& (2147483647 : Int32)) % ((fmax (0 : Int32) ((p1 &&& (2147483647 : Int32)) % (2 : Int32))) + (2 : Int32)))) ((p3 &&& (2147483647 : Int32)) % ((fmax (fmax (0 : Int32) ((p1 &&& (2147483647 : Int32)) % (2 : Int32))) ((p2 &&& (2147483647 : Int32)) % ((fmax (0 : Int32) ((p1 &&& (2147483647 : Int32)) % (2 : Int32))) + (2 : Int32)))) + (2 : Int32)))), .unset, .unset, .unset, .unset] [.ref b22]))
          refine o_dup X22 hx hby at_180 rfl (q := 181) rfl ?_
          refine o_iconst X22 hx hby at_181 (z := 0) rfl (q := 182) rfl ?_
          refine o_iload X22 hx hby at_182 rfl (q := 184) rfl ?_
          refine o_stV X22 hx hby hZ e22 V_b22 ⟨by decide, by decide⟩ 0 rfl (Nat.le_of_ble_eq_true rfl) at_184 (q := 185) rfl fun T23 h23 X23 e23 W23 V23 => ?_
          refine o_dup X23 hx hby at_185 rfl (q := 186) rfl ?_
          refine o_iconst X23 hx hby at_186 (z := 1) rfl (q := 187) rfl ?_
          refine o_iload X23 hx hby at_187 rfl (q := 189) rfl ?_
          refine o_stV X23 hx hby hZ e23 V23 ⟨by decide, by decide⟩ 1 rfl (Nat.le_of_ble_eq_true rfl) at_189 (q := 190) rfl fun T24 h24 X24 e24 W24 V24 => ?_
          refine o_dup X24 hx hby at_190 rfl (q := 191) rfl ?_
          refine o_iconst X24 hx hby at_191 (z := 2) rfl (q := 192) rfl ?_
          refine o_iload X24 hx hby at_192 rfl (q := 194) rfl ?_
          refine o_stV X24 hx hby hZ e24 V24 ⟨by decide, by decide⟩ 2 rfl (Nat.le_of_ble_eq_true rfl) at_194 (q := 195) rfl fun T25 h25 X25 e25 W25 V25 => ?_
          refine o_dup X25 hx hby at_195 rfl (q := 196) rfl ?_
          refine o_iconst X25 hx hby at_196 (z := 3) rfl (q := 197) rfl ?_
          refine o_iload X25 hx hby at_197 rfl (q := 199) rfl ?_
          refine o_stV X25 hx hby hZ e25 V25 ⟨by decide, by decide⟩ 3 rfl (Nat.le_of_ble_eq_true rfl) at_199 (q := 200) rfl fun T26 h26 X26 e26 W26 V26 => ?_
          refine o_astore X26 hx hby at_200 rfl (l' := #[iv p0, iv p1, iv p2, iv p3, iv ((p0 &&& (2147483647 : Int32)) % (5 : Int32)), iv 0, iv 0, iv ((p1 &&& (2147483647 : Int32)) % (2 : Int32)), iv (fmax (0 : Int32) ((p1 &&& (2147483647 : Int32)) % (2 : Int32))), iv ((p2 &&& (2147483647 : Int32)) % ((fmax (0 : Int32) ((p1 &&& (2147483647 : Int32)) % (2 : Int32))) + (2 : Int32))), iv (fmax (fmax (0 : Int32) ((p1 &&& (2147483647 : Int32)) % (2 : Int32))) ((p2 &&& (2147483647 : Int32)) % ((fmax (0 : Int32) ((p1 &&& (2147483647 : Int32)) % (2 : Int32))) + (2 : Int32)))), iv ((p3 &&& (2147483647 : Int32)) % ((fmax (fmax (0 : Int32) ((p1 &&& (2147483647 : Int32)) % (2 : Int32))) ((p2 &&& (2147483647 : Int32)) % ((fmax (0 : Int32) ((p1 &&& (2147483647 : Int32)) % (2 : Int32))) + (2 : Int32)))) + (2 : Int32))), iv (fmax (fmax (fmax (0 : Int32) ((p1 &&& (2147483647 : Int32)) % (2 : Int32))) ((p2 &&& (2147483647 : Int32)) % ((fmax (0 : Int32) ((p1 &&& (2147483647 : Int32)) % (2 : Int32))) + (2 : Int32)))) ((p3 &&& (2147483647 : Int32)) % ((fmax (fmax (0 : Int32) ((p1 &&& (2147483647 : Int32)) % (2 : Int32))) ((p2 &&& (2147483647 : Int32)) % ((fmax (0 : Int32) ((p1 &&& (2147483647 : Int32)) % (2 : Int32))) + (2 : Int32)))) + (2 : Int32)))), rv b22, .unset, .unset, .unset]) rfl (q := 202) rfl ?_
          refine o_iload X26 hx hby at_202 rfl (q := 204) rfl ?_
          refine o_iconst X26 hx hby at_204 (z := 1) rfl (q := 205) rfl ?_
          refine o_iadd X26 hx hby at_205 rfl (q := 206) rfl ?_
          refine o_istore X26 hx hby at_206 (l' := #[iv p0, iv p1, iv p2, iv p3, iv ((p0 &&& (2147483647 : Int32)) % (5 : Int32)), iv 0, iv 0, iv ((p1 &&& (2147483647 : Int32)) % (2 : Int32)), iv (fmax (0 : Int32) ((p1 &&& (2147483647 : Int32)) % (2 : Int32))), iv ((p2 &&& (2147483647 : Int32)) % ((fmax (0 : Int32) ((p1 &&& (2147483647 : Int32)) % (2 : Int32))) + (2 : Int32))), iv (fmax (fmax (0 : Int32) ((p1 &&& (2147483647 : Int32)) % (2 : Int32))) ((p2 &&& (2147483647 : Int32)) % ((fmax (0 : Int32) ((p1 &&& (2147483647 : Int32)) % (2 : Int32))) + (2 : Int32)))), iv ((p3 &&& (2147483647 : Int32)) % ((fmax (fmax (0 : Int32) ((p1 &&& (2147483647 : Int32)) % (2 : Int32))) ((p2 &&& (2147483647 : Int32)) % ((fmax (0 : Int32) ((p1 &&& (2147483647 : Int32)) % (2 : Int32))) + (2 : Int32)))) + (2 : Int32))), iv (fmax (fmax (fmax (0 : Int32) ((p1 &&& (2147483647 : Int32)) % (2 : Int32))) ((p2 &&& (2147483647 : Int32)) % ((fmax (0 : Int32) ((p1 &&& (2147483647 : Int32)) % (2 : Int32))) + (2 : Int32)))) ((p3 &&& (2147483647 : Int32)) % ((fmax (fmax (0 : Int32) ((p1 &&& (2147483647 : Int32)) % (2 : Int32))) ((p2 &&& (2147483647 : Int32)) % ((fmax (0 : Int32) ((p1 &&& (2147483647 : Int32)) % (2 : Int32))) + (2 : Int32)))) + (2 : Int32)))), rv b22, iv ((fmax (fmax (fmax (0 : Int32) ((p1 &&& (2147483647 : Int32)) % (2 : Int32))) ((p2 &&& (2147483647 : Int32)) % ((fmax (0 : Int32) ((p1 &&& (2147483647 : Int32)) % (2 : Int32))) + (2 : Int32)))) ((p3 &&& (2147483647 : Int32)) % ((fmax (fmax (0 : Int32) ((p1 &&& (2147483647 : Int32)) % (2 : Int32))) ((p2 &&& (2147483647 : Int32)) % ((fmax (0 : Int32) ((p1 &&& (2147483647 : Int32)) % (2 : Int32))) + (2 : Int32)))) + (2 : Int32)))) + (1 : Int32)), .unset, .unset]) rfl (q := 208) rfl ?_
          have q27 := (Nat.le_trans (Nat.le_trans (Nat.le_trans (Nat.le_trans (Nat.le_trans Z0 E22.1) (Keep.of_wr W23).1) (Keep.of_wr W24).1) (Keep.of_wr W25).1) (Keep.of_wr W26).1)
          exact sg208 (Q := Q0 Z p0 p1 p2 p3 h0 n0) p0 p1 p2 p3 ((p0 &&& (2147483647 : Int32)) % (5 : Int32)) (0 : Int32) (0 : Int32) ((p1 &&& (2147483647 : Int32)) % (2 : Int32)) (fmax (0 : Int32) ((p1 &&& (2147483647 : Int32)) % (2 : Int32))) ((p2 &&& (2147483647 : Int32)) % ((fmax (0 : Int32) ((p1 &&& (2147483647 : Int32)) % (2 : Int32))) + (2 : Int32))) (fmax (fmax (0 : Int32) ((p1 &&& (2147483647 : Int32)) % (2 : Int32))) ((p2 &&& (2147483647 : Int32)) % ((fmax (0 : Int32) ((p1 &&& (2147483647 : Int32)) % (2 : Int32))) + (2 : Int32)))) ((p3 &&& (2147483647 : Int32)) % ((fmax (fmax (0 : Int32) ((p1 &&& (2147483647 : Int32)) % (2 : Int32))) ((p2 &&& (2147483647 : Int32)) % ((fmax (0 : Int32) ((p1 &&& (2147483647 : Int32)) % (2 : Int32))) + (2 : Int32)))) + (2 : Int32))) (fmax (fmax (fmax (0 : Int32) ((p1 &&& (2147483647 : Int32)) % (2 : Int32))) ((p2 &&& (2147483647 : Int32)) % ((fmax (0 : Int32) ((p1 &&& (2147483647 : Int32)) % (2 : Int32))) + (2 : Int32)))) ((p3 &&& (2147483647 : Int32)) % ((fmax (fmax (0 : Int32) ((p1 &&& (2147483647 : Int32)) % (2 : Int32))) ((p2 &&& (2147483647 : Int32)) % ((fmax (0 : Int32) ((p1 &&& (2147483647 : Int32)) % (2 : Int32))) + (2 : Int32)))) + (2 : Int32)))) b22 ((fmax (fmax (fmax (0 : Int32) ((p1 &&& (2147483647 : Int32)) % (2 : Int32))) ((p2 &&& (2147483647 : Int32)) % ((fmax (0 : Int32) ((p1 &&& (2147483647 : Int32)) % (2 : Int32))) + (2 : Int32)))) ((p3 &&& (2147483647 : Int32)) % ((fmax (fmax (0 : Int32) ((p1 &&& (2147483647 : Int32)) % (2 : Int32))) ((p2 &&& (2147483647 : Int32)) % ((fmax (0 : Int32) ((p1 &&& (2147483647 : Int32)) % (2 : Int32))) + (2 : Int32)))) + (2 : Int32)))) + (1 : Int32)) k22 [(.int (0 : Int32)), (.int ((p1 &&& (2147483647 : Int32)) % (2 : Int32))), (.int ((p2 &&& (2147483647 : Int32)) % ((fmax (0 : Int32) ((p1 &&& (2147483647 : Int32)) % (2 : Int32))) + (2 : Int32)))), (.int ((p3 &&& (2147483647 : Int32)) % ((fmax (fmax (0 : Int32) ((p1 &&& (2147483647 : Int32)) % (2 : Int32))) ((p2 &&& (2147483647 : Int32)) % ((fmax (0 : Int32) ((p1 &&& (2147483647 : Int32)) % (2 : Int32))) + (2 : Int32)))) + (2 : Int32))))] (4 : Int32) h26 n0 X26 hx hZ hw hby hml hown hret hlk (fun _ _ N => ⟨rfl, N⟩) e26 q27 (Fr.snoc X26 (Fr.snoc X25 (Fr.snoc X24 (Fr.snoc X23 N3 g_b22) g_b22) g_b22) g_b22) V26 (own_q4 (own_n4 rfl hc76_4 hc93_7 hc115_11 hc145_16) rfl rfl rfl).1 (own_q4 (own_n4 rfl hc76_4 hc93_7 hc115_11 hc145_16) rfl rfl rfl).2
set_option maxRecDepth 65536 in
set_option maxHeartbeats 40000000 in
theorem comes_1 {Post : Tables → Env → Array Value → State → Outcome → State → Prop} (hpost : ∀ tb e args s v u, (limb_1_1.after args s (.returned v) u = true ∧ limb_1_2.after args s (.returned v) u = true ∧ True) → ReturnedEndW s (.returned v) u (Jvm.fieldLocs frame_1_writes args s ++ Jvm.arrayLocs frame_1_arrays args s ++ Jvm.staticLocs frame_1_statics s) 32 1152 → Post tb e args s (.returned v) u) :
    ArmFor flags0 classFile x code maxLocals ret World_1 tables_1 room_1 Calls_1 rest_1 Pre_1 Post := by
  intro l hfl _ _ p e ha hc hk s m args below hf hA hF happ hP
  obtain ⟨hcalls, hrest, hpre⟩ := hP
  obtain ⟨-, -, -, hnamed, -, -, -, hat⟩ := (Spec.applies_iff hf).mp happ
  obtain ⟨hg, hn⟩ := and_e (Cond.before_iff.mp (show (Jvm.Cond.and given_1 narrow_1).before args s = true from hpre))
  obtain ⟨g1, g2⟩ := and_e hg
  obtain ⟨g3, g4⟩ := and_e g2
  obtain ⟨g5, g6⟩ := and_e g4
  obtain ⟨g7, g8⟩ := and_e g6
  obtain ⟨w0, w1, w2, w3, rfl⟩ : ∃ w0 w1 w2 w3 : Value, args = #[w0, w1, w2, w3] := by
    have hs : args.size = 4 := by simpa [Cond.value, given_1] using g1
    obtain ⟨L⟩ := args
    match L, hs with
    | [w0, w1, w2, w3], _ => exact ⟨w0, w1, w2, w3, rfl⟩
  have hw := fun d (hd : d ∈ tables_1) => atoms_spec (ws := Jvm.Cond.code x code maxLocals ret :: tables_1) hat d (List.mem_cons_of_mem _ hd)
  have hfit : Fit s := fun {y c} hc i hi => by
    obtain ⟨ha, rfl⟩ := Array.getElem?_eq_some_iff.mp hc
    have q := List.all_eq_true.mp ((Array.all_eq_true_iff_forall_mem.mp hF) _ (Array.getElem_mem ha)) i (List.mem_range.mpr hi)
    simpa [Array.getElem?_eq_getElem hi] using q
  obtain ⟨i0, ei0⟩ := is_v g3
  obtain rfl : w0 = (.int i0) := Option.some.inj ei0
  obtain ⟨i1, ei1⟩ := is_v g5
  obtain rfl : w1 = (.int i1) := Option.some.inj ei1
  obtain ⟨i2, ei2⟩ := is_v g7
  obtain rfl : w2 = (.int i2) := Option.some.inj ei2
  obtain ⟨i3, ei3⟩ := is_v g8
  obtain rfl : w3 = (.int i3) := Option.some.inj ei3
  obtain ⟨n, o, h1, h2, h3, _, L, rfl, ⟨rfl, N⟩, hq⟩ := rm0 l s _ hw tables_1 i0 i1 i2 i3 s.heap s.heap.size (Nat.le_refl _)  p e ha hc hk s m _ below hf ((Spec.applies_iff_loose hf).mp happ).1 ⟨rfl, State.Warmed39.refl s, rfl⟩ trivial
  refine ⟨n, _, h1, h2, h3, hpost _ _ _ _ _ _ ⟨Cond.after_iff.mpr rfl, Cond.after_iff.mpr (eq_i res_at (Term.int_eval (1)) rfl), trivial⟩ ⟨hq.1, hq.2.1, hq.2.2.1, (hq.2.2.2.sift fun y hy => Or.inr (N y hy)).mono (by decide) (by decide)⟩⟩
theorem main_1_1 : Claimed_1_1 := comes_1 fun _ _ _ _ _ _ h hF => ⟨h.1, hF⟩
theorem main_1_2 : Claimed_1_2 := comes_1 fun _ _ _ _ _ _ h hF => ⟨h.2.1, hF⟩
end Jvm.Pilot.@@N@@
namespace Jvm.Pilot.@@N@@
open Jvm Jvm.ClassFile Sem Op Lib Jvm.Free Jvm.Stand Jvm.Pilot.@@N@@.Jvm.D
/-! MADE BY PROGRAM (witnessworld.py) out of the Statement's table words and the real class files: 16 classes; the members and pool entries that the words name. The judged class is class 1, her method 1. -/
namespace start1
open Jvm.ClassFile
def u (s : String) : CpInfo := .utf8 (stringToUtf16 s)
/-- a pool by its gaps: so many unusable entries, then the entry; so many at the end -/
def gap : Nat → List CpInfo → List CpInfo
  | 0, r => r
  | n + 1, r => .unusable :: gap n r
def poolList (es : List (Nat × CpInfo)) (last : Nat) : List CpInfo := es.foldr (fun e r => gap e.1 (e.2 :: r)) (gap last [])
def pool (es : List (Nat × CpInfo)) (last : Nat) : Array CpInfo := ⟨poolList es last⟩
def fileOf (pool : Array CpInfo) (this : Nat) (attrs : Array Attribute := #[]) (ms : Array MethodInfo := #[]) (fl : Nat := 33) (sup : Nat := 0) (ifs : Array Nat := #[]) (fds : Array FieldInfo := #[]) : ClassFile where
  minorVersion := 0
  majorVersion := 65
  constantPool := pool
  accessFlags := fl
  thisClass := this
  superClass := sup
  interfaces := ifs
  fields := fds
  methods := ms
  attributes := attrs
def plain (name : String) (sup : Option ClassId) : Class where
  name := name
  kind := .ordinary
  loader := none
  accessFlags := 33
  super := sup
  interfaces := #[]
  cf := none
  fields := #[]
  methods := #[]
  instanceTypes := #[]
  staticTypes := #[]
  resolved := #[]
  callSites := []
  init := .initialized
  statics := none
  mirror := none

def pool0 : Array CpInfo := pool [(5, u "<init>"), (0, u "()V"), (1, .class_ 10), (1, u "java/lang/Object")] 113

def k0c0 : Code := { maxStack := 0, maxLocals := 1, code := object_method_1_code, exceptionTable := #[], attributes := #[] }
def k0m0 : Method := { name := "<init>", desc := "()V", sig := { parameters := [], returnType := none }, accessFlags := 1, code := some k0c0 }
/-- java/lang/Object -/
def k0 : Class := { plain "java/lang/Object" none with
  accessFlags := 33
  interfaces := #[]
  cf := some (fileOf pool0 8 #[] #[{ accessFlags := 1, nameIndex := 5, descriptorIndex := 6, attributes := #[] }] 33 0 #[] #[])
  fields := #[]
  methods := #[k0m0]
  instanceTypes := #[]
  staticTypes := #[]
  resolved := Array.replicate 124 none
  statics := none }

def pool1 : Array CpInfo := pool [(2, .class_ 4), (1, u "java/lang/Object"), (0, u "<init>"), (0, u "()V"), (0, .integer 2147483647), (0, .methodref 9 10), (0, .class_ 11), (0, .nameAndType 12 13), (0, u "java/lang/Math"), (0, u "max"), (0, u "(II)I"), (0, .methodref 15 16), (0, .class_ 17), (0, .nameAndType 18 19), (0, u "com/example/slimc/slimc/game/ObservationSeparatesAllPinLaw"), (0, u "allDistinct"), (0, u "(IIIII)Z"), (0, .class_ 21), (0, u "com/example/slimc/slimc/game/Observation"), (0, .string 23), (0, u "o"), (0, .methodref 20 25), (0, .nameAndType 5 26), (0, u "(Ljava/lang/String;[II)V"), (0, .methodref 20 28), (0, .nameAndType 29 30), (0, u "separatesAll"), (0, u "()Z"), (2, u "law"), (0, u "(IIII)Z")] 5

def k1m0 : Method := { name := "<init>", desc := "()V", sig := { parameters := [], returnType := none }, accessFlags := 1, code := none }
def k1c1 : Code := { maxStack := 5, maxLocals := 17, code := code, exceptionTable := #[], attributes := #[] }
def k1m1 : Method := { name := "law", desc := "(IIII)Z", sig := { parameters := [.int, .int, .int, .int], returnType := some .boolean }, accessFlags := 9, code := some k1c1 }
def k1c2 : Code := { maxStack := 2, maxLocals := 6, code := method_3_code, exceptionTable := #[], attributes := #[] }
def k1m2 : Method := { name := "allDistinct", desc := "(IIIII)Z", sig := { parameters := [.int, .int, .int, .int, .int], returnType := some .boolean }, accessFlags := 10, code := some k1c2 }
/-- com/example/slimc/slimc/game/ObservationSeparatesAllPinLaw -/
def k1 : Class := { plain "com/example/slimc/slimc/game/ObservationSeparatesAllPinLaw" (some 0) with
  accessFlags := 49
  interfaces := #[]
  cf := some (fileOf pool1 15 #[] #[{ accessFlags := 1, nameIndex := 5, descriptorIndex := 6, attributes := #[] }, { accessFlags := 9, nameIndex := 33, descriptorIndex := 34, attributes := #[] }, { accessFlags := 10, nameIndex := 18, descriptorIndex := 19, attributes := #[] }] 49 2 #[] #[])
  fields := #[]
  methods := #[k1m0, k1m1, k1m2]
  instanceTypes := #[]
  staticTypes := #[]
  resolved := Array.replicate 40 none
  statics := none }

def pool2 : Array CpInfo := pool [(1, .class_ 2), (0, u "java/lang/Math"), (1, .class_ 6), (1, u "java/lang/Object"), (0, u "<init>"), (0, u "()V"), (89, .class_ 100), (1, u "java/lang/Math$RandomNumberGeneratorHolder"), (71, u "negativeZeroFloatBits"), (0, u "J"), (2, u "negativeZeroDoubleBits"), (21, u "max"), (46, u "$assertionsDisabled"), (0, u "Z"), (88, u "(II)I"), (2, u "twoToTheDoubleScaleDown"), (0, u "D"), (4, u "twoToTheDoubleScaleUp"), (9, u "E"), (3, u "PI"), (2, u "TAU"), (2, u "DEGREES_TO_RADIANS"), (0, u "RADIANS_TO_DEGREES")] 94

def k2m0 : Method := { name := "<init>", desc := "()V", sig := { parameters := [], returnType := none }, accessFlags := 2, code := none }
def k2c1 : Code := { maxStack := 2, maxLocals := 2, code := jdk_29_method_65_code, exceptionTable := #[], attributes := #[] }
def k2m1 : Method := { name := "max", desc := "(II)I", sig := { parameters := [.int, .int], returnType := some .int }, accessFlags := 9, code := some k2c1 }
/-- java/lang/Math -/
def k2 : Class := { plain "java/lang/Math" (some 0) with
  accessFlags := 49
  interfaces := #[]
  cf := some (fileOf pool2 1 #[.nestMembers #[98]] #[{ accessFlags := 2, nameIndex := 7, descriptorIndex := 8, attributes := #[] }, { accessFlags := 9, nameIndex := 198, descriptorIndex := 335, attributes := #[] }] 49 4 #[] #[{ accessFlags := 25, nameIndex := 354, descriptorIndex := 339, attributes := #[] }, { accessFlags := 25, nameIndex := 358, descriptorIndex := 339, attributes := #[] }, { accessFlags := 25, nameIndex := 361, descriptorIndex := 339, attributes := #[] }, { accessFlags := 26, nameIndex := 364, descriptorIndex := 339, attributes := #[] }, { accessFlags := 26, nameIndex := 365, descriptorIndex := 339, attributes := #[] }, { accessFlags := 26, nameIndex := 172, descriptorIndex := 173, attributes := #[] }, { accessFlags := 26, nameIndex := 176, descriptorIndex := 173, attributes := #[] }, { accessFlags := 8, nameIndex := 344, descriptorIndex := 339, attributes := #[] }, { accessFlags := 8, nameIndex := 338, descriptorIndex := 339, attributes := #[] }, { accessFlags := 4120, nameIndex := 245, descriptorIndex := 246, attributes := #[] }])
  fields := #[{ name := "E", type := .double, accessFlags := 25, slot := 0, constantValue := 0 }, { name := "PI", type := .double, accessFlags := 25, slot := 1, constantValue := 0 }, { name := "TAU", type := .double, accessFlags := 25, slot := 2, constantValue := 0 }, { name := "DEGREES_TO_RADIANS", type := .double, accessFlags := 26, slot := 3, constantValue := 0 }, { name := "RADIANS_TO_DEGREES", type := .double, accessFlags := 26, slot := 4, constantValue := 0 }, { name := "negativeZeroFloatBits", type := .long, accessFlags := 26, slot := 5, constantValue := 0 }, { name := "negativeZeroDoubleBits", type := .long, accessFlags := 26, slot := 6, constantValue := 0 }, { name := "twoToTheDoubleScaleUp", type := .double, accessFlags := 8, slot := 7, constantValue := 0 }, { name := "twoToTheDoubleScaleDown", type := .double, accessFlags := 8, slot := 8, constantValue := 0 }, { name := "$assertionsDisabled", type := .boolean, accessFlags := 4120, slot := 9, constantValue := 0 }]
  methods := #[k2m0, k2m1]
  instanceTypes := #[]
  staticTypes := #[.double, .double, .double, .double, .double, .long, .long, .double, .double, .boolean]
  resolved := Array.replicate 460 none
  statics := none }

def pool3 : Array CpInfo := pool [(1, .methodref 2 3), (0, .class_ 4), (0, .nameAndType 5 6), (0, u "java/lang/Object"), (0, u "<init>"), (0, u "()V"), (0, .fieldref 8 9), (0, .class_ 10), (0, .nameAndType 11 12), (0, u "com/example/slimc/slimc/game/Observation"), (0, u "name"), (0, u "Ljava/lang/String;"), (0, .fieldref 8 14), (0, .nameAndType 15 16), (0, u "classOf"), (0, u "[I"), (0, .fieldref 8 18), (0, .nameAndType 19 20), (0, u "classCount"), (0, u "I"), (0, .class_ 16), (0, .fieldref 8 23), (0, .nameAndType 24 25), (0, u "classes"), (0, u "[[I"), (33, u "(Ljava/lang/String;[II)V"), (16, u "separatesAll"), (0, u "()Z")] 22

def k3c0 : Code := { maxStack := 6, maxLocals := 9, code := prog_66_method_1_code, exceptionTable := #[], attributes := #[] }
def k3m0 : Method := { name := "<init>", desc := "(Ljava/lang/String;[II)V", sig := { parameters := [(.object "java/lang/String"), (.array .int), .int], returnType := none }, accessFlags := 0, code := some k3c0 }
def k3c1 : Code := { maxStack := 2, maxLocals := 1, code := prog_66_method_9_code, exceptionTable := #[], attributes := #[] }
def k3m1 : Method := { name := "separatesAll", desc := "()Z", sig := { parameters := [], returnType := some .boolean }, accessFlags := 1, code := some k3c1 }
/-- com/example/slimc/slimc/game/Observation -/
def k3 : Class := { plain "com/example/slimc/slimc/game/Observation" (some 0) with
  accessFlags := 49
  interfaces := #[]
  cf := some (fileOf pool3 8 #[] #[{ accessFlags := 0, nameIndex := 5, descriptorIndex := 59, attributes := #[] }, { accessFlags := 1, nameIndex := 76, descriptorIndex := 77, attributes := #[] }] 49 2 #[] #[{ accessFlags := 18, nameIndex := 11, descriptorIndex := 12, attributes := #[] }, { accessFlags := 18, nameIndex := 15, descriptorIndex := 16, attributes := #[] }, { accessFlags := 18, nameIndex := 19, descriptorIndex := 20, attributes := #[] }, { accessFlags := 18, nameIndex := 24, descriptorIndex := 25, attributes := #[] }])
  fields := #[{ name := "name", type := (.object "java/lang/String"), accessFlags := 18, slot := 0, constantValue := 0 }, { name := "classOf", type := (.array .int), accessFlags := 18, slot := 1, constantValue := 0 }, { name := "classCount", type := .int, accessFlags := 18, slot := 2, constantValue := 0 }, { name := "classes", type := (.array (.array .int)), accessFlags := 18, slot := 3, constantValue := 0 }]
  methods := #[k3m0, k3m1]
  instanceTypes := #[(.object "java/lang/String"), (.array .int), .int, (.array (.array .int))]
  staticTypes := #[]
  resolved := Array.replicate 100 none
  statics := none }

def pool4 : Array CpInfo := pool [(1, .class_ 2), (0, u "java/io/Serializable"), (0, .class_ 4), (0, u "java/lang/Object")] 2

/-- java/io/Serializable -/
def k4 : Class := { plain "java/io/Serializable" (some 0) with
  accessFlags := 1537
  interfaces := #[]
  cf := some (fileOf pool4 1 #[] #[] 1537 3 #[] #[])
  fields := #[]
  methods := #[]
  instanceTypes := #[]
  staticTypes := #[]
  resolved := Array.replicate 7 none
  statics := none }

def pool5 : Array CpInfo := pool [(1, .class_ 2), (0, u "java/lang/Comparable"), (0, .class_ 4), (0, u "java/lang/Object")] 7

/-- java/lang/Comparable -/
def k5 : Class := { plain "java/lang/Comparable" (some 0) with
  accessFlags := 1537
  interfaces := #[]
  cf := some (fileOf pool5 1 #[] #[] 1537 3 #[] #[])
  fields := #[]
  methods := #[]
  instanceTypes := #[]
  staticTypes := #[]
  resolved := Array.replicate 12 none
  statics := none }

def pool6 : Array CpInfo := pool [(2, .class_ 4), (1, u "java/lang/CharSequence"), (42, .class_ 48), (0, u "java/lang/CharSequence$1CodePointIterator"), (10, .class_ 60), (0, u "java/lang/CharSequence$1CharIterator"), (5, .class_ 67), (0, u "java/lang/Object")] 63

/-- java/lang/CharSequence -/
def k6 : Class := { plain "java/lang/CharSequence" (some 0) with
  accessFlags := 1537
  interfaces := #[]
  cf := some (fileOf pool6 2 #[.nestMembers #[47, 59]] #[] 1537 66 #[] #[])
  fields := #[]
  methods := #[]
  instanceTypes := #[]
  staticTypes := #[]
  resolved := Array.replicate 131 none
  statics := none }

def pool7 : Array CpInfo := pool [(1, .class_ 2), (0, u "java/lang/constant/Constable"), (0, .class_ 4), (0, u "java/lang/Object")] 6

/-- java/lang/constant/Constable -/
def k7 : Class := { plain "java/lang/constant/Constable" (some 0) with
  accessFlags := 1537
  interfaces := #[]
  cf := some (fileOf pool7 1 #[] #[] 1537 3 #[] #[])
  fields := #[]
  methods := #[]
  instanceTypes := #[]
  staticTypes := #[]
  resolved := Array.replicate 11 none
  statics := none }

def pool8 : Array CpInfo := pool [(1, .class_ 2), (0, u "java/lang/constant/ConstantDesc"), (0, .class_ 4), (0, u "java/lang/Object")] 32

/-- java/lang/constant/ConstantDesc -/
def k8 : Class := { plain "java/lang/constant/ConstantDesc" (some 0) with
  accessFlags := 1537
  interfaces := #[]
  cf := some (fileOf pool8 1 #[] #[] 1537 3 #[] #[])
  fields := #[]
  methods := #[]
  instanceTypes := #[]
  staticTypes := #[]
  resolved := Array.replicate 37 none
  statics := none }

def pool9 : Array CpInfo := pool [(2, .class_ 4), (1, u "java/lang/Object"), (0, u "<init>"), (0, u "()V"), (3, .class_ 12), (1, u "java/lang/String"), (0, u "value"), (0, u "[B"), (2, u "coder"), (0, u "B"), (2, u "hash"), (0, u "I"), (2, u "hashIsZero"), (0, u "Z"), (13, u "COMPACT_STRINGS"), (534, .class_ 576), (0, u "java/lang/CharSequence"), (22, u "CASE_INSENSITIVE_ORDER"), (0, u "Ljava/util/Comparator;"), (500, u "serialPersistentFields"), (0, u "[Ljava/io/ObjectStreamField;"), (0, .class_ 1104), (0, u "java/lang/String$CaseInsensitiveComparator"), (1, .class_ 1107), (0, u "java/io/Serializable"), (0, .class_ 1109), (0, u "java/lang/Comparable"), (0, .class_ 1111), (0, u "java/lang/constant/Constable"), (0, .class_ 1113), (0, u "java/lang/constant/ConstantDesc"), (2, u "serialVersionUID"), (0, u "J"), (3, u "REPL"), (0, u "C"), (2, u "LATIN1"), (1, u "UTF16")] 323

def k9m0 : Method := { name := "<init>", desc := "()V", sig := { parameters := [], returnType := none }, accessFlags := 1, code := none }
/-- java/lang/String -/
def k9 : Class := { plain "java/lang/String" (some 0) with
  accessFlags := 49
  interfaces := #[4, 5, 6, 7, 8]
  cf := some (fileOf pool9 10 #[.nestMembers #[1103]] #[{ accessFlags := 1, nameIndex := 5, descriptorIndex := 6, attributes := #[] }] 49 2 #[1106, 1108, 575, 1110, 1112] #[{ accessFlags := 18, nameIndex := 13, descriptorIndex := 14, attributes := #[] }, { accessFlags := 18, nameIndex := 17, descriptorIndex := 18, attributes := #[] }, { accessFlags := 2, nameIndex := 21, descriptorIndex := 22, attributes := #[] }, { accessFlags := 2, nameIndex := 25, descriptorIndex := 26, attributes := #[] }, { accessFlags := 26, nameIndex := 1116, descriptorIndex := 1117, attributes := #[] }, { accessFlags := 24, nameIndex := 40, descriptorIndex := 26, attributes := #[] }, { accessFlags := 26, nameIndex := 1101, descriptorIndex := 1102, attributes := #[] }, { accessFlags := 26, nameIndex := 1121, descriptorIndex := 1122, attributes := #[] }, { accessFlags := 25, nameIndex := 599, descriptorIndex := 600, attributes := #[] }, { accessFlags := 24, nameIndex := 1125, descriptorIndex := 18, attributes := #[] }, { accessFlags := 24, nameIndex := 1127, descriptorIndex := 18, attributes := #[] }])
  fields := #[{ name := "value", type := (.array .byte), accessFlags := 18, slot := 0, constantValue := 0 }, { name := "coder", type := .byte, accessFlags := 18, slot := 1, constantValue := 0 }, { name := "hash", type := .int, accessFlags := 2, slot := 2, constantValue := 0 }, { name := "hashIsZero", type := .boolean, accessFlags := 2, slot := 3, constantValue := 0 }, { name := "serialVersionUID", type := .long, accessFlags := 26, slot := 0, constantValue := 0 }, { name := "COMPACT_STRINGS", type := .boolean, accessFlags := 24, slot := 1, constantValue := 0 }, { name := "serialPersistentFields", type := (.array (.object "java/io/ObjectStreamField")), accessFlags := 26, slot := 2, constantValue := 0 }, { name := "REPL", type := .char, accessFlags := 26, slot := 3, constantValue := 0 }, { name := "CASE_INSENSITIVE_ORDER", type := (.object "java/util/Comparator"), accessFlags := 25, slot := 4, constantValue := 0 }, { name := "LATIN1", type := .byte, accessFlags := 24, slot := 5, constantValue := 0 }, { name := "UTF16", type := .byte, accessFlags := 24, slot := 6, constantValue := 0 }]
  methods := #[k9m0]
  instanceTypes := #[(.array .byte), .byte, .int, .boolean]
  staticTypes := #[.long, .boolean, (.array (.object "java/io/ObjectStreamField")), .char, (.object "java/util/Comparator"), .byte, .byte]
  resolved := Array.replicate 1451 none
  statics := none }

def pool10 : Array CpInfo := pool [(1, u "java/lang/Cloneable"), (0, .class_ 1), (0, u "java/lang/Object"), (0, .class_ 3)] 3

/-- java/lang/Cloneable -/
def k10 : Class := { plain "java/lang/Cloneable" (some 0) with
  accessFlags := 1537
  interfaces := #[]
  cf := some (fileOf pool10 2 #[] #[] 1537 4 #[] #[])
  fields := #[]
  methods := #[]
  instanceTypes := #[]
  staticTypes := #[]
  resolved := Array.replicate 8 none
  statics := none }

/-- the primitive byte -/
def k11 : Class := { plain "byte" none with kind := .primitive 'B', accessFlags := 0x411 }
/-- [B -/
def k12 : Class := { plain "[B" (some 0) with kind := .array 11 .byte, interfaces := #[10, 4], accessFlags := 1041 }

/-- the primitive int -/
def k13 : Class := { plain "int" none with kind := .primitive 'I', accessFlags := 0x411 }
/-- [I -/
def k14 : Class := { plain "[I" (some 0) with kind := .array 13 .int, interfaces := #[10, 4], accessFlags := 1041 }

/-- [[I -/
def k15 : Class := { plain "[[I" (some 0) with kind := .array 14 (.array .int), interfaces := #[10, 4], accessFlags := 1041 }

def heap : Heap := #[]
def classes : Array Class := #[k0, k1, k2, k3, k4, k5, k6, k7, k8, k9, k10, k11, k12, k13, k14, k15]
def interned : List (Array UInt16 × Addr) := []
def slotsUsed : Nat := 0
def theMethod : MethodId := ⟨1, 1⟩
def args0 : Array Value := #[.int 5, .int 7, .int 3, .int 9]
def aboutOver (below : List Frame) : State where
  vm := { classes := classes, interned := interned.toArray }
  heap := heap
  slotsUsed := slotsUsed
  threads := #[{ frames := .invoking theMethod args0 :: below }]
def below0 : List Frame := [.native { method := ⟨0, 0⟩, args := #[] }]
def about1 : State := aboutOver below0
def p0 : Program := .bare "" "" ""
def e0 : Env := launch0.env 0 0 0
theorem w_frames : about1.frames = Frame.invoking theMethod args0 :: below0 := rfl
set_option maxRecDepth 65536 in
theorem w_args : argsFit about1.vm theMethod args0 = true := by decide +kernel
set_option maxRecDepth 65536 in
theorem w_heap : heapFits about1 = true := by decide +kernel
set_option maxRecDepth 65536 in
theorem w_runnable : about1.curStatus? = some .runnable := by decide +kernel
set_option maxRecDepth 65536 in
theorem w_alone : about1.alone = true := by decide +kernel
set_option maxRecDepth 65536 in
theorem w_named : about1.methodNamed? x = some theMethod := by decide +kernel
set_option maxRecDepth 65536 in
theorem w_hears : about1.hears theMethod below0 = true := by decide +kernel
set_option maxRecDepth 65536 in
theorem w_ripe : about1.ripe theMethod args0 below0 = true := by decide +kernel
theorem w_running : about1.status = .running := rfl
set_option maxRecDepth 65536 in
theorem w_room : about1.hasRoom e0.platform room_1 = true :=
  launch0.hasRoom_least _ room_1 (by decide +kernel) (by decide +kernel) (by decide +kernel) (by decide +kernel) (by decide +kernel) (by decide +kernel)
theorem allAtoms_all (ts : List Jvm.Cond) (a : Array Jvm.Value) (st : Jvm.State) : (allAtoms ts).before a st = ts.all (fun c => c.before a st) := by
  induction ts with
  | nil => rfl
  | cons c t ih =>
    show (Jvm.Cond.and c (allAtoms t)).before a st = _
    rw [Jvm.Cond.before_and, ih, List.all_cons]
def words1 : List Jvm.Cond := Jvm.Cond.code x code maxLocals ret :: tables_1
/-- a 'code' word, met by the world's own term for the bytes: nothing is compared byte by byte -/
theorem code_word {y : MethodName} {bytes : ByteArray} {mx : Nat} {rt : Option FieldType} {a : Array Value} {s : State} {m : MethodId} {meth : Method} {c : Code} (h1 : s.methodNamed? y = some m) (h2 : s.vm.method? m = some meth) (h3 : meth.code = some c) (h4 : c.code = bytes)
    (h5 : (c.maxLocals == mx && c.exceptionTable.isEmpty && decide (c.maxStack ≤ mostOperands) && decide (meth.sig.returnType = rt) && !meth.locks && decide (parseMethodDescriptor y.desc = some meth.sig)) = true) : (Jvm.Cond.code y bytes mx rt).before a s = true := by
  simp only [Bool.and_eq_true, beq_iff_eq, Bool.not_eq_true', decide_eq_true_eq] at h5
  obtain ⟨⟨⟨⟨⟨g1, g2⟩, g3⟩, g4⟩, g5⟩, g6⟩ := h5
  simp [Cond.before, Cond.holds, Cond.value, h1, h2, h3, h4, g1, g2, g3, g4, g5, g6]
def isCode : Jvm.Cond → Bool
  | .code _ _ _ _ => true
  | _ => false
theorem all_split {L : List Jvm.Cond} {P : Jvm.Cond → Bool} (h1 : L.all (fun c => isCode c || P c) = true) (h2 : ∀ c ∈ L.filter isCode, P c = true) : L.all P = true := by
  refine List.all_eq_true.mpr fun c hc => ?_
  have h := List.all_eq_true.mp h1 c hc
  rcases Bool.eq_false_or_eq_true (isCode c) with hi | hi
  · exact h2 c (List.mem_filter.mpr ⟨hc, hi⟩)
  · simpa [hi] using h
set_option maxRecDepth 65536 in
theorem w_c0 : (Jvm.Cond.code x code maxLocals ret).before args0 about1 = true := code_word (m := ⟨1, 1⟩) (meth := k1m1) (c := k1c1) (by decide +kernel) rfl rfl rfl (by decide +kernel)
set_option maxRecDepth 65536 in
theorem w_c1 : (Jvm.Cond.code ({ cls := "java/lang/Math", name := "max", desc := "(II)I" } : Jvm.MethodName) jdk_29_method_65_code (2 : Nat) (Option.some Jvm.ClassFile.FieldType.int)).before args0 about1 = true := code_word (m := ⟨2, 1⟩) (meth := k2m1) (c := k2c1) (by decide +kernel) rfl rfl rfl (by decide +kernel)
set_option maxRecDepth 65536 in
theorem w_c2 : (Jvm.Cond.code ({ cls := "com/example/slimc/slimc/game/ObservationSeparatesAllPinLaw", name := "allDistinct", desc := "(IIIII)Z" } : Jvm.MethodName) method_3_code (6 : Nat) (Option.some Jvm.ClassFile.FieldType.boolean)).before args0 about1 = true := code_word (m := ⟨1, 2⟩) (meth := k1m2) (c := k1c2) (by decide +kernel) rfl rfl rfl (by decide +kernel)
set_option maxRecDepth 65536 in
theorem w_c3 : (Jvm.Cond.code ({ cls := "com/example/slimc/slimc/game/Observation", name := "<init>", desc := "(Ljava/lang/String;[II)V" } : Jvm.MethodName) prog_66_method_1_code (9 : Nat) (Option.none : Option Jvm.ClassFile.FieldType)).before args0 about1 = true := code_word (m := ⟨3, 0⟩) (meth := k3m0) (c := k3c0) (by decide +kernel) rfl rfl rfl (by decide +kernel)
set_option maxRecDepth 65536 in
theorem w_c4 : (Jvm.Cond.code ({ cls := "java/lang/Object", name := "<init>", desc := "()V" } : Jvm.MethodName) object_method_1_code (1 : Nat) (Option.none : Option Jvm.ClassFile.FieldType)).before args0 about1 = true := code_word (m := ⟨0, 0⟩) (meth := k0m0) (c := k0c0) (by decide +kernel) rfl rfl rfl (by decide +kernel)
set_option maxRecDepth 65536 in
theorem w_c5 : (Jvm.Cond.code ({ cls := "com/example/slimc/slimc/game/Observation", name := "separatesAll", desc := "()Z" } : Jvm.MethodName) prog_66_method_9_code (1 : Nat) (Option.some Jvm.ClassFile.FieldType.boolean)).before args0 about1 = true := code_word (m := ⟨3, 1⟩) (meth := k3m1) (c := k3c1) (by decide +kernel) rfl rfl rfl (by decide +kernel)
def codes1 : List Jvm.Cond := [Jvm.Cond.code x code maxLocals ret, Jvm.Cond.code ({ cls := "java/lang/Math", name := "max", desc := "(II)I" } : Jvm.MethodName) jdk_29_method_65_code (2 : Nat) (Option.some Jvm.ClassFile.FieldType.int), Jvm.Cond.code ({ cls := "com/example/slimc/slimc/game/ObservationSeparatesAllPinLaw", name := "allDistinct", desc := "(IIIII)Z" } : Jvm.MethodName) method_3_code (6 : Nat) (Option.some Jvm.ClassFile.FieldType.boolean), Jvm.Cond.code ({ cls := "com/example/slimc/slimc/game/Observation", name := "<init>", desc := "(Ljava/lang/String;[II)V" } : Jvm.MethodName) prog_66_method_1_code (9 : Nat) (Option.none : Option Jvm.ClassFile.FieldType), Jvm.Cond.code ({ cls := "java/lang/Object", name := "<init>", desc := "()V" } : Jvm.MethodName) object_method_1_code (1 : Nat) (Option.none : Option Jvm.ClassFile.FieldType), Jvm.Cond.code ({ cls := "com/example/slimc/slimc/game/Observation", name := "separatesAll", desc := "()Z" } : Jvm.MethodName) prog_66_method_9_code (1 : Nat) (Option.some Jvm.ClassFile.FieldType.boolean)]
set_option maxRecDepth 65536 in
theorem codes_eq : words1.filter isCode = codes1 := rfl
theorem w_codes : ∀ c ∈ words1.filter isCode, c.before args0 about1 = true := by
  rw [codes_eq]
  intro c hc
  simp only [codes1, List.mem_cons, List.not_mem_nil, or_false] at hc
  rcases hc with rfl | rfl | rfl | rfl | rfl | rfl
  · exact w_c0
  · exact w_c1
  · exact w_c2
  · exact w_c3
  · exact w_c4
  · exact w_c5
set_option maxRecDepth 65536 in
theorem w_t1 : (words1.take 24).all (fun c => isCode c || c.before args0 about1) = true := by decide +kernel
set_option maxRecDepth 65536 in
theorem w_t2 : (words1.drop 24).all (fun c => isCode c || c.before args0 about1) = true := by decide +kernel
theorem w_tables : (allAtoms (Jvm.Cond.code x code maxLocals ret :: tables_1)).before args0 about1 = true := by
  rw [allAtoms_all]
  show words1.all (fun c => c.before args0 about1) = true
  refine all_split ?_ w_codes
  rw [← List.take_append_drop 24 words1, List.all_append, w_t1, w_t2]
  rfl
set_option maxRecDepth 65536 in
theorem w_case : (Jvm.Cond.and given_1 narrow_1).before args0 about1 = true := by decide +kernel
theorem w_applies : (headSpec (Jvm.Cond.code x code maxLocals ret :: tables_1) room_1).applies x e0.platform about1 = true :=
  (Spec.applies_iff w_frames).mpr ⟨w_running, w_runnable, w_alone, w_named, w_hears, w_ripe, w_room, w_tables⟩
theorem atStart : AtStart classFile x code maxLocals ret World_1 tables_1 room_1 Calls_1 rest_1 Pre_1 launch0 p0 e0 about1 theMethod args0 below0 :=
  ⟨lists_1, trivial, launch0.admits_env _ _ _, launch0.least_env, fairChoices_fair.cas, fairChoices_fair.clock, w_frames, w_args, w_heap, w_applies, trivial, trivial, w_case⟩
end start1
theorem witness_1 : WitnessClaimed_1 := ⟨start1.p0, start1.e0, start1.about1, start1.theMethod, start1.args0, start1.below0, start1.atStart⟩
end Jvm.Pilot.@@N@@
