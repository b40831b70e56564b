import JvmDerived
import JvmDerived.Pilot.@@N@@Statement
import JvmDerived.Pilot.@@N@@Code
set_option linter.unusedVariables false
set_option linter.unusedSimpArgs false
@@BLOCK:NumsL.lean.txt@@
namespace Jvm.RoadKit
open Sem ClassFile Op Lib Jvm.Stand Jvm.Free Jvm.LawKit
/-- from the state S the run comes to an end that P holds of -/
def own_Out (p : Program) (e : Env) (below : List Frame) (P : Outcome → State → Prop) (S : State) : Prop := ∃ s₂ o, Steps p.tables e below S s₂ ∧ s₂.status = .running ∧ Ended s₂ below o ∧ P o s₂
theorem own_of {p : Program} {e : Env} {below : List Frame} {P : Outcome → State → Prop} {S S' : State} (h : ∀ t, Steps p.tables e below S' t → Steps p.tables e below S t) (k : own_Out p e below P S') : own_Out p e below P S := by
  obtain ⟨a, b, c, d⟩ := k
  exact ⟨a, b, h a c, d⟩
section New
variable {p : Program} {l : Launch} {e : Env} {R : Room} {s : State} {m : MethodId} {args : Array Value} {below : List Frame} {meth : Method} {c : Code} {T : State} {locs : List Loc} {cells slots : Nat}
theorem own_retI (X : Stand p l e R s m args below meth c T locs cells slots) (hx : p.tables.exec = Jvm.exec) {pc : Nat} {Ls : Array Slot} {z : Int32} {rest : List Value} (hret : meth.sig.returnType = some .int) (hd : decode c.code pc = .ok (.ireturn, 1)) {fs : List Frame}
    (hl : ∀ (f : JFrame) (acts : List Action), f.method = m → f.locked = none → f.entered = [] → (doReturn e (T.setTop f) acts (some (.int z))).1 = T.setFrames fs) : Steps p.tables e below (T.setTop (mkF m pc Ls (.int z :: rest))) (T.setFrames fs) := retOut X hx hret rfl (Or.inl ⟨rfl, Or.inl rfl, z, rfl⟩) hd hl
theorem own_end (X : Stand p l e R s m args below meth c T locs cells slots) (hlk : meth.locks = false) {v : Option Value} (hv : meth.sig.returnType = none → v = none) {g : JFrame}
    (hs : ∀ fs, (∀ (f : JFrame) (acts : List Action), f.method = m → f.locked = none → f.entered = [] → (doReturn e (T.setTop f) acts v).1 = T.setFrames fs) → Steps p.tables e below (T.setTop g) (T.setFrames fs))
    {Q : Option Value → Heap → List Loc → Prop} (hQ : Q v T.heap locs) {C N : Nat} (hC : cells ≤ C) (hN : slots ≤ N) :
    own_Out p e below (fun o U' => ∃ v L, o = .returned v ∧ Q v U'.heap L ∧ FrameEnd s o U' L C N) (T.setTop g) := by
  obtain ⟨fs, hr, hrun, hended, hW, hsame⟩ := X.leave (v := v) hv hlk
  exact ⟨_, _, hs fs hr, hrun, hended, _, _, rfl, hQ, ⟨_, rfl⟩, hW, hsame.mono hC hN⟩
theorem own_outI (X : Stand p l e R s m args below meth c T locs cells slots) (hx : p.tables.exec = Jvm.exec) (hlk : meth.locks = false) {pc : Nat} {Ls : Array Slot} {z : Int32} {rest : List Value} (hret : meth.sig.returnType = some .int) (hd : decode c.code pc = .ok (.ireturn, 1))
    {Q : Option Value → Heap → List Loc → Prop} (hQ : Q (some (.int z)) T.heap locs) {C N : Nat} (hC : cells ≤ C) (hN : slots ≤ N) :
    own_Out p e below (fun o U' => ∃ v L, o = .returned v ∧ Q v U'.heap L ∧ FrameEnd s o U' L C N) (T.setTop (mkF m pc Ls (.int z :: rest))) :=
  own_end X hlk (fun h => by rw [hret] at h; cases h) (fun fs hr => own_retI X hx hret hd hr) hQ hC hN
theorem own_outN (X : Stand p l e R s m args below meth c T locs cells slots) (hx : p.tables.exec = Jvm.exec) (hlk : meth.locks = false) {pc : Nat} {Ls : Array Slot} {z z' : Int32} {t : FieldType} {rest : List Value} (hret : meth.sig.returnType = some t) (ht : t = .boolean ∨ t = .byte ∨ t = .char ∨ t = .short) (hd : decode c.code pc = .ok (.ireturn, 1)) (hz : nar t z = z')
    {Q : Option Value → Heap → List Loc → Prop} (hQ : Q (some (.int z')) T.heap locs) {C N : Nat} (hC : cells ≤ C) (hN : slots ≤ N) :
    own_Out p e below (fun o U' => ∃ v L, o = .returned v ∧ Q v U'.heap L ∧ FrameEnd s o U' L C N) (T.setTop (mkF m pc Ls (.int z :: rest))) :=
  own_end X hlk (fun h => by rw [hret] at h; cases h) (fun fs hr => retN X hx hret ht hd (by rw [hz]; exact hr)) hQ hC hN
theorem own_outL (X : Stand p l e R s m args below meth c T locs cells slots) (hx : p.tables.exec = Jvm.exec) (hlk : meth.locks = false) {pc : Nat} {Ls : Array Slot} {z : Int64} {rest : List Value} (hret : meth.sig.returnType = some .long) (hd : decode c.code pc = .ok (.lreturn, 1))
    {Q : Option Value → Heap → List Loc → Prop} (hQ : Q (some (.long z)) T.heap locs) {C N : Nat} (hC : cells ≤ C) (hN : slots ≤ N) :
    own_Out p e below (fun o U' => ∃ v L, o = .returned v ∧ Q v U'.heap L ∧ FrameEnd s o U' L C N) (T.setTop (mkF m pc Ls (.long z :: rest))) :=
  own_end X hlk (fun h => by rw [hret] at h; cases h) (fun fs hr => retOut X hx hret rfl (Or.inr (Or.inl ⟨rfl, rfl, z, rfl⟩)) hd hr) hQ hC hN
theorem own_outD (X : Stand p l e R s m args below meth c T locs cells slots) (hx : p.tables.exec = Jvm.exec) (hlk : meth.locks = false) {pc : Nat} {Ls : Array Slot} {z : UInt64} {rest : List Value} (hret : meth.sig.returnType = some .double) (hd : decode c.code pc = .ok (.dreturn, 1))
    {Q : Option Value → Heap → List Loc → Prop} (hQ : Q (some (.double z)) T.heap locs) {C N : Nat} (hC : cells ≤ C) (hN : slots ≤ N) :
    own_Out p e below (fun o U' => ∃ v L, o = .returned v ∧ Q v U'.heap L ∧ FrameEnd s o U' L C N) (T.setTop (mkF m pc Ls (.double z :: rest))) :=
  own_end X hlk (fun h => by rw [hret] at h; cases h) (fun fs hr => retOut X hx hret rfl (Or.inr (Or.inr (Or.inl ⟨rfl, rfl, z, rfl⟩))) hd hr) hQ hC hN
theorem own_outR (X : Stand p l e R s m args below meth c T locs cells slots) (hx : p.tables.exec = Jvm.exec) (hlk : meth.locks = false) {pc : Nat} {Ls : Array Slot} {w : Value} {t : FieldType} {rest : List Value} (hret : meth.sig.returnType = some t) (ht : t.isReference = true) (hw : w.isRef = true) (hn : narrow t w = w) (hd : decode c.code pc = .ok (.areturn, 1))
    {Q : Option Value → Heap → List Loc → Prop} (hQ : Q (some w) T.heap locs) {C N : Nat} (hC : cells ≤ C) (hN : slots ≤ N) :
    own_Out p e below (fun o U' => ∃ v L, o = .returned v ∧ Q v U'.heap L ∧ FrameEnd s o U' L C N) (T.setTop (mkF m pc Ls (w :: rest))) :=
  own_end X hlk (fun h => by rw [hret] at h; cases h) (fun fs hr => retOut X hx hret hn (Or.inr (Or.inr (Or.inr (Or.inr ⟨rfl, ht, hw⟩)))) hd hr) hQ hC hN
theorem own_outV (X : Stand p l e R s m args below meth c T locs cells slots) (hx : p.tables.exec = Jvm.exec) (hlk : meth.locks = false) {pc : Nat} {Ls : Array Slot} (hret : meth.sig.returnType = none) (hd : decode c.code pc = .ok (.return_, 1))
    {Q : Option Value → Heap → List Loc → Prop} (hQ : Q none T.heap locs) {C N : Nat} (hC : cells ≤ C) (hN : slots ≤ N) :
    own_Out p e below (fun o U' => ∃ v L, o = .returned v ∧ Q v U'.heap L ∧ FrameEnd s o U' L C N) (T.setTop (mkF m pc Ls [])) :=
  own_end X hlk (fun _ => rfl) (fun fs hr => X.returnOut hx hret hd hr) hQ hC hN
end New
theorem own_ltlt {x y : Int64} (h : x < y) : ifCond.holds .lt (lcmpW x y) = true ∧ ifCond.holds .ge (lcmpW x y) = false ∧ ifCond.holds .gt (lcmpW y x) = true ∧ ifCond.holds .le (lcmpW y x) = false := by
  have h1 : ¬ x > y := fun q => by rw [gt_iff_lt, Int64.lt_iff_toInt_lt] at q; rw [Int64.lt_iff_toInt_lt] at h; omega
  have h2 : ¬ x = y := fun q => by subst q; rw [Int64.lt_iff_toInt_lt] at h; omega
  have e1 : lcmpW x y = -1 := by simp only [lcmpW, if_neg h1, if_neg h2]
  have e2 : lcmpW y x = 1 := by simp only [lcmpW, if_pos (show y > x from h)]
  rw [e1, e2]; decide
theorem own_leq {x y : Int64} (h : x = y) : ifCond.holds .eq (lcmpW x y) = true ∧ ifCond.holds .ne (lcmpW x y) = false := by
  subst h
  have h1 : ¬ x > x := fun q => by rw [gt_iff_lt, Int64.lt_iff_toInt_lt] at q; omega
  have e1 : lcmpW x x = 0 := by simp only [lcmpW, if_neg h1, if_pos]
  rw [e1]; decide
theorem own_lfeq {x y : Int64} (h : ¬ x = y) : ifCond.holds .eq (lcmpW x y) = false ∧ ifCond.holds .ne (lcmpW x y) = true := by
  by_cases h1 : x > y
  · have e1 : lcmpW x y = 1 := by simp only [lcmpW, if_pos h1]
    rw [e1]; decide
  · have e1 : lcmpW x y = -1 := by simp only [lcmpW, if_neg h1, if_neg h]
    rw [e1]; decide
theorem own_lflt {x y : Int64} (h : ¬ x < y) : ifCond.holds .lt (lcmpW x y) = false ∧ ifCond.holds .ge (lcmpW x y) = true ∧ ifCond.holds .gt (lcmpW y x) = false ∧ ifCond.holds .le (lcmpW y x) = true := by
  by_cases h1 : x = y
  · subst h1
    have h1 : ¬ x > x := fun q => by rw [gt_iff_lt, Int64.lt_iff_toInt_lt] at q; omega
    have e1 : lcmpW x x = 0 := by simp only [lcmpW, if_neg h1, if_pos]
    rw [e1]; decide
  · have h2 : x > y := by
      rw [gt_iff_lt, Int64.lt_iff_toInt_lt]; rw [Int64.lt_iff_toInt_lt] at h
      have h3 : ¬ x.toInt = y.toInt := fun q => h1 (Int64.toInt_inj.mp q)
      omega
    have h3 : ¬ y > x := fun q => by rw [gt_iff_lt, Int64.lt_iff_toInt_lt] at q h2; omega
    have e1 : lcmpW x y = 1 := by simp only [lcmpW, if_pos h2]
    have e2 : lcmpW y x = -1 := by simp only [lcmpW, if_neg h3, if_neg (fun q => h1 (Eq.symm q))]
    rw [e1, e2]; decide
theorem own_staK0 {Z : State} {h h' : Heap} {C n d : String} {v : Value} (F : Sta Z h C n d v) (K : Keep h h' []) : Sta Z h' C n d v := by
  obtain ⟨cf, i, k, f, st, cell, h1, h2, h3, h4, h5, r⟩ := F
  exact ⟨cf, i, k, f, st, cell, h1, h2, h3, h4, K.2.1 st cell h5 nin0, r⟩
theorem own_staK1 {Z : State} {h h' : Heap} {C n d : String} {v : Value} {a : Addr} (F : Sta Z h C n d v) (K : Keep h h' [a]) (q : ∀ cell : Cell, h[a]? = some cell → cell.vm.isStatics = false) : Sta Z h' C n d v := by
  obtain ⟨cf, i, k, f, st, cell, h1, h2, h3, h4, h5, h6, h7⟩ := F
  have ne : st ≠ a := fun e => by subst e; rw [q _ h5] at h6; cases h6
  exact ⟨cf, i, k, f, st, cell, h1, h2, h3, h4, K.2.1 st cell h5 (ninS ne nin0), h6, h7⟩
theorem own_plainE {Z : State} {h : Heap} {a : Addr} {C : String} (E : Exa Z h a C) : ∀ cell : Cell, h[a]? = some cell → cell.vm.isStatics = false := fun cell hc => by
  obtain ⟨c, k, h1, -, -, h4, -⟩ := E; cases h1.symm.trans hc; exact h4
theorem own_plainV {Z : State} {h : Heap} {a : Addr} {k : ClassId} {ty : FieldType} {z : Int32} {vs : List Value} {dv : Value} (F : Arv Z h a k ty z vs dv) : ∀ cell : Cell, h[a]? = some cell → cell.vm.isStatics = false := fun cell hc => by
  obtain ⟨c, A, -⟩ := F; cases A.1.symm.trans hc; exact A.plain
section Bounds
variable {x a k : Int32} {u : Int}
theorem own_L1 (h : ¬ (x < a)) : a.toInt ≤ x.toInt := by rw [Int32.lt_iff_toInt_lt] at h; omega
theorem own_L2 (h : a < x) : a.toInt + 1 ≤ x.toInt := by rw [Int32.lt_iff_toInt_lt] at h; omega
theorem own_L3 (h : x = a) : a.toInt ≤ x.toInt := by subst h; omega
theorem own_U1 (h : x < a) : x.toInt ≤ a.toInt - 1 := by rw [Int32.lt_iff_toInt_lt] at h; omega
theorem own_U2 (h : ¬ (a < x)) : x.toInt ≤ a.toInt := by rw [Int32.lt_iff_toInt_lt] at h; omega
theorem own_U3 (h : x = a) : x.toInt ≤ a.toInt := by subst h; omega
theorem own_T1 (h : x.toInt ≤ u) (d : u < k.toInt) : x < k := by rw [Int32.lt_iff_toInt_lt]; omega
theorem own_T2 (h : u ≤ x.toInt) (d : k.toInt ≤ u) : ¬ (x < k) := by rw [Int32.lt_iff_toInt_lt]; omega
theorem own_T3 (h : u ≤ x.toInt) (d : k.toInt < u) : k < x := by rw [Int32.lt_iff_toInt_lt]; omega
theorem own_T4 (h : x.toInt ≤ u) (d : u ≤ k.toInt) : ¬ (k < x) := by rw [Int32.lt_iff_toInt_lt]; omega
theorem own_T5 (h : x.toInt ≤ u) (d : u < k.toInt) : ¬ (x = k) := fun q => by subst q; omega
theorem own_T6 (h : u ≤ x.toInt) (d : k.toInt < u) : ¬ (x = k) := fun q => by subst q; omega
theorem own_T7 {u' : Int} (h : u ≤ x.toInt) (h' : x.toInt ≤ u') (d : k.toInt ≤ u ∧ u' ≤ k.toInt) : x = k := Int32.toInt_inj.mp (by omega)
end Bounds
section Rel
theorem own_JR1 {a b : Int64} (h : a < b) : ¬ (b < a) := by rw [Int64.lt_iff_toInt_lt] at *; omega
theorem own_JR2 {a b : Int64} (h : a < b) : ¬ (a = b) := fun q => by subst q; rw [Int64.lt_iff_toInt_lt] at h; omega
theorem own_JR2' {a b : Int64} (h : a < b) : ¬ (b = a) := fun q => by subst q; rw [Int64.lt_iff_toInt_lt] at h; omega
theorem own_JR3 {a b : Int64} (h : a = b) : ¬ (a < b) := fun q => by subst h; rw [Int64.lt_iff_toInt_lt] at q; omega
theorem own_JR3' {a b : Int64} (h : a = b) : ¬ (b < a) := fun q => by subst h; rw [Int64.lt_iff_toInt_lt] at q; omega
theorem own_JR4 {a b : Int64} (h : ¬ (a < b)) (h' : ¬ (b < a)) : a = b := by rw [Int64.lt_iff_toInt_lt] at h h'; exact Int64.toInt_inj.mp (by omega)
theorem own_JR5 {a b : Int64} (h : ¬ (a < b)) (h' : ¬ (a = b)) : b < a := by rw [← Int64.toInt_inj] at h'; rw [Int64.lt_iff_toInt_lt] at *; omega
theorem own_JR5' {a b : Int64} (h : ¬ (a < b)) (h' : ¬ (b = a)) : b < a := by rw [← Int64.toInt_inj] at h'; rw [Int64.lt_iff_toInt_lt] at *; omega
theorem own_IR1 {a b : Int32} (h : a < b) : ¬ (b < a) := by rw [Int32.lt_iff_toInt_lt] at *; omega
theorem own_IR2 {a b : Int32} (h : a < b) : ¬ (a = b) := fun q => by subst q; rw [Int32.lt_iff_toInt_lt] at h; omega
theorem own_IR2' {a b : Int32} (h : a < b) : ¬ (b = a) := fun q => by subst q; rw [Int32.lt_iff_toInt_lt] at h; omega
theorem own_IR3 {a b : Int32} (h : a = b) : ¬ (a < b) := fun q => by subst h; rw [Int32.lt_iff_toInt_lt] at q; omega
theorem own_IR3' {a b : Int32} (h : a = b) : ¬ (b < a) := fun q => by subst h; rw [Int32.lt_iff_toInt_lt] at q; omega
theorem own_IR4 {a b : Int32} (h : ¬ (a < b)) (h' : ¬ (b < a)) : a = b := by rw [Int32.lt_iff_toInt_lt] at h h'; exact Int32.toInt_inj.mp (by omega)
theorem own_IR5 {a b : Int32} (h : ¬ (a < b)) (h' : ¬ (a = b)) : b < a := by rw [← Int32.toInt_inj] at h'; rw [Int32.lt_iff_toInt_lt] at *; omega
theorem own_IR5' {a b : Int32} (h : ¬ (a < b)) (h' : ¬ (b = a)) : b < a := by rw [← Int32.toInt_inj] at h'; rw [Int32.lt_iff_toInt_lt] at *; omega
end Rel
end Jvm.RoadKit
namespace Jvm.Pilot.@@N@@
open Jvm Jvm.ClassFile Sem Op Lib Jvm.Free Jvm.Stand Jvm.LawKit Jvm.RoadKit Bundle Jvm.Pilot.@@N@@.Jvm.D
theorem d1_0 : decode jdk_29_method_70_code 0 = .ok (.lload_n 0, 1) := by decide +kernel
theorem d1_1 : decode jdk_29_method_70_code 1 = .ok (.lload_n 2, 1) := by decide +kernel
theorem d1_2 : decode jdk_29_method_70_code 2 = .ok (.lcmp, 1) := by decide +kernel
theorem d1_3 : decode jdk_29_method_70_code 3 = .ok (.ifCond .gt 7, 3) := by decide +kernel
theorem d1_6 : decode jdk_29_method_70_code 6 = .ok (.lload_n 0, 1) := by decide +kernel
theorem d1_7 : decode jdk_29_method_70_code 7 = .ok (.goto 4, 3) := by decide +kernel
theorem d1_10 : decode jdk_29_method_70_code 10 = .ok (.lload_n 2, 1) := by decide +kernel
theorem d1_11 : decode jdk_29_method_70_code 11 = .ok (.lreturn, 1) := by decide +kernel
theorem ef_1 (m : MethodId) (x0 : Int64) (x1 : Int64) : entryFrame m #[(.long x0), (.long x1)] 4 = mkF m 0 #[.val (.long x0), .second, .val (.long x1), .second] [] := by first | (simp [entryFrame, mkF, argsToLocals, Value.category]; done) | rfl
def f1 (q0 : Int64) (q1 : Int64) : Int64 := if q1 < q0 then q1
  else q0
def Q1 (Z : State) (q0 : Int64) (q1 : Int64) (h0 : Heap) (n0 : Nat) (v : Option Value) (h : Heap) (L : List Loc) : Prop := v = some (.long (f1 q0 q1)) ∧ Fr n0 L ∧ h = h0
set_option maxRecDepth 65536 in
set_option maxHeartbeats 40000000 in
theorem rm1 (l : Launch) (Z : State) (a0 : Array Value) (hw : ∀ d ∈ tables_1, d.before a0 Z = true) (ws : List Jvm.Cond) (q0 : Int64) (q1 : Int64) (h0 : Heap) (n0 : Nat) (Z0 : n0 ≤ h0.size) :
    MetFree l (⟨"java/lang/Math", "min", "(JJ)J"⟩ : MethodName) (head1 (Jvm.Cond.code (⟨"java/lang/Math", "min", "(JJ)J"⟩ : MethodName) jdk_29_method_70_code 4 (some .long) :: ws) ({ frames := 0, cells := 0, slots := 0, locals := 0 } : Room)) (fun a U => a = #[(.long q0), (.long q1)] ∧ Z.Warmed39 U.vm ∧ U.heap = h0) (fun _ _ _ _ _ => True) (fun _ U o U' => ∃ v L, o = .returned v ∧ Q1 Z q0 q1 h0 n0 v U'.heap L ∧ FrameEnd U o U' L ({ frames := 0, cells := 0, slots := 0, locals := 0 } : Room).cells ({ frames := 0, cells := 0, slots := 0, locals := 0 } : Room).slots) := by
  refine MetFree.of_bodySF (Jvm.Free.JP.mathPlain rfl (by decide +kernel)) hisR ?_
  intro p e s m args below meth c s₁ Bd hml0 hP hK
  obtain ⟨rfl, hZ, hh⟩ := hP
  have hx := Bd.exec
  have hby := Bd.bytes
  have hml : c.maxLocals = 4 := hml0
  have hown : s.vm.findClass "java/lang/Math" = some m.cls := findClass_of_methodNamed Bd.named
  have hnm := (name_of_methodNamed Bd.named Bd.method).1
  have X0 : Stand p l e ({ frames := 0, cells := 0, slots := 0, locals := 0 } : Room) s m #[(.long q0), (.long q1)] below meth c s₁ [] 0 0 := Stand.of_body Bd
  have e0 : s₁.heap = h0 := by rw [← hh, Bd.state]; rfl
  have N0 := Fr.nil n0
  have hret := Bd.returns
  have hlk := BodyLoose.notSynchronized Bd
  show own_Out p e below (fun o U' => ∃ v L, o = .returned v ∧ Q1 Z q0 q1 h0 n0 v U'.heap L ∧ FrameEnd s o U' L ({ frames := 0, cells := 0, slots := 0, locals := 0 } : Room).cells ({ frames := 0, cells := 0, slots := 0, locals := 0 } : Room).slots) (s₁.setTop (entryFrame m #[(.long q0), (.long q1)] 4))
  refine own_of (fun t k => castTop (ef_1 m q0 q1) k) ?_
  show own_Out p e below _ (s₁.setTop (mkF m 0 #[.val (.long q0), .second, .val (.long q1), .second] []))
  refine own_of (fun _ k => XS.lloadN X0.here hx rfl (hb hby d1_0) rfl k) ?_
  show own_Out p e below _ (s₁.setTop (mkF m 1 #[.val (.long q0), .second, .val (.long q1), .second] [(.long q0)]))
  refine own_of (fun _ k => XS.lloadN X0.here hx rfl (hb hby d1_1) rfl k) ?_
  show own_Out p e below _ (s₁.setTop (mkF m 2 #[.val (.long q0), .second, .val (.long q1), .second] [(.long q1), (.long q0)]))
  refine own_of (fun _ k => XS.lcmp X0.here hx rfl (hb hby d1_2) rfl k) ?_
  show own_Out p e below _ (s₁.setTop (mkF m 3 #[.val (.long q0), .second, .val (.long q1), .second] [(.int (lcmpW q0 q1))]))
  by_cases hc3_1 : q1 < q0
  · skip
    refine own_of (fun _ k => XS.ifYes X0.here hx rfl (pc0 := 3) (pc' := 10) rfl (hb hby d1_3) rfl (own_ltlt hc3_1).2.2.1 (by decide) (by decide) k) ?_
    show own_Out p e below _ (s₁.setTop (mkF m 10 #[.val (.long q0), .second, .val (.long q1), .second] []))
    refine own_of (fun _ k => XS.lloadN X0.here hx rfl (hb hby d1_10) rfl k) ?_
    show own_Out p e below _ (s₁.setTop (mkF m 11 #[.val (.long q0), .second, .val (.long q1), .second] [(.long q1)]))
    exact own_outL X0 hx hlk hret (hb hby d1_11) (Q := Q1 Z q0 q1 h0 n0) ⟨by simp only [f1, if_pos hc3_1], N0, e0⟩ (by decide) (by decide)
  · skip
    refine own_of (fun _ k => XS.ifNo X0.here hx rfl (hb hby d1_3) rfl (own_lflt hc3_1).2.2.1 k) ?_
    show own_Out p e below _ (s₁.setTop (mkF m 6 #[.val (.long q0), .second, .val (.long q1), .second] []))
    refine own_of (fun _ k => XS.lloadN X0.here hx rfl (hb hby d1_6) rfl k) ?_
    show own_Out p e below _ (s₁.setTop (mkF m 7 #[.val (.long q0), .second, .val (.long q1), .second] [(.long q0)]))
    refine own_of (fun _ k => XS.goto X0.here hx rfl (pc0 := 7) (pc' := 11) rfl (hb hby d1_7) (by decide) (by decide) k) ?_
    show own_Out p e below _ (s₁.setTop (mkF m 11 #[.val (.long q0), .second, .val (.long q1), .second] [(.long q0)]))
    exact own_outL X0 hx hlk hret (hb hby d1_11) (Q := Q1 Z q0 q1 h0 n0) ⟨by simp only [f1, if_neg hc3_1], N0, e0⟩ (by decide) (by decide)
theorem d2_0 : decode jdk_29_method_66_code 0 = .ok (.lload_n 0, 1) := by decide +kernel
theorem d2_1 : decode jdk_29_method_66_code 1 = .ok (.lload_n 2, 1) := by decide +kernel
theorem d2_2 : decode jdk_29_method_66_code 2 = .ok (.lcmp, 1) := by decide +kernel
theorem d2_3 : decode jdk_29_method_66_code 3 = .ok (.ifCond .lt 7, 3) := by decide +kernel
theorem d2_6 : decode jdk_29_method_66_code 6 = .ok (.lload_n 0, 1) := by decide +kernel
theorem d2_7 : decode jdk_29_method_66_code 7 = .ok (.goto 4, 3) := by decide +kernel
theorem d2_10 : decode jdk_29_method_66_code 10 = .ok (.lload_n 2, 1) := by decide +kernel
theorem d2_11 : decode jdk_29_method_66_code 11 = .ok (.lreturn, 1) := by decide +kernel
theorem ef_2 (m : MethodId) (x0 : Int64) (x1 : Int64) : entryFrame m #[(.long x0), (.long x1)] 4 = mkF m 0 #[.val (.long x0), .second, .val (.long x1), .second] [] := by first | (simp [entryFrame, mkF, argsToLocals, Value.category]; done) | rfl
def f2 (q0 : Int64) (q1 : Int64) : Int64 := if q0 < q1 then q1
  else q0
def Q2 (Z : State) (q0 : Int64) (q1 : Int64) (h0 : Heap) (n0 : Nat) (v : Option Value) (h : Heap) (L : List Loc) : Prop := v = some (.long (f2 q0 q1)) ∧ Fr n0 L ∧ h = h0
set_option maxRecDepth 65536 in
set_option maxHeartbeats 40000000 in
theorem rm2 (l : Launch) (Z : State) (a0 : Array Value) (hw : ∀ d ∈ tables_1, d.before a0 Z = true) (ws : List Jvm.Cond) (q0 : Int64) (q1 : Int64) (h0 : Heap) (n0 : Nat) (Z0 : n0 ≤ h0.size) :
    MetFree l (⟨"java/lang/Math", "max", "(JJ)J"⟩ : MethodName) (head1 (Jvm.Cond.code (⟨"java/lang/Math", "max", "(JJ)J"⟩ : MethodName) jdk_29_method_66_code 4 (some .long) :: ws) ({ frames := 0, cells := 0, slots := 0, locals := 0 } : Room)) (fun a U => a = #[(.long q0), (.long q1)] ∧ Z.Warmed39 U.vm ∧ U.heap = h0) (fun _ _ _ _ _ => True) (fun _ U o U' => ∃ v L, o = .returned v ∧ Q2 Z q0 q1 h0 n0 v U'.heap L ∧ FrameEnd U o U' L ({ frames := 0, cells := 0, slots := 0, locals := 0 } : Room).cells ({ frames := 0, cells := 0, slots := 0, locals := 0 } : Room).slots) := by
  refine MetFree.of_bodySF (Jvm.Free.JP.mathPlain rfl (by decide +kernel)) hisR ?_
  intro p e s m args below meth c s₁ Bd hml0 hP hK
  obtain ⟨rfl, hZ, hh⟩ := hP
  have hx := Bd.exec
  have hby := Bd.bytes
  have hml : c.maxLocals = 4 := hml0
  have hown : s.vm.findClass "java/lang/Math" = some m.cls := findClass_of_methodNamed Bd.named
  have hnm := (name_of_methodNamed Bd.named Bd.method).1
  have X0 : Stand p l e ({ frames := 0, cells := 0, slots := 0, locals := 0 } : Room) s m #[(.long q0), (.long q1)] below meth c s₁ [] 0 0 := Stand.of_body Bd
  have e0 : s₁.heap = h0 := by rw [← hh, Bd.state]; rfl
  have N0 := Fr.nil n0
  have hret := Bd.returns
  have hlk := BodyLoose.notSynchronized Bd
  show own_Out p e below (fun o U' => ∃ v L, o = .returned v ∧ Q2 Z q0 q1 h0 n0 v U'.heap L ∧ FrameEnd s o U' L ({ frames := 0, cells := 0, slots := 0, locals := 0 } : Room).cells ({ frames := 0, cells := 0, slots := 0, locals := 0 } : Room).slots) (s₁.setTop (entryFrame m #[(.long q0), (.long q1)] 4))
  refine own_of (fun t k => castTop (ef_2 m q0 q1) k) ?_
  show own_Out p e below _ (s₁.setTop (mkF m 0 #[.val (.long q0), .second, .val (.long q1), .second] []))
  refine own_of (fun _ k => XS.lloadN X0.here hx rfl (hb hby d2_0) rfl k) ?_
  show own_Out p e below _ (s₁.setTop (mkF m 1 #[.val (.long q0), .second, .val (.long q1), .second] [(.long q0)]))
  refine own_of (fun _ k => XS.lloadN X0.here hx rfl (hb hby d2_1) rfl k) ?_
  show own_Out p e below _ (s₁.setTop (mkF m 2 #[.val (.long q0), .second, .val (.long q1), .second] [(.long q1), (.long q0)]))
  refine own_of (fun _ k => XS.lcmp X0.here hx rfl (hb hby d2_2) rfl k) ?_
  show own_Out p e below _ (s₁.setTop (mkF m 3 #[.val (.long q0), .second, .val (.long q1), .second] [(.int (lcmpW q0 q1))]))
  by_cases hc3_1 : q0 < q1
  · skip
    refine own_of (fun _ k => XS.ifYes X0.here hx rfl (pc0 := 3) (pc' := 10) rfl (hb hby d2_3) rfl (own_ltlt hc3_1).1 (by decide) (by decide) k) ?_
    show own_Out p e below _ (s₁.setTop (mkF m 10 #[.val (.long q0), .second, .val (.long q1), .second] []))
    refine own_of (fun _ k => XS.lloadN X0.here hx rfl (hb hby d2_10) rfl k) ?_
    show own_Out p e below _ (s₁.setTop (mkF m 11 #[.val (.long q0), .second, .val (.long q1), .second] [(.long q1)]))
    exact own_outL X0 hx hlk hret (hb hby d2_11) (Q := Q2 Z q0 q1 h0 n0) ⟨by simp only [f2, if_pos hc3_1], N0, e0⟩ (by decide) (by decide)
  · skip
    refine own_of (fun _ k => XS.ifNo X0.here hx rfl (hb hby d2_3) rfl (own_lflt hc3_1).1 k) ?_
    show own_Out p e below _ (s₁.setTop (mkF m 6 #[.val (.long q0), .second, .val (.long q1), .second] []))
    refine own_of (fun _ k => XS.lloadN X0.here hx rfl (hb hby d2_6) rfl k) ?_
    show own_Out p e below _ (s₁.setTop (mkF m 7 #[.val (.long q0), .second, .val (.long q1), .second] [(.long q0)]))
    refine own_of (fun _ k => XS.goto X0.here hx rfl (pc0 := 7) (pc' := 11) rfl (hb hby d2_7) (by decide) (by decide) k) ?_
    show own_Out p e below _ (s₁.setTop (mkF m 11 #[.val (.long q0), .second, .val (.long q1), .second] [(.long q0)]))
    exact own_outL X0 hx hlk hret (hb hby d2_11) (Q := Q2 Z q0 q1 h0 n0) ⟨by simp only [f2, if_neg hc3_1], N0, e0⟩ (by decide) (by decide)
theorem d4_0 : decode jdk_37_method_2_code 0 = .ok (.aload_n 0, 1) := by decide +kernel
theorem d4_1 : decode jdk_37_method_2_code 1 = .ok (.getfield 7, 3) := by decide +kernel
theorem d4_4 : decode jdk_37_method_2_code 4 = .ok (.ireturn, 1) := by decide +kernel
theorem pn_0 : plainName "java/lang/Enum" = true := by first | (simp [plainName, overriddenIn]; done) | decide +kernel
theorem ef_4 (m : MethodId) (x0 : Addr) : entryFrame m #[(.ref x0)] 1 = mkF m 0 #[.val (.ref x0)] [] := by first | (simp [entryFrame, mkF, argsToLocals, Value.category]; done) | rfl
def Q4 (Z : State) (o0 : Addr) (w : Int32) (h0 : Heap) (n0 : Nat) (v : Option Value) (h : Heap) (L : List Loc) : Prop := v = some (.int w) ∧ Fr n0 L ∧ h = h0
set_option maxRecDepth 65536 in
set_option maxHeartbeats 40000000 in
theorem rm4 (l : Launch) (Z : State) (a0 : Array Value) (hw : ∀ d ∈ tables_1, d.before a0 Z = true) (ws : List Jvm.Cond) (o0 : Addr) (w : Int32) (h0 : Heap) (n0 : Nat) (Z0 : n0 ≤ h0.size) (F : Fld Z h0 o0 "java/lang/Enum" "ordinal" "I" (.int w)) :
    MetFree l (⟨"java/lang/Enum", "ordinal", "()I"⟩ : MethodName) (head1 (Jvm.Cond.code (⟨"java/lang/Enum", "ordinal", "()I"⟩ : MethodName) jdk_37_method_2_code 1 (some .int) :: ws) ({ frames := 0, cells := 0, slots := 0, locals := 0 } : Room)) (fun a U => a = #[(.ref o0)] ∧ Z.Warmed39 U.vm ∧ U.heap = h0) (fun _ _ _ _ _ => True) (fun _ U o U' => ∃ v L, o = .returned v ∧ Q4 Z o0 w h0 n0 v U'.heap L ∧ FrameEnd U o U' L ({ frames := 0, cells := 0, slots := 0, locals := 0 } : Room).cells ({ frames := 0, cells := 0, slots := 0, locals := 0 } : Room).slots) := by
  refine MetFree.of_bodySF (plainFor_of_name pn_0) hisR ?_
  intro p e s m args below meth c s₁ Bd hml0 hP hK
  obtain ⟨rfl, hZ, hh⟩ := hP
  have hx := Bd.exec
  have hby := Bd.bytes
  have hml : c.maxLocals = 1 := hml0
  have hown : s.vm.findClass "java/lang/Enum" = some m.cls := findClass_of_methodNamed Bd.named
  have hnm := (name_of_methodNamed Bd.named Bd.method).1
  have X0 : Stand p l e ({ frames := 0, cells := 0, slots := 0, locals := 0 } : Room) s m #[(.ref o0)] below meth c s₁ [] 0 0 := Stand.of_body Bd
  have e0 : s₁.heap = h0 := by rw [← hh, Bd.state]; rfl
  have N0 := Fr.nil n0
  have hret := Bd.returns
  have hlk := BodyLoose.notSynchronized Bd
  show own_Out p e below (fun o U' => ∃ v L, o = .returned v ∧ Q4 Z o0 w h0 n0 v U'.heap L ∧ FrameEnd s o U' L ({ frames := 0, cells := 0, slots := 0, locals := 0 } : Room).cells ({ frames := 0, cells := 0, slots := 0, locals := 0 } : Room).slots) (s₁.setTop (entryFrame m #[(.ref o0)] 1))
  refine own_of (fun t k => castTop (ef_4 m o0) k) ?_
  show own_Out p e below _ (s₁.setTop (mkF m 0 #[.val (.ref o0)] []))
  refine own_of (fun _ k => XS.aloadN X0.here hx rfl (hb hby d4_0) rfl rfl k) ?_
  show own_Out p e below _ (s₁.setTop (mkF m 1 #[.val (.ref o0)] [(.ref o0)]))
  obtain ⟨T1, X1, e1, st1⟩ := getF X0 hx hZ hown (host := "") (Or.inl (hw _ (List.mem_of_getElem? (i := 22) rfl))) Via.refl e0 F (g := (mkF m 1 #[.val (.ref o0)] [(.ref o0)])) rfl rfl (hb hby d4_1)
  refine own_of st1 ?_
  show own_Out p e below _ (T1.setTop (mkF m 4 #[.val (.ref o0)] [(.int w)]))
  exact own_outI X1 hx hlk hret (hb hby d4_4) (Q := Q4 Z o0 w h0 n0) ⟨rfl, N0, e1⟩ (by decide) (by decide)
theorem pd_0 : parseMethodDescriptor "()I" = some ⟨[], some .int⟩ := by decide +kernel
theorem d3_0 : decode prog_18_method_6_code 0 = .ok (.aload_n 0, 1) := by decide +kernel
theorem d3_1 : decode prog_18_method_6_code 1 = .ok (.invokevirtual 55, 3) := by decide +kernel
theorem d3_4 : decode prog_18_method_6_code 4 = .ok (.tableswitch 40 0 5 #[50, 64, 78, 92, 106, 120], 40) := by decide +kernel
theorem d3_54 : decode prog_18_method_6_code 54 = .ok (.lload_n 1, 1) := by decide +kernel
theorem d3_55 : decode prog_18_method_6_code 55 = .ok (.lload_n 3, 1) := by decide +kernel
theorem d3_56 : decode prog_18_method_6_code 56 = .ok (.lcmp, 1) := by decide +kernel
theorem d3_57 : decode prog_18_method_6_code 57 = .ok (.ifCond .ne 7, 3) := by decide +kernel
theorem d3_60 : decode prog_18_method_6_code 60 = .ok (.iconst 1, 1) := by decide +kernel
theorem d3_61 : decode prog_18_method_6_code 61 = .ok (.goto 74, 3) := by decide +kernel
theorem d3_64 : decode prog_18_method_6_code 64 = .ok (.iconst 0, 1) := by decide +kernel
theorem d3_65 : decode prog_18_method_6_code 65 = .ok (.goto 70, 3) := by decide +kernel
theorem d3_135 : decode prog_18_method_6_code 135 = .ok (.ireturn, 1) := by decide +kernel
theorem pn_1 : plainName "com/example/ringd/ringd/core/Comparison$Operator" = true := by first | (simp [plainName, overriddenIn]; done) | decide +kernel
theorem ef_3e0 (m : MethodId) (x0 : Addr) (x1 : Int64) (x2 : Int64) : entryFrame m #[(.ref x0), (.long x1), (.long x2)] 5 = mkF m 0 #[.val (.ref x0), .val (.long x1), .second, .val (.long x2), .second] [] := by first | (simp [entryFrame, mkF, argsToLocals, Value.category]; done) | rfl
def f3e0 (q1 : Int64) (q2 : Int64) : Int32 := if q1 = q2 then (1 : Int32)
  else (0 : Int32)
def Q3e0 (Z : State) (o0 : Addr) (q1 : Int64) (q2 : Int64) (h0 : Heap) (n0 : Nat) (v : Option Value) (h : Heap) (L : List Loc) : Prop := v = some (.int (f3e0 q1 q2)) ∧ Fr n0 L ∧ h = h0
set_option maxRecDepth 65536 in
set_option maxHeartbeats 40000000 in
theorem rm3e0 (l : Launch) (Z : State) (a0 : Array Value) (hw : ∀ d ∈ tables_1, d.before a0 Z = true) (ws : List Jvm.Cond) (o0 : Addr) (q1 : Int64) (q2 : Int64) (h0 : Heap) (n0 : Nat) (Z0 : n0 ≤ h0.size) (E : Exa Z h0 o0 "com/example/ringd/ringd/core/Comparison$Operator") (F : Fld Z h0 o0 "java/lang/Enum" "ordinal" "I" (.int (0 : Int32))) :
    MetFree l (⟨"com/example/ringd/ringd/core/Comparison$Operator", "holds", "(JJ)Z"⟩ : MethodName) (head1 (Jvm.Cond.code (⟨"com/example/ringd/ringd/core/Comparison$Operator", "holds", "(JJ)Z"⟩ : MethodName) prog_18_method_6_code 5 (some .boolean) :: ws) ({ frames := 1, cells := 0, slots := 0, locals := 12 } : Room)) (fun a U => a = #[(.ref o0), (.long q1), (.long q2)] ∧ Z.Warmed39 U.vm ∧ U.heap = h0) (fun _ _ _ _ _ => True) (fun _ U o U' => ∃ v L, o = .returned v ∧ Q3e0 Z o0 q1 q2 h0 n0 v U'.heap L ∧ FrameEnd U o U' L ({ frames := 1, cells := 0, slots := 0, locals := 12 } : Room).cells ({ frames := 1, cells := 0, slots := 0, locals := 12 } : Room).slots) := by
  refine MetFree.of_bodySF (plainFor_of_name pn_1) hisR ?_
  intro p e s m args below meth c s₁ Bd hml0 hP hK
  obtain ⟨rfl, hZ, hh⟩ := hP
  have hx := Bd.exec
  have hby := Bd.bytes
  have hml : c.maxLocals = 5 := hml0
  have hown : s.vm.findClass "com/example/ringd/ringd/core/Comparison$Operator" = some m.cls := findClass_of_methodNamed Bd.named
  have hnm := (name_of_methodNamed Bd.named Bd.method).1
  have X0 : Stand p l e ({ frames := 1, cells := 0, slots := 0, locals := 12 } : Room) s m #[(.ref o0), (.long q1), (.long q2)] below meth c s₁ [] 0 0 := Stand.of_body Bd
  have e0 : s₁.heap = h0 := by rw [← hh, Bd.state]; rfl
  have N0 := Fr.nil n0
  have hret := Bd.returns
  have hlk := BodyLoose.notSynchronized Bd
  show own_Out p e below (fun o U' => ∃ v L, o = .returned v ∧ Q3e0 Z o0 q1 q2 h0 n0 v U'.heap L ∧ FrameEnd s o U' L ({ frames := 1, cells := 0, slots := 0, locals := 12 } : Room).cells ({ frames := 1, cells := 0, slots := 0, locals := 12 } : Room).slots) (s₁.setTop (entryFrame m #[(.ref o0), (.long q1), (.long q2)] 5))
  refine own_of (fun t k => castTop (ef_3e0 m o0 q1 q2) k) ?_
  show own_Out p e below _ (s₁.setTop (mkF m 0 #[.val (.ref o0), .val (.long q1), .second, .val (.long q2), .second] []))
  refine own_of (fun _ k => XS.aloadN X0.here hx rfl (hb hby d3_0) rfl rfl k) ?_
  show own_Out p e below _ (s₁.setTop (mkF m 1 #[.val (.ref o0), .val (.long q1), .second, .val (.long q2), .second] [(.ref o0)]))
  obtain ⟨cq1, kq1, q1a, q1b, q1c⟩ := isOf hZ e0 E
  obtain ⟨_, _, ⟨T1, L1, k1, n1⟩, -, X1, ⟨Lc1, hQ1, l1, y1, z1⟩, st1⟩ := X0.virtualBackUp hx (x := (⟨"com/example/ringd/ringd/core/Comparison$Operator", "ordinal", "()I"⟩ : MethodName)) (y := (⟨"java/lang/Enum", "ordinal", "()I"⟩ : MethodName)) (owner := "java/lang/Enum") hown (mvT hZ (hw _ (List.mem_of_getElem? (i := 15) rfl))) (mvT hZ (hw _ (List.mem_of_getElem? (i := 16) rfl))) (mvT hZ (hw _ (List.mem_of_getElem? (i := 17) rfl))) (by decide) (mvT hZ (hw _ (List.mem_of_getElem? (i := 19) rfl))) (mvT hZ (hw _ (List.mem_of_getElem? (i := 18) rfl))) (backOf (W := 0) (rm4 l Z a0 hw [] o0 (0 : Int32) h0 n0 Z0 F) hZ (hw _ (List.mem_of_getElem? (i := 21) rfl)) (hw _ (List.mem_of_getElem? (i := 20) rfl)) (by decide) (by decide)) q1a q1c (g := (mkF m 1 #[.val (.ref o0), .val (.long q1), .second, .val (.long q2), .second] [(.ref o0)])) rfl (by rw [hml]; rfl) (Steps.refl _) (argsL := []) (rest := []) (lenOf pd_0 rfl) rfl (by show 2 * 0 + _ ≤ _; exact Nat.le_of_eq rfl) (hb hby d3_1) (fun _ _ => ⟨rfl, e0, (by decide : 0 + 0 ≤ _), (by decide : 0 + 0 ≤ _)⟩)
  dsimp only [Pt.U, Pt.locs, Pt.cells, Pt.slots] at X1 l1 y1 z1 st1 hQ1
  subst l1 y1 z1
  obtain ⟨rfl, N1q, hh1⟩ := hQ1
  have N1 := Fr.app N0 N1q
  refine own_of (fun _ k => st1.trans k) ?_
  show own_Out p e below _ (T1.setTop (mkF m 4 #[.val (.ref o0), .val (.long q1), .second, .val (.long q2), .second] [(.int (0 : Int32))]))
  refine own_of (fun _ k => XS.tswIn X1.here hx rfl (o := 50) (pc0 := 4) (pc' := 54) rfl (hb hby d3_4) rfl (by decide) rfl (by decide) (by decide) k) ?_
  show own_Out p e below _ (T1.setTop (mkF m 54 #[.val (.ref o0), .val (.long q1), .second, .val (.long q2), .second] []))
  refine own_of (fun _ k => XS.lloadN X1.here hx rfl (hb hby d3_54) rfl k) ?_
  show own_Out p e below _ (T1.setTop (mkF m 55 #[.val (.ref o0), .val (.long q1), .second, .val (.long q2), .second] [(.long q1)]))
  refine own_of (fun _ k => XS.lloadN X1.here hx rfl (hb hby d3_55) rfl k) ?_
  show own_Out p e below _ (T1.setTop (mkF m 56 #[.val (.ref o0), .val (.long q1), .second, .val (.long q2), .second] [(.long q2), (.long q1)]))
  refine own_of (fun _ k => XS.lcmp X1.here hx rfl (hb hby d3_56) rfl k) ?_
  show own_Out p e below _ (T1.setTop (mkF m 57 #[.val (.ref o0), .val (.long q1), .second, .val (.long q2), .second] [(.int (lcmpW q1 q2))]))
  by_cases hc57_2 : q1 = q2
  · skip
    refine own_of (fun _ k => XS.ifNo X1.here hx rfl (hb hby d3_57) rfl (own_leq hc57_2).2 k) ?_
    show own_Out p e below _ (T1.setTop (mkF m 60 #[.val (.ref o0), .val (.long q1), .second, .val (.long q2), .second] []))
    refine own_of (fun _ k => XS.iconst X1.here hx rfl (hb hby d3_60) k) ?_
    show own_Out p e below _ (T1.setTop (mkF m 61 #[.val (.ref o0), .val (.long q1), .second, .val (.long q2), .second] [(.int (1 : Int32))]))
    refine own_of (fun _ k => XS.goto X1.here hx rfl (pc0 := 61) (pc' := 135) rfl (hb hby d3_61) (by decide) (by decide) k) ?_
    show own_Out p e below _ (T1.setTop (mkF m 135 #[.val (.ref o0), .val (.long q1), .second, .val (.long q2), .second] [(.int (1 : Int32))]))
    exact own_outN X1 hx hlk (t := .boolean) hret (by simp) (hb hby d3_135) (z' := (1 : Int32)) rfl (Q := Q3e0 Z o0 q1 q2 h0 n0) ⟨by simp only [f3e0, if_pos hc57_2], N1, hh1⟩ (by decide) (by decide)
  · skip
    refine own_of (fun _ k => XS.ifYes X1.here hx rfl (pc0 := 57) (pc' := 64) rfl (hb hby d3_57) rfl (own_lfeq hc57_2).2 (by decide) (by decide) k) ?_
    show own_Out p e below _ (T1.setTop (mkF m 64 #[.val (.ref o0), .val (.long q1), .second, .val (.long q2), .second] []))
    refine own_of (fun _ k => XS.iconst X1.here hx rfl (hb hby d3_64) k) ?_
    show own_Out p e below _ (T1.setTop (mkF m 65 #[.val (.ref o0), .val (.long q1), .second, .val (.long q2), .second] [(.int (0 : Int32))]))
    refine own_of (fun _ k => XS.goto X1.here hx rfl (pc0 := 65) (pc' := 135) rfl (hb hby d3_65) (by decide) (by decide) k) ?_
    show own_Out p e below _ (T1.setTop (mkF m 135 #[.val (.ref o0), .val (.long q1), .second, .val (.long q2), .second] [(.int (0 : Int32))]))
    exact own_outN X1 hx hlk (t := .boolean) hret (by simp) (hb hby d3_135) (z' := (0 : Int32)) rfl (Q := Q3e0 Z o0 q1 q2 h0 n0) ⟨by simp only [f3e0, if_neg hc57_2], N1, hh1⟩ (by decide) (by decide)
theorem d3_68 : decode prog_18_method_6_code 68 = .ok (.lload_n 1, 1) := by decide +kernel
theorem d3_69 : decode prog_18_method_6_code 69 = .ok (.lload_n 3, 1) := by decide +kernel
theorem d3_70 : decode prog_18_method_6_code 70 = .ok (.lcmp, 1) := by decide +kernel
theorem d3_71 : decode prog_18_method_6_code 71 = .ok (.ifCond .eq 7, 3) := by decide +kernel
theorem d3_74 : decode prog_18_method_6_code 74 = .ok (.iconst 1, 1) := by decide +kernel
theorem d3_75 : decode prog_18_method_6_code 75 = .ok (.goto 60, 3) := by decide +kernel
theorem d3_78 : decode prog_18_method_6_code 78 = .ok (.iconst 0, 1) := by decide +kernel
theorem d3_79 : decode prog_18_method_6_code 79 = .ok (.goto 56, 3) := by decide +kernel
theorem ef_3e1 (m : MethodId) (x0 : Addr) (x1 : Int64) (x2 : Int64) : entryFrame m #[(.ref x0), (.long x1), (.long x2)] 5 = mkF m 0 #[.val (.ref x0), .val (.long x1), .second, .val (.long x2), .second] [] := by first | (simp [entryFrame, mkF, argsToLocals, Value.category]; done) | rfl
def f3e1 (q1 : Int64) (q2 : Int64) : Int32 := if q1 = q2 then (0 : Int32)
  else (1 : Int32)
def Q3e1 (Z : State) (o0 : Addr) (q1 : Int64) (q2 : Int64) (h0 : Heap) (n0 : Nat) (v : Option Value) (h : Heap) (L : List Loc) : Prop := v = some (.int (f3e1 q1 q2)) ∧ Fr n0 L ∧ h = h0
set_option maxRecDepth 65536 in
set_option maxHeartbeats 40000000 in
theorem rm3e1 (l : Launch) (Z : State) (a0 : Array Value) (hw : ∀ d ∈ tables_1, d.before a0 Z = true) (ws : List Jvm.Cond) (o0 : Addr) (q1 : Int64) (q2 : Int64) (h0 : Heap) (n0 : Nat) (Z0 : n0 ≤ h0.size) (E : Exa Z h0 o0 "com/example/ringd/ringd/core/Comparison$Operator") (F : Fld Z h0 o0 "java/lang/Enum" "ordinal" "I" (.int (1 : Int32))) :
    MetFree l (⟨"com/example/ringd/ringd/core/Comparison$Operator", "holds", "(JJ)Z"⟩ : MethodName) (head1 (Jvm.Cond.code (⟨"com/example/ringd/ringd/core/Comparison$Operator", "holds", "(JJ)Z"⟩ : MethodName) prog_18_method_6_code 5 (some .boolean) :: ws) ({ frames := 1, cells := 0, slots := 0, locals := 12 } : Room)) (fun a U => a = #[(.ref o0), (.long q1), (.long q2)] ∧ Z.Warmed39 U.vm ∧ U.heap = h0) (fun _ _ _ _ _ => True) (fun _ U o U' => ∃ v L, o = .returned v ∧ Q3e1 Z o0 q1 q2 h0 n0 v U'.heap L ∧ FrameEnd U o U' L ({ frames := 1, cells := 0, slots := 0, locals := 12 } : Room).cells ({ frames := 1, cells := 0, slots := 0, locals := 12 } : Room).slots) := by
  refine MetFree.of_bodySF (plainFor_of_name pn_1) hisR ?_
  intro p e s m args below meth c s₁ Bd hml0 hP hK
  obtain ⟨rfl, hZ, hh⟩ := hP
  have hx := Bd.exec
  have hby := Bd.bytes
  have hml : c.maxLocals = 5 := hml0
  have hown : s.vm.findClass "com/example/ringd/ringd/core/Comparison$Operator" = some m.cls := findClass_of_methodNamed Bd.named
  have hnm := (name_of_methodNamed Bd.named Bd.method).1
  have X0 : Stand p l e ({ frames := 1, cells := 0, slots := 0, locals := 12 } : Room) s m #[(.ref o0), (.long q1), (.long q2)] below meth c s₁ [] 0 0 := Stand.of_body Bd
  have e0 : s₁.heap = h0 := by rw [← hh, Bd.state]; rfl
  have N0 := Fr.nil n0
  have hret := Bd.returns
  have hlk := BodyLoose.notSynchronized Bd
  show own_Out p e below (fun o U' => ∃ v L, o = .returned v ∧ Q3e1 Z o0 q1 q2 h0 n0 v U'.heap L ∧ FrameEnd s o U' L ({ frames := 1, cells := 0, slots := 0, locals := 12 } : Room).cells ({ frames := 1, cells := 0, slots := 0, locals := 12 } : Room).slots) (s₁.setTop (entryFrame m #[(.ref o0), (.long q1), (.long q2)] 5))
  refine own_of (fun t k => castTop (ef_3e1 m o0 q1 q2) k) ?_
  show own_Out p e below _ (s₁.setTop (mkF m 0 #[.val (.ref o0), .val (.long q1), .second, .val (.long q2), .second] []))
  refine own_of (fun _ k => XS.aloadN X0.here hx rfl (hb hby d3_0) rfl rfl k) ?_
  show own_Out p e below _ (s₁.setTop (mkF m 1 #[.val (.ref o0), .val (.long q1), .second, .val (.long q2), .second] [(.ref o0)]))
  obtain ⟨cq1, kq1, q1a, q1b, q1c⟩ := isOf hZ e0 E
  obtain ⟨_, _, ⟨T1, L1, k1, n1⟩, -, X1, ⟨Lc1, hQ1, l1, y1, z1⟩, st1⟩ := X0.virtualBackUp hx (x := (⟨"com/example/ringd/ringd/core/Comparison$Operator", "ordinal", "()I"⟩ : MethodName)) (y := (⟨"java/lang/Enum", "ordinal", "()I"⟩ : MethodName)) (owner := "java/lang/Enum") hown (mvT hZ (hw _ (List.mem_of_getElem? (i := 15) rfl))) (mvT hZ (hw _ (List.mem_of_getElem? (i := 16) rfl))) (mvT hZ (hw _ (List.mem_of_getElem? (i := 17) rfl))) (by decide) (mvT hZ (hw _ (List.mem_of_getElem? (i := 19) rfl))) (mvT hZ (hw _ (List.mem_of_getElem? (i := 18) rfl))) (backOf (W := 0) (rm4 l Z a0 hw [] o0 (1 : Int32) h0 n0 Z0 F) hZ (hw _ (List.mem_of_getElem? (i := 21) rfl)) (hw _ (List.mem_of_getElem? (i := 20) rfl)) (by decide) (by decide)) q1a q1c (g := (mkF m 1 #[.val (.ref o0), .val (.long q1), .second, .val (.long q2), .second] [(.ref o0)])) rfl (by rw [hml]; rfl) (Steps.refl _) (argsL := []) (rest := []) (lenOf pd_0 rfl) rfl (by show 2 * 0 + _ ≤ _; exact Nat.le_of_eq rfl) (hb hby d3_1) (fun _ _ => ⟨rfl, e0, (by decide : 0 + 0 ≤ _), (by decide : 0 + 0 ≤ _)⟩)
  dsimp only [Pt.U, Pt.locs, Pt.cells, Pt.slots] at X1 l1 y1 z1 st1 hQ1
  subst l1 y1 z1
  obtain ⟨rfl, N1q, hh1⟩ := hQ1
  have N1 := Fr.app N0 N1q
  refine own_of (fun _ k => st1.trans k) ?_
  show own_Out p e below _ (T1.setTop (mkF m 4 #[.val (.ref o0), .val (.long q1), .second, .val (.long q2), .second] [(.int (1 : Int32))]))
  refine own_of (fun _ k => XS.tswIn X1.here hx rfl (o := 64) (pc0 := 4) (pc' := 68) rfl (hb hby d3_4) rfl (by decide) rfl (by decide) (by decide) k) ?_
  show own_Out p e below _ (T1.setTop (mkF m 68 #[.val (.ref o0), .val (.long q1), .second, .val (.long q2), .second] []))
  refine own_of (fun _ k => XS.lloadN X1.here hx rfl (hb hby d3_68) rfl k) ?_
  show own_Out p e below _ (T1.setTop (mkF m 69 #[.val (.ref o0), .val (.long q1), .second, .val (.long q2), .second] [(.long q1)]))
  refine own_of (fun _ k => XS.lloadN X1.here hx rfl (hb hby d3_69) rfl k) ?_
  show own_Out p e below _ (T1.setTop (mkF m 70 #[.val (.ref o0), .val (.long q1), .second, .val (.long q2), .second] [(.long q2), (.long q1)]))
  refine own_of (fun _ k => XS.lcmp X1.here hx rfl (hb hby d3_70) rfl k) ?_
  show own_Out p e below _ (T1.setTop (mkF m 71 #[.val (.ref o0), .val (.long q1), .second, .val (.long q2), .second] [(.int (lcmpW q1 q2))]))
  by_cases hc71_2 : q1 = q2
  · skip
    refine own_of (fun _ k => XS.ifYes X1.here hx rfl (pc0 := 71) (pc' := 78) rfl (hb hby d3_71) rfl (own_leq hc71_2).1 (by decide) (by decide) k) ?_
    show own_Out p e below _ (T1.setTop (mkF m 78 #[.val (.ref o0), .val (.long q1), .second, .val (.long q2), .second] []))
    refine own_of (fun _ k => XS.iconst X1.here hx rfl (hb hby d3_78) k) ?_
    show own_Out p e below _ (T1.setTop (mkF m 79 #[.val (.ref o0), .val (.long q1), .second, .val (.long q2), .second] [(.int (0 : Int32))]))
    refine own_of (fun _ k => XS.goto X1.here hx rfl (pc0 := 79) (pc' := 135) rfl (hb hby d3_79) (by decide) (by decide) k) ?_
    show own_Out p e below _ (T1.setTop (mkF m 135 #[.val (.ref o0), .val (.long q1), .second, .val (.long q2), .second] [(.int (0 : Int32))]))
    exact own_outN X1 hx hlk (t := .boolean) hret (by simp) (hb hby d3_135) (z' := (0 : Int32)) rfl (Q := Q3e1 Z o0 q1 q2 h0 n0) ⟨by simp only [f3e1, if_pos hc71_2], N1, hh1⟩ (by decide) (by decide)
  · skip
    refine own_of (fun _ k => XS.ifNo X1.here hx rfl (hb hby d3_71) rfl (own_lfeq hc71_2).1 k) ?_
    show own_Out p e below _ (T1.setTop (mkF m 74 #[.val (.ref o0), .val (.long q1), .second, .val (.long q2), .second] []))
    refine own_of (fun _ k => XS.iconst X1.here hx rfl (hb hby d3_74) k) ?_
    show own_Out p e below _ (T1.setTop (mkF m 75 #[.val (.ref o0), .val (.long q1), .second, .val (.long q2), .second] [(.int (1 : Int32))]))
    refine own_of (fun _ k => XS.goto X1.here hx rfl (pc0 := 75) (pc' := 135) rfl (hb hby d3_75) (by decide) (by decide) k) ?_
    show own_Out p e below _ (T1.setTop (mkF m 135 #[.val (.ref o0), .val (.long q1), .second, .val (.long q2), .second] [(.int (1 : Int32))]))
    exact own_outN X1 hx hlk (t := .boolean) hret (by simp) (hb hby d3_135) (z' := (1 : Int32)) rfl (Q := Q3e1 Z o0 q1 q2 h0 n0) ⟨by simp only [f3e1, if_neg hc71_2], N1, hh1⟩ (by decide) (by decide)
theorem d3_82 : decode prog_18_method_6_code 82 = .ok (.lload_n 1, 1) := by decide +kernel
theorem d3_83 : decode prog_18_method_6_code 83 = .ok (.lload_n 3, 1) := by decide +kernel
theorem d3_84 : decode prog_18_method_6_code 84 = .ok (.lcmp, 1) := by decide +kernel
theorem d3_85 : decode prog_18_method_6_code 85 = .ok (.ifCond .ge 7, 3) := by decide +kernel
theorem d3_88 : decode prog_18_method_6_code 88 = .ok (.iconst 1, 1) := by decide +kernel
theorem d3_89 : decode prog_18_method_6_code 89 = .ok (.goto 46, 3) := by decide +kernel
theorem d3_92 : decode prog_18_method_6_code 92 = .ok (.iconst 0, 1) := by decide +kernel
theorem d3_93 : decode prog_18_method_6_code 93 = .ok (.goto 42, 3) := by decide +kernel
theorem ef_3e2 (m : MethodId) (x0 : Addr) (x1 : Int64) (x2 : Int64) : entryFrame m #[(.ref x0), (.long x1), (.long x2)] 5 = mkF m 0 #[.val (.ref x0), .val (.long x1), .second, .val (.long x2), .second] [] := by first | (simp [entryFrame, mkF, argsToLocals, Value.category]; done) | rfl
def f3e2 (q1 : Int64) (q2 : Int64) : Int32 := if q1 < q2 then (1 : Int32)
  else (0 : Int32)
def Q3e2 (Z : State) (o0 : Addr) (q1 : Int64) (q2 : Int64) (h0 : Heap) (n0 : Nat) (v : Option Value) (h : Heap) (L : List Loc) : Prop := v = some (.int (f3e2 q1 q2)) ∧ Fr n0 L ∧ h = h0
set_option maxRecDepth 65536 in
set_option maxHeartbeats 40000000 in
theorem rm3e2 (l : Launch) (Z : State) (a0 : Array Value) (hw : ∀ d ∈ tables_1, d.before a0 Z = true) (ws : List Jvm.Cond) (o0 : Addr) (q1 : Int64) (q2 : Int64) (h0 : Heap) (n0 : Nat) (Z0 : n0 ≤ h0.size) (E : Exa Z h0 o0 "com/example/ringd/ringd/core/Comparison$Operator") (F : Fld Z h0 o0 "java/lang/Enum" "ordinal" "I" (.int (2 : Int32))) :
    MetFree l (⟨"com/example/ringd/ringd/core/Comparison$Operator", "holds", "(JJ)Z"⟩ : MethodName) (head1 (Jvm.Cond.code (⟨"com/example/ringd/ringd/core/Comparison$Operator", "holds", "(JJ)Z"⟩ : MethodName) prog_18_method_6_code 5 (some .boolean) :: ws) ({ frames := 1, cells := 0, slots := 0, locals := 12 } : Room)) (fun a U => a = #[(.ref o0), (.long q1), (.long q2)] ∧ Z.Warmed39 U.vm ∧ U.heap = h0) (fun _ _ _ _ _ => True) (fun _ U o U' => ∃ v L, o = .returned v ∧ Q3e2 Z o0 q1 q2 h0 n0 v U'.heap L ∧ FrameEnd U o U' L ({ frames := 1, cells := 0, slots := 0, locals := 12 } : Room).cells ({ frames := 1, cells := 0, slots := 0, locals := 12 } : Room).slots) := by
  refine MetFree.of_bodySF (plainFor_of_name pn_1) hisR ?_
  intro p e s m args below meth c s₁ Bd hml0 hP hK
  obtain ⟨rfl, hZ, hh⟩ := hP
  have hx := Bd.exec
  have hby := Bd.bytes
  have hml : c.maxLocals = 5 := hml0
  have hown : s.vm.findClass "com/example/ringd/ringd/core/Comparison$Operator" = some m.cls := findClass_of_methodNamed Bd.named
  have hnm := (name_of_methodNamed Bd.named Bd.method).1
  have X0 : Stand p l e ({ frames := 1, cells := 0, slots := 0, locals := 12 } : Room) s m #[(.ref o0), (.long q1), (.long q2)] below meth c s₁ [] 0 0 := Stand.of_body Bd
  have e0 : s₁.heap = h0 := by rw [← hh, Bd.state]; rfl
  have N0 := Fr.nil n0
  have hret := Bd.returns
  have hlk := BodyLoose.notSynchronized Bd
  show own_Out p e below (fun o U' => ∃ v L, o = .returned v ∧ Q3e2 Z o0 q1 q2 h0 n0 v U'.heap L ∧ FrameEnd s o U' L ({ frames := 1, cells := 0, slots := 0, locals := 12 } : Room).cells ({ frames := 1, cells := 0, slots := 0, locals := 12 } : Room).slots) (s₁.setTop (entryFrame m #[(.ref o0), (.long q1), (.long q2)] 5))
  refine own_of (fun t k => castTop (ef_3e2 m o0 q1 q2) k) ?_
  show own_Out p e below _ (s₁.setTop (mkF m 0 #[.val (.ref o0), .val (.long q1), .second, .val (.long q2), .second] []))
  refine own_of (fun _ k => XS.aloadN X0.here hx rfl (hb hby d3_0) rfl rfl k) ?_
  show own_Out p e below _ (s₁.setTop (mkF m 1 #[.val (.ref o0), .val (.long q1), .second, .val (.long q2), .second] [(.ref o0)]))
  obtain ⟨cq1, kq1, q1a, q1b, q1c⟩ := isOf hZ e0 E
  obtain ⟨_, _, ⟨T1, L1, k1, n1⟩, -, X1, ⟨Lc1, hQ1, l1, y1, z1⟩, st1⟩ := X0.virtualBackUp hx (x := (⟨"com/example/ringd/ringd/core/Comparison$Operator", "ordinal", "()I"⟩ : MethodName)) (y := (⟨"java/lang/Enum", "ordinal", "()I"⟩ : MethodName)) (owner := "java/lang/Enum") hown (mvT hZ (hw _ (List.mem_of_getElem? (i := 15) rfl))) (mvT hZ (hw _ (List.mem_of_getElem? (i := 16) rfl))) (mvT hZ (hw _ (List.mem_of_getElem? (i := 17) rfl))) (by decide) (mvT hZ (hw _ (List.mem_of_getElem? (i := 19) rfl))) (mvT hZ (hw _ (List.mem_of_getElem? (i := 18) rfl))) (backOf (W := 0) (rm4 l Z a0 hw [] o0 (2 : Int32) h0 n0 Z0 F) hZ (hw _ (List.mem_of_getElem? (i := 21) rfl)) (hw _ (List.mem_of_getElem? (i := 20) rfl)) (by decide) (by decide)) q1a q1c (g := (mkF m 1 #[.val (.ref o0), .val (.long q1), .second, .val (.long q2), .second] [(.ref o0)])) rfl (by rw [hml]; rfl) (Steps.refl _) (argsL := []) (rest := []) (lenOf pd_0 rfl) rfl (by show 2 * 0 + _ ≤ _; exact Nat.le_of_eq rfl) (hb hby d3_1) (fun _ _ => ⟨rfl, e0, (by decide : 0 + 0 ≤ _), (by decide : 0 + 0 ≤ _)⟩)
  dsimp only [Pt.U, Pt.locs, Pt.cells, Pt.slots] at X1 l1 y1 z1 st1 hQ1
  subst l1 y1 z1
  obtain ⟨rfl, N1q, hh1⟩ := hQ1
  have N1 := Fr.app N0 N1q
  refine own_of (fun _ k => st1.trans k) ?_
  show own_Out p e below _ (T1.setTop (mkF m 4 #[.val (.ref o0), .val (.long q1), .second, .val (.long q2), .second] [(.int (2 : Int32))]))
  refine own_of (fun _ k => XS.tswIn X1.here hx rfl (o := 78) (pc0 := 4) (pc' := 82) rfl (hb hby d3_4) rfl (by decide) rfl (by decide) (by decide) k) ?_
  show own_Out p e below _ (T1.setTop (mkF m 82 #[.val (.ref o0), .val (.long q1), .second, .val (.long q2), .second] []))
  refine own_of (fun _ k => XS.lloadN X1.here hx rfl (hb hby d3_82) rfl k) ?_
  show own_Out p e below _ (T1.setTop (mkF m 83 #[.val (.ref o0), .val (.long q1), .second, .val (.long q2), .second] [(.long q1)]))
  refine own_of (fun _ k => XS.lloadN X1.here hx rfl (hb hby d3_83) rfl k) ?_
  show own_Out p e below _ (T1.setTop (mkF m 84 #[.val (.ref o0), .val (.long q1), .second, .val (.long q2), .second] [(.long q2), (.long q1)]))
  refine own_of (fun _ k => XS.lcmp X1.here hx rfl (hb hby d3_84) rfl k) ?_
  show own_Out p e below _ (T1.setTop (mkF m 85 #[.val (.ref o0), .val (.long q1), .second, .val (.long q2), .second] [(.int (lcmpW q1 q2))]))
  by_cases hc85_2 : q1 < q2
  · skip
    refine own_of (fun _ k => XS.ifNo X1.here hx rfl (hb hby d3_85) rfl (own_ltlt hc85_2).2.1 k) ?_
    show own_Out p e below _ (T1.setTop (mkF m 88 #[.val (.ref o0), .val (.long q1), .second, .val (.long q2), .second] []))
    refine own_of (fun _ k => XS.iconst X1.here hx rfl (hb hby d3_88) k) ?_
    show own_Out p e below _ (T1.setTop (mkF m 89 #[.val (.ref o0), .val (.long q1), .second, .val (.long q2), .second] [(.int (1 : Int32))]))
    refine own_of (fun _ k => XS.goto X1.here hx rfl (pc0 := 89) (pc' := 135) rfl (hb hby d3_89) (by decide) (by decide) k) ?_
    show own_Out p e below _ (T1.setTop (mkF m 135 #[.val (.ref o0), .val (.long q1), .second, .val (.long q2), .second] [(.int (1 : Int32))]))
    exact own_outN X1 hx hlk (t := .boolean) hret (by simp) (hb hby d3_135) (z' := (1 : Int32)) rfl (Q := Q3e2 Z o0 q1 q2 h0 n0) ⟨by simp only [f3e2, if_pos hc85_2], N1, hh1⟩ (by decide) (by decide)
  · skip
    refine own_of (fun _ k => XS.ifYes X1.here hx rfl (pc0 := 85) (pc' := 92) rfl (hb hby d3_85) rfl (own_lflt hc85_2).2.1 (by decide) (by decide) k) ?_
    show own_Out p e below _ (T1.setTop (mkF m 92 #[.val (.ref o0), .val (.long q1), .second, .val (.long q2), .second] []))
    refine own_of (fun _ k => XS.iconst X1.here hx rfl (hb hby d3_92) k) ?_
    show own_Out p e below _ (T1.setTop (mkF m 93 #[.val (.ref o0), .val (.long q1), .second, .val (.long q2), .second] [(.int (0 : Int32))]))
    refine own_of (fun _ k => XS.goto X1.here hx rfl (pc0 := 93) (pc' := 135) rfl (hb hby d3_93) (by decide) (by decide) k) ?_
    show own_Out p e below _ (T1.setTop (mkF m 135 #[.val (.ref o0), .val (.long q1), .second, .val (.long q2), .second] [(.int (0 : Int32))]))
    exact own_outN X1 hx hlk (t := .boolean) hret (by simp) (hb hby d3_135) (z' := (0 : Int32)) rfl (Q := Q3e2 Z o0 q1 q2 h0 n0) ⟨by simp only [f3e2, if_neg hc85_2], N1, hh1⟩ (by decide) (by decide)
theorem d3_96 : decode prog_18_method_6_code 96 = .ok (.lload_n 1, 1) := by decide +kernel
theorem d3_97 : decode prog_18_method_6_code 97 = .ok (.lload_n 3, 1) := by decide +kernel
theorem d3_98 : decode prog_18_method_6_code 98 = .ok (.lcmp, 1) := by decide +kernel
theorem d3_99 : decode prog_18_method_6_code 99 = .ok (.ifCond .gt 7, 3) := by decide +kernel
theorem d3_102 : decode prog_18_method_6_code 102 = .ok (.iconst 1, 1) := by decide +kernel
theorem d3_103 : decode prog_18_method_6_code 103 = .ok (.goto 32, 3) := by decide +kernel
theorem d3_106 : decode prog_18_method_6_code 106 = .ok (.iconst 0, 1) := by decide +kernel
theorem d3_107 : decode prog_18_method_6_code 107 = .ok (.goto 28, 3) := by decide +kernel
theorem ef_3e3 (m : MethodId) (x0 : Addr) (x1 : Int64) (x2 : Int64) : entryFrame m #[(.ref x0), (.long x1), (.long x2)] 5 = mkF m 0 #[.val (.ref x0), .val (.long x1), .second, .val (.long x2), .second] [] := by first | (simp [entryFrame, mkF, argsToLocals, Value.category]; done) | rfl
def f3e3 (q1 : Int64) (q2 : Int64) : Int32 := if q2 < q1 then (0 : Int32)
  else (1 : Int32)
def Q3e3 (Z : State) (o0 : Addr) (q1 : Int64) (q2 : Int64) (h0 : Heap) (n0 : Nat) (v : Option Value) (h : Heap) (L : List Loc) : Prop := v = some (.int (f3e3 q1 q2)) ∧ Fr n0 L ∧ h = h0
set_option maxRecDepth 65536 in
set_option maxHeartbeats 40000000 in
theorem rm3e3 (l : Launch) (Z : State) (a0 : Array Value) (hw : ∀ d ∈ tables_1, d.before a0 Z = true) (ws : List Jvm.Cond) (o0 : Addr) (q1 : Int64) (q2 : Int64) (h0 : Heap) (n0 : Nat) (Z0 : n0 ≤ h0.size) (E : Exa Z h0 o0 "com/example/ringd/ringd/core/Comparison$Operator") (F : Fld Z h0 o0 "java/lang/Enum" "ordinal" "I" (.int (3 : Int32))) :
    MetFree l (⟨"com/example/ringd/ringd/core/Comparison$Operator", "holds", "(JJ)Z"⟩ : MethodName) (head1 (Jvm.Cond.code (⟨"com/example/ringd/ringd/core/Comparison$Operator", "holds", "(JJ)Z"⟩ : MethodName) prog_18_method_6_code 5 (some .boolean) :: ws) ({ frames := 1, cells := 0, slots := 0, locals := 12 } : Room)) (fun a U => a = #[(.ref o0), (.long q1), (.long q2)] ∧ Z.Warmed39 U.vm ∧ U.heap = h0) (fun _ _ _ _ _ => True) (fun _ U o U' => ∃ v L, o = .returned v ∧ Q3e3 Z o0 q1 q2 h0 n0 v U'.heap L ∧ FrameEnd U o U' L ({ frames := 1, cells := 0, slots := 0, locals := 12 } : Room).cells ({ frames := 1, cells := 0, slots := 0, locals := 12 } : Room).slots) := by
  refine MetFree.of_bodySF (plainFor_of_name pn_1) hisR ?_
  intro p e s m args below meth c s₁ Bd hml0 hP hK
  obtain ⟨rfl, hZ, hh⟩ := hP
  have hx := Bd.exec
  have hby := Bd.bytes
  have hml : c.maxLocals = 5 := hml0
  have hown : s.vm.findClass "com/example/ringd/ringd/core/Comparison$Operator" = some m.cls := findClass_of_methodNamed Bd.named
  have hnm := (name_of_methodNamed Bd.named Bd.method).1
  have X0 : Stand p l e ({ frames := 1, cells := 0, slots := 0, locals := 12 } : Room) s m #[(.ref o0), (.long q1), (.long q2)] below meth c s₁ [] 0 0 := Stand.of_body Bd
  have e0 : s₁.heap = h0 := by rw [← hh, Bd.state]; rfl
  have N0 := Fr.nil n0
  have hret := Bd.returns
  have hlk := BodyLoose.notSynchronized Bd
  show own_Out p e below (fun o U' => ∃ v L, o = .returned v ∧ Q3e3 Z o0 q1 q2 h0 n0 v U'.heap L ∧ FrameEnd s o U' L ({ frames := 1, cells := 0, slots := 0, locals := 12 } : Room).cells ({ frames := 1, cells := 0, slots := 0, locals := 12 } : Room).slots) (s₁.setTop (entryFrame m #[(.ref o0), (.long q1), (.long q2)] 5))
  refine own_of (fun t k => castTop (ef_3e3 m o0 q1 q2) k) ?_
  show own_Out p e below _ (s₁.setTop (mkF m 0 #[.val (.ref o0), .val (.long q1), .second, .val (.long q2), .second] []))
  refine own_of (fun _ k => XS.aloadN X0.here hx rfl (hb hby d3_0) rfl rfl k) ?_
  show own_Out p e below _ (s₁.setTop (mkF m 1 #[.val (.ref o0), .val (.long q1), .second, .val (.long q2), .second] [(.ref o0)]))
  obtain ⟨cq1, kq1, q1a, q1b, q1c⟩ := isOf hZ e0 E
  obtain ⟨_, _, ⟨T1, L1, k1, n1⟩, -, X1, ⟨Lc1, hQ1, l1, y1, z1⟩, st1⟩ := X0.virtualBackUp hx (x := (⟨"com/example/ringd/ringd/core/Comparison$Operator", "ordinal", "()I"⟩ : MethodName)) (y := (⟨"java/lang/Enum", "ordinal", "()I"⟩ : MethodName)) (owner := "java/lang/Enum") hown (mvT hZ (hw _ (List.mem_of_getElem? (i := 15) rfl))) (mvT hZ (hw _ (List.mem_of_getElem? (i := 16) rfl))) (mvT hZ (hw _ (List.mem_of_getElem? (i := 17) rfl))) (by decide) (mvT hZ (hw _ (List.mem_of_getElem? (i := 19) rfl))) (mvT hZ (hw _ (List.mem_of_getElem? (i := 18) rfl))) (backOf (W := 0) (rm4 l Z a0 hw [] o0 (3 : Int32) h0 n0 Z0 F) hZ (hw _ (List.mem_of_getElem? (i := 21) rfl)) (hw _ (List.mem_of_getElem? (i := 20) rfl)) (by decide) (by decide)) q1a q1c (g := (mkF m 1 #[.val (.ref o0), .val (.long q1), .second, .val (.long q2), .second] [(.ref o0)])) rfl (by rw [hml]; rfl) (Steps.refl _) (argsL := []) (rest := []) (lenOf pd_0 rfl) rfl (by show 2 * 0 + _ ≤ _; exact Nat.le_of_eq rfl) (hb hby d3_1) (fun _ _ => ⟨rfl, e0, (by decide : 0 + 0 ≤ _), (by decide : 0 + 0 ≤ _)⟩)
  dsimp only [Pt.U, Pt.locs, Pt.cells, Pt.slots] at X1 l1 y1 z1 st1 hQ1
  subst l1 y1 z1
  obtain ⟨rfl, N1q, hh1⟩ := hQ1
  have N1 := Fr.app N0 N1q
  refine own_of (fun _ k => st1.trans k) ?_
  show own_Out p e below _ (T1.setTop (mkF m 4 #[.val (.ref o0), .val (.long q1), .second, .val (.long q2), .second] [(.int (3 : Int32))]))
  refine own_of (fun _ k => XS.tswIn X1.here hx rfl (o := 92) (pc0 := 4) (pc' := 96) rfl (hb hby d3_4) rfl (by decide) rfl (by decide) (by decide) k) ?_
  show own_Out p e below _ (T1.setTop (mkF m 96 #[.val (.ref o0), .val (.long q1), .second, .val (.long q2), .second] []))
  refine own_of (fun _ k => XS.lloadN X1.here hx rfl (hb hby d3_96) rfl k) ?_
  show own_Out p e below _ (T1.setTop (mkF m 97 #[.val (.ref o0), .val (.long q1), .second, .val (.long q2), .second] [(.long q1)]))
  refine own_of (fun _ k => XS.lloadN X1.here hx rfl (hb hby d3_97) rfl k) ?_
  show own_Out p e below _ (T1.setTop (mkF m 98 #[.val (.ref o0), .val (.long q1), .second, .val (.long q2), .second] [(.long q2), (.long q1)]))
  refine own_of (fun _ k => XS.lcmp X1.here hx rfl (hb hby d3_98) rfl k) ?_
  show own_Out p e below _ (T1.setTop (mkF m 99 #[.val (.ref o0), .val (.long q1), .second, .val (.long q2), .second] [(.int (lcmpW q1 q2))]))
  by_cases hc99_2 : q2 < q1
  · skip
    refine own_of (fun _ k => XS.ifYes X1.here hx rfl (pc0 := 99) (pc' := 106) rfl (hb hby d3_99) rfl (own_ltlt hc99_2).2.2.1 (by decide) (by decide) k) ?_
    show own_Out p e below _ (T1.setTop (mkF m 106 #[.val (.ref o0), .val (.long q1), .second, .val (.long q2), .second] []))
    refine own_of (fun _ k => XS.iconst X1.here hx rfl (hb hby d3_106) k) ?_
    show own_Out p e below _ (T1.setTop (mkF m 107 #[.val (.ref o0), .val (.long q1), .second, .val (.long q2), .second] [(.int (0 : Int32))]))
    refine own_of (fun _ k => XS.goto X1.here hx rfl (pc0 := 107) (pc' := 135) rfl (hb hby d3_107) (by decide) (by decide) k) ?_
    show own_Out p e below _ (T1.setTop (mkF m 135 #[.val (.ref o0), .val (.long q1), .second, .val (.long q2), .second] [(.int (0 : Int32))]))
    exact own_outN X1 hx hlk (t := .boolean) hret (by simp) (hb hby d3_135) (z' := (0 : Int32)) rfl (Q := Q3e3 Z o0 q1 q2 h0 n0) ⟨by simp only [f3e3, if_pos hc99_2], N1, hh1⟩ (by decide) (by decide)
  · skip
    refine own_of (fun _ k => XS.ifNo X1.here hx rfl (hb hby d3_99) rfl (own_lflt hc99_2).2.2.1 k) ?_
    show own_Out p e below _ (T1.setTop (mkF m 102 #[.val (.ref o0), .val (.long q1), .second, .val (.long q2), .second] []))
    refine own_of (fun _ k => XS.iconst X1.here hx rfl (hb hby d3_102) k) ?_
    show own_Out p e below _ (T1.setTop (mkF m 103 #[.val (.ref o0), .val (.long q1), .second, .val (.long q2), .second] [(.int (1 : Int32))]))
    refine own_of (fun _ k => XS.goto X1.here hx rfl (pc0 := 103) (pc' := 135) rfl (hb hby d3_103) (by decide) (by decide) k) ?_
    show own_Out p e below _ (T1.setTop (mkF m 135 #[.val (.ref o0), .val (.long q1), .second, .val (.long q2), .second] [(.int (1 : Int32))]))
    exact own_outN X1 hx hlk (t := .boolean) hret (by simp) (hb hby d3_135) (z' := (1 : Int32)) rfl (Q := Q3e3 Z o0 q1 q2 h0 n0) ⟨by simp only [f3e3, if_neg hc99_2], N1, hh1⟩ (by decide) (by decide)
theorem d3_110 : decode prog_18_method_6_code 110 = .ok (.lload_n 1, 1) := by decide +kernel
theorem d3_111 : decode prog_18_method_6_code 111 = .ok (.lload_n 3, 1) := by decide +kernel
theorem d3_112 : decode prog_18_method_6_code 112 = .ok (.lcmp, 1) := by decide +kernel
theorem d3_113 : decode prog_18_method_6_code 113 = .ok (.ifCond .le 7, 3) := by decide +kernel
theorem d3_116 : decode prog_18_method_6_code 116 = .ok (.iconst 1, 1) := by decide +kernel
theorem d3_117 : decode prog_18_method_6_code 117 = .ok (.goto 18, 3) := by decide +kernel
theorem d3_120 : decode prog_18_method_6_code 120 = .ok (.iconst 0, 1) := by decide +kernel
theorem d3_121 : decode prog_18_method_6_code 121 = .ok (.goto 14, 3) := by decide +kernel
theorem ef_3e4 (m : MethodId) (x0 : Addr) (x1 : Int64) (x2 : Int64) : entryFrame m #[(.ref x0), (.long x1), (.long x2)] 5 = mkF m 0 #[.val (.ref x0), .val (.long x1), .second, .val (.long x2), .second] [] := by first | (simp [entryFrame, mkF, argsToLocals, Value.category]; done) | rfl
def f3e4 (q1 : Int64) (q2 : Int64) : Int32 := if q2 < q1 then (1 : Int32)
  else (0 : Int32)
def Q3e4 (Z : State) (o0 : Addr) (q1 : Int64) (q2 : Int64) (h0 : Heap) (n0 : Nat) (v : Option Value) (h : Heap) (L : List Loc) : Prop := v = some (.int (f3e4 q1 q2)) ∧ Fr n0 L ∧ h = h0
set_option maxRecDepth 65536 in
set_option maxHeartbeats 40000000 in
theorem rm3e4 (l : Launch) (Z : State) (a0 : Array Value) (hw : ∀ d ∈ tables_1, d.before a0 Z = true) (ws : List Jvm.Cond) (o0 : Addr) (q1 : Int64) (q2 : Int64) (h0 : Heap) (n0 : Nat) (Z0 : n0 ≤ h0.size) (E : Exa Z h0 o0 "com/example/ringd/ringd/core/Comparison$Operator") (F : Fld Z h0 o0 "java/lang/Enum" "ordinal" "I" (.int (4 : Int32))) :
    MetFree l (⟨"com/example/ringd/ringd/core/Comparison$Operator", "holds", "(JJ)Z"⟩ : MethodName) (head1 (Jvm.Cond.code (⟨"com/example/ringd/ringd/core/Comparison$Operator", "holds", "(JJ)Z"⟩ : MethodName) prog_18_method_6_code 5 (some .boolean) :: ws) ({ frames := 1, cells := 0, slots := 0, locals := 12 } : Room)) (fun a U => a = #[(.ref o0), (.long q1), (.long q2)] ∧ Z.Warmed39 U.vm ∧ U.heap = h0) (fun _ _ _ _ _ => True) (fun _ U o U' => ∃ v L, o = .returned v ∧ Q3e4 Z o0 q1 q2 h0 n0 v U'.heap L ∧ FrameEnd U o U' L ({ frames := 1, cells := 0, slots := 0, locals := 12 } : Room).cells ({ frames := 1, cells := 0, slots := 0, locals := 12 } : Room).slots) := by
  refine MetFree.of_bodySF (plainFor_of_name pn_1) hisR ?_
  intro p e s m args below meth c s₁ Bd hml0 hP hK
  obtain ⟨rfl, hZ, hh⟩ := hP
  have hx := Bd.exec
  have hby := Bd.bytes
  have hml : c.maxLocals = 5 := hml0
  have hown : s.vm.findClass "com/example/ringd/ringd/core/Comparison$Operator" = some m.cls := findClass_of_methodNamed Bd.named
  have hnm := (name_of_methodNamed Bd.named Bd.method).1
  have X0 : Stand p l e ({ frames := 1, cells := 0, slots := 0, locals := 12 } : Room) s m #[(.ref o0), (.long q1), (.long q2)] below meth c s₁ [] 0 0 := Stand.of_body Bd
  have e0 : s₁.heap = h0 := by rw [← hh, Bd.state]; rfl
  have N0 := Fr.nil n0
  have hret := Bd.returns
  have hlk := BodyLoose.notSynchronized Bd
  show own_Out p e below (fun o U' => ∃ v L, o = .returned v ∧ Q3e4 Z o0 q1 q2 h0 n0 v U'.heap L ∧ FrameEnd s o U' L ({ frames := 1, cells := 0, slots := 0, locals := 12 } : Room).cells ({ frames := 1, cells := 0, slots := 0, locals := 12 } : Room).slots) (s₁.setTop (entryFrame m #[(.ref o0), (.long q1), (.long q2)] 5))
  refine own_of (fun t k => castTop (ef_3e4 m o0 q1 q2) k) ?_
  show own_Out p e below _ (s₁.setTop (mkF m 0 #[.val (.ref o0), .val (.long q1), .second, .val (.long q2), .second] []))
  refine own_of (fun _ k => XS.aloadN X0.here hx rfl (hb hby d3_0) rfl rfl k) ?_
  show own_Out p e below _ (s₁.setTop (mkF m 1 #[.val (.ref o0), .val (.long q1), .second, .val (.long q2), .second] [(.ref o0)]))
  obtain ⟨cq1, kq1, q1a, q1b, q1c⟩ := isOf hZ e0 E
  obtain ⟨_, _, ⟨T1, L1, k1, n1⟩, -, X1, ⟨Lc1, hQ1, l1, y1, z1⟩, st1⟩ := X0.virtualBackUp hx (x := (⟨"com/example/ringd/ringd/core/Comparison$Operator", "ordinal", "()I"⟩ : MethodName)) (y := (⟨"java/lang/Enum", "ordinal", "()I"⟩ : MethodName)) (owner := "java/lang/Enum") hown (mvT hZ (hw _ (List.mem_of_getElem? (i := 15) rfl))) (mvT hZ (hw _ (List.mem_of_getElem? (i := 16) rfl))) (mvT hZ (hw _ (List.mem_of_getElem? (i := 17) rfl))) (by decide) (mvT hZ (hw _ (List.mem_of_getElem? (i := 19) rfl))) (mvT hZ (hw _ (List.mem_of_getElem? (i := 18) rfl))) (backOf (W := 0) (rm4 l Z a0 hw [] o0 (4 : Int32) h0 n0 Z0 F) hZ (hw _ (List.mem_of_getElem? (i := 21) rfl)) (hw _ (List.mem_of_getElem? (i := 20) rfl)) (by decide) (by decide)) q1a q1c (g := (mkF m 1 #[.val (.ref o0), .val (.long q1), .second, .val (.long q2), .second] [(.ref o0)])) rfl (by rw [hml]; rfl) (Steps.refl _) (argsL := []) (rest := []) (lenOf pd_0 rfl) rfl (by show 2 * 0 + _ ≤ _; exact Nat.le_of_eq rfl) (hb hby d3_1) (fun _ _ => ⟨rfl, e0, (by decide : 0 + 0 ≤ _), (by decide : 0 + 0 ≤ _)⟩)
  dsimp only [Pt.U, Pt.locs, Pt.cells, Pt.slots] at X1 l1 y1 z1 st1 hQ1
  subst l1 y1 z1
  obtain ⟨rfl, N1q, hh1⟩ := hQ1
  have N1 := Fr.app N0 N1q
  refine own_of (fun _ k => st1.trans k) ?_
  show own_Out p e below _ (T1.setTop (mkF m 4 #[.val (.ref o0), .val (.long q1), .second, .val (.long q2), .second] [(.int (4 : Int32))]))
  refine own_of (fun _ k => XS.tswIn X1.here hx rfl (o := 106) (pc0 := 4) (pc' := 110) rfl (hb hby d3_4) rfl (by decide) rfl (by decide) (by decide) k) ?_
  show own_Out p e below _ (T1.setTop (mkF m 110 #[.val (.ref o0), .val (.long q1), .second, .val (.long q2), .second] []))
  refine own_of (fun _ k => XS.lloadN X1.here hx rfl (hb hby d3_110) rfl k) ?_
  show own_Out p e below _ (T1.setTop (mkF m 111 #[.val (.ref o0), .val (.long q1), .second, .val (.long q2), .second] [(.long q1)]))
  refine own_of (fun _ k => XS.lloadN X1.here hx rfl (hb hby d3_111) rfl k) ?_
  show own_Out p e below _ (T1.setTop (mkF m 112 #[.val (.ref o0), .val (.long q1), .second, .val (.long q2), .second] [(.long q2), (.long q1)]))
  refine own_of (fun _ k => XS.lcmp X1.here hx rfl (hb hby d3_112) rfl k) ?_
  show own_Out p e below _ (T1.setTop (mkF m 113 #[.val (.ref o0), .val (.long q1), .second, .val (.long q2), .second] [(.int (lcmpW q1 q2))]))
  by_cases hc113_2 : q2 < q1
  · skip
    refine own_of (fun _ k => XS.ifNo X1.here hx rfl (hb hby d3_113) rfl (own_ltlt hc113_2).2.2.2 k) ?_
    show own_Out p e below _ (T1.setTop (mkF m 116 #[.val (.ref o0), .val (.long q1), .second, .val (.long q2), .second] []))
    refine own_of (fun _ k => XS.iconst X1.here hx rfl (hb hby d3_116) k) ?_
    show own_Out p e below _ (T1.setTop (mkF m 117 #[.val (.ref o0), .val (.long q1), .second, .val (.long q2), .second] [(.int (1 : Int32))]))
    refine own_of (fun _ k => XS.goto X1.here hx rfl (pc0 := 117) (pc' := 135) rfl (hb hby d3_117) (by decide) (by decide) k) ?_
    show own_Out p e below _ (T1.setTop (mkF m 135 #[.val (.ref o0), .val (.long q1), .second, .val (.long q2), .second] [(.int (1 : Int32))]))
    exact own_outN X1 hx hlk (t := .boolean) hret (by simp) (hb hby d3_135) (z' := (1 : Int32)) rfl (Q := Q3e4 Z o0 q1 q2 h0 n0) ⟨by simp only [f3e4, if_pos hc113_2], N1, hh1⟩ (by decide) (by decide)
  · skip
    refine own_of (fun _ k => XS.ifYes X1.here hx rfl (pc0 := 113) (pc' := 120) rfl (hb hby d3_113) rfl (own_lflt hc113_2).2.2.2 (by decide) (by decide) k) ?_
    show own_Out p e below _ (T1.setTop (mkF m 120 #[.val (.ref o0), .val (.long q1), .second, .val (.long q2), .second] []))
    refine own_of (fun _ k => XS.iconst X1.here hx rfl (hb hby d3_120) k) ?_
    show own_Out p e below _ (T1.setTop (mkF m 121 #[.val (.ref o0), .val (.long q1), .second, .val (.long q2), .second] [(.int (0 : Int32))]))
    refine own_of (fun _ k => XS.goto X1.here hx rfl (pc0 := 121) (pc' := 135) rfl (hb hby d3_121) (by decide) (by decide) k) ?_
    show own_Out p e below _ (T1.setTop (mkF m 135 #[.val (.ref o0), .val (.long q1), .second, .val (.long q2), .second] [(.int (0 : Int32))]))
    exact own_outN X1 hx hlk (t := .boolean) hret (by simp) (hb hby d3_135) (z' := (0 : Int32)) rfl (Q := Q3e4 Z o0 q1 q2 h0 n0) ⟨by simp only [f3e4, if_neg hc113_2], N1, hh1⟩ (by decide) (by decide)
theorem d3_124 : decode prog_18_method_6_code 124 = .ok (.lload_n 1, 1) := by decide +kernel
theorem d3_125 : decode prog_18_method_6_code 125 = .ok (.lload_n 3, 1) := by decide +kernel
theorem d3_126 : decode prog_18_method_6_code 126 = .ok (.lcmp, 1) := by decide +kernel
theorem d3_127 : decode prog_18_method_6_code 127 = .ok (.ifCond .lt 7, 3) := by decide +kernel
theorem d3_130 : decode prog_18_method_6_code 130 = .ok (.iconst 1, 1) := by decide +kernel
theorem d3_131 : decode prog_18_method_6_code 131 = .ok (.goto 4, 3) := by decide +kernel
theorem d3_134 : decode prog_18_method_6_code 134 = .ok (.iconst 0, 1) := by decide +kernel
theorem ef_3e5 (m : MethodId) (x0 : Addr) (x1 : Int64) (x2 : Int64) : entryFrame m #[(.ref x0), (.long x1), (.long x2)] 5 = mkF m 0 #[.val (.ref x0), .val (.long x1), .second, .val (.long x2), .second] [] := by first | (simp [entryFrame, mkF, argsToLocals, Value.category]; done) | rfl
def f3e5 (q1 : Int64) (q2 : Int64) : Int32 := if q1 < q2 then (0 : Int32)
  else (1 : Int32)
def Q3e5 (Z : State) (o0 : Addr) (q1 : Int64) (q2 : Int64) (h0 : Heap) (n0 : Nat) (v : Option Value) (h : Heap) (L : List Loc) : Prop := v = some (.int (f3e5 q1 q2)) ∧ Fr n0 L ∧ h = h0
set_option maxRecDepth 65536 in
set_option maxHeartbeats 40000000 in
theorem rm3e5 (l : Launch) (Z : State) (a0 : Array Value) (hw : ∀ d ∈ tables_1, d.before a0 Z = true) (ws : List Jvm.Cond) (o0 : Addr) (q1 : Int64) (q2 : Int64) (h0 : Heap) (n0 : Nat) (Z0 : n0 ≤ h0.size) (E : Exa Z h0 o0 "com/example/ringd/ringd/core/Comparison$Operator") (F : Fld Z h0 o0 "java/lang/Enum" "ordinal" "I" (.int (5 : Int32))) :
    MetFree l (⟨"com/example/ringd/ringd/core/Comparison$Operator", "holds", "(JJ)Z"⟩ : MethodName) (head1 (Jvm.Cond.code (⟨"com/example/ringd/ringd/core/Comparison$Operator", "holds", "(JJ)Z"⟩ : MethodName) prog_18_method_6_code 5 (some .boolean) :: ws) ({ frames := 1, cells := 0, slots := 0, locals := 12 } : Room)) (fun a U => a = #[(.ref o0), (.long q1), (.long q2)] ∧ Z.Warmed39 U.vm ∧ U.heap = h0) (fun _ _ _ _ _ => True) (fun _ U o U' => ∃ v L, o = .returned v ∧ Q3e5 Z o0 q1 q2 h0 n0 v U'.heap L ∧ FrameEnd U o U' L ({ frames := 1, cells := 0, slots := 0, locals := 12 } : Room).cells ({ frames := 1, cells := 0, slots := 0, locals := 12 } : Room).slots) := by
  refine MetFree.of_bodySF (plainFor_of_name pn_1) hisR ?_
  intro p e s m args below meth c s₁ Bd hml0 hP hK
  obtain ⟨rfl, hZ, hh⟩ := hP
  have hx := Bd.exec
  have hby := Bd.bytes
  have hml : c.maxLocals = 5 := hml0
  have hown : s.vm.findClass "com/example/ringd/ringd/core/Comparison$Operator" = some m.cls := findClass_of_methodNamed Bd.named
  have hnm := (name_of_methodNamed Bd.named Bd.method).1
  have X0 : Stand p l e ({ frames := 1, cells := 0, slots := 0, locals := 12 } : Room) s m #[(.ref o0), (.long q1), (.long q2)] below meth c s₁ [] 0 0 := Stand.of_body Bd
  have e0 : s₁.heap = h0 := by rw [← hh, Bd.state]; rfl
  have N0 := Fr.nil n0
  have hret := Bd.returns
  have hlk := BodyLoose.notSynchronized Bd
  show own_Out p e below (fun o U' => ∃ v L, o = .returned v ∧ Q3e5 Z o0 q1 q2 h0 n0 v U'.heap L ∧ FrameEnd s o U' L ({ frames := 1, cells := 0, slots := 0, locals := 12 } : Room).cells ({ frames := 1, cells := 0, slots := 0, locals := 12 } : Room).slots) (s₁.setTop (entryFrame m #[(.ref o0), (.long q1), (.long q2)] 5))
  refine own_of (fun t k => castTop (ef_3e5 m o0 q1 q2) k) ?_
  show own_Out p e below _ (s₁.setTop (mkF m 0 #[.val (.ref o0), .val (.long q1), .second, .val (.long q2), .second] []))
  refine own_of (fun _ k => XS.aloadN X0.here hx rfl (hb hby d3_0) rfl rfl k) ?_
  show own_Out p e below _ (s₁.setTop (mkF m 1 #[.val (.ref o0), .val (.long q1), .second, .val (.long q2), .second] [(.ref o0)]))
  obtain ⟨cq1, kq1, q1a, q1b, q1c⟩ := isOf hZ e0 E
  obtain ⟨_, _, ⟨T1, L1, k1, n1⟩, -, X1, ⟨Lc1, hQ1, l1, y1, z1⟩, st1⟩ := X0.virtualBackUp hx (x := (⟨"com/example/ringd/ringd/core/Comparison$Operator", "ordinal", "()I"⟩ : MethodName)) (y := (⟨"java/lang/Enum", "ordinal", "()I"⟩ : MethodName)) (owner := "java/lang/Enum") hown (mvT hZ (hw _ (List.mem_of_getElem? (i := 15) rfl))) (mvT hZ (hw _ (List.mem_of_getElem? (i := 16) rfl))) (mvT hZ (hw _ (List.mem_of_getElem? (i := 17) rfl))) (by decide) (mvT hZ (hw _ (List.mem_of_getElem? (i := 19) rfl))) (mvT hZ (hw _ (List.mem_of_getElem? (i := 18) rfl))) (backOf (W := 0) (rm4 l Z a0 hw [] o0 (5 : Int32) h0 n0 Z0 F) hZ (hw _ (List.mem_of_getElem? (i := 21) rfl)) (hw _ (List.mem_of_getElem? (i := 20) rfl)) (by decide) (by decide)) q1a q1c (g := (mkF m 1 #[.val (.ref o0), .val (.long q1), .second, .val (.long q2), .second] [(.ref o0)])) rfl (by rw [hml]; rfl) (Steps.refl _) (argsL := []) (rest := []) (lenOf pd_0 rfl) rfl (by show 2 * 0 + _ ≤ _; exact Nat.le_of_eq rfl) (hb hby d3_1) (fun _ _ => ⟨rfl, e0, (by decide : 0 + 0 ≤ _), (by decide : 0 + 0 ≤ _)⟩)
  dsimp only [Pt.U, Pt.locs, Pt.cells, Pt.slots] at X1 l1 y1 z1 st1 hQ1
  subst l1 y1 z1
  obtain ⟨rfl, N1q, hh1⟩ := hQ1
  have N1 := Fr.app N0 N1q
  refine own_of (fun _ k => st1.trans k) ?_
  show own_Out p e below _ (T1.setTop (mkF m 4 #[.val (.ref o0), .val (.long q1), .second, .val (.long q2), .second] [(.int (5 : Int32))]))
  refine own_of (fun _ k => XS.tswIn X1.here hx rfl (o := 120) (pc0 := 4) (pc' := 124) rfl (hb hby d3_4) rfl (by decide) rfl (by decide) (by decide) k) ?_
  show own_Out p e below _ (T1.setTop (mkF m 124 #[.val (.ref o0), .val (.long q1), .second, .val (.long q2), .second] []))
  refine own_of (fun _ k => XS.lloadN X1.here hx rfl (hb hby d3_124) rfl k) ?_
  show own_Out p e below _ (T1.setTop (mkF m 125 #[.val (.ref o0), .val (.long q1), .second, .val (.long q2), .second] [(.long q1)]))
  refine own_of (fun _ k => XS.lloadN X1.here hx rfl (hb hby d3_125) rfl k) ?_
  show own_Out p e below _ (T1.setTop (mkF m 126 #[.val (.ref o0), .val (.long q1), .second, .val (.long q2), .second] [(.long q2), (.long q1)]))
  refine own_of (fun _ k => XS.lcmp X1.here hx rfl (hb hby d3_126) rfl k) ?_
  show own_Out p e below _ (T1.setTop (mkF m 127 #[.val (.ref o0), .val (.long q1), .second, .val (.long q2), .second] [(.int (lcmpW q1 q2))]))
  by_cases hc127_2 : q1 < q2
  · skip
    refine own_of (fun _ k => XS.ifYes X1.here hx rfl (pc0 := 127) (pc' := 134) rfl (hb hby d3_127) rfl (own_ltlt hc127_2).1 (by decide) (by decide) k) ?_
    show own_Out p e below _ (T1.setTop (mkF m 134 #[.val (.ref o0), .val (.long q1), .second, .val (.long q2), .second] []))
    refine own_of (fun _ k => XS.iconst X1.here hx rfl (hb hby d3_134) k) ?_
    show own_Out p e below _ (T1.setTop (mkF m 135 #[.val (.ref o0), .val (.long q1), .second, .val (.long q2), .second] [(.int (0 : Int32))]))
    exact own_outN X1 hx hlk (t := .boolean) hret (by simp) (hb hby d3_135) (z' := (0 : Int32)) rfl (Q := Q3e5 Z o0 q1 q2 h0 n0) ⟨by simp only [f3e5, if_pos hc127_2], N1, hh1⟩ (by decide) (by decide)
  · skip
    refine own_of (fun _ k => XS.ifNo X1.here hx rfl (hb hby d3_127) rfl (own_lflt hc127_2).1 k) ?_
    show own_Out p e below _ (T1.setTop (mkF m 130 #[.val (.ref o0), .val (.long q1), .second, .val (.long q2), .second] []))
    refine own_of (fun _ k => XS.iconst X1.here hx rfl (hb hby d3_130) k) ?_
    show own_Out p e below _ (T1.setTop (mkF m 131 #[.val (.ref o0), .val (.long q1), .second, .val (.long q2), .second] [(.int (1 : Int32))]))
    refine own_of (fun _ k => XS.goto X1.here hx rfl (pc0 := 131) (pc' := 135) rfl (hb hby d3_131) (by decide) (by decide) k) ?_
    show own_Out p e below _ (T1.setTop (mkF m 135 #[.val (.ref o0), .val (.long q1), .second, .val (.long q2), .second] [(.int (1 : Int32))]))
    exact own_outN X1 hx hlk (t := .boolean) hret (by simp) (hb hby d3_135) (z' := (1 : Int32)) rfl (Q := Q3e5 Z o0 q1 q2 h0 n0) ⟨by simp only [f3e5, if_neg hc127_2], N1, hh1⟩ (by decide) (by decide)
theorem pd_1 : parseMethodDescriptor "(JJ)J" = some ⟨[.long, .long], some .long⟩ := by decide +kernel
theorem pd_2 : parseMethodDescriptor "(JJ)Z" = some ⟨[.long, .long], some .boolean⟩ := by decide +kernel
theorem pn_2 : plainName "com/example/ringd/ringd/core/OperatorHoldsPinLaw" = true := by first | (simp [plainName, overriddenIn]; done) | decide +kernel
theorem ef_0 (m : MethodId) (x0 : Int64) (x1 : Int64) (x2 : Int32) : entryFrame m #[(.long x0), (.long x1), (.int x2)] maxLocals = mkF m 0 #[.val (.long x0), .second, .val (.long x1), .second, .val (.int x2), .unset, .unset, .unset, .unset, .unset, .unset, .unset, .unset, .unset, .unset, .unset, .unset, .unset] [] := by first | (simp [entryFrame, mkF, argsToLocals, Value.category, maxLocals]; done) | rfl
theorem own_tri (v n : Int64) : (v < n ∧ ¬ n < v ∧ ¬ v = n ∧ ¬ n = v) ∨ (¬ v < n ∧ n < v ∧ ¬ v = n ∧ ¬ n = v) ∨ (¬ v < n ∧ ¬ n < v ∧ v = n ∧ n = v) := by
  simp only [Int64.lt_iff_toInt_lt, ← Int64.toInt_inj]; omega

theorem dead0_0 (q0 : Int64) (q1 : Int64) (p2 : Int32) (hc7_1 : (p2 &&& (1 : Int32)) = (0 : Int32)) (hc37_3 : (f1 q0 q1) = q0) (hc57_5 : (f2 q0 q1) = q0) (hc96_8 : (f3e0 q0 q1) = (1 : Int32)) (hc126_11 : (f3e1 q0 q1) = (0 : Int32)) (hc161_14 : (f3e2 q0 q1) = (0 : Int32)) (hc183_17 : (f3e3 q0 q1) = (1 : Int32)) (hc218_20 : (f3e4 q0 q1) = (0 : Int32)) (hc240_23 : ¬ ((f3e5 q0 q1) = (1 : Int32))) : False := by
  clear hc7_1
  generalize q1 = n at *
  rcases own_tri q0 n with ⟨h1, h2, h3, h4⟩ | ⟨h1, h2, h3, h4⟩ | ⟨h1, h2, h3, h4⟩
  · simp [f1, f2, f3e0, f3e1, f3e2, f3e3, f3e4, f3e5, h1, h2, h3, h4] at hc37_3 hc57_5 hc96_8 hc126_11 hc161_14 hc183_17 hc218_20 hc240_23
  · simp [f1, f2, f3e0, f3e1, f3e2, f3e3, f3e4, f3e5, h1, h2, h3, h4] at hc37_3 hc57_5 hc96_8 hc126_11 hc161_14 hc183_17 hc218_20 hc240_23
  · subst h3; simp [f1, f2, f3e0, f3e1, f3e2, f3e3, f3e4, f3e5, h1] at hc37_3 hc57_5 hc96_8 hc126_11 hc161_14 hc183_17 hc218_20 hc240_23
theorem dead0_1 (q0 : Int64) (q1 : Int64) (p2 : Int32) (hc7_1 : (p2 &&& (1 : Int32)) = (0 : Int32)) (hc37_3 : (f1 q0 q1) = q0) (hc57_5 : (f2 q0 q1) = q0) (hc96_8 : (f3e0 q0 q1) = (1 : Int32)) (hc126_11 : (f3e1 q0 q1) = (0 : Int32)) (hc161_14 : (f3e2 q0 q1) = (0 : Int32)) (hc183_17 : (f3e3 q0 q1) = (1 : Int32)) (hc218_20 : ¬ ((f3e4 q0 q1) = (0 : Int32))) : False := by
  clear hc7_1
  generalize q1 = n at *
  rcases own_tri q0 n with ⟨h1, h2, h3, h4⟩ | ⟨h1, h2, h3, h4⟩ | ⟨h1, h2, h3, h4⟩
  · simp [f1, f2, f3e0, f3e1, f3e2, f3e3, f3e4, h1, h2, h3, h4] at hc37_3 hc57_5 hc96_8 hc126_11 hc161_14 hc183_17 hc218_20
  · simp [f1, f2, f3e0, f3e1, f3e2, f3e3, f3e4, h1, h2, h3, h4] at hc37_3 hc57_5 hc96_8 hc126_11 hc161_14 hc183_17 hc218_20
  · subst h3; simp [f1, f2, f3e0, f3e1, f3e2, f3e3, f3e4, h1] at hc37_3 hc57_5 hc96_8 hc126_11 hc161_14 hc183_17 hc218_20
theorem dead0_2 (q0 : Int64) (q1 : Int64) (p2 : Int32) (hc7_1 : (p2 &&& (1 : Int32)) = (0 : Int32)) (hc37_3 : (f1 q0 q1) = q0) (hc57_5 : (f2 q0 q1) = q0) (hc96_8 : (f3e0 q0 q1) = (1 : Int32)) (hc126_11 : (f3e1 q0 q1) = (0 : Int32)) (hc161_14 : (f3e2 q0 q1) = (0 : Int32)) (hc183_17 : ¬ ((f3e3 q0 q1) = (1 : Int32))) : False := by
  clear hc7_1
  generalize q1 = n at *
  rcases own_tri q0 n with ⟨h1, h2, h3, h4⟩ | ⟨h1, h2, h3, h4⟩ | ⟨h1, h2, h3, h4⟩
  · simp [f1, f2, f3e0, f3e1, f3e2, f3e3, h1, h2, h3, h4] at hc37_3 hc57_5 hc96_8 hc126_11 hc161_14 hc183_17
  · simp [f1, f2, f3e0, f3e1, f3e2, f3e3, h1, h2, h3, h4] at hc37_3 hc57_5 hc96_8 hc126_11 hc161_14 hc183_17
  · subst h3; simp [f1, f2, f3e0, f3e1, f3e2, f3e3, h1] at hc37_3 hc57_5 hc96_8 hc126_11 hc161_14 hc183_17
theorem dead0_3 (q0 : Int64) (q1 : Int64) (p2 : Int32) (hc7_1 : (p2 &&& (1 : Int32)) = (0 : Int32)) (hc37_3 : (f1 q0 q1) = q0) (hc57_5 : (f2 q0 q1) = q0) (hc96_8 : (f3e0 q0 q1) = (1 : Int32)) (hc126_11 : (f3e1 q0 q1) = (0 : Int32)) (hc161_14 : ¬ ((f3e2 q0 q1) = (0 : Int32))) : False := by
  clear hc7_1
  generalize q1 = n at *
  rcases own_tri q0 n with ⟨h1, h2, h3, h4⟩ | ⟨h1, h2, h3, h4⟩ | ⟨h1, h2, h3, h4⟩
  · simp [f1, f2, f3e0, f3e1, f3e2, h1, h2, h3, h4] at hc37_3 hc57_5 hc96_8 hc126_11 hc161_14
  · simp [f1, f2, f3e0, f3e1, f3e2, h1, h2, h3, h4] at hc37_3 hc57_5 hc96_8 hc126_11 hc161_14
  · subst h3; simp [f1, f2, f3e0, f3e1, f3e2, h1] at hc37_3 hc57_5 hc96_8 hc126_11 hc161_14
theorem dead0_4 (q0 : Int64) (q1 : Int64) (p2 : Int32) (hc7_1 : (p2 &&& (1 : Int32)) = (0 : Int32)) (hc37_3 : (f1 q0 q1) = q0) (hc57_5 : (f2 q0 q1) = q0) (hc96_8 : (f3e0 q0 q1) = (1 : Int32)) (hc126_11 : ¬ ((f3e1 q0 q1) = (0 : Int32))) : False := by
  clear hc7_1
  generalize q1 = n at *
  rcases own_tri q0 n with ⟨h1, h2, h3, h4⟩ | ⟨h1, h2, h3, h4⟩ | ⟨h1, h2, h3, h4⟩
  · simp [f1, f2, f3e0, f3e1, h1, h2, h3, h4] at hc37_3 hc57_5 hc96_8 hc126_11
  · simp [f1, f2, f3e0, f3e1, h1, h2, h3, h4] at hc37_3 hc57_5 hc96_8 hc126_11
  · subst h3; simp [f1, f2, f3e0, f3e1, h1] at hc37_3 hc57_5 hc96_8 hc126_11
theorem dead0_5 (q0 : Int64) (q1 : Int64) (p2 : Int32) (hc7_1 : (p2 &&& (1 : Int32)) = (0 : Int32)) (hc37_3 : (f1 q0 q1) = q0) (hc57_5 : (f2 q0 q1) = q0) (hc96_8 : ¬ ((f3e0 q0 q1) = (1 : Int32))) : False := by
  clear hc7_1
  generalize q1 = n at *
  rcases own_tri q0 n with ⟨h1, h2, h3, h4⟩ | ⟨h1, h2, h3, h4⟩ | ⟨h1, h2, h3, h4⟩
  · simp [f1, f2, f3e0, h1, h2, h3, h4] at hc37_3 hc57_5 hc96_8
  · simp [f1, f2, f3e0, h1, h2, h3, h4] at hc37_3 hc57_5 hc96_8
  · subst h3; simp [f1, f2, f3e0, h1] at hc37_3 hc57_5 hc96_8
theorem dead0_6 (q0 : Int64) (q1 : Int64) (p2 : Int32) (hc7_1 : (p2 &&& (1 : Int32)) = (0 : Int32)) (hc37_3 : (f1 q0 q1) = q0) (hc57_5 : ¬ ((f2 q0 q1) = q0)) (hc96_26 : (f3e0 q0 q1) = (0 : Int32)) (hc126_29 : (f3e1 q0 q1) = (1 : Int32)) (hc161_32 : (f3e2 q0 q1) = (1 : Int32)) (hc183_35 : (f3e3 q0 q1) = (1 : Int32)) (hc218_38 : (f3e4 q0 q1) = (0 : Int32)) (hc240_41 : ¬ ((f3e5 q0 q1) = (0 : Int32))) : False := by
  clear hc7_1
  generalize q1 = n at *
  rcases own_tri q0 n with ⟨h1, h2, h3, h4⟩ | ⟨h1, h2, h3, h4⟩ | ⟨h1, h2, h3, h4⟩
  · simp [f1, f2, f3e0, f3e1, f3e2, f3e3, f3e4, f3e5, h1, h2, h3, h4] at hc37_3 hc57_5 hc96_26 hc126_29 hc161_32 hc183_35 hc218_38 hc240_41
  · simp [f1, f2, f3e0, f3e1, f3e2, f3e3, f3e4, f3e5, h1, h2, h3, h4] at hc37_3 hc57_5 hc96_26 hc126_29 hc161_32 hc183_35 hc218_38 hc240_41
  · subst h3; simp [f1, f2, f3e0, f3e1, f3e2, f3e3, f3e4, f3e5, h1] at hc37_3 hc57_5 hc96_26 hc126_29 hc161_32 hc183_35 hc218_38 hc240_41
theorem dead0_7 (q0 : Int64) (q1 : Int64) (p2 : Int32) (hc7_1 : (p2 &&& (1 : Int32)) = (0 : Int32)) (hc37_3 : (f1 q0 q1) = q0) (hc57_5 : ¬ ((f2 q0 q1) = q0)) (hc96_26 : (f3e0 q0 q1) = (0 : Int32)) (hc126_29 : (f3e1 q0 q1) = (1 : Int32)) (hc161_32 : (f3e2 q0 q1) = (1 : Int32)) (hc183_35 : (f3e3 q0 q1) = (1 : Int32)) (hc218_38 : ¬ ((f3e4 q0 q1) = (0 : Int32))) : False := by
  clear hc7_1
  generalize q1 = n at *
  rcases own_tri q0 n with ⟨h1, h2, h3, h4⟩ | ⟨h1, h2, h3, h4⟩ | ⟨h1, h2, h3, h4⟩
  · simp [f1, f2, f3e0, f3e1, f3e2, f3e3, f3e4, h1, h2, h3, h4] at hc37_3 hc57_5 hc96_26 hc126_29 hc161_32 hc183_35 hc218_38
  · simp [f1, f2, f3e0, f3e1, f3e2, f3e3, f3e4, h1, h2, h3, h4] at hc37_3 hc57_5 hc96_26 hc126_29 hc161_32 hc183_35 hc218_38
  · subst h3; simp [f1, f2, f3e0, f3e1, f3e2, f3e3, f3e4, h1] at hc37_3 hc57_5 hc96_26 hc126_29 hc161_32 hc183_35 hc218_38
theorem dead0_8 (q0 : Int64) (q1 : Int64) (p2 : Int32) (hc7_1 : (p2 &&& (1 : Int32)) = (0 : Int32)) (hc37_3 : (f1 q0 q1) = q0) (hc57_5 : ¬ ((f2 q0 q1) = q0)) (hc96_26 : (f3e0 q0 q1) = (0 : Int32)) (hc126_29 : (f3e1 q0 q1) = (1 : Int32)) (hc161_32 : (f3e2 q0 q1) = (1 : Int32)) (hc183_35 : ¬ ((f3e3 q0 q1) = (1 : Int32))) : False := by
  clear hc7_1
  generalize q1 = n at *
  rcases own_tri q0 n with ⟨h1, h2, h3, h4⟩ | ⟨h1, h2, h3, h4⟩ | ⟨h1, h2, h3, h4⟩
  · simp [f1, f2, f3e0, f3e1, f3e2, f3e3, h1, h2, h3, h4] at hc37_3 hc57_5 hc96_26 hc126_29 hc161_32 hc183_35
  · simp [f1, f2, f3e0, f3e1, f3e2, f3e3, h1, h2, h3, h4] at hc37_3 hc57_5 hc96_26 hc126_29 hc161_32 hc183_35
  · subst h3; simp [f1, f2, f3e0, f3e1, f3e2, f3e3, h1] at hc37_3 hc57_5 hc96_26 hc126_29 hc161_32 hc183_35
theorem dead0_9 (q0 : Int64) (q1 : Int64) (p2 : Int32) (hc7_1 : (p2 &&& (1 : Int32)) = (0 : Int32)) (hc37_3 : (f1 q0 q1) = q0) (hc57_5 : ¬ ((f2 q0 q1) = q0)) (hc96_26 : (f3e0 q0 q1) = (0 : Int32)) (hc126_29 : (f3e1 q0 q1) = (1 : Int32)) (hc161_32 : ¬ ((f3e2 q0 q1) = (1 : Int32))) : False := by
  clear hc7_1
  generalize q1 = n at *
  rcases own_tri q0 n with ⟨h1, h2, h3, h4⟩ | ⟨h1, h2, h3, h4⟩ | ⟨h1, h2, h3, h4⟩
  · simp [f1, f2, f3e0, f3e1, f3e2, h1, h2, h3, h4] at hc37_3 hc57_5 hc96_26 hc126_29 hc161_32
  · simp [f1, f2, f3e0, f3e1, f3e2, h1, h2, h3, h4] at hc37_3 hc57_5 hc96_26 hc126_29 hc161_32
  · subst h3; simp [f1, f2, f3e0, f3e1, f3e2, h1] at hc37_3 hc57_5 hc96_26 hc126_29 hc161_32
theorem dead0_10 (q0 : Int64) (q1 : Int64) (p2 : Int32) (hc7_1 : (p2 &&& (1 : Int32)) = (0 : Int32)) (hc37_3 : (f1 q0 q1) = q0) (hc57_5 : ¬ ((f2 q0 q1) = q0)) (hc96_26 : (f3e0 q0 q1) = (0 : Int32)) (hc126_29 : ¬ ((f3e1 q0 q1) = (1 : Int32))) : False := by
  clear hc7_1
  generalize q1 = n at *
  rcases own_tri q0 n with ⟨h1, h2, h3, h4⟩ | ⟨h1, h2, h3, h4⟩ | ⟨h1, h2, h3, h4⟩
  · simp [f1, f2, f3e0, f3e1, h1, h2, h3, h4] at hc37_3 hc57_5 hc96_26 hc126_29
  · simp [f1, f2, f3e0, f3e1, h1, h2, h3, h4] at hc37_3 hc57_5 hc96_26 hc126_29
  · subst h3; simp [f1, f2, f3e0, f3e1, h1] at hc37_3 hc57_5 hc96_26 hc126_29
theorem dead0_11 (q0 : Int64) (q1 : Int64) (p2 : Int32) (hc7_1 : (p2 &&& (1 : Int32)) = (0 : Int32)) (hc37_3 : (f1 q0 q1) = q0) (hc57_5 : ¬ ((f2 q0 q1) = q0)) (hc96_26 : ¬ ((f3e0 q0 q1) = (0 : Int32))) : False := by
  clear hc7_1
  generalize q1 = n at *
  rcases own_tri q0 n with ⟨h1, h2, h3, h4⟩ | ⟨h1, h2, h3, h4⟩ | ⟨h1, h2, h3, h4⟩
  · simp [f1, f2, f3e0, h1, h2, h3, h4] at hc37_3 hc57_5 hc96_26
  · simp [f1, f2, f3e0, h1, h2, h3, h4] at hc37_3 hc57_5 hc96_26
  · subst h3; simp [f1, f2, f3e0, h1] at hc37_3 hc57_5 hc96_26
theorem dead0_12 (q0 : Int64) (q1 : Int64) (p2 : Int32) (hc7_1 : (p2 &&& (1 : Int32)) = (0 : Int32)) (hc37_3 : ¬ ((f1 q0 q1) = q0)) (hc57_43 : (f2 q0 q1) = q0) (hc96_46 : (f3e0 q0 q1) = (0 : Int32)) (hc126_49 : (f3e1 q0 q1) = (1 : Int32)) (hc161_52 : (f3e2 q0 q1) = (0 : Int32)) (hc183_55 : (f3e3 q0 q1) = (0 : Int32)) (hc218_58 : (f3e4 q0 q1) = (1 : Int32)) (hc240_61 : ¬ ((f3e5 q0 q1) = (1 : Int32))) : False := by
  clear hc7_1
  generalize q1 = n at *
  rcases own_tri q0 n with ⟨h1, h2, h3, h4⟩ | ⟨h1, h2, h3, h4⟩ | ⟨h1, h2, h3, h4⟩
  · simp [f1, f2, f3e0, f3e1, f3e2, f3e3, f3e4, f3e5, h1, h2, h3, h4] at hc37_3 hc57_43 hc96_46 hc126_49 hc161_52 hc183_55 hc218_58 hc240_61
  · simp [f1, f2, f3e0, f3e1, f3e2, f3e3, f3e4, f3e5, h1, h2, h3, h4] at hc37_3 hc57_43 hc96_46 hc126_49 hc161_52 hc183_55 hc218_58 hc240_61
  · subst h3; simp [f1, f2, f3e0, f3e1, f3e2, f3e3, f3e4, f3e5, h1] at hc37_3 hc57_43 hc96_46 hc126_49 hc161_52 hc183_55 hc218_58 hc240_61
theorem dead0_13 (q0 : Int64) (q1 : Int64) (p2 : Int32) (hc7_1 : (p2 &&& (1 : Int32)) = (0 : Int32)) (hc37_3 : ¬ ((f1 q0 q1) = q0)) (hc57_43 : (f2 q0 q1) = q0) (hc96_46 : (f3e0 q0 q1) = (0 : Int32)) (hc126_49 : (f3e1 q0 q1) = (1 : Int32)) (hc161_52 : (f3e2 q0 q1) = (0 : Int32)) (hc183_55 : (f3e3 q0 q1) = (0 : Int32)) (hc218_58 : ¬ ((f3e4 q0 q1) = (1 : Int32))) : False := by
  clear hc7_1
  generalize q1 = n at *
  rcases own_tri q0 n with ⟨h1, h2, h3, h4⟩ | ⟨h1, h2, h3, h4⟩ | ⟨h1, h2, h3, h4⟩
  · simp [f1, f2, f3e0, f3e1, f3e2, f3e3, f3e4, h1, h2, h3, h4] at hc37_3 hc57_43 hc96_46 hc126_49 hc161_52 hc183_55 hc218_58
  · simp [f1, f2, f3e0, f3e1, f3e2, f3e3, f3e4, h1, h2, h3, h4] at hc37_3 hc57_43 hc96_46 hc126_49 hc161_52 hc183_55 hc218_58
  · subst h3; simp [f1, f2, f3e0, f3e1, f3e2, f3e3, f3e4, h1] at hc37_3 hc57_43 hc96_46 hc126_49 hc161_52 hc183_55 hc218_58
theorem dead0_14 (q0 : Int64) (q1 : Int64) (p2 : Int32) (hc7_1 : (p2 &&& (1 : Int32)) = (0 : Int32)) (hc37_3 : ¬ ((f1 q0 q1) = q0)) (hc57_43 : (f2 q0 q1) = q0) (hc96_46 : (f3e0 q0 q1) = (0 : Int32)) (hc126_49 : (f3e1 q0 q1) = (1 : Int32)) (hc161_52 : (f3e2 q0 q1) = (0 : Int32)) (hc183_55 : ¬ ((f3e3 q0 q1) = (0 : Int32))) : False := by
  clear hc7_1
  generalize q1 = n at *
  rcases own_tri q0 n with ⟨h1, h2, h3, h4⟩ | ⟨h1, h2, h3, h4⟩ | ⟨h1, h2, h3, h4⟩
  · simp [f1, f2, f3e0, f3e1, f3e2, f3e3, h1, h2, h3, h4] at hc37_3 hc57_43 hc96_46 hc126_49 hc161_52 hc183_55
  · simp [f1, f2, f3e0, f3e1, f3e2, f3e3, h1, h2, h3, h4] at hc37_3 hc57_43 hc96_46 hc126_49 hc161_52 hc183_55
  · subst h3; simp [f1, f2, f3e0, f3e1, f3e2, f3e3, h1] at hc37_3 hc57_43 hc96_46 hc126_49 hc161_52 hc183_55
theorem dead0_15 (q0 : Int64) (q1 : Int64) (p2 : Int32) (hc7_1 : (p2 &&& (1 : Int32)) = (0 : Int32)) (hc37_3 : ¬ ((f1 q0 q1) = q0)) (hc57_43 : (f2 q0 q1) = q0) (hc96_46 : (f3e0 q0 q1) = (0 : Int32)) (hc126_49 : (f3e1 q0 q1) = (1 : Int32)) (hc161_52 : ¬ ((f3e2 q0 q1) = (0 : Int32))) : False := by
  clear hc7_1
  generalize q1 = n at *
  rcases own_tri q0 n with ⟨h1, h2, h3, h4⟩ | ⟨h1, h2, h3, h4⟩ | ⟨h1, h2, h3, h4⟩
  · simp [f1, f2, f3e0, f3e1, f3e2, h1, h2, h3, h4] at hc37_3 hc57_43 hc96_46 hc126_49 hc161_52
  · simp [f1, f2, f3e0, f3e1, f3e2, h1, h2, h3, h4] at hc37_3 hc57_43 hc96_46 hc126_49 hc161_52
  · subst h3; simp [f1, f2, f3e0, f3e1, f3e2, h1] at hc37_3 hc57_43 hc96_46 hc126_49 hc161_52
theorem dead0_16 (q0 : Int64) (q1 : Int64) (p2 : Int32) (hc7_1 : (p2 &&& (1 : Int32)) = (0 : Int32)) (hc37_3 : ¬ ((f1 q0 q1) = q0)) (hc57_43 : (f2 q0 q1) = q0) (hc96_46 : (f3e0 q0 q1) = (0 : Int32)) (hc126_49 : ¬ ((f3e1 q0 q1) = (1 : Int32))) : False := by
  clear hc7_1
  generalize q1 = n at *
  rcases own_tri q0 n with ⟨h1, h2, h3, h4⟩ | ⟨h1, h2, h3, h4⟩ | ⟨h1, h2, h3, h4⟩
  · simp [f1, f2, f3e0, f3e1, h1, h2, h3, h4] at hc37_3 hc57_43 hc96_46 hc126_49
  · simp [f1, f2, f3e0, f3e1, h1, h2, h3, h4] at hc37_3 hc57_43 hc96_46 hc126_49
  · subst h3; simp [f1, f2, f3e0, f3e1, h1] at hc37_3 hc57_43 hc96_46 hc126_49
theorem dead0_17 (q0 : Int64) (q1 : Int64) (p2 : Int32) (hc7_1 : (p2 &&& (1 : Int32)) = (0 : Int32)) (hc37_3 : ¬ ((f1 q0 q1) = q0)) (hc57_43 : (f2 q0 q1) = q0) (hc96_46 : ¬ ((f3e0 q0 q1) = (0 : Int32))) : False := by
  clear hc7_1
  generalize q1 = n at *
  rcases own_tri q0 n with ⟨h1, h2, h3, h4⟩ | ⟨h1, h2, h3, h4⟩ | ⟨h1, h2, h3, h4⟩
  · simp [f1, f2, f3e0, h1, h2, h3, h4] at hc37_3 hc57_43 hc96_46
  · simp [f1, f2, f3e0, h1, h2, h3, h4] at hc37_3 hc57_43 hc96_46
  · subst h3; simp [f1, f2, f3e0, h1] at hc37_3 hc57_43 hc96_46
theorem dead0_18 (q0 : Int64) (q1 : Int64) (p2 : Int32) (hc7_1 : (p2 &&& (1 : Int32)) = (0 : Int32)) (hc37_3 : ¬ ((f1 q0 q1) = q0)) (hc57_43 : ¬ ((f2 q0 q1) = q0)) : False := by
  clear hc7_1
  generalize q1 = n at *
  rcases own_tri q0 n with ⟨h1, h2, h3, h4⟩ | ⟨h1, h2, h3, h4⟩ | ⟨h1, h2, h3, h4⟩
  · simp [f1, f2, h1, h2, h3, h4] at hc37_3 hc57_43
  · simp [f1, f2, h1, h2, h3, h4] at hc37_3 hc57_43
  · subst h3; simp [f1, f2, h1] at hc37_3 hc57_43
theorem dead0_19 (q0 : Int64) (q1 : Int64) (p2 : Int32) (hc7_1 : ¬ ((p2 &&& (1 : Int32)) = (0 : Int32))) (hc37_63 : (f1 q0 (q0 + ((((p2 >>> ((1 : Int32) &&& 31)) % (3 : Int32)).toInt64) - (1 : Int64)))) = q0) (hc57_65 : (f2 q0 (q0 + ((((p2 >>> ((1 : Int32) &&& 31)) % (3 : Int32)).toInt64) - (1 : Int64)))) = q0) (hc96_68 : (f3e0 q0 (q0 + ((((p2 >>> ((1 : Int32) &&& 31)) % (3 : Int32)).toInt64) - (1 : Int64)))) = (1 : Int32)) (hc126_71 : (f3e1 q0 (q0 + ((((p2 >>> ((1 : Int32) &&& 31)) % (3 : Int32)).toInt64) - (1 : Int64)))) = (0 : Int32)) (hc161_74 : (f3e2 q0 (q0 + ((((p2 >>> ((1 : Int32) &&& 31)) % (3 : Int32)).toInt64) - (1 : Int64)))) = (0 : Int32)) (hc183_77 : (f3e3 q0 (q0 + ((((p2 >>> ((1 : Int32) &&& 31)) % (3 : Int32)).toInt64) - (1 : Int64)))) = (1 : Int32)) (hc218_80 : (f3e4 q0 (q0 + ((((p2 >>> ((1 : Int32) &&& 31)) % (3 : Int32)).toInt64) - (1 : Int64)))) = (0 : Int32)) (hc240_83 : ¬ ((f3e5 q0 (q0 + ((((p2 >>> ((1 : Int32) &&& 31)) % (3 : Int32)).toInt64) - (1 : Int64)))) = (1 : Int32))) : False := by
  clear hc7_1
  generalize (q0 + ((((p2 >>> ((1 : Int32) &&& 31)) % (3 : Int32)).toInt64) - (1 : Int64))) = n at *
  rcases own_tri q0 n with ⟨h1, h2, h3, h4⟩ | ⟨h1, h2, h3, h4⟩ | ⟨h1, h2, h3, h4⟩
  · simp [f1, f2, f3e0, f3e1, f3e2, f3e3, f3e4, f3e5, h1, h2, h3, h4] at hc37_63 hc57_65 hc96_68 hc126_71 hc161_74 hc183_77 hc218_80 hc240_83
  · simp [f1, f2, f3e0, f3e1, f3e2, f3e3, f3e4, f3e5, h1, h2, h3, h4] at hc37_63 hc57_65 hc96_68 hc126_71 hc161_74 hc183_77 hc218_80 hc240_83
  · subst h3; simp [f1, f2, f3e0, f3e1, f3e2, f3e3, f3e4, f3e5, h1] at hc37_63 hc57_65 hc96_68 hc126_71 hc161_74 hc183_77 hc218_80 hc240_83
theorem dead0_20 (q0 : Int64) (q1 : Int64) (p2 : Int32) (hc7_1 : ¬ ((p2 &&& (1 : Int32)) = (0 : Int32))) (hc37_63 : (f1 q0 (q0 + ((((p2 >>> ((1 : Int32) &&& 31)) % (3 : Int32)).toInt64) - (1 : Int64)))) = q0) (hc57_65 : (f2 q0 (q0 + ((((p2 >>> ((1 : Int32) &&& 31)) % (3 : Int32)).toInt64) - (1 : Int64)))) = q0) (hc96_68 : (f3e0 q0 (q0 + ((((p2 >>> ((1 : Int32) &&& 31)) % (3 : Int32)).toInt64) - (1 : Int64)))) = (1 : Int32)) (hc126_71 : (f3e1 q0 (q0 + ((((p2 >>> ((1 : Int32) &&& 31)) % (3 : Int32)).toInt64) - (1 : Int64)))) = (0 : Int32)) (hc161_74 : (f3e2 q0 (q0 + ((((p2 >>> ((1 : Int32) &&& 31)) % (3 : Int32)).toInt64) - (1 : Int64)))) = (0 : Int32)) (hc183_77 : (f3e3 q0 (q0 + ((((p2 >>> ((1 : Int32) &&& 31)) % (3 : Int32)).toInt64) - (1 : Int64)))) = (1 : Int32)) (hc218_80 : ¬ ((f3e4 q0 (q0 + ((((p2 >>> ((1 : Int32) &&& 31)) % (3 : Int32)).toInt64) - (1 : Int64)))) = (0 : Int32))) : False := by
  clear hc7_1
  generalize (q0 + ((((p2 >>> ((1 : Int32) &&& 31)) % (3 : Int32)).toInt64) - (1 : Int64))) = n at *
  rcases own_tri q0 n with ⟨h1, h2, h3, h4⟩ | ⟨h1, h2, h3, h4⟩ | ⟨h1, h2, h3, h4⟩
  · simp [f1, f2, f3e0, f3e1, f3e2, f3e3, f3e4, h1, h2, h3, h4] at hc37_63 hc57_65 hc96_68 hc126_71 hc161_74 hc183_77 hc218_80
  · simp [f1, f2, f3e0, f3e1, f3e2, f3e3, f3e4, h1, h2, h3, h4] at hc37_63 hc57_65 hc96_68 hc126_71 hc161_74 hc183_77 hc218_80
  · subst h3; simp [f1, f2, f3e0, f3e1, f3e2, f3e3, f3e4, h1] at hc37_63 hc57_65 hc96_68 hc126_71 hc161_74 hc183_77 hc218_80
theorem dead0_21 (q0 : Int64) (q1 : Int64) (p2 : Int32) (hc7_1 : ¬ ((p2 &&& (1 : Int32)) = (0 : Int32))) (hc37_63 : (f1 q0 (q0 + ((((p2 >>> ((1 : Int32) &&& 31)) % (3 : Int32)).toInt64) - (1 : Int64)))) = q0) (hc57_65 : (f2 q0 (q0 + ((((p2 >>> ((1 : Int32) &&& 31)) % (3 : Int32)).toInt64) - (1 : Int64)))) = q0) (hc96_68 : (f3e0 q0 (q0 + ((((p2 >>> ((1 : Int32) &&& 31)) % (3 : Int32)).toInt64) - (1 : Int64)))) = (1 : Int32)) (hc126_71 : (f3e1 q0 (q0 + ((((p2 >>> ((1 : Int32) &&& 31)) % (3 : Int32)).toInt64) - (1 : Int64)))) = (0 : Int32)) (hc161_74 : (f3e2 q0 (q0 + ((((p2 >>> ((1 : Int32) &&& 31)) % (3 : Int32)).toInt64) - (1 : Int64)))) = (0 : Int32)) (hc183_77 : ¬ ((f3e3 q0 (q0 + ((((p2 >>> ((1 : Int32) &&& 31)) % (3 : Int32)).toInt64) - (1 : Int64)))) = (1 : Int32))) : False := by
  clear hc7_1
  generalize (q0 + ((((p2 >>> ((1 : Int32) &&& 31)) % (3 : Int32)).toInt64) - (1 : Int64))) = n at *
  rcases own_tri q0 n with ⟨h1, h2, h3, h4⟩ | ⟨h1, h2, h3, h4⟩ | ⟨h1, h2, h3, h4⟩
  · simp [f1, f2, f3e0, f3e1, f3e2, f3e3, h1, h2, h3, h4] at hc37_63 hc57_65 hc96_68 hc126_71 hc161_74 hc183_77
  · simp [f1, f2, f3e0, f3e1, f3e2, f3e3, h1, h2, h3, h4] at hc37_63 hc57_65 hc96_68 hc126_71 hc161_74 hc183_77
  · subst h3; simp [f1, f2, f3e0, f3e1, f3e2, f3e3, h1] at hc37_63 hc57_65 hc96_68 hc126_71 hc161_74 hc183_77
theorem dead0_22 (q0 : Int64) (q1 : Int64) (p2 : Int32) (hc7_1 : ¬ ((p2 &&& (1 : Int32)) = (0 : Int32))) (hc37_63 : (f1 q0 (q0 + ((((p2 >>> ((1 : Int32) &&& 31)) % (3 : Int32)).toInt64) - (1 : Int64)))) = q0) (hc57_65 : (f2 q0 (q0 + ((((p2 >>> ((1 : Int32) &&& 31)) % (3 : Int32)).toInt64) - (1 : Int64)))) = q0) (hc96_68 : (f3e0 q0 (q0 + ((((p2 >>> ((1 : Int32) &&& 31)) % (3 : Int32)).toInt64) - (1 : Int64)))) = (1 : Int32)) (hc126_71 : (f3e1 q0 (q0 + ((((p2 >>> ((1 : Int32) &&& 31)) % (3 : Int32)).toInt64) - (1 : Int64)))) = (0 : Int32)) (hc161_74 : ¬ ((f3e2 q0 (q0 + ((((p2 >>> ((1 : Int32) &&& 31)) % (3 : Int32)).toInt64) - (1 : Int64)))) = (0 : Int32))) : False := by
  clear hc7_1
  generalize (q0 + ((((p2 >>> ((1 : Int32) &&& 31)) % (3 : Int32)).toInt64) - (1 : Int64))) = n at *
  rcases own_tri q0 n with ⟨h1, h2, h3, h4⟩ | ⟨h1, h2, h3, h4⟩ | ⟨h1, h2, h3, h4⟩
  · simp [f1, f2, f3e0, f3e1, f3e2, h1, h2, h3, h4] at hc37_63 hc57_65 hc96_68 hc126_71 hc161_74
  · simp [f1, f2, f3e0, f3e1, f3e2, h1, h2, h3, h4] at hc37_63 hc57_65 hc96_68 hc126_71 hc161_74
  · subst h3; simp [f1, f2, f3e0, f3e1, f3e2, h1] at hc37_63 hc57_65 hc96_68 hc126_71 hc161_74
theorem dead0_23 (q0 : Int64) (q1 : Int64) (p2 : Int32) (hc7_1 : ¬ ((p2 &&& (1 : Int32)) = (0 : Int32))) (hc37_63 : (f1 q0 (q0 + ((((p2 >>> ((1 : Int32) &&& 31)) % (3 : Int32)).toInt64) - (1 : Int64)))) = q0) (hc57_65 : (f2 q0 (q0 + ((((p2 >>> ((1 : Int32) &&& 31)) % (3 : Int32)).toInt64) - (1 : Int64)))) = q0) (hc96_68 : (f3e0 q0 (q0 + ((((p2 >>> ((1 : Int32) &&& 31)) % (3 : Int32)).toInt64) - (1 : Int64)))) = (1 : Int32)) (hc126_71 : ¬ ((f3e1 q0 (q0 + ((((p2 >>> ((1 : Int32) &&& 31)) % (3 : Int32)).toInt64) - (1 : Int64)))) = (0 : Int32))) : False := by
  clear hc7_1
  generalize (q0 + ((((p2 >>> ((1 : Int32) &&& 31)) % (3 : Int32)).toInt64) - (1 : Int64))) = n at *
  rcases own_tri q0 n with ⟨h1, h2, h3, h4⟩ | ⟨h1, h2, h3, h4⟩ | ⟨h1, h2, h3, h4⟩
  · simp [f1, f2, f3e0, f3e1, h1, h2, h3, h4] at hc37_63 hc57_65 hc96_68 hc126_71
  · simp [f1, f2, f3e0, f3e1, h1, h2, h3, h4] at hc37_63 hc57_65 hc96_68 hc126_71
  · subst h3; simp [f1, f2, f3e0, f3e1, h1] at hc37_63 hc57_65 hc96_68 hc126_71
theorem dead0_24 (q0 : Int64) (q1 : Int64) (p2 : Int32) (hc7_1 : ¬ ((p2 &&& (1 : Int32)) = (0 : Int32))) (hc37_63 : (f1 q0 (q0 + ((((p2 >>> ((1 : Int32) &&& 31)) % (3 : Int32)).toInt64) - (1 : Int64)))) = q0) (hc57_65 : (f2 q0 (q0 + ((((p2 >>> ((1 : Int32) &&& 31)) % (3 : Int32)).toInt64) - (1 : Int64)))) = q0) (hc96_68 : ¬ ((f3e0 q0 (q0 + ((((p2 >>> ((1 : Int32) &&& 31)) % (3 : Int32)).toInt64) - (1 : Int64)))) = (1 : Int32))) : False := by
  clear hc7_1
  generalize (q0 + ((((p2 >>> ((1 : Int32) &&& 31)) % (3 : Int32)).toInt64) - (1 : Int64))) = n at *
  rcases own_tri q0 n with ⟨h1, h2, h3, h4⟩ | ⟨h1, h2, h3, h4⟩ | ⟨h1, h2, h3, h4⟩
  · simp [f1, f2, f3e0, h1, h2, h3, h4] at hc37_63 hc57_65 hc96_68
  · simp [f1, f2, f3e0, h1, h2, h3, h4] at hc37_63 hc57_65 hc96_68
  · subst h3; simp [f1, f2, f3e0, h1] at hc37_63 hc57_65 hc96_68
theorem dead0_25 (q0 : Int64) (q1 : Int64) (p2 : Int32) (hc7_1 : ¬ ((p2 &&& (1 : Int32)) = (0 : Int32))) (hc37_63 : (f1 q0 (q0 + ((((p2 >>> ((1 : Int32) &&& 31)) % (3 : Int32)).toInt64) - (1 : Int64)))) = q0) (hc57_65 : ¬ ((f2 q0 (q0 + ((((p2 >>> ((1 : Int32) &&& 31)) % (3 : Int32)).toInt64) - (1 : Int64)))) = q0)) (hc96_86 : (f3e0 q0 (q0 + ((((p2 >>> ((1 : Int32) &&& 31)) % (3 : Int32)).toInt64) - (1 : Int64)))) = (0 : Int32)) (hc126_89 : (f3e1 q0 (q0 + ((((p2 >>> ((1 : Int32) &&& 31)) % (3 : Int32)).toInt64) - (1 : Int64)))) = (1 : Int32)) (hc161_92 : (f3e2 q0 (q0 + ((((p2 >>> ((1 : Int32) &&& 31)) % (3 : Int32)).toInt64) - (1 : Int64)))) = (1 : Int32)) (hc183_95 : (f3e3 q0 (q0 + ((((p2 >>> ((1 : Int32) &&& 31)) % (3 : Int32)).toInt64) - (1 : Int64)))) = (1 : Int32)) (hc218_98 : (f3e4 q0 (q0 + ((((p2 >>> ((1 : Int32) &&& 31)) % (3 : Int32)).toInt64) - (1 : Int64)))) = (0 : Int32)) (hc240_101 : ¬ ((f3e5 q0 (q0 + ((((p2 >>> ((1 : Int32) &&& 31)) % (3 : Int32)).toInt64) - (1 : Int64)))) = (0 : Int32))) : False := by
  clear hc7_1
  generalize (q0 + ((((p2 >>> ((1 : Int32) &&& 31)) % (3 : Int32)).toInt64) - (1 : Int64))) = n at *
  rcases own_tri q0 n with ⟨h1, h2, h3, h4⟩ | ⟨h1, h2, h3, h4⟩ | ⟨h1, h2, h3, h4⟩
  · simp [f1, f2, f3e0, f3e1, f3e2, f3e3, f3e4, f3e5, h1, h2, h3, h4] at hc37_63 hc57_65 hc96_86 hc126_89 hc161_92 hc183_95 hc218_98 hc240_101
  · simp [f1, f2, f3e0, f3e1, f3e2, f3e3, f3e4, f3e5, h1, h2, h3, h4] at hc37_63 hc57_65 hc96_86 hc126_89 hc161_92 hc183_95 hc218_98 hc240_101
  · subst h3; simp [f1, f2, f3e0, f3e1, f3e2, f3e3, f3e4, f3e5, h1] at hc37_63 hc57_65 hc96_86 hc126_89 hc161_92 hc183_95 hc218_98 hc240_101
theorem dead0_26 (q0 : Int64) (q1 : Int64) (p2 : Int32) (hc7_1 : ¬ ((p2 &&& (1 : Int32)) = (0 : Int32))) (hc37_63 : (f1 q0 (q0 + ((((p2 >>> ((1 : Int32) &&& 31)) % (3 : Int32)).toInt64) - (1 : Int64)))) = q0) (hc57_65 : ¬ ((f2 q0 (q0 + ((((p2 >>> ((1 : Int32) &&& 31)) % (3 : Int32)).toInt64) - (1 : Int64)))) = q0)) (hc96_86 : (f3e0 q0 (q0 + ((((p2 >>> ((1 : Int32) &&& 31)) % (3 : Int32)).toInt64) - (1 : Int64)))) = (0 : Int32)) (hc126_89 : (f3e1 q0 (q0 + ((((p2 >>> ((1 : Int32) &&& 31)) % (3 : Int32)).toInt64) - (1 : Int64)))) = (1 : Int32)) (hc161_92 : (f3e2 q0 (q0 + ((((p2 >>> ((1 : Int32) &&& 31)) % (3 : Int32)).toInt64) - (1 : Int64)))) = (1 : Int32)) (hc183_95 : (f3e3 q0 (q0 + ((((p2 >>> ((1 : Int32) &&& 31)) % (3 : Int32)).toInt64) - (1 : Int64)))) = (1 : Int32)) (hc218_98 : ¬ ((f3e4 q0 (q0 + ((((p2 >>> ((1 : Int32) &&& 31)) % (3 : Int32)).toInt64) - (1 : Int64)))) = (0 : Int32))) : False := by
  clear hc7_1
  generalize (q0 + ((((p2 >>> ((1 : Int32) &&& 31)) % (3 : Int32)).toInt64) - (1 : Int64))) = n at *
  rcases own_tri q0 n with ⟨h1, h2, h3, h4⟩ | ⟨h1, h2, h3, h4⟩ | ⟨h1, h2, h3, h4⟩
  · simp [f1, f2, f3e0, f3e1, f3e2, f3e3, f3e4, h1, h2, h3, h4] at hc37_63 hc57_65 hc96_86 hc126_89 hc161_92 hc183_95 hc218_98
  · simp [f1, f2, f3e0, f3e1, f3e2, f3e3, f3e4, h1, h2, h3, h4] at hc37_63 hc57_65 hc96_86 hc126_89 hc161_92 hc183_95 hc218_98
  · subst h3; simp [f1, f2, f3e0, f3e1, f3e2, f3e3, f3e4, h1] at hc37_63 hc57_65 hc96_86 hc126_89 hc161_92 hc183_95 hc218_98
theorem dead0_27 (q0 : Int64) (q1 : Int64) (p2 : Int32) (hc7_1 : ¬ ((p2 &&& (1 : Int32)) = (0 : Int32))) (hc37_63 : (f1 q0 (q0 + ((((p2 >>> ((1 : Int32) &&& 31)) % (3 : Int32)).toInt64) - (1 : Int64)))) = q0) (hc57_65 : ¬ ((f2 q0 (q0 + ((((p2 >>> ((1 : Int32) &&& 31)) % (3 : Int32)).toInt64) - (1 : Int64)))) = q0)) (hc96_86 : (f3e0 q0 (q0 + ((((p2 >>> ((1 : Int32) &&& 31)) % (3 : Int32)).toInt64) - (1 : Int64)))) = (0 : Int32)) (hc126_89 : (f3e1 q0 (q0 + ((((p2 >>> ((1 : Int32) &&& 31)) % (3 : Int32)).toInt64) - (1 : Int64)))) = (1 : Int32)) (hc161_92 : (f3e2 q0 (q0 + ((((p2 >>> ((1 : Int32) &&& 31)) % (3 : Int32)).toInt64) - (1 : Int64)))) = (1 : Int32)) (hc183_95 : ¬ ((f3e3 q0 (q0 + ((((p2 >>> ((1 : Int32) &&& 31)) % (3 : Int32)).toInt64) - (1 : Int64)))) = (1 : Int32))) : False := by
  clear hc7_1
  generalize (q0 + ((((p2 >>> ((1 : Int32) &&& 31)) % (3 : Int32)).toInt64) - (1 : Int64))) = n at *
  rcases own_tri q0 n with ⟨h1, h2, h3, h4⟩ | ⟨h1, h2, h3, h4⟩ | ⟨h1, h2, h3, h4⟩
  · simp [f1, f2, f3e0, f3e1, f3e2, f3e3, h1, h2, h3, h4] at hc37_63 hc57_65 hc96_86 hc126_89 hc161_92 hc183_95
  · simp [f1, f2, f3e0, f3e1, f3e2, f3e3, h1, h2, h3, h4] at hc37_63 hc57_65 hc96_86 hc126_89 hc161_92 hc183_95
  · subst h3; simp [f1, f2, f3e0, f3e1, f3e2, f3e3, h1] at hc37_63 hc57_65 hc96_86 hc126_89 hc161_92 hc183_95
theorem dead0_28 (q0 : Int64) (q1 : Int64) (p2 : Int32) (hc7_1 : ¬ ((p2 &&& (1 : Int32)) = (0 : Int32))) (hc37_63 : (f1 q0 (q0 + ((((p2 >>> ((1 : Int32) &&& 31)) % (3 : Int32)).toInt64) - (1 : Int64)))) = q0) (hc57_65 : ¬ ((f2 q0 (q0 + ((((p2 >>> ((1 : Int32) &&& 31)) % (3 : Int32)).toInt64) - (1 : Int64)))) = q0)) (hc96_86 : (f3e0 q0 (q0 + ((((p2 >>> ((1 : Int32) &&& 31)) % (3 : Int32)).toInt64) - (1 : Int64)))) = (0 : Int32)) (hc126_89 : (f3e1 q0 (q0 + ((((p2 >>> ((1 : Int32) &&& 31)) % (3 : Int32)).toInt64) - (1 : Int64)))) = (1 : Int32)) (hc161_92 : ¬ ((f3e2 q0 (q0 + ((((p2 >>> ((1 : Int32) &&& 31)) % (3 : Int32)).toInt64) - (1 : Int64)))) = (1 : Int32))) : False := by
  clear hc7_1
  generalize (q0 + ((((p2 >>> ((1 : Int32) &&& 31)) % (3 : Int32)).toInt64) - (1 : Int64))) = n at *
  rcases own_tri q0 n with ⟨h1, h2, h3, h4⟩ | ⟨h1, h2, h3, h4⟩ | ⟨h1, h2, h3, h4⟩
  · simp [f1, f2, f3e0, f3e1, f3e2, h1, h2, h3, h4] at hc37_63 hc57_65 hc96_86 hc126_89 hc161_92
  · simp [f1, f2, f3e0, f3e1, f3e2, h1, h2, h3, h4] at hc37_63 hc57_65 hc96_86 hc126_89 hc161_92
  · subst h3; simp [f1, f2, f3e0, f3e1, f3e2, h1] at hc37_63 hc57_65 hc96_86 hc126_89 hc161_92
theorem dead0_29 (q0 : Int64) (q1 : Int64) (p2 : Int32) (hc7_1 : ¬ ((p2 &&& (1 : Int32)) = (0 : Int32))) (hc37_63 : (f1 q0 (q0 + ((((p2 >>> ((1 : Int32) &&& 31)) % (3 : Int32)).toInt64) - (1 : Int64)))) = q0) (hc57_65 : ¬ ((f2 q0 (q0 + ((((p2 >>> ((1 : Int32) &&& 31)) % (3 : Int32)).toInt64) - (1 : Int64)))) = q0)) (hc96_86 : (f3e0 q0 (q0 + ((((p2 >>> ((1 : Int32) &&& 31)) % (3 : Int32)).toInt64) - (1 : Int64)))) = (0 : Int32)) (hc126_89 : ¬ ((f3e1 q0 (q0 + ((((p2 >>> ((1 : Int32) &&& 31)) % (3 : Int32)).toInt64) - (1 : Int64)))) = (1 : Int32))) : False := by
  clear hc7_1
  generalize (q0 + ((((p2 >>> ((1 : Int32) &&& 31)) % (3 : Int32)).toInt64) - (1 : Int64))) = n at *
  rcases own_tri q0 n with ⟨h1, h2, h3, h4⟩ | ⟨h1, h2, h3, h4⟩ | ⟨h1, h2, h3, h4⟩
  · simp [f1, f2, f3e0, f3e1, h1, h2, h3, h4] at hc37_63 hc57_65 hc96_86 hc126_89
  · simp [f1, f2, f3e0, f3e1, h1, h2, h3, h4] at hc37_63 hc57_65 hc96_86 hc126_89
  · subst h3; simp [f1, f2, f3e0, f3e1, h1] at hc37_63 hc57_65 hc96_86 hc126_89
theorem dead0_30 (q0 : Int64) (q1 : Int64) (p2 : Int32) (hc7_1 : ¬ ((p2 &&& (1 : Int32)) = (0 : Int32))) (hc37_63 : (f1 q0 (q0 + ((((p2 >>> ((1 : Int32) &&& 31)) % (3 : Int32)).toInt64) - (1 : Int64)))) = q0) (hc57_65 : ¬ ((f2 q0 (q0 + ((((p2 >>> ((1 : Int32) &&& 31)) % (3 : Int32)).toInt64) - (1 : Int64)))) = q0)) (hc96_86 : ¬ ((f3e0 q0 (q0 + ((((p2 >>> ((1 : Int32) &&& 31)) % (3 : Int32)).toInt64) - (1 : Int64)))) = (0 : Int32))) : False := by
  clear hc7_1
  generalize (q0 + ((((p2 >>> ((1 : Int32) &&& 31)) % (3 : Int32)).toInt64) - (1 : Int64))) = n at *
  rcases own_tri q0 n with ⟨h1, h2, h3, h4⟩ | ⟨h1, h2, h3, h4⟩ | ⟨h1, h2, h3, h4⟩
  · simp [f1, f2, f3e0, h1, h2, h3, h4] at hc37_63 hc57_65 hc96_86
  · simp [f1, f2, f3e0, h1, h2, h3, h4] at hc37_63 hc57_65 hc96_86
  · subst h3; simp [f1, f2, f3e0, h1] at hc37_63 hc57_65 hc96_86
theorem dead0_31 (q0 : Int64) (q1 : Int64) (p2 : Int32) (hc7_1 : ¬ ((p2 &&& (1 : Int32)) = (0 : Int32))) (hc37_63 : ¬ ((f1 q0 (q0 + ((((p2 >>> ((1 : Int32) &&& 31)) % (3 : Int32)).toInt64) - (1 : Int64)))) = q0)) (hc57_103 : (f2 q0 (q0 + ((((p2 >>> ((1 : Int32) &&& 31)) % (3 : Int32)).toInt64) - (1 : Int64)))) = q0) (hc96_106 : (f3e0 q0 (q0 + ((((p2 >>> ((1 : Int32) &&& 31)) % (3 : Int32)).toInt64) - (1 : Int64)))) = (0 : Int32)) (hc126_109 : (f3e1 q0 (q0 + ((((p2 >>> ((1 : Int32) &&& 31)) % (3 : Int32)).toInt64) - (1 : Int64)))) = (1 : Int32)) (hc161_112 : (f3e2 q0 (q0 + ((((p2 >>> ((1 : Int32) &&& 31)) % (3 : Int32)).toInt64) - (1 : Int64)))) = (0 : Int32)) (hc183_115 : (f3e3 q0 (q0 + ((((p2 >>> ((1 : Int32) &&& 31)) % (3 : Int32)).toInt64) - (1 : Int64)))) = (0 : Int32)) (hc218_118 : (f3e4 q0 (q0 + ((((p2 >>> ((1 : Int32) &&& 31)) % (3 : Int32)).toInt64) - (1 : Int64)))) = (1 : Int32)) (hc240_121 : ¬ ((f3e5 q0 (q0 + ((((p2 >>> ((1 : Int32) &&& 31)) % (3 : Int32)).toInt64) - (1 : Int64)))) = (1 : Int32))) : False := by
  clear hc7_1
  generalize (q0 + ((((p2 >>> ((1 : Int32) &&& 31)) % (3 : Int32)).toInt64) - (1 : Int64))) = n at *
  rcases own_tri q0 n with ⟨h1, h2, h3, h4⟩ | ⟨h1, h2, h3, h4⟩ | ⟨h1, h2, h3, h4⟩
  · simp [f1, f2, f3e0, f3e1, f3e2, f3e3, f3e4, f3e5, h1, h2, h3, h4] at hc37_63 hc57_103 hc96_106 hc126_109 hc161_112 hc183_115 hc218_118 hc240_121
  · simp [f1, f2, f3e0, f3e1, f3e2, f3e3, f3e4, f3e5, h1, h2, h3, h4] at hc37_63 hc57_103 hc96_106 hc126_109 hc161_112 hc183_115 hc218_118 hc240_121
  · subst h3; simp [f1, f2, f3e0, f3e1, f3e2, f3e3, f3e4, f3e5, h1] at hc37_63 hc57_103 hc96_106 hc126_109 hc161_112 hc183_115 hc218_118 hc240_121
theorem dead0_32 (q0 : Int64) (q1 : Int64) (p2 : Int32) (hc7_1 : ¬ ((p2 &&& (1 : Int32)) = (0 : Int32))) (hc37_63 : ¬ ((f1 q0 (q0 + ((((p2 >>> ((1 : Int32) &&& 31)) % (3 : Int32)).toInt64) - (1 : Int64)))) = q0)) (hc57_103 : (f2 q0 (q0 + ((((p2 >>> ((1 : Int32) &&& 31)) % (3 : Int32)).toInt64) - (1 : Int64)))) = q0) (hc96_106 : (f3e0 q0 (q0 + ((((p2 >>> ((1 : Int32) &&& 31)) % (3 : Int32)).toInt64) - (1 : Int64)))) = (0 : Int32)) (hc126_109 : (f3e1 q0 (q0 + ((((p2 >>> ((1 : Int32) &&& 31)) % (3 : Int32)).toInt64) - (1 : Int64)))) = (1 : Int32)) (hc161_112 : (f3e2 q0 (q0 + ((((p2 >>> ((1 : Int32) &&& 31)) % (3 : Int32)).toInt64) - (1 : Int64)))) = (0 : Int32)) (hc183_115 : (f3e3 q0 (q0 + ((((p2 >>> ((1 : Int32) &&& 31)) % (3 : Int32)).toInt64) - (1 : Int64)))) = (0 : Int32)) (hc218_118 : ¬ ((f3e4 q0 (q0 + ((((p2 >>> ((1 : Int32) &&& 31)) % (3 : Int32)).toInt64) - (1 : Int64)))) = (1 : Int32))) : False := by
  clear hc7_1
  generalize (q0 + ((((p2 >>> ((1 : Int32) &&& 31)) % (3 : Int32)).toInt64) - (1 : Int64))) = n at *
  rcases own_tri q0 n with ⟨h1, h2, h3, h4⟩ | ⟨h1, h2, h3, h4⟩ | ⟨h1, h2, h3, h4⟩
  · simp [f1, f2, f3e0, f3e1, f3e2, f3e3, f3e4, h1, h2, h3, h4] at hc37_63 hc57_103 hc96_106 hc126_109 hc161_112 hc183_115 hc218_118
  · simp [f1, f2, f3e0, f3e1, f3e2, f3e3, f3e4, h1, h2, h3, h4] at hc37_63 hc57_103 hc96_106 hc126_109 hc161_112 hc183_115 hc218_118
  · subst h3; simp [f1, f2, f3e0, f3e1, f3e2, f3e3, f3e4, h1] at hc37_63 hc57_103 hc96_106 hc126_109 hc161_112 hc183_115 hc218_118
theorem dead0_33 (q0 : Int64) (q1 : Int64) (p2 : Int32) (hc7_1 : ¬ ((p2 &&& (1 : Int32)) = (0 : Int32))) (hc37_63 : ¬ ((f1 q0 (q0 + ((((p2 >>> ((1 : Int32) &&& 31)) % (3 : Int32)).toInt64) - (1 : Int64)))) = q0)) (hc57_103 : (f2 q0 (q0 + ((((p2 >>> ((1 : Int32) &&& 31)) % (3 : Int32)).toInt64) - (1 : Int64)))) = q0) (hc96_106 : (f3e0 q0 (q0 + ((((p2 >>> ((1 : Int32) &&& 31)) % (3 : Int32)).toInt64) - (1 : Int64)))) = (0 : Int32)) (hc126_109 : (f3e1 q0 (q0 + ((((p2 >>> ((1 : Int32) &&& 31)) % (3 : Int32)).toInt64) - (1 : Int64)))) = (1 : Int32)) (hc161_112 : (f3e2 q0 (q0 + ((((p2 >>> ((1 : Int32) &&& 31)) % (3 : Int32)).toInt64) - (1 : Int64)))) = (0 : Int32)) (hc183_115 : ¬ ((f3e3 q0 (q0 + ((((p2 >>> ((1 : Int32) &&& 31)) % (3 : Int32)).toInt64) - (1 : Int64)))) = (0 : Int32))) : False := by
  clear hc7_1
  generalize (q0 + ((((p2 >>> ((1 : Int32) &&& 31)) % (3 : Int32)).toInt64) - (1 : Int64))) = n at *
  rcases own_tri q0 n with ⟨h1, h2, h3, h4⟩ | ⟨h1, h2, h3, h4⟩ | ⟨h1, h2, h3, h4⟩
  · simp [f1, f2, f3e0, f3e1, f3e2, f3e3, h1, h2, h3, h4] at hc37_63 hc57_103 hc96_106 hc126_109 hc161_112 hc183_115
  · simp [f1, f2, f3e0, f3e1, f3e2, f3e3, h1, h2, h3, h4] at hc37_63 hc57_103 hc96_106 hc126_109 hc161_112 hc183_115
  · subst h3; simp [f1, f2, f3e0, f3e1, f3e2, f3e3, h1] at hc37_63 hc57_103 hc96_106 hc126_109 hc161_112 hc183_115
theorem dead0_34 (q0 : Int64) (q1 : Int64) (p2 : Int32) (hc7_1 : ¬ ((p2 &&& (1 : Int32)) = (0 : Int32))) (hc37_63 : ¬ ((f1 q0 (q0 + ((((p2 >>> ((1 : Int32) &&& 31)) % (3 : Int32)).toInt64) - (1 : Int64)))) = q0)) (hc57_103 : (f2 q0 (q0 + ((((p2 >>> ((1 : Int32) &&& 31)) % (3 : Int32)).toInt64) - (1 : Int64)))) = q0) (hc96_106 : (f3e0 q0 (q0 + ((((p2 >>> ((1 : Int32) &&& 31)) % (3 : Int32)).toInt64) - (1 : Int64)))) = (0 : Int32)) (hc126_109 : (f3e1 q0 (q0 + ((((p2 >>> ((1 : Int32) &&& 31)) % (3 : Int32)).toInt64) - (1 : Int64)))) = (1 : Int32)) (hc161_112 : ¬ ((f3e2 q0 (q0 + ((((p2 >>> ((1 : Int32) &&& 31)) % (3 : Int32)).toInt64) - (1 : Int64)))) = (0 : Int32))) : False := by
  clear hc7_1
  generalize (q0 + ((((p2 >>> ((1 : Int32) &&& 31)) % (3 : Int32)).toInt64) - (1 : Int64))) = n at *
  rcases own_tri q0 n with ⟨h1, h2, h3, h4⟩ | ⟨h1, h2, h3, h4⟩ | ⟨h1, h2, h3, h4⟩
  · simp [f1, f2, f3e0, f3e1, f3e2, h1, h2, h3, h4] at hc37_63 hc57_103 hc96_106 hc126_109 hc161_112
  · simp [f1, f2, f3e0, f3e1, f3e2, h1, h2, h3, h4] at hc37_63 hc57_103 hc96_106 hc126_109 hc161_112
  · subst h3; simp [f1, f2, f3e0, f3e1, f3e2, h1] at hc37_63 hc57_103 hc96_106 hc126_109 hc161_112
theorem dead0_35 (q0 : Int64) (q1 : Int64) (p2 : Int32) (hc7_1 : ¬ ((p2 &&& (1 : Int32)) = (0 : Int32))) (hc37_63 : ¬ ((f1 q0 (q0 + ((((p2 >>> ((1 : Int32) &&& 31)) % (3 : Int32)).toInt64) - (1 : Int64)))) = q0)) (hc57_103 : (f2 q0 (q0 + ((((p2 >>> ((1 : Int32) &&& 31)) % (3 : Int32)).toInt64) - (1 : Int64)))) = q0) (hc96_106 : (f3e0 q0 (q0 + ((((p2 >>> ((1 : Int32) &&& 31)) % (3 : Int32)).toInt64) - (1 : Int64)))) = (0 : Int32)) (hc126_109 : ¬ ((f3e1 q0 (q0 + ((((p2 >>> ((1 : Int32) &&& 31)) % (3 : Int32)).toInt64) - (1 : Int64)))) = (1 : Int32))) : False := by
  clear hc7_1
  generalize (q0 + ((((p2 >>> ((1 : Int32) &&& 31)) % (3 : Int32)).toInt64) - (1 : Int64))) = n at *
  rcases own_tri q0 n with ⟨h1, h2, h3, h4⟩ | ⟨h1, h2, h3, h4⟩ | ⟨h1, h2, h3, h4⟩
  · simp [f1, f2, f3e0, f3e1, h1, h2, h3, h4] at hc37_63 hc57_103 hc96_106 hc126_109
  · simp [f1, f2, f3e0, f3e1, h1, h2, h3, h4] at hc37_63 hc57_103 hc96_106 hc126_109
  · subst h3; simp [f1, f2, f3e0, f3e1, h1] at hc37_63 hc57_103 hc96_106 hc126_109
theorem dead0_36 (q0 : Int64) (q1 : Int64) (p2 : Int32) (hc7_1 : ¬ ((p2 &&& (1 : Int32)) = (0 : Int32))) (hc37_63 : ¬ ((f1 q0 (q0 + ((((p2 >>> ((1 : Int32) &&& 31)) % (3 : Int32)).toInt64) - (1 : Int64)))) = q0)) (hc57_103 : (f2 q0 (q0 + ((((p2 >>> ((1 : Int32) &&& 31)) % (3 : Int32)).toInt64) - (1 : Int64)))) = q0) (hc96_106 : ¬ ((f3e0 q0 (q0 + ((((p2 >>> ((1 : Int32) &&& 31)) % (3 : Int32)).toInt64) - (1 : Int64)))) = (0 : Int32))) : False := by
  clear hc7_1
  generalize (q0 + ((((p2 >>> ((1 : Int32) &&& 31)) % (3 : Int32)).toInt64) - (1 : Int64))) = n at *
  rcases own_tri q0 n with ⟨h1, h2, h3, h4⟩ | ⟨h1, h2, h3, h4⟩ | ⟨h1, h2, h3, h4⟩
  · simp [f1, f2, f3e0, h1, h2, h3, h4] at hc37_63 hc57_103 hc96_106
  · simp [f1, f2, f3e0, h1, h2, h3, h4] at hc37_63 hc57_103 hc96_106
  · subst h3; simp [f1, f2, f3e0, h1] at hc37_63 hc57_103 hc96_106
theorem dead0_37 (q0 : Int64) (q1 : Int64) (p2 : Int32) (hc7_1 : ¬ ((p2 &&& (1 : Int32)) = (0 : Int32))) (hc37_63 : ¬ ((f1 q0 (q0 + ((((p2 >>> ((1 : Int32) &&& 31)) % (3 : Int32)).toInt64) - (1 : Int64)))) = q0)) (hc57_103 : ¬ ((f2 q0 (q0 + ((((p2 >>> ((1 : Int32) &&& 31)) % (3 : Int32)).toInt64) - (1 : Int64)))) = q0)) : False := by
  clear hc7_1
  generalize (q0 + ((((p2 >>> ((1 : Int32) &&& 31)) % (3 : Int32)).toInt64) - (1 : Int64))) = n at *
  rcases own_tri q0 n with ⟨h1, h2, h3, h4⟩ | ⟨h1, h2, h3, h4⟩ | ⟨h1, h2, h3, h4⟩
  · simp [f1, f2, h1, h2, h3, h4] at hc37_63 hc57_103
  · simp [f1, f2, h1, h2, h3, h4] at hc37_63 hc57_103
  · subst h3; simp [f1, f2, h1] at hc37_63 hc57_103
def Q0 (Z : State) (q0 : Int64) (q1 : Int64) (p2 : Int32) (w_EQUAL : Addr) (w_NOT_EQUAL : Addr) (w_LESS : Addr) (w_AT_MOST : Addr) (w_GREATER : Addr) (w_AT_LEAST : Addr) (h0 : Heap) (n0 : Nat) (v : Option Value) (h : Heap) (L : List Loc) : Prop := v = some (.int 1) ∧ Fr n0 L
set_option maxRecDepth 65536 in
set_option maxHeartbeats 40000000 in
theorem rm0 (l : Launch) (Z : State) (a0 : Array Value) (hw : ∀ d ∈ tables_1, d.before a0 Z = true) (ws : List Jvm.Cond) (q0 : Int64) (q1 : Int64) (p2 : Int32) (w_EQUAL : Addr) (w_NOT_EQUAL : Addr) (w_LESS : Addr) (w_AT_MOST : Addr) (w_GREATER : Addr) (w_AT_LEAST : Addr) (h0 : Heap) (n0 : Nat) (Z0 : n0 ≤ h0.size) (S_w_EQUAL : Sta Z h0 "com/example/ringd/ringd/core/Comparison$Operator" "EQUAL" "Lcom/example/ringd/ringd/core/Comparison$Operator;" (.ref w_EQUAL)) (E_w_EQUAL : Exa Z h0 w_EQUAL "com/example/ringd/ringd/core/Comparison$Operator") (F_w_EQUAL : Fld Z h0 w_EQUAL "java/lang/Enum" "ordinal" "I" (.int (0 : Int32))) (S_w_NOT_EQUAL : Sta Z h0 "com/example/ringd/ringd/core/Comparison$Operator" "NOT_EQUAL" "Lcom/example/ringd/ringd/core/Comparison$Operator;" (.ref w_NOT_EQUAL)) (E_w_NOT_EQUAL : Exa Z h0 w_NOT_EQUAL "com/example/ringd/ringd/core/Comparison$Operator") (F_w_NOT_EQUAL : Fld Z h0 w_NOT_EQUAL "java/lang/Enum" "ordinal" "I" (.int (1 : Int32))) (S_w_LESS : Sta Z h0 "com/example/ringd/ringd/core/Comparison$Operator" "LESS" "Lcom/example/ringd/ringd/core/Comparison$Operator;" (.ref w_LESS)) (E_w_LESS : Exa Z h0 w_LESS "com/example/ringd/ringd/core/Comparison$Operator") (F_w_LESS : Fld Z h0 w_LESS "java/lang/Enum" "ordinal" "I" (.int (2 : Int32))) (S_w_AT_MOST : Sta Z h0 "com/example/ringd/ringd/core/Comparison$Operator" "AT_MOST" "Lcom/example/ringd/ringd/core/Comparison$Operator;" (.ref w_AT_MOST)) (E_w_AT_MOST : Exa Z h0 w_AT_MOST "com/example/ringd/ringd/core/Comparison$Operator") (F_w_AT_MOST : Fld Z h0 w_AT_MOST "java/lang/Enum" "ordinal" "I" (.int (3 : Int32))) (S_w_GREATER : Sta Z h0 "com/example/ringd/ringd/core/Comparison$Operator" "GREATER" "Lcom/example/ringd/ringd/core/Comparison$Operator;" (.ref w_GREATER)) (E_w_GREATER : Exa Z h0 w_GREATER "com/example/ringd/ringd/core/Comparison$Operator") (F_w_GREATER : Fld Z h0 w_GREATER "java/lang/Enum" "ordinal" "I" (.int (4 : Int32))) (S_w_AT_LEAST : Sta Z h0 "com/example/ringd/ringd/core/Comparison$Operator" "AT_LEAST" "Lcom/example/ringd/ringd/core/Comparison$Operator;" (.ref w_AT_LEAST)) (E_w_AT_LEAST : Exa Z h0 w_AT_LEAST "com/example/ringd/ringd/core/Comparison$Operator") (F_w_AT_LEAST : Fld Z h0 w_AT_LEAST "java/lang/Enum" "ordinal" "I" (.int (5 : Int32))) :
    MetFree l x (head1 (Jvm.Cond.code x code maxLocals ret :: ws) room_1) (fun a U => a = #[(.long q0), (.long q1), (.int p2)] ∧ Z.Warmed39 U.vm ∧ U.heap = h0) (fun _ _ _ _ _ => True) (fun _ U o U' => ∃ v L, o = .returned v ∧ Q0 Z q0 q1 p2 w_EQUAL w_NOT_EQUAL w_LESS w_AT_MOST w_GREATER w_AT_LEAST h0 n0 v U'.heap L ∧ FrameEnd U o U' L 0 0) := by
  refine MetFree.of_bodySF (plainFor_of_name pn_2) hisR ?_
  intro p e s m args below meth c s₁ Bd hml0 hP hK
  obtain ⟨rfl, hZ, hh⟩ := hP
  have hx := Bd.exec
  have hby := Bd.bytes
  have hml : c.maxLocals = 18 := hml0
  have hown : s.vm.findClass "com/example/ringd/ringd/core/OperatorHoldsPinLaw" = some m.cls := findClass_of_methodNamed Bd.named
  have hnm := (name_of_methodNamed Bd.named Bd.method).1
  have X0 : Stand p l e room_1 s m #[(.long q0), (.long q1), (.int p2)] below meth c s₁ [] 0 0 := Stand.of_body Bd
  have e0 : s₁.heap = h0 := by rw [← hh, Bd.state]; rfl
  have N0 := Fr.nil n0
  have hret := Bd.returns
  have hlk := BodyLoose.notSynchronized Bd
  show own_Out p e below (fun o U' => ∃ v L, o = .returned v ∧ Q0 Z q0 q1 p2 w_EQUAL w_NOT_EQUAL w_LESS w_AT_MOST w_GREATER w_AT_LEAST h0 n0 v U'.heap L ∧ FrameEnd s o U' L 0 0) (s₁.setTop (entryFrame m #[(.long q0), (.long q1), (.int p2)] maxLocals))
  refine own_of (fun t k => castTop (ef_0 m q0 q1 p2) k) ?_
  show own_Out p e below _ (s₁.setTop (mkF m 0 #[.val (.long q0), .second, .val (.long q1), .second, .val (.int p2), .unset, .unset, .unset, .unset, .unset, .unset, .unset, .unset, .unset, .unset, .unset, .unset, .unset] []))
  refine own_of (fun _ k => XS.lloadN X0.here hx rfl (hb hby at_0) rfl k) ?_
  show own_Out p e below _ (s₁.setTop (mkF m 1 #[.val (.long q0), .second, .val (.long q1), .second, .val (.int p2), .unset, .unset, .unset, .unset, .unset, .unset, .unset, .unset, .unset, .unset, .unset, .unset, .unset] [(.long q0)]))
  refine own_of (fun _ k => XS.lstore X0.here hx rfl (hb hby at_1) rfl (l' := #[.val (.long q0), .second, .val (.long q1), .second, .val (.int p2), .val (.long q0), .second, .unset, .unset, .unset, .unset, .unset, .unset, .unset, .unset, .unset, .unset, .unset]) rfl k) ?_
  show own_Out p e below _ (s₁.setTop (mkF m 3 #[.val (.long q0), .second, .val (.long q1), .second, .val (.int p2), .val (.long q0), .second, .unset, .unset, .unset, .unset, .unset, .unset, .unset, .unset, .unset, .unset, .unset] []))
  refine own_of (fun _ k => XS.iload X0.here hx rfl (hb hby at_3) rfl k) ?_
  show own_Out p e below _ (s₁.setTop (mkF m 5 #[.val (.long q0), .second, .val (.long q1), .second, .val (.int p2), .val (.long q0), .second, .unset, .unset, .unset, .unset, .unset, .unset, .unset, .unset, .unset, .unset, .unset] [(.int p2)]))
  refine own_of (fun _ k => XS.iconst X0.here hx rfl (hb hby at_5) k) ?_
  show own_Out p e below _ (s₁.setTop (mkF m 6 #[.val (.long q0), .second, .val (.long q1), .second, .val (.int p2), .val (.long q0), .second, .unset, .unset, .unset, .unset, .unset, .unset, .unset, .unset, .unset, .unset, .unset] [(.int (1 : Int32)), (.int p2)]))
  refine own_of (fun _ k => XS.iand X0.here hx rfl (hb hby at_6) rfl k) ?_
  show own_Out p e below _ (s₁.setTop (mkF m 7 #[.val (.long q0), .second, .val (.long q1), .second, .val (.int p2), .val (.long q0), .second, .unset, .unset, .unset, .unset, .unset, .unset, .unset, .unset, .unset, .unset, .unset] [(.int (p2 &&& (1 : Int32)))]))
  by_cases hc7_1 : (p2 &&& (1 : Int32)) = (0 : Int32)
  · skip
    refine own_of (fun _ k => XS.ifYes X0.here hx rfl (pc0 := 7) (pc' := 24) rfl (hb hby at_7) rfl ((if0 _ _).trans (teq hc7_1).1) (by decide) (by decide) k) ?_
    show own_Out p e below _ (s₁.setTop (mkF m 24 #[.val (.long q0), .second, .val (.long q1), .second, .val (.int p2), .val (.long q0), .second, .unset, .unset, .unset, .unset, .unset, .unset, .unset, .unset, .unset, .unset, .unset] []))
    refine own_of (fun _ k => XS.lloadN X0.here hx rfl (hb hby at_24) rfl k) ?_
    show own_Out p e below _ (s₁.setTop (mkF m 25 #[.val (.long q0), .second, .val (.long q1), .second, .val (.int p2), .val (.long q0), .second, .unset, .unset, .unset, .unset, .unset, .unset, .unset, .unset, .unset, .unset, .unset] [(.long q1)]))
    refine own_of (fun _ k => XS.lstore X0.here hx rfl (hb hby at_25) rfl (l' := #[.val (.long q0), .second, .val (.long q1), .second, .val (.int p2), .val (.long q0), .second, .val (.long q1), .second, .unset, .unset, .unset, .unset, .unset, .unset, .unset, .unset, .unset]) rfl k) ?_
    show own_Out p e below _ (s₁.setTop (mkF m 27 #[.val (.long q0), .second, .val (.long q1), .second, .val (.int p2), .val (.long q0), .second, .val (.long q1), .second, .unset, .unset, .unset, .unset, .unset, .unset, .unset, .unset, .unset] []))
    refine own_of (fun _ k => XS.lload X0.here hx rfl (hb hby at_27) rfl k) ?_
    show own_Out p e below _ (s₁.setTop (mkF m 29 #[.val (.long q0), .second, .val (.long q1), .second, .val (.int p2), .val (.long q0), .second, .val (.long q1), .second, .unset, .unset, .unset, .unset, .unset, .unset, .unset, .unset, .unset] [(.long q0)]))
    refine own_of (fun _ k => XS.lload X0.here hx rfl (hb hby at_29) rfl k) ?_
    show own_Out p e below _ (s₁.setTop (mkF m 31 #[.val (.long q0), .second, .val (.long q1), .second, .val (.int p2), .val (.long q0), .second, .val (.long q1), .second, .unset, .unset, .unset, .unset, .unset, .unset, .unset, .unset, .unset] [(.long q1), (.long q0)]))
    obtain ⟨_, _, ⟨T2, L2, k2, n2⟩, -, X2, ⟨Lc2, hQ2, l2, y2, z2⟩, st2⟩ := Jvm.LawKit.callS X0 hx (y := (⟨"java/lang/Math", "min", "(JJ)J"⟩ : MethodName)) hown (mvT hZ (hw _ (List.mem_of_getElem? (i := 0) rfl))) (mvT hZ (hw _ (List.mem_of_getElem? (i := 1) rfl))) (mvT hZ (hw _ (List.mem_of_getElem? (i := 2) rfl))) (mvT hZ (hw _ (List.mem_of_getElem? (i := 3) rfl))) (by decide) (backOf (W := 0) (rm1 l Z a0 hw [] q0 q1 h0 n0 Z0 ) hZ (hw _ (List.mem_of_getElem? (i := 3) rfl)) (hw _ (List.mem_of_getElem? (i := 2) rfl)) (by decide) (by decide)) (g := (mkF m 31 #[.val (.long q0), .second, .val (.long q1), .second, .val (.int p2), .val (.long q0), .second, .val (.long q1), .second, .unset, .unset, .unset, .unset, .unset, .unset, .unset, .unset, .unset] [(.long q1), (.long q0)])) rfl (by rw [hml]; rfl) (argsL := [(.long q0), (.long q1)]) (rest := []) (lenOf pd_1 rfl) rfl (by show 2 * 0 + _ ≤ _; exact Nat.le_of_eq rfl) (hb hby at_31) (fun _ _ => ⟨rfl, e0, (by decide : 0 + 0 ≤ _), (by decide : 0 + 0 ≤ _)⟩)
    dsimp only [Pt.U, Pt.locs, Pt.cells, Pt.slots] at X2 l2 y2 z2 st2 hQ2
    subst l2 y2 z2
    obtain ⟨rfl, N2q, hh2⟩ := hQ2
    have N2 := Fr.app N0 N2q
    refine own_of st2 ?_
    show own_Out p e below _ (T2.setTop (mkF m 34 #[.val (.long q0), .second, .val (.long q1), .second, .val (.int p2), .val (.long q0), .second, .val (.long q1), .second, .unset, .unset, .unset, .unset, .unset, .unset, .unset, .unset, .unset] [(.long (f1 q0 q1))]))
    refine own_of (fun _ k => XS.lload X2.here hx rfl (hb hby at_34) rfl k) ?_
    show own_Out p e below _ (T2.setTop (mkF m 36 #[.val (.long q0), .second, .val (.long q1), .second, .val (.int p2), .val (.long q0), .second, .val (.long q1), .second, .unset, .unset, .unset, .unset, .unset, .unset, .unset, .unset, .unset] [(.long q0), (.long (f1 q0 q1))]))
    refine own_of (fun _ k => XS.lcmp X2.here hx rfl (hb hby at_36) rfl k) ?_
    show own_Out p e below _ (T2.setTop (mkF m 37 #[.val (.long q0), .second, .val (.long q1), .second, .val (.int p2), .val (.long q0), .second, .val (.long q1), .second, .unset, .unset, .unset, .unset, .unset, .unset, .unset, .unset, .unset] [(.int (lcmpW (f1 q0 q1) q0))]))
    by_cases hc37_3 : (f1 q0 q1) = q0
    · skip
      refine own_of (fun _ k => XS.ifNo X2.here hx rfl (hb hby at_37) rfl (own_leq hc37_3).2 k) ?_
      show own_Out p e below _ (T2.setTop (mkF m 40 #[.val (.long q0), .second, .val (.long q1), .second, .val (.int p2), .val (.long q0), .second, .val (.long q1), .second, .unset, .unset, .unset, .unset, .unset, .unset, .unset, .unset, .unset] []))
      refine own_of (fun _ k => XS.iconst X2.here hx rfl (hb hby at_40) k) ?_
      show own_Out p e below _ (T2.setTop (mkF m 41 #[.val (.long q0), .second, .val (.long q1), .second, .val (.int p2), .val (.long q0), .second, .val (.long q1), .second, .unset, .unset, .unset, .unset, .unset, .unset, .unset, .unset, .unset] [(.int (1 : Int32))]))
      refine own_of (fun _ k => XS.goto X2.here hx rfl (pc0 := 41) (pc' := 45) rfl (hb hby at_41) (by decide) (by decide) k) ?_
      show own_Out p e below _ (T2.setTop (mkF m 45 #[.val (.long q0), .second, .val (.long q1), .second, .val (.int p2), .val (.long q0), .second, .val (.long q1), .second, .unset, .unset, .unset, .unset, .unset, .unset, .unset, .unset, .unset] [(.int (1 : Int32))]))
      refine own_of (fun _ k => XS.istore X2.here hx rfl (hb hby at_45) rfl (l' := #[.val (.long q0), .second, .val (.long q1), .second, .val (.int p2), .val (.long q0), .second, .val (.long q1), .second, .val (.int (1 : Int32)), .unset, .unset, .unset, .unset, .unset, .unset, .unset, .unset]) rfl k) ?_
      show own_Out p e below _ (T2.setTop (mkF m 47 #[.val (.long q0), .second, .val (.long q1), .second, .val (.int p2), .val (.long q0), .second, .val (.long q1), .second, .val (.int (1 : Int32)), .unset, .unset, .unset, .unset, .unset, .unset, .unset, .unset] []))
      refine own_of (fun _ k => XS.lload X2.here hx rfl (hb hby at_47) rfl k) ?_
      show own_Out p e below _ (T2.setTop (mkF m 49 #[.val (.long q0), .second, .val (.long q1), .second, .val (.int p2), .val (.long q0), .second, .val (.long q1), .second, .val (.int (1 : Int32)), .unset, .unset, .unset, .unset, .unset, .unset, .unset, .unset] [(.long q0)]))
      refine own_of (fun _ k => XS.lload X2.here hx rfl (hb hby at_49) rfl k) ?_
      show own_Out p e below _ (T2.setTop (mkF m 51 #[.val (.long q0), .second, .val (.long q1), .second, .val (.int p2), .val (.long q0), .second, .val (.long q1), .second, .val (.int (1 : Int32)), .unset, .unset, .unset, .unset, .unset, .unset, .unset, .unset] [(.long q1), (.long q0)]))
      obtain ⟨_, _, ⟨T4, L4, k4, n4⟩, -, X4, ⟨Lc4, hQ4, l4, y4, z4⟩, st4⟩ := Jvm.LawKit.callS X2 hx (y := (⟨"java/lang/Math", "max", "(JJ)J"⟩ : MethodName)) hown (mvT hZ (hw _ (List.mem_of_getElem? (i := 4) rfl))) (mvT hZ (hw _ (List.mem_of_getElem? (i := 5) rfl))) (mvT hZ (hw _ (List.mem_of_getElem? (i := 2) rfl))) (mvT hZ (hw _ (List.mem_of_getElem? (i := 6) rfl))) (by decide) (backOf (W := 0) (rm2 l Z a0 hw [] q0 q1 h0 n0 Z0 ) hZ (hw _ (List.mem_of_getElem? (i := 6) rfl)) (hw _ (List.mem_of_getElem? (i := 2) rfl)) (by decide) (by decide)) (g := (mkF m 51 #[.val (.long q0), .second, .val (.long q1), .second, .val (.int p2), .val (.long q0), .second, .val (.long q1), .second, .val (.int (1 : Int32)), .unset, .unset, .unset, .unset, .unset, .unset, .unset, .unset] [(.long q1), (.long q0)])) rfl (by rw [hml]; rfl) (argsL := [(.long q0), (.long q1)]) (rest := []) (lenOf pd_1 rfl) rfl (by show 2 * 0 + _ ≤ _; exact Nat.le_of_eq rfl) (hb hby at_51) (fun _ _ => ⟨rfl, hh2, (by decide : 0 + 0 ≤ _), (by decide : 0 + 0 ≤ _)⟩)
      dsimp only [Pt.U, Pt.locs, Pt.cells, Pt.slots] at X4 l4 y4 z4 st4 hQ4
      subst l4 y4 z4
      obtain ⟨rfl, N4q, hh4⟩ := hQ4
      have N4 := Fr.app N2 N4q
      refine own_of st4 ?_
      show own_Out p e below _ (T4.setTop (mkF m 54 #[.val (.long q0), .second, .val (.long q1), .second, .val (.int p2), .val (.long q0), .second, .val (.long q1), .second, .val (.int (1 : Int32)), .unset, .unset, .unset, .unset, .unset, .unset, .unset, .unset] [(.long (f2 q0 q1))]))
      refine own_of (fun _ k => XS.lload X4.here hx rfl (hb hby at_54) rfl k) ?_
      show own_Out p e below _ (T4.setTop (mkF m 56 #[.val (.long q0), .second, .val (.long q1), .second, .val (.int p2), .val (.long q0), .second, .val (.long q1), .second, .val (.int (1 : Int32)), .unset, .unset, .unset, .unset, .unset, .unset, .unset, .unset] [(.long q0), (.long (f2 q0 q1))]))
      refine own_of (fun _ k => XS.lcmp X4.here hx rfl (hb hby at_56) rfl k) ?_
      show own_Out p e below _ (T4.setTop (mkF m 57 #[.val (.long q0), .second, .val (.long q1), .second, .val (.int p2), .val (.long q0), .second, .val (.long q1), .second, .val (.int (1 : Int32)), .unset, .unset, .unset, .unset, .unset, .unset, .unset, .unset] [(.int (lcmpW (f2 q0 q1) q0))]))
      by_cases hc57_5 : (f2 q0 q1) = q0
      · skip
        refine own_of (fun _ k => XS.ifNo X4.here hx rfl (hb hby at_57) rfl (own_leq hc57_5).2 k) ?_
        show own_Out p e below _ (T4.setTop (mkF m 60 #[.val (.long q0), .second, .val (.long q1), .second, .val (.int p2), .val (.long q0), .second, .val (.long q1), .second, .val (.int (1 : Int32)), .unset, .unset, .unset, .unset, .unset, .unset, .unset, .unset] []))
        refine own_of (fun _ k => XS.iconst X4.here hx rfl (hb hby at_60) k) ?_
        show own_Out p e below _ (T4.setTop (mkF m 61 #[.val (.long q0), .second, .val (.long q1), .second, .val (.int p2), .val (.long q0), .second, .val (.long q1), .second, .val (.int (1 : Int32)), .unset, .unset, .unset, .unset, .unset, .unset, .unset, .unset] [(.int (1 : Int32))]))
        refine own_of (fun _ k => XS.goto X4.here hx rfl (pc0 := 61) (pc' := 65) rfl (hb hby at_61) (by decide) (by decide) k) ?_
        show own_Out p e below _ (T4.setTop (mkF m 65 #[.val (.long q0), .second, .val (.long q1), .second, .val (.int p2), .val (.long q0), .second, .val (.long q1), .second, .val (.int (1 : Int32)), .unset, .unset, .unset, .unset, .unset, .unset, .unset, .unset] [(.int (1 : Int32))]))
        refine own_of (fun _ k => XS.istore X4.here hx rfl (hb hby at_65) rfl (l' := #[.val (.long q0), .second, .val (.long q1), .second, .val (.int p2), .val (.long q0), .second, .val (.long q1), .second, .val (.int (1 : Int32)), .val (.int (1 : Int32)), .unset, .unset, .unset, .unset, .unset, .unset, .unset]) rfl k) ?_
        show own_Out p e below _ (T4.setTop (mkF m 67 #[.val (.long q0), .second, .val (.long q1), .second, .val (.int p2), .val (.long q0), .second, .val (.long q1), .second, .val (.int (1 : Int32)), .val (.int (1 : Int32)), .unset, .unset, .unset, .unset, .unset, .unset, .unset] []))
        refine own_of (fun _ k => XS.iload X4.here hx rfl (hb hby at_67) rfl k) ?_
        show own_Out p e below _ (T4.setTop (mkF m 69 #[.val (.long q0), .second, .val (.long q1), .second, .val (.int p2), .val (.long q0), .second, .val (.long q1), .second, .val (.int (1 : Int32)), .val (.int (1 : Int32)), .unset, .unset, .unset, .unset, .unset, .unset, .unset] [(.int (1 : Int32))]))
        refine own_of (fun _ k => XS.ifNo X4.here hx rfl (hb hby at_69) rfl ((if0 _ _).trans (feq (by decide : ¬ ((1 : Int32) = (0 : Int32)))).1) k) ?_
        show own_Out p e below _ (T4.setTop (mkF m 72 #[.val (.long q0), .second, .val (.long q1), .second, .val (.int p2), .val (.long q0), .second, .val (.long q1), .second, .val (.int (1 : Int32)), .val (.int (1 : Int32)), .unset, .unset, .unset, .unset, .unset, .unset, .unset] []))
        refine own_of (fun _ k => XS.iload X4.here hx rfl (hb hby at_72) rfl k) ?_
        show own_Out p e below _ (T4.setTop (mkF m 74 #[.val (.long q0), .second, .val (.long q1), .second, .val (.int p2), .val (.long q0), .second, .val (.long q1), .second, .val (.int (1 : Int32)), .val (.int (1 : Int32)), .unset, .unset, .unset, .unset, .unset, .unset, .unset] [(.int (1 : Int32))]))
        refine own_of (fun _ k => XS.ifNo X4.here hx rfl (hb hby at_74) rfl ((if0 _ _).trans (feq (by decide : ¬ ((1 : Int32) = (0 : Int32)))).1) k) ?_
        show own_Out p e below _ (T4.setTop (mkF m 77 #[.val (.long q0), .second, .val (.long q1), .second, .val (.int p2), .val (.long q0), .second, .val (.long q1), .second, .val (.int (1 : Int32)), .val (.int (1 : Int32)), .unset, .unset, .unset, .unset, .unset, .unset, .unset] []))
        refine own_of (fun _ k => XS.iconst X4.here hx rfl (hb hby at_77) k) ?_
        show own_Out p e below _ (T4.setTop (mkF m 78 #[.val (.long q0), .second, .val (.long q1), .second, .val (.int p2), .val (.long q0), .second, .val (.long q1), .second, .val (.int (1 : Int32)), .val (.int (1 : Int32)), .unset, .unset, .unset, .unset, .unset, .unset, .unset] [(.int (1 : Int32))]))
        refine own_of (fun _ k => XS.goto X4.here hx rfl (pc0 := 78) (pc' := 82) rfl (hb hby at_78) (by decide) (by decide) k) ?_
        show own_Out p e below _ (T4.setTop (mkF m 82 #[.val (.long q0), .second, .val (.long q1), .second, .val (.int p2), .val (.long q0), .second, .val (.long q1), .second, .val (.int (1 : Int32)), .val (.int (1 : Int32)), .unset, .unset, .unset, .unset, .unset, .unset, .unset] [(.int (1 : Int32))]))
        refine own_of (fun _ k => XS.istore X4.here hx rfl (hb hby at_82) rfl (l' := #[.val (.long q0), .second, .val (.long q1), .second, .val (.int p2), .val (.long q0), .second, .val (.long q1), .second, .val (.int (1 : Int32)), .val (.int (1 : Int32)), .val (.int (1 : Int32)), .unset, .unset, .unset, .unset, .unset, .unset]) rfl k) ?_
        show own_Out p e below _ (T4.setTop (mkF m 84 #[.val (.long q0), .second, .val (.long q1), .second, .val (.int p2), .val (.long q0), .second, .val (.long q1), .second, .val (.int (1 : Int32)), .val (.int (1 : Int32)), .val (.int (1 : Int32)), .unset, .unset, .unset, .unset, .unset, .unset] []))
        obtain ⟨T6, X6, e6, st6⟩ := getS2 X4 hx hZ hown (host := "") (Or.inl (hw _ (List.mem_of_getElem? (i := 7) rfl))) Via.refl hh4 S_w_EQUAL (g := (mkF m 84 #[.val (.long q0), .second, .val (.long q1), .second, .val (.int p2), .val (.long q0), .second, .val (.long q1), .second, .val (.int (1 : Int32)), .val (.int (1 : Int32)), .val (.int (1 : Int32)), .unset, .unset, .unset, .unset, .unset, .unset] [])) rfl (hb hby at_84)
        refine own_of st6 ?_
        show own_Out p e below _ (T6.setTop (mkF m 87 #[.val (.long q0), .second, .val (.long q1), .second, .val (.int p2), .val (.long q0), .second, .val (.long q1), .second, .val (.int (1 : Int32)), .val (.int (1 : Int32)), .val (.int (1 : Int32)), .unset, .unset, .unset, .unset, .unset, .unset] [(.ref w_EQUAL)]))
        refine own_of (fun _ k => XS.lload X6.here hx rfl (hb hby at_87) rfl k) ?_
        show own_Out p e below _ (T6.setTop (mkF m 89 #[.val (.long q0), .second, .val (.long q1), .second, .val (.int p2), .val (.long q0), .second, .val (.long q1), .second, .val (.int (1 : Int32)), .val (.int (1 : Int32)), .val (.int (1 : Int32)), .unset, .unset, .unset, .unset, .unset, .unset] [(.long q0), (.ref w_EQUAL)]))
        refine own_of (fun _ k => XS.lload X6.here hx rfl (hb hby at_89) rfl k) ?_
        show own_Out p e below _ (T6.setTop (mkF m 91 #[.val (.long q0), .second, .val (.long q1), .second, .val (.int p2), .val (.long q0), .second, .val (.long q1), .second, .val (.int (1 : Int32)), .val (.int (1 : Int32)), .val (.int (1 : Int32)), .unset, .unset, .unset, .unset, .unset, .unset] [(.long q1), (.long q0), (.ref w_EQUAL)]))
        obtain ⟨cq7, kq7, q7a, q7b, q7c⟩ := isOf hZ e6 E_w_EQUAL
        obtain ⟨_, _, ⟨T7, L7, k7, n7⟩, -, X7, ⟨Lc7, hQ7, l7, y7, z7⟩, st7⟩ := X6.virtualBack hx (y := (⟨"com/example/ringd/ringd/core/Comparison$Operator", "holds", "(JJ)Z"⟩ : MethodName)) (z := (⟨"com/example/ringd/ringd/core/Comparison$Operator", "holds", "(JJ)Z"⟩ : MethodName)) hown (mvT hZ (hw _ (List.mem_of_getElem? (i := 10) rfl))) (mvT hZ (hw _ (List.mem_of_getElem? (i := 11) rfl))) (notFace_of_selects (args := #[]) (mvT hZ (hw _ (List.mem_of_getElem? (i := 13) rfl)))) (mvT hZ (hw _ (List.mem_of_getElem? (i := 13) rfl))) (mvT hZ (hw _ (List.mem_of_getElem? (i := 12) rfl))) (by decide) (backOf (W := 0) (rm3e0 l Z a0 hw [] w_EQUAL q0 q1 h0 n0 Z0 E_w_EQUAL F_w_EQUAL) hZ (hw _ (List.mem_of_getElem? (i := 14) rfl)) (hw _ (List.mem_of_getElem? (i := 8) rfl)) (by decide) (by decide)) q7a q7c (g := (mkF m 91 #[.val (.long q0), .second, .val (.long q1), .second, .val (.int p2), .val (.long q0), .second, .val (.long q1), .second, .val (.int (1 : Int32)), .val (.int (1 : Int32)), .val (.int (1 : Int32)), .unset, .unset, .unset, .unset, .unset, .unset] [(.long q1), (.long q0), (.ref w_EQUAL)])) rfl (by rw [hml]; rfl) (Steps.refl _) (argsL := [(.long q0), (.long q1)]) (rest := []) (lenOf pd_2 rfl) rfl (by show 2 * 0 + _ ≤ _; exact Nat.le_of_eq rfl) (hb hby at_91) (fun _ _ => ⟨rfl, e6, (by decide : 0 + 0 ≤ _), (by decide : 0 + 0 ≤ _)⟩)
        dsimp only [Pt.U, Pt.locs, Pt.cells, Pt.slots] at X7 l7 y7 z7 st7 hQ7
        subst l7 y7 z7
        obtain ⟨rfl, N7q, hh7⟩ := hQ7
        have N7 := Fr.app N4 N7q
        refine own_of (fun _ k => st7.trans k) ?_
        show own_Out p e below _ (T7.setTop (mkF m 94 #[.val (.long q0), .second, .val (.long q1), .second, .val (.int p2), .val (.long q0), .second, .val (.long q1), .second, .val (.int (1 : Int32)), .val (.int (1 : Int32)), .val (.int (1 : Int32)), .unset, .unset, .unset, .unset, .unset, .unset] [(.int (f3e0 q0 q1))]))
        refine own_of (fun _ k => XS.iload X7.here hx rfl (hb hby at_94) rfl k) ?_
        show own_Out p e below _ (T7.setTop (mkF m 96 #[.val (.long q0), .second, .val (.long q1), .second, .val (.int p2), .val (.long q0), .second, .val (.long q1), .second, .val (.int (1 : Int32)), .val (.int (1 : Int32)), .val (.int (1 : Int32)), .unset, .unset, .unset, .unset, .unset, .unset] [(.int (1 : Int32)), (.int (f3e0 q0 q1))]))
        by_cases hc96_8 : (f3e0 q0 q1) = (1 : Int32)
        · skip
          refine own_of (fun _ k => XS.icmpNo X7.here hx rfl (hb hby at_96) rfl (teq hc96_8).2 k) ?_
          show own_Out p e below _ (T7.setTop (mkF m 99 #[.val (.long q0), .second, .val (.long q1), .second, .val (.int p2), .val (.long q0), .second, .val (.long q1), .second, .val (.int (1 : Int32)), .val (.int (1 : Int32)), .val (.int (1 : Int32)), .unset, .unset, .unset, .unset, .unset, .unset] []))
          refine own_of (fun _ k => XS.iconst X7.here hx rfl (hb hby at_99) k) ?_
          show own_Out p e below _ (T7.setTop (mkF m 100 #[.val (.long q0), .second, .val (.long q1), .second, .val (.int p2), .val (.long q0), .second, .val (.long q1), .second, .val (.int (1 : Int32)), .val (.int (1 : Int32)), .val (.int (1 : Int32)), .unset, .unset, .unset, .unset, .unset, .unset] [(.int (1 : Int32))]))
          refine own_of (fun _ k => XS.goto X7.here hx rfl (pc0 := 100) (pc' := 104) rfl (hb hby at_100) (by decide) (by decide) k) ?_
          show own_Out p e below _ (T7.setTop (mkF m 104 #[.val (.long q0), .second, .val (.long q1), .second, .val (.int p2), .val (.long q0), .second, .val (.long q1), .second, .val (.int (1 : Int32)), .val (.int (1 : Int32)), .val (.int (1 : Int32)), .unset, .unset, .unset, .unset, .unset, .unset] [(.int (1 : Int32))]))
          refine own_of (fun _ k => XS.istore X7.here hx rfl (hb hby at_104) rfl (l' := #[.val (.long q0), .second, .val (.long q1), .second, .val (.int p2), .val (.long q0), .second, .val (.long q1), .second, .val (.int (1 : Int32)), .val (.int (1 : Int32)), .val (.int (1 : Int32)), .val (.int (1 : Int32)), .unset, .unset, .unset, .unset, .unset]) rfl k) ?_
          show own_Out p e below _ (T7.setTop (mkF m 106 #[.val (.long q0), .second, .val (.long q1), .second, .val (.int p2), .val (.long q0), .second, .val (.long q1), .second, .val (.int (1 : Int32)), .val (.int (1 : Int32)), .val (.int (1 : Int32)), .val (.int (1 : Int32)), .unset, .unset, .unset, .unset, .unset] []))
          obtain ⟨T9, X9, e9, st9⟩ := getS2 X7 hx hZ hown (host := "") (Or.inl (hw _ (List.mem_of_getElem? (i := 24) rfl))) Via.refl hh7 S_w_NOT_EQUAL (g := (mkF m 106 #[.val (.long q0), .second, .val (.long q1), .second, .val (.int p2), .val (.long q0), .second, .val (.long q1), .second, .val (.int (1 : Int32)), .val (.int (1 : Int32)), .val (.int (1 : Int32)), .val (.int (1 : Int32)), .unset, .unset, .unset, .unset, .unset] [])) rfl (hb hby at_106)
          refine own_of st9 ?_
          show own_Out p e below _ (T9.setTop (mkF m 109 #[.val (.long q0), .second, .val (.long q1), .second, .val (.int p2), .val (.long q0), .second, .val (.long q1), .second, .val (.int (1 : Int32)), .val (.int (1 : Int32)), .val (.int (1 : Int32)), .val (.int (1 : Int32)), .unset, .unset, .unset, .unset, .unset] [(.ref w_NOT_EQUAL)]))
          refine own_of (fun _ k => XS.lload X9.here hx rfl (hb hby at_109) rfl k) ?_
          show own_Out p e below _ (T9.setTop (mkF m 111 #[.val (.long q0), .second, .val (.long q1), .second, .val (.int p2), .val (.long q0), .second, .val (.long q1), .second, .val (.int (1 : Int32)), .val (.int (1 : Int32)), .val (.int (1 : Int32)), .val (.int (1 : Int32)), .unset, .unset, .unset, .unset, .unset] [(.long q0), (.ref w_NOT_EQUAL)]))
          refine own_of (fun _ k => XS.lload X9.here hx rfl (hb hby at_111) rfl k) ?_
          show own_Out p e below _ (T9.setTop (mkF m 113 #[.val (.long q0), .second, .val (.long q1), .second, .val (.int p2), .val (.long q0), .second, .val (.long q1), .second, .val (.int (1 : Int32)), .val (.int (1 : Int32)), .val (.int (1 : Int32)), .val (.int (1 : Int32)), .unset, .unset, .unset, .unset, .unset] [(.long q1), (.long q0), (.ref w_NOT_EQUAL)]))
          obtain ⟨cq10, kq10, q10a, q10b, q10c⟩ := isOf hZ e9 E_w_NOT_EQUAL
          obtain ⟨_, _, ⟨T10, L10, k10, n10⟩, -, X10, ⟨Lc10, hQ10, l10, y10, z10⟩, st10⟩ := X9.virtualBack hx (y := (⟨"com/example/ringd/ringd/core/Comparison$Operator", "holds", "(JJ)Z"⟩ : MethodName)) (z := (⟨"com/example/ringd/ringd/core/Comparison$Operator", "holds", "(JJ)Z"⟩ : MethodName)) hown (mvT hZ (hw _ (List.mem_of_getElem? (i := 10) rfl))) (mvT hZ (hw _ (List.mem_of_getElem? (i := 11) rfl))) (notFace_of_selects (args := #[]) (mvT hZ (hw _ (List.mem_of_getElem? (i := 13) rfl)))) (mvT hZ (hw _ (List.mem_of_getElem? (i := 13) rfl))) (mvT hZ (hw _ (List.mem_of_getElem? (i := 12) rfl))) (by decide) (backOf (W := 0) (rm3e1 l Z a0 hw [] w_NOT_EQUAL q0 q1 h0 n0 Z0 E_w_NOT_EQUAL F_w_NOT_EQUAL) hZ (hw _ (List.mem_of_getElem? (i := 14) rfl)) (hw _ (List.mem_of_getElem? (i := 8) rfl)) (by decide) (by decide)) q10a q10c (g := (mkF m 113 #[.val (.long q0), .second, .val (.long q1), .second, .val (.int p2), .val (.long q0), .second, .val (.long q1), .second, .val (.int (1 : Int32)), .val (.int (1 : Int32)), .val (.int (1 : Int32)), .val (.int (1 : Int32)), .unset, .unset, .unset, .unset, .unset] [(.long q1), (.long q0), (.ref w_NOT_EQUAL)])) rfl (by rw [hml]; rfl) (Steps.refl _) (argsL := [(.long q0), (.long q1)]) (rest := []) (lenOf pd_2 rfl) rfl (by show 2 * 0 + _ ≤ _; exact Nat.le_of_eq rfl) (hb hby at_113) (fun _ _ => ⟨rfl, e9, (by decide : 0 + 0 ≤ _), (by decide : 0 + 0 ≤ _)⟩)
          dsimp only [Pt.U, Pt.locs, Pt.cells, Pt.slots] at X10 l10 y10 z10 st10 hQ10
          subst l10 y10 z10
          obtain ⟨rfl, N10q, hh10⟩ := hQ10
          have N10 := Fr.app N7 N10q
          refine own_of (fun _ k => st10.trans k) ?_
          show own_Out p e below _ (T10.setTop (mkF m 116 #[.val (.long q0), .second, .val (.long q1), .second, .val (.int p2), .val (.long q0), .second, .val (.long q1), .second, .val (.int (1 : Int32)), .val (.int (1 : Int32)), .val (.int (1 : Int32)), .val (.int (1 : Int32)), .unset, .unset, .unset, .unset, .unset] [(.int (f3e1 q0 q1))]))
          refine own_of (fun _ k => XS.iload X10.here hx rfl (hb hby at_116) rfl k) ?_
          show own_Out p e below _ (T10.setTop (mkF m 118 #[.val (.long q0), .second, .val (.long q1), .second, .val (.int p2), .val (.long q0), .second, .val (.long q1), .second, .val (.int (1 : Int32)), .val (.int (1 : Int32)), .val (.int (1 : Int32)), .val (.int (1 : Int32)), .unset, .unset, .unset, .unset, .unset] [(.int (1 : Int32)), (.int (f3e1 q0 q1))]))
          refine own_of (fun _ k => XS.ifYes X10.here hx rfl (pc0 := 118) (pc' := 125) rfl (hb hby at_118) rfl ((if0 _ _).trans (feq (by decide : ¬ ((1 : Int32) = (0 : Int32)))).2) (by decide) (by decide) k) ?_
          show own_Out p e below _ (T10.setTop (mkF m 125 #[.val (.long q0), .second, .val (.long q1), .second, .val (.int p2), .val (.long q0), .second, .val (.long q1), .second, .val (.int (1 : Int32)), .val (.int (1 : Int32)), .val (.int (1 : Int32)), .val (.int (1 : Int32)), .unset, .unset, .unset, .unset, .unset] [(.int (f3e1 q0 q1))]))
          refine own_of (fun _ k => XS.iconst X10.here hx rfl (hb hby at_125) k) ?_
          show own_Out p e below _ (T10.setTop (mkF m 126 #[.val (.long q0), .second, .val (.long q1), .second, .val (.int p2), .val (.long q0), .second, .val (.long q1), .second, .val (.int (1 : Int32)), .val (.int (1 : Int32)), .val (.int (1 : Int32)), .val (.int (1 : Int32)), .unset, .unset, .unset, .unset, .unset] [(.int (0 : Int32)), (.int (f3e1 q0 q1))]))
          by_cases hc126_11 : (f3e1 q0 q1) = (0 : Int32)
          · skip
            refine own_of (fun _ k => XS.icmpNo X10.here hx rfl (hb hby at_126) rfl (teq hc126_11).2 k) ?_
            show own_Out p e below _ (T10.setTop (mkF m 129 #[.val (.long q0), .second, .val (.long q1), .second, .val (.int p2), .val (.long q0), .second, .val (.long q1), .second, .val (.int (1 : Int32)), .val (.int (1 : Int32)), .val (.int (1 : Int32)), .val (.int (1 : Int32)), .unset, .unset, .unset, .unset, .unset] []))
            refine own_of (fun _ k => XS.iconst X10.here hx rfl (hb hby at_129) k) ?_
            show own_Out p e below _ (T10.setTop (mkF m 130 #[.val (.long q0), .second, .val (.long q1), .second, .val (.int p2), .val (.long q0), .second, .val (.long q1), .second, .val (.int (1 : Int32)), .val (.int (1 : Int32)), .val (.int (1 : Int32)), .val (.int (1 : Int32)), .unset, .unset, .unset, .unset, .unset] [(.int (1 : Int32))]))
            refine own_of (fun _ k => XS.goto X10.here hx rfl (pc0 := 130) (pc' := 134) rfl (hb hby at_130) (by decide) (by decide) k) ?_
            show own_Out p e below _ (T10.setTop (mkF m 134 #[.val (.long q0), .second, .val (.long q1), .second, .val (.int p2), .val (.long q0), .second, .val (.long q1), .second, .val (.int (1 : Int32)), .val (.int (1 : Int32)), .val (.int (1 : Int32)), .val (.int (1 : Int32)), .unset, .unset, .unset, .unset, .unset] [(.int (1 : Int32))]))
            refine own_of (fun _ k => XS.istore X10.here hx rfl (hb hby at_134) rfl (l' := #[.val (.long q0), .second, .val (.long q1), .second, .val (.int p2), .val (.long q0), .second, .val (.long q1), .second, .val (.int (1 : Int32)), .val (.int (1 : Int32)), .val (.int (1 : Int32)), .val (.int (1 : Int32)), .val (.int (1 : Int32)), .unset, .unset, .unset, .unset]) rfl k) ?_
            show own_Out p e below _ (T10.setTop (mkF m 136 #[.val (.long q0), .second, .val (.long q1), .second, .val (.int p2), .val (.long q0), .second, .val (.long q1), .second, .val (.int (1 : Int32)), .val (.int (1 : Int32)), .val (.int (1 : Int32)), .val (.int (1 : Int32)), .val (.int (1 : Int32)), .unset, .unset, .unset, .unset] []))
            obtain ⟨T12, X12, e12, st12⟩ := getS2 X10 hx hZ hown (host := "") (Or.inl (hw _ (List.mem_of_getElem? (i := 26) rfl))) Via.refl hh10 S_w_LESS (g := (mkF m 136 #[.val (.long q0), .second, .val (.long q1), .second, .val (.int p2), .val (.long q0), .second, .val (.long q1), .second, .val (.int (1 : Int32)), .val (.int (1 : Int32)), .val (.int (1 : Int32)), .val (.int (1 : Int32)), .val (.int (1 : Int32)), .unset, .unset, .unset, .unset] [])) rfl (hb hby at_136)
            refine own_of st12 ?_
            show own_Out p e below _ (T12.setTop (mkF m 139 #[.val (.long q0), .second, .val (.long q1), .second, .val (.int p2), .val (.long q0), .second, .val (.long q1), .second, .val (.int (1 : Int32)), .val (.int (1 : Int32)), .val (.int (1 : Int32)), .val (.int (1 : Int32)), .val (.int (1 : Int32)), .unset, .unset, .unset, .unset] [(.ref w_LESS)]))
            refine own_of (fun _ k => XS.lload X12.here hx rfl (hb hby at_139) rfl k) ?_
            show own_Out p e below _ (T12.setTop (mkF m 141 #[.val (.long q0), .second, .val (.long q1), .second, .val (.int p2), .val (.long q0), .second, .val (.long q1), .second, .val (.int (1 : Int32)), .val (.int (1 : Int32)), .val (.int (1 : Int32)), .val (.int (1 : Int32)), .val (.int (1 : Int32)), .unset, .unset, .unset, .unset] [(.long q0), (.ref w_LESS)]))
            refine own_of (fun _ k => XS.lload X12.here hx rfl (hb hby at_141) rfl k) ?_
            show own_Out p e below _ (T12.setTop (mkF m 143 #[.val (.long q0), .second, .val (.long q1), .second, .val (.int p2), .val (.long q0), .second, .val (.long q1), .second, .val (.int (1 : Int32)), .val (.int (1 : Int32)), .val (.int (1 : Int32)), .val (.int (1 : Int32)), .val (.int (1 : Int32)), .unset, .unset, .unset, .unset] [(.long q1), (.long q0), (.ref w_LESS)]))
            obtain ⟨cq13, kq13, q13a, q13b, q13c⟩ := isOf hZ e12 E_w_LESS
            obtain ⟨_, _, ⟨T13, L13, k13, n13⟩, -, X13, ⟨Lc13, hQ13, l13, y13, z13⟩, st13⟩ := X12.virtualBack hx (y := (⟨"com/example/ringd/ringd/core/Comparison$Operator", "holds", "(JJ)Z"⟩ : MethodName)) (z := (⟨"com/example/ringd/ringd/core/Comparison$Operator", "holds", "(JJ)Z"⟩ : MethodName)) hown (mvT hZ (hw _ (List.mem_of_getElem? (i := 10) rfl))) (mvT hZ (hw _ (List.mem_of_getElem? (i := 11) rfl))) (notFace_of_selects (args := #[]) (mvT hZ (hw _ (List.mem_of_getElem? (i := 13) rfl)))) (mvT hZ (hw _ (List.mem_of_getElem? (i := 13) rfl))) (mvT hZ (hw _ (List.mem_of_getElem? (i := 12) rfl))) (by decide) (backOf (W := 0) (rm3e2 l Z a0 hw [] w_LESS q0 q1 h0 n0 Z0 E_w_LESS F_w_LESS) hZ (hw _ (List.mem_of_getElem? (i := 14) rfl)) (hw _ (List.mem_of_getElem? (i := 8) rfl)) (by decide) (by decide)) q13a q13c (g := (mkF m 143 #[.val (.long q0), .second, .val (.long q1), .second, .val (.int p2), .val (.long q0), .second, .val (.long q1), .second, .val (.int (1 : Int32)), .val (.int (1 : Int32)), .val (.int (1 : Int32)), .val (.int (1 : Int32)), .val (.int (1 : Int32)), .unset, .unset, .unset, .unset] [(.long q1), (.long q0), (.ref w_LESS)])) rfl (by rw [hml]; rfl) (Steps.refl _) (argsL := [(.long q0), (.long q1)]) (rest := []) (lenOf pd_2 rfl) rfl (by show 2 * 0 + _ ≤ _; exact Nat.le_of_eq rfl) (hb hby at_143) (fun _ _ => ⟨rfl, e12, (by decide : 0 + 0 ≤ _), (by decide : 0 + 0 ≤ _)⟩)
            dsimp only [Pt.U, Pt.locs, Pt.cells, Pt.slots] at X13 l13 y13 z13 st13 hQ13
            subst l13 y13 z13
            obtain ⟨rfl, N13q, hh13⟩ := hQ13
            have N13 := Fr.app N10 N13q
            refine own_of (fun _ k => st13.trans k) ?_
            show own_Out p e below _ (T13.setTop (mkF m 146 #[.val (.long q0), .second, .val (.long q1), .second, .val (.int p2), .val (.long q0), .second, .val (.long q1), .second, .val (.int (1 : Int32)), .val (.int (1 : Int32)), .val (.int (1 : Int32)), .val (.int (1 : Int32)), .val (.int (1 : Int32)), .unset, .unset, .unset, .unset] [(.int (f3e2 q0 q1))]))
            refine own_of (fun _ k => XS.iload X13.here hx rfl (hb hby at_146) rfl k) ?_
            show own_Out p e below _ (T13.setTop (mkF m 148 #[.val (.long q0), .second, .val (.long q1), .second, .val (.int p2), .val (.long q0), .second, .val (.long q1), .second, .val (.int (1 : Int32)), .val (.int (1 : Int32)), .val (.int (1 : Int32)), .val (.int (1 : Int32)), .val (.int (1 : Int32)), .unset, .unset, .unset, .unset] [(.int (1 : Int32)), (.int (f3e2 q0 q1))]))
            refine own_of (fun _ k => XS.ifNo X13.here hx rfl (hb hby at_148) rfl ((if0 _ _).trans (feq (by decide : ¬ ((1 : Int32) = (0 : Int32)))).1) k) ?_
            show own_Out p e below _ (T13.setTop (mkF m 151 #[.val (.long q0), .second, .val (.long q1), .second, .val (.int p2), .val (.long q0), .second, .val (.long q1), .second, .val (.int (1 : Int32)), .val (.int (1 : Int32)), .val (.int (1 : Int32)), .val (.int (1 : Int32)), .val (.int (1 : Int32)), .unset, .unset, .unset, .unset] [(.int (f3e2 q0 q1))]))
            refine own_of (fun _ k => XS.iload X13.here hx rfl (hb hby at_151) rfl k) ?_
            show own_Out p e below _ (T13.setTop (mkF m 153 #[.val (.long q0), .second, .val (.long q1), .second, .val (.int p2), .val (.long q0), .second, .val (.long q1), .second, .val (.int (1 : Int32)), .val (.int (1 : Int32)), .val (.int (1 : Int32)), .val (.int (1 : Int32)), .val (.int (1 : Int32)), .unset, .unset, .unset, .unset] [(.int (1 : Int32)), (.int (f3e2 q0 q1))]))
            refine own_of (fun _ k => XS.ifYes X13.here hx rfl (pc0 := 153) (pc' := 160) rfl (hb hby at_153) rfl ((if0 _ _).trans (feq (by decide : ¬ ((1 : Int32) = (0 : Int32)))).2) (by decide) (by decide) k) ?_
            show own_Out p e below _ (T13.setTop (mkF m 160 #[.val (.long q0), .second, .val (.long q1), .second, .val (.int p2), .val (.long q0), .second, .val (.long q1), .second, .val (.int (1 : Int32)), .val (.int (1 : Int32)), .val (.int (1 : Int32)), .val (.int (1 : Int32)), .val (.int (1 : Int32)), .unset, .unset, .unset, .unset] [(.int (f3e2 q0 q1))]))
            refine own_of (fun _ k => XS.iconst X13.here hx rfl (hb hby at_160) k) ?_
            show own_Out p e below _ (T13.setTop (mkF m 161 #[.val (.long q0), .second, .val (.long q1), .second, .val (.int p2), .val (.long q0), .second, .val (.long q1), .second, .val (.int (1 : Int32)), .val (.int (1 : Int32)), .val (.int (1 : Int32)), .val (.int (1 : Int32)), .val (.int (1 : Int32)), .unset, .unset, .unset, .unset] [(.int (0 : Int32)), (.int (f3e2 q0 q1))]))
            by_cases hc161_14 : (f3e2 q0 q1) = (0 : Int32)
            · skip
              refine own_of (fun _ k => XS.icmpNo X13.here hx rfl (hb hby at_161) rfl (teq hc161_14).2 k) ?_
              show own_Out p e below _ (T13.setTop (mkF m 164 #[.val (.long q0), .second, .val (.long q1), .second, .val (.int p2), .val (.long q0), .second, .val (.long q1), .second, .val (.int (1 : Int32)), .val (.int (1 : Int32)), .val (.int (1 : Int32)), .val (.int (1 : Int32)), .val (.int (1 : Int32)), .unset, .unset, .unset, .unset] []))
              refine own_of (fun _ k => XS.iconst X13.here hx rfl (hb hby at_164) k) ?_
              show own_Out p e below _ (T13.setTop (mkF m 165 #[.val (.long q0), .second, .val (.long q1), .second, .val (.int p2), .val (.long q0), .second, .val (.long q1), .second, .val (.int (1 : Int32)), .val (.int (1 : Int32)), .val (.int (1 : Int32)), .val (.int (1 : Int32)), .val (.int (1 : Int32)), .unset, .unset, .unset, .unset] [(.int (1 : Int32))]))
              refine own_of (fun _ k => XS.goto X13.here hx rfl (pc0 := 165) (pc' := 169) rfl (hb hby at_165) (by decide) (by decide) k) ?_
              show own_Out p e below _ (T13.setTop (mkF m 169 #[.val (.long q0), .second, .val (.long q1), .second, .val (.int p2), .val (.long q0), .second, .val (.long q1), .second, .val (.int (1 : Int32)), .val (.int (1 : Int32)), .val (.int (1 : Int32)), .val (.int (1 : Int32)), .val (.int (1 : Int32)), .unset, .unset, .unset, .unset] [(.int (1 : Int32))]))
              refine own_of (fun _ k => XS.istore X13.here hx rfl (hb hby at_169) rfl (l' := #[.val (.long q0), .second, .val (.long q1), .second, .val (.int p2), .val (.long q0), .second, .val (.long q1), .second, .val (.int (1 : Int32)), .val (.int (1 : Int32)), .val (.int (1 : Int32)), .val (.int (1 : Int32)), .val (.int (1 : Int32)), .val (.int (1 : Int32)), .unset, .unset, .unset]) rfl k) ?_
              show own_Out p e below _ (T13.setTop (mkF m 171 #[.val (.long q0), .second, .val (.long q1), .second, .val (.int p2), .val (.long q0), .second, .val (.long q1), .second, .val (.int (1 : Int32)), .val (.int (1 : Int32)), .val (.int (1 : Int32)), .val (.int (1 : Int32)), .val (.int (1 : Int32)), .val (.int (1 : Int32)), .unset, .unset, .unset] []))
              obtain ⟨T15, X15, e15, st15⟩ := getS2 X13 hx hZ hown (host := "") (Or.inl (hw _ (List.mem_of_getElem? (i := 28) rfl))) Via.refl hh13 S_w_AT_MOST (g := (mkF m 171 #[.val (.long q0), .second, .val (.long q1), .second, .val (.int p2), .val (.long q0), .second, .val (.long q1), .second, .val (.int (1 : Int32)), .val (.int (1 : Int32)), .val (.int (1 : Int32)), .val (.int (1 : Int32)), .val (.int (1 : Int32)), .val (.int (1 : Int32)), .unset, .unset, .unset] [])) rfl (hb hby at_171)
              refine own_of st15 ?_
              show own_Out p e below _ (T15.setTop (mkF m 174 #[.val (.long q0), .second, .val (.long q1), .second, .val (.int p2), .val (.long q0), .second, .val (.long q1), .second, .val (.int (1 : Int32)), .val (.int (1 : Int32)), .val (.int (1 : Int32)), .val (.int (1 : Int32)), .val (.int (1 : Int32)), .val (.int (1 : Int32)), .unset, .unset, .unset] [(.ref w_AT_MOST)]))
              refine own_of (fun _ k => XS.lload X15.here hx rfl (hb hby at_174) rfl k) ?_
              show own_Out p e below _ (T15.setTop (mkF m 176 #[.val (.long q0), .second, .val (.long q1), .second, .val (.int p2), .val (.long q0), .second, .val (.long q1), .second, .val (.int (1 : Int32)), .val (.int (1 : Int32)), .val (.int (1 : Int32)), .val (.int (1 : Int32)), .val (.int (1 : Int32)), .val (.int (1 : Int32)), .unset, .unset, .unset] [(.long q0), (.ref w_AT_MOST)]))
              refine own_of (fun _ k => XS.lload X15.here hx rfl (hb hby at_176) rfl k) ?_
              show own_Out p e below _ (T15.setTop (mkF m 178 #[.val (.long q0), .second, .val (.long q1), .second, .val (.int p2), .val (.long q0), .second, .val (.long q1), .second, .val (.int (1 : Int32)), .val (.int (1 : Int32)), .val (.int (1 : Int32)), .val (.int (1 : Int32)), .val (.int (1 : Int32)), .val (.int (1 : Int32)), .unset, .unset, .unset] [(.long q1), (.long q0), (.ref w_AT_MOST)]))
              obtain ⟨cq16, kq16, q16a, q16b, q16c⟩ := isOf hZ e15 E_w_AT_MOST
              obtain ⟨_, _, ⟨T16, L16, k16, n16⟩, -, X16, ⟨Lc16, hQ16, l16, y16, z16⟩, st16⟩ := X15.virtualBack hx (y := (⟨"com/example/ringd/ringd/core/Comparison$Operator", "holds", "(JJ)Z"⟩ : MethodName)) (z := (⟨"com/example/ringd/ringd/core/Comparison$Operator", "holds", "(JJ)Z"⟩ : MethodName)) hown (mvT hZ (hw _ (List.mem_of_getElem? (i := 10) rfl))) (mvT hZ (hw _ (List.mem_of_getElem? (i := 11) rfl))) (notFace_of_selects (args := #[]) (mvT hZ (hw _ (List.mem_of_getElem? (i := 13) rfl)))) (mvT hZ (hw _ (List.mem_of_getElem? (i := 13) rfl))) (mvT hZ (hw _ (List.mem_of_getElem? (i := 12) rfl))) (by decide) (backOf (W := 0) (rm3e3 l Z a0 hw [] w_AT_MOST q0 q1 h0 n0 Z0 E_w_AT_MOST F_w_AT_MOST) hZ (hw _ (List.mem_of_getElem? (i := 14) rfl)) (hw _ (List.mem_of_getElem? (i := 8) rfl)) (by decide) (by decide)) q16a q16c (g := (mkF m 178 #[.val (.long q0), .second, .val (.long q1), .second, .val (.int p2), .val (.long q0), .second, .val (.long q1), .second, .val (.int (1 : Int32)), .val (.int (1 : Int32)), .val (.int (1 : Int32)), .val (.int (1 : Int32)), .val (.int (1 : Int32)), .val (.int (1 : Int32)), .unset, .unset, .unset] [(.long q1), (.long q0), (.ref w_AT_MOST)])) rfl (by rw [hml]; rfl) (Steps.refl _) (argsL := [(.long q0), (.long q1)]) (rest := []) (lenOf pd_2 rfl) rfl (by show 2 * 0 + _ ≤ _; exact Nat.le_of_eq rfl) (hb hby at_178) (fun _ _ => ⟨rfl, e15, (by decide : 0 + 0 ≤ _), (by decide : 0 + 0 ≤ _)⟩)
              dsimp only [Pt.U, Pt.locs, Pt.cells, Pt.slots] at X16 l16 y16 z16 st16 hQ16
              subst l16 y16 z16
              obtain ⟨rfl, N16q, hh16⟩ := hQ16
              have N16 := Fr.app N13 N16q
              refine own_of (fun _ k => st16.trans k) ?_
              show own_Out p e below _ (T16.setTop (mkF m 181 #[.val (.long q0), .second, .val (.long q1), .second, .val (.int p2), .val (.long q0), .second, .val (.long q1), .second, .val (.int (1 : Int32)), .val (.int (1 : Int32)), .val (.int (1 : Int32)), .val (.int (1 : Int32)), .val (.int (1 : Int32)), .val (.int (1 : Int32)), .unset, .unset, .unset] [(.int (f3e3 q0 q1))]))
              refine own_of (fun _ k => XS.iload X16.here hx rfl (hb hby at_181) rfl k) ?_
              show own_Out p e below _ (T16.setTop (mkF m 183 #[.val (.long q0), .second, .val (.long q1), .second, .val (.int p2), .val (.long q0), .second, .val (.long q1), .second, .val (.int (1 : Int32)), .val (.int (1 : Int32)), .val (.int (1 : Int32)), .val (.int (1 : Int32)), .val (.int (1 : Int32)), .val (.int (1 : Int32)), .unset, .unset, .unset] [(.int (1 : Int32)), (.int (f3e3 q0 q1))]))
              by_cases hc183_17 : (f3e3 q0 q1) = (1 : Int32)
              · skip
                refine own_of (fun _ k => XS.icmpNo X16.here hx rfl (hb hby at_183) rfl (teq hc183_17).2 k) ?_
                show own_Out p e below _ (T16.setTop (mkF m 186 #[.val (.long q0), .second, .val (.long q1), .second, .val (.int p2), .val (.long q0), .second, .val (.long q1), .second, .val (.int (1 : Int32)), .val (.int (1 : Int32)), .val (.int (1 : Int32)), .val (.int (1 : Int32)), .val (.int (1 : Int32)), .val (.int (1 : Int32)), .unset, .unset, .unset] []))
                refine own_of (fun _ k => XS.iconst X16.here hx rfl (hb hby at_186) k) ?_
                show own_Out p e below _ (T16.setTop (mkF m 187 #[.val (.long q0), .second, .val (.long q1), .second, .val (.int p2), .val (.long q0), .second, .val (.long q1), .second, .val (.int (1 : Int32)), .val (.int (1 : Int32)), .val (.int (1 : Int32)), .val (.int (1 : Int32)), .val (.int (1 : Int32)), .val (.int (1 : Int32)), .unset, .unset, .unset] [(.int (1 : Int32))]))
                refine own_of (fun _ k => XS.goto X16.here hx rfl (pc0 := 187) (pc' := 191) rfl (hb hby at_187) (by decide) (by decide) k) ?_
                show own_Out p e below _ (T16.setTop (mkF m 191 #[.val (.long q0), .second, .val (.long q1), .second, .val (.int p2), .val (.long q0), .second, .val (.long q1), .second, .val (.int (1 : Int32)), .val (.int (1 : Int32)), .val (.int (1 : Int32)), .val (.int (1 : Int32)), .val (.int (1 : Int32)), .val (.int (1 : Int32)), .unset, .unset, .unset] [(.int (1 : Int32))]))
                refine own_of (fun _ k => XS.istore X16.here hx rfl (hb hby at_191) rfl (l' := #[.val (.long q0), .second, .val (.long q1), .second, .val (.int p2), .val (.long q0), .second, .val (.long q1), .second, .val (.int (1 : Int32)), .val (.int (1 : Int32)), .val (.int (1 : Int32)), .val (.int (1 : Int32)), .val (.int (1 : Int32)), .val (.int (1 : Int32)), .val (.int (1 : Int32)), .unset, .unset]) rfl k) ?_
                show own_Out p e below _ (T16.setTop (mkF m 193 #[.val (.long q0), .second, .val (.long q1), .second, .val (.int p2), .val (.long q0), .second, .val (.long q1), .second, .val (.int (1 : Int32)), .val (.int (1 : Int32)), .val (.int (1 : Int32)), .val (.int (1 : Int32)), .val (.int (1 : Int32)), .val (.int (1 : Int32)), .val (.int (1 : Int32)), .unset, .unset] []))
                obtain ⟨T18, X18, e18, st18⟩ := getS2 X16 hx hZ hown (host := "") (Or.inl (hw _ (List.mem_of_getElem? (i := 30) rfl))) Via.refl hh16 S_w_GREATER (g := (mkF m 193 #[.val (.long q0), .second, .val (.long q1), .second, .val (.int p2), .val (.long q0), .second, .val (.long q1), .second, .val (.int (1 : Int32)), .val (.int (1 : Int32)), .val (.int (1 : Int32)), .val (.int (1 : Int32)), .val (.int (1 : Int32)), .val (.int (1 : Int32)), .val (.int (1 : Int32)), .unset, .unset] [])) rfl (hb hby at_193)
                refine own_of st18 ?_
                show own_Out p e below _ (T18.setTop (mkF m 196 #[.val (.long q0), .second, .val (.long q1), .second, .val (.int p2), .val (.long q0), .second, .val (.long q1), .second, .val (.int (1 : Int32)), .val (.int (1 : Int32)), .val (.int (1 : Int32)), .val (.int (1 : Int32)), .val (.int (1 : Int32)), .val (.int (1 : Int32)), .val (.int (1 : Int32)), .unset, .unset] [(.ref w_GREATER)]))
                refine own_of (fun _ k => XS.lload X18.here hx rfl (hb hby at_196) rfl k) ?_
                show own_Out p e below _ (T18.setTop (mkF m 198 #[.val (.long q0), .second, .val (.long q1), .second, .val (.int p2), .val (.long q0), .second, .val (.long q1), .second, .val (.int (1 : Int32)), .val (.int (1 : Int32)), .val (.int (1 : Int32)), .val (.int (1 : Int32)), .val (.int (1 : Int32)), .val (.int (1 : Int32)), .val (.int (1 : Int32)), .unset, .unset] [(.long q0), (.ref w_GREATER)]))
                refine own_of (fun _ k => XS.lload X18.here hx rfl (hb hby at_198) rfl k) ?_
                show own_Out p e below _ (T18.setTop (mkF m 200 #[.val (.long q0), .second, .val (.long q1), .second, .val (.int p2), .val (.long q0), .second, .val (.long q1), .second, .val (.int (1 : Int32)), .val (.int (1 : Int32)), .val (.int (1 : Int32)), .val (.int (1 : Int32)), .val (.int (1 : Int32)), .val (.int (1 : Int32)), .val (.int (1 : Int32)), .unset, .unset] [(.long q1), (.long q0), (.ref w_GREATER)]))
                obtain ⟨cq19, kq19, q19a, q19b, q19c⟩ := isOf hZ e18 E_w_GREATER
                obtain ⟨_, _, ⟨T19, L19, k19, n19⟩, -, X19, ⟨Lc19, hQ19, l19, y19, z19⟩, st19⟩ := X18.virtualBack hx (y := (⟨"com/example/ringd/ringd/core/Comparison$Operator", "holds", "(JJ)Z"⟩ : MethodName)) (z := (⟨"com/example/ringd/ringd/core/Comparison$Operator", "holds", "(JJ)Z"⟩ : MethodName)) hown (mvT hZ (hw _ (List.mem_of_getElem? (i := 10) rfl))) (mvT hZ (hw _ (List.mem_of_getElem? (i := 11) rfl))) (notFace_of_selects (args := #[]) (mvT hZ (hw _ (List.mem_of_getElem? (i := 13) rfl)))) (mvT hZ (hw _ (List.mem_of_getElem? (i := 13) rfl))) (mvT hZ (hw _ (List.mem_of_getElem? (i := 12) rfl))) (by decide) (backOf (W := 0) (rm3e4 l Z a0 hw [] w_GREATER q0 q1 h0 n0 Z0 E_w_GREATER F_w_GREATER) hZ (hw _ (List.mem_of_getElem? (i := 14) rfl)) (hw _ (List.mem_of_getElem? (i := 8) rfl)) (by decide) (by decide)) q19a q19c (g := (mkF m 200 #[.val (.long q0), .second, .val (.long q1), .second, .val (.int p2), .val (.long q0), .second, .val (.long q1), .second, .val (.int (1 : Int32)), .val (.int (1 : Int32)), .val (.int (1 : Int32)), .val (.int (1 : Int32)), .val (.int (1 : Int32)), .val (.int (1 : Int32)), .val (.int (1 : Int32)), .unset, .unset] [(.long q1), (.long q0), (.ref w_GREATER)])) rfl (by rw [hml]; rfl) (Steps.refl _) (argsL := [(.long q0), (.long q1)]) (rest := []) (lenOf pd_2 rfl) rfl (by show 2 * 0 + _ ≤ _; exact Nat.le_of_eq rfl) (hb hby at_200) (fun _ _ => ⟨rfl, e18, (by decide : 0 + 0 ≤ _), (by decide : 0 + 0 ≤ _)⟩)
                dsimp only [Pt.U, Pt.locs, Pt.cells, Pt.slots] at X19 l19 y19 z19 st19 hQ19
                subst l19 y19 z19
                obtain ⟨rfl, N19q, hh19⟩ := hQ19
                have N19 := Fr.app N16 N19q
                refine own_of (fun _ k => st19.trans k) ?_
                show own_Out p e below _ (T19.setTop (mkF m 203 #[.val (.long q0), .second, .val (.long q1), .second, .val (.int p2), .val (.long q0), .second, .val (.long q1), .second, .val (.int (1 : Int32)), .val (.int (1 : Int32)), .val (.int (1 : Int32)), .val (.int (1 : Int32)), .val (.int (1 : Int32)), .val (.int (1 : Int32)), .val (.int (1 : Int32)), .unset, .unset] [(.int (f3e4 q0 q1))]))
                refine own_of (fun _ k => XS.iload X19.here hx rfl (hb hby at_203) rfl k) ?_
                show own_Out p e below _ (T19.setTop (mkF m 205 #[.val (.long q0), .second, .val (.long q1), .second, .val (.int p2), .val (.long q0), .second, .val (.long q1), .second, .val (.int (1 : Int32)), .val (.int (1 : Int32)), .val (.int (1 : Int32)), .val (.int (1 : Int32)), .val (.int (1 : Int32)), .val (.int (1 : Int32)), .val (.int (1 : Int32)), .unset, .unset] [(.int (1 : Int32)), (.int (f3e4 q0 q1))]))
                refine own_of (fun _ k => XS.ifNo X19.here hx rfl (hb hby at_205) rfl ((if0 _ _).trans (feq (by decide : ¬ ((1 : Int32) = (0 : Int32)))).1) k) ?_
                show own_Out p e below _ (T19.setTop (mkF m 208 #[.val (.long q0), .second, .val (.long q1), .second, .val (.int p2), .val (.long q0), .second, .val (.long q1), .second, .val (.int (1 : Int32)), .val (.int (1 : Int32)), .val (.int (1 : Int32)), .val (.int (1 : Int32)), .val (.int (1 : Int32)), .val (.int (1 : Int32)), .val (.int (1 : Int32)), .unset, .unset] [(.int (f3e4 q0 q1))]))
                refine own_of (fun _ k => XS.iload X19.here hx rfl (hb hby at_208) rfl k) ?_
                show own_Out p e below _ (T19.setTop (mkF m 210 #[.val (.long q0), .second, .val (.long q1), .second, .val (.int p2), .val (.long q0), .second, .val (.long q1), .second, .val (.int (1 : Int32)), .val (.int (1 : Int32)), .val (.int (1 : Int32)), .val (.int (1 : Int32)), .val (.int (1 : Int32)), .val (.int (1 : Int32)), .val (.int (1 : Int32)), .unset, .unset] [(.int (1 : Int32)), (.int (f3e4 q0 q1))]))
                refine own_of (fun _ k => XS.ifYes X19.here hx rfl (pc0 := 210) (pc' := 217) rfl (hb hby at_210) rfl ((if0 _ _).trans (feq (by decide : ¬ ((1 : Int32) = (0 : Int32)))).2) (by decide) (by decide) k) ?_
                show own_Out p e below _ (T19.setTop (mkF m 217 #[.val (.long q0), .second, .val (.long q1), .second, .val (.int p2), .val (.long q0), .second, .val (.long q1), .second, .val (.int (1 : Int32)), .val (.int (1 : Int32)), .val (.int (1 : Int32)), .val (.int (1 : Int32)), .val (.int (1 : Int32)), .val (.int (1 : Int32)), .val (.int (1 : Int32)), .unset, .unset] [(.int (f3e4 q0 q1))]))
                refine own_of (fun _ k => XS.iconst X19.here hx rfl (hb hby at_217) k) ?_
                show own_Out p e below _ (T19.setTop (mkF m 218 #[.val (.long q0), .second, .val (.long q1), .second, .val (.int p2), .val (.long q0), .second, .val (.long q1), .second, .val (.int (1 : Int32)), .val (.int (1 : Int32)), .val (.int (1 : Int32)), .val (.int (1 : Int32)), .val (.int (1 : Int32)), .val (.int (1 : Int32)), .val (.int (1 : Int32)), .unset, .unset] [(.int (0 : Int32)), (.int (f3e4 q0 q1))]))
                by_cases hc218_20 : (f3e4 q0 q1) = (0 : Int32)
                · skip
                  refine own_of (fun _ k => XS.icmpNo X19.here hx rfl (hb hby at_218) rfl (teq hc218_20).2 k) ?_
                  show own_Out p e below _ (T19.setTop (mkF m 221 #[.val (.long q0), .second, .val (.long q1), .second, .val (.int p2), .val (.long q0), .second, .val (.long q1), .second, .val (.int (1 : Int32)), .val (.int (1 : Int32)), .val (.int (1 : Int32)), .val (.int (1 : Int32)), .val (.int (1 : Int32)), .val (.int (1 : Int32)), .val (.int (1 : Int32)), .unset, .unset] []))
                  refine own_of (fun _ k => XS.iconst X19.here hx rfl (hb hby at_221) k) ?_
                  show own_Out p e below _ (T19.setTop (mkF m 222 #[.val (.long q0), .second, .val (.long q1), .second, .val (.int p2), .val (.long q0), .second, .val (.long q1), .second, .val (.int (1 : Int32)), .val (.int (1 : Int32)), .val (.int (1 : Int32)), .val (.int (1 : Int32)), .val (.int (1 : Int32)), .val (.int (1 : Int32)), .val (.int (1 : Int32)), .unset, .unset] [(.int (1 : Int32))]))
                  refine own_of (fun _ k => XS.goto X19.here hx rfl (pc0 := 222) (pc' := 226) rfl (hb hby at_222) (by decide) (by decide) k) ?_
                  show own_Out p e below _ (T19.setTop (mkF m 226 #[.val (.long q0), .second, .val (.long q1), .second, .val (.int p2), .val (.long q0), .second, .val (.long q1), .second, .val (.int (1 : Int32)), .val (.int (1 : Int32)), .val (.int (1 : Int32)), .val (.int (1 : Int32)), .val (.int (1 : Int32)), .val (.int (1 : Int32)), .val (.int (1 : Int32)), .unset, .unset] [(.int (1 : Int32))]))
                  refine own_of (fun _ k => XS.istore X19.here hx rfl (hb hby at_226) rfl (l' := #[.val (.long q0), .second, .val (.long q1), .second, .val (.int p2), .val (.long q0), .second, .val (.long q1), .second, .val (.int (1 : Int32)), .val (.int (1 : Int32)), .val (.int (1 : Int32)), .val (.int (1 : Int32)), .val (.int (1 : Int32)), .val (.int (1 : Int32)), .val (.int (1 : Int32)), .val (.int (1 : Int32)), .unset]) rfl k) ?_
                  show own_Out p e below _ (T19.setTop (mkF m 228 #[.val (.long q0), .second, .val (.long q1), .second, .val (.int p2), .val (.long q0), .second, .val (.long q1), .second, .val (.int (1 : Int32)), .val (.int (1 : Int32)), .val (.int (1 : Int32)), .val (.int (1 : Int32)), .val (.int (1 : Int32)), .val (.int (1 : Int32)), .val (.int (1 : Int32)), .val (.int (1 : Int32)), .unset] []))
                  obtain ⟨T21, X21, e21, st21⟩ := getS2 X19 hx hZ hown (host := "") (Or.inl (hw _ (List.mem_of_getElem? (i := 32) rfl))) Via.refl hh19 S_w_AT_LEAST (g := (mkF m 228 #[.val (.long q0), .second, .val (.long q1), .second, .val (.int p2), .val (.long q0), .second, .val (.long q1), .second, .val (.int (1 : Int32)), .val (.int (1 : Int32)), .val (.int (1 : Int32)), .val (.int (1 : Int32)), .val (.int (1 : Int32)), .val (.int (1 : Int32)), .val (.int (1 : Int32)), .val (.int (1 : Int32)), .unset] [])) rfl (hb hby at_228)
                  refine own_of st21 ?_
                  show own_Out p e below _ (T21.setTop (mkF m 231 #[.val (.long q0), .second, .val (.long q1), .second, .val (.int p2), .val (.long q0), .second, .val (.long q1), .second, .val (.int (1 : Int32)), .val (.int (1 : Int32)), .val (.int (1 : Int32)), .val (.int (1 : Int32)), .val (.int (1 : Int32)), .val (.int (1 : Int32)), .val (.int (1 : Int32)), .val (.int (1 : Int32)), .unset] [(.ref w_AT_LEAST)]))
                  refine own_of (fun _ k => XS.lload X21.here hx rfl (hb hby at_231) rfl k) ?_
                  show own_Out p e below _ (T21.setTop (mkF m 233 #[.val (.long q0), .second, .val (.long q1), .second, .val (.int p2), .val (.long q0), .second, .val (.long q1), .second, .val (.int (1 : Int32)), .val (.int (1 : Int32)), .val (.int (1 : Int32)), .val (.int (1 : Int32)), .val (.int (1 : Int32)), .val (.int (1 : Int32)), .val (.int (1 : Int32)), .val (.int (1 : Int32)), .unset] [(.long q0), (.ref w_AT_LEAST)]))
                  refine own_of (fun _ k => XS.lload X21.here hx rfl (hb hby at_233) rfl k) ?_
                  show own_Out p e below _ (T21.setTop (mkF m 235 #[.val (.long q0), .second, .val (.long q1), .second, .val (.int p2), .val (.long q0), .second, .val (.long q1), .second, .val (.int (1 : Int32)), .val (.int (1 : Int32)), .val (.int (1 : Int32)), .val (.int (1 : Int32)), .val (.int (1 : Int32)), .val (.int (1 : Int32)), .val (.int (1 : Int32)), .val (.int (1 : Int32)), .unset] [(.long q1), (.long q0), (.ref w_AT_LEAST)]))
                  obtain ⟨cq22, kq22, q22a, q22b, q22c⟩ := isOf hZ e21 E_w_AT_LEAST
                  obtain ⟨_, _, ⟨T22, L22, k22, n22⟩, -, X22, ⟨Lc22, hQ22, l22, y22, z22⟩, st22⟩ := X21.virtualBack hx (y := (⟨"com/example/ringd/ringd/core/Comparison$Operator", "holds", "(JJ)Z"⟩ : MethodName)) (z := (⟨"com/example/ringd/ringd/core/Comparison$Operator", "holds", "(JJ)Z"⟩ : MethodName)) hown (mvT hZ (hw _ (List.mem_of_getElem? (i := 10) rfl))) (mvT hZ (hw _ (List.mem_of_getElem? (i := 11) rfl))) (notFace_of_selects (args := #[]) (mvT hZ (hw _ (List.mem_of_getElem? (i := 13) rfl)))) (mvT hZ (hw _ (List.mem_of_getElem? (i := 13) rfl))) (mvT hZ (hw _ (List.mem_of_getElem? (i := 12) rfl))) (by decide) (backOf (W := 0) (rm3e5 l Z a0 hw [] w_AT_LEAST q0 q1 h0 n0 Z0 E_w_AT_LEAST F_w_AT_LEAST) hZ (hw _ (List.mem_of_getElem? (i := 14) rfl)) (hw _ (List.mem_of_getElem? (i := 8) rfl)) (by decide) (by decide)) q22a q22c (g := (mkF m 235 #[.val (.long q0), .second, .val (.long q1), .second, .val (.int p2), .val (.long q0), .second, .val (.long q1), .second, .val (.int (1 : Int32)), .val (.int (1 : Int32)), .val (.int (1 : Int32)), .val (.int (1 : Int32)), .val (.int (1 : Int32)), .val (.int (1 : Int32)), .val (.int (1 : Int32)), .val (.int (1 : Int32)), .unset] [(.long q1), (.long q0), (.ref w_AT_LEAST)])) rfl (by rw [hml]; rfl) (Steps.refl _) (argsL := [(.long q0), (.long q1)]) (rest := []) (lenOf pd_2 rfl) rfl (by show 2 * 0 + _ ≤ _; exact Nat.le_of_eq rfl) (hb hby at_235) (fun _ _ => ⟨rfl, e21, (by decide : 0 + 0 ≤ _), (by decide : 0 + 0 ≤ _)⟩)
                  dsimp only [Pt.U, Pt.locs, Pt.cells, Pt.slots] at X22 l22 y22 z22 st22 hQ22
                  subst l22 y22 z22
                  obtain ⟨rfl, N22q, hh22⟩ := hQ22
                  have N22 := Fr.app N19 N22q
                  refine own_of (fun _ k => st22.trans k) ?_
                  show own_Out p e below _ (T22.setTop (mkF m 238 #[.val (.long q0), .second, .val (.long q1), .second, .val (.int p2), .val (.long q0), .second, .val (.long q1), .second, .val (.int (1 : Int32)), .val (.int (1 : Int32)), .val (.int (1 : Int32)), .val (.int (1 : Int32)), .val (.int (1 : Int32)), .val (.int (1 : Int32)), .val (.int (1 : Int32)), .val (.int (1 : Int32)), .unset] [(.int (f3e5 q0 q1))]))
                  refine own_of (fun _ k => XS.iload X22.here hx rfl (hb hby at_238) rfl k) ?_
                  show own_Out p e below _ (T22.setTop (mkF m 240 #[.val (.long q0), .second, .val (.long q1), .second, .val (.int p2), .val (.long q0), .second, .val (.long q1), .second, .val (.int (1 : Int32)), .val (.int (1 : Int32)), .val (.int (1 : Int32)), .val (.int (1 : Int32)), .val (.int (1 : Int32)), .val (.int (1 : Int32)), .val (.int (1 : Int32)), .val (.int (1 : Int32)), .unset] [(.int (1 : Int32)), (.int (f3e5 q0 q1))]))
                  by_cases hc240_23 : (f3e5 q0 q1) = (1 : Int32)
                  · skip
                    refine own_of (fun _ k => XS.icmpNo X22.here hx rfl (hb hby at_240) rfl (teq hc240_23).2 k) ?_
                    show own_Out p e below _ (T22.setTop (mkF m 243 #[.val (.long q0), .second, .val (.long q1), .second, .val (.int p2), .val (.long q0), .second, .val (.long q1), .second, .val (.int (1 : Int32)), .val (.int (1 : Int32)), .val (.int (1 : Int32)), .val (.int (1 : Int32)), .val (.int (1 : Int32)), .val (.int (1 : Int32)), .val (.int (1 : Int32)), .val (.int (1 : Int32)), .unset] []))
                    refine own_of (fun _ k => XS.iconst X22.here hx rfl (hb hby at_243) k) ?_
                    show own_Out p e below _ (T22.setTop (mkF m 244 #[.val (.long q0), .second, .val (.long q1), .second, .val (.int p2), .val (.long q0), .second, .val (.long q1), .second, .val (.int (1 : Int32)), .val (.int (1 : Int32)), .val (.int (1 : Int32)), .val (.int (1 : Int32)), .val (.int (1 : Int32)), .val (.int (1 : Int32)), .val (.int (1 : Int32)), .val (.int (1 : Int32)), .unset] [(.int (1 : Int32))]))
                    refine own_of (fun _ k => XS.goto X22.here hx rfl (pc0 := 244) (pc' := 248) rfl (hb hby at_244) (by decide) (by decide) k) ?_
                    show own_Out p e below _ (T22.setTop (mkF m 248 #[.val (.long q0), .second, .val (.long q1), .second, .val (.int p2), .val (.long q0), .second, .val (.long q1), .second, .val (.int (1 : Int32)), .val (.int (1 : Int32)), .val (.int (1 : Int32)), .val (.int (1 : Int32)), .val (.int (1 : Int32)), .val (.int (1 : Int32)), .val (.int (1 : Int32)), .val (.int (1 : Int32)), .unset] [(.int (1 : Int32))]))
                    refine own_of (fun _ k => XS.istore X22.here hx rfl (hb hby at_248) rfl (l' := #[.val (.long q0), .second, .val (.long q1), .second, .val (.int p2), .val (.long q0), .second, .val (.long q1), .second, .val (.int (1 : Int32)), .val (.int (1 : Int32)), .val (.int (1 : Int32)), .val (.int (1 : Int32)), .val (.int (1 : Int32)), .val (.int (1 : Int32)), .val (.int (1 : Int32)), .val (.int (1 : Int32)), .val (.int (1 : Int32))]) rfl k) ?_
                    show own_Out p e below _ (T22.setTop (mkF m 250 #[.val (.long q0), .second, .val (.long q1), .second, .val (.int p2), .val (.long q0), .second, .val (.long q1), .second, .val (.int (1 : Int32)), .val (.int (1 : Int32)), .val (.int (1 : Int32)), .val (.int (1 : Int32)), .val (.int (1 : Int32)), .val (.int (1 : Int32)), .val (.int (1 : Int32)), .val (.int (1 : Int32)), .val (.int (1 : Int32))] []))
                    refine own_of (fun _ k => XS.iload X22.here hx rfl (hb hby at_250) rfl k) ?_
                    show own_Out p e below _ (T22.setTop (mkF m 252 #[.val (.long q0), .second, .val (.long q1), .second, .val (.int p2), .val (.long q0), .second, .val (.long q1), .second, .val (.int (1 : Int32)), .val (.int (1 : Int32)), .val (.int (1 : Int32)), .val (.int (1 : Int32)), .val (.int (1 : Int32)), .val (.int (1 : Int32)), .val (.int (1 : Int32)), .val (.int (1 : Int32)), .val (.int (1 : Int32))] [(.int (1 : Int32))]))
                    refine own_of (fun _ k => XS.ifNo X22.here hx rfl (hb hby at_252) rfl ((if0 _ _).trans (feq (by decide : ¬ ((1 : Int32) = (0 : Int32)))).1) k) ?_
                    show own_Out p e below _ (T22.setTop (mkF m 255 #[.val (.long q0), .second, .val (.long q1), .second, .val (.int p2), .val (.long q0), .second, .val (.long q1), .second, .val (.int (1 : Int32)), .val (.int (1 : Int32)), .val (.int (1 : Int32)), .val (.int (1 : Int32)), .val (.int (1 : Int32)), .val (.int (1 : Int32)), .val (.int (1 : Int32)), .val (.int (1 : Int32)), .val (.int (1 : Int32))] []))
                    refine own_of (fun _ k => XS.iload X22.here hx rfl (hb hby at_255) rfl k) ?_
                    show own_Out p e below _ (T22.setTop (mkF m 257 #[.val (.long q0), .second, .val (.long q1), .second, .val (.int p2), .val (.long q0), .second, .val (.long q1), .second, .val (.int (1 : Int32)), .val (.int (1 : Int32)), .val (.int (1 : Int32)), .val (.int (1 : Int32)), .val (.int (1 : Int32)), .val (.int (1 : Int32)), .val (.int (1 : Int32)), .val (.int (1 : Int32)), .val (.int (1 : Int32))] [(.int (1 : Int32))]))
                    refine own_of (fun _ k => XS.ifNo X22.here hx rfl (hb hby at_257) rfl ((if0 _ _).trans (feq (by decide : ¬ ((1 : Int32) = (0 : Int32)))).1) k) ?_
                    show own_Out p e below _ (T22.setTop (mkF m 260 #[.val (.long q0), .second, .val (.long q1), .second, .val (.int p2), .val (.long q0), .second, .val (.long q1), .second, .val (.int (1 : Int32)), .val (.int (1 : Int32)), .val (.int (1 : Int32)), .val (.int (1 : Int32)), .val (.int (1 : Int32)), .val (.int (1 : Int32)), .val (.int (1 : Int32)), .val (.int (1 : Int32)), .val (.int (1 : Int32))] []))
                    refine own_of (fun _ k => XS.iload X22.here hx rfl (hb hby at_260) rfl k) ?_
                    show own_Out p e below _ (T22.setTop (mkF m 262 #[.val (.long q0), .second, .val (.long q1), .second, .val (.int p2), .val (.long q0), .second, .val (.long q1), .second, .val (.int (1 : Int32)), .val (.int (1 : Int32)), .val (.int (1 : Int32)), .val (.int (1 : Int32)), .val (.int (1 : Int32)), .val (.int (1 : Int32)), .val (.int (1 : Int32)), .val (.int (1 : Int32)), .val (.int (1 : Int32))] [(.int (1 : Int32))]))
                    refine own_of (fun _ k => XS.ifNo X22.here hx rfl (hb hby at_262) rfl ((if0 _ _).trans (feq (by decide : ¬ ((1 : Int32) = (0 : Int32)))).1) k) ?_
                    show own_Out p e below _ (T22.setTop (mkF m 265 #[.val (.long q0), .second, .val (.long q1), .second, .val (.int p2), .val (.long q0), .second, .val (.long q1), .second, .val (.int (1 : Int32)), .val (.int (1 : Int32)), .val (.int (1 : Int32)), .val (.int (1 : Int32)), .val (.int (1 : Int32)), .val (.int (1 : Int32)), .val (.int (1 : Int32)), .val (.int (1 : Int32)), .val (.int (1 : Int32))] []))
                    refine own_of (fun _ k => XS.iload X22.here hx rfl (hb hby at_265) rfl k) ?_
                    show own_Out p e below _ (T22.setTop (mkF m 267 #[.val (.long q0), .second, .val (.long q1), .second, .val (.int p2), .val (.long q0), .second, .val (.long q1), .second, .val (.int (1 : Int32)), .val (.int (1 : Int32)), .val (.int (1 : Int32)), .val (.int (1 : Int32)), .val (.int (1 : Int32)), .val (.int (1 : Int32)), .val (.int (1 : Int32)), .val (.int (1 : Int32)), .val (.int (1 : Int32))] [(.int (1 : Int32))]))
                    refine own_of (fun _ k => XS.ifNo X22.here hx rfl (hb hby at_267) rfl ((if0 _ _).trans (feq (by decide : ¬ ((1 : Int32) = (0 : Int32)))).1) k) ?_
                    show own_Out p e below _ (T22.setTop (mkF m 270 #[.val (.long q0), .second, .val (.long q1), .second, .val (.int p2), .val (.long q0), .second, .val (.long q1), .second, .val (.int (1 : Int32)), .val (.int (1 : Int32)), .val (.int (1 : Int32)), .val (.int (1 : Int32)), .val (.int (1 : Int32)), .val (.int (1 : Int32)), .val (.int (1 : Int32)), .val (.int (1 : Int32)), .val (.int (1 : Int32))] []))
                    refine own_of (fun _ k => XS.iload X22.here hx rfl (hb hby at_270) rfl k) ?_
                    show own_Out p e below _ (T22.setTop (mkF m 272 #[.val (.long q0), .second, .val (.long q1), .second, .val (.int p2), .val (.long q0), .second, .val (.long q1), .second, .val (.int (1 : Int32)), .val (.int (1 : Int32)), .val (.int (1 : Int32)), .val (.int (1 : Int32)), .val (.int (1 : Int32)), .val (.int (1 : Int32)), .val (.int (1 : Int32)), .val (.int (1 : Int32)), .val (.int (1 : Int32))] [(.int (1 : Int32))]))
                    refine own_of (fun _ k => XS.ifNo X22.here hx rfl (hb hby at_272) rfl ((if0 _ _).trans (feq (by decide : ¬ ((1 : Int32) = (0 : Int32)))).1) k) ?_
                    show own_Out p e below _ (T22.setTop (mkF m 275 #[.val (.long q0), .second, .val (.long q1), .second, .val (.int p2), .val (.long q0), .second, .val (.long q1), .second, .val (.int (1 : Int32)), .val (.int (1 : Int32)), .val (.int (1 : Int32)), .val (.int (1 : Int32)), .val (.int (1 : Int32)), .val (.int (1 : Int32)), .val (.int (1 : Int32)), .val (.int (1 : Int32)), .val (.int (1 : Int32))] []))
                    refine own_of (fun _ k => XS.iload X22.here hx rfl (hb hby at_275) rfl k) ?_
                    show own_Out p e below _ (T22.setTop (mkF m 277 #[.val (.long q0), .second, .val (.long q1), .second, .val (.int p2), .val (.long q0), .second, .val (.long q1), .second, .val (.int (1 : Int32)), .val (.int (1 : Int32)), .val (.int (1 : Int32)), .val (.int (1 : Int32)), .val (.int (1 : Int32)), .val (.int (1 : Int32)), .val (.int (1 : Int32)), .val (.int (1 : Int32)), .val (.int (1 : Int32))] [(.int (1 : Int32))]))
                    refine own_of (fun _ k => XS.ifNo X22.here hx rfl (hb hby at_277) rfl ((if0 _ _).trans (feq (by decide : ¬ ((1 : Int32) = (0 : Int32)))).1) k) ?_
                    show own_Out p e below _ (T22.setTop (mkF m 280 #[.val (.long q0), .second, .val (.long q1), .second, .val (.int p2), .val (.long q0), .second, .val (.long q1), .second, .val (.int (1 : Int32)), .val (.int (1 : Int32)), .val (.int (1 : Int32)), .val (.int (1 : Int32)), .val (.int (1 : Int32)), .val (.int (1 : Int32)), .val (.int (1 : Int32)), .val (.int (1 : Int32)), .val (.int (1 : Int32))] []))
                    refine own_of (fun _ k => XS.iconst X22.here hx rfl (hb hby at_280) k) ?_
                    show own_Out p e below _ (T22.setTop (mkF m 281 #[.val (.long q0), .second, .val (.long q1), .second, .val (.int p2), .val (.long q0), .second, .val (.long q1), .second, .val (.int (1 : Int32)), .val (.int (1 : Int32)), .val (.int (1 : Int32)), .val (.int (1 : Int32)), .val (.int (1 : Int32)), .val (.int (1 : Int32)), .val (.int (1 : Int32)), .val (.int (1 : Int32)), .val (.int (1 : Int32))] [(.int (1 : Int32))]))
                    refine own_of (fun _ k => XS.goto X22.here hx rfl (pc0 := 281) (pc' := 285) rfl (hb hby at_281) (by decide) (by decide) k) ?_
                    show own_Out p e below _ (T22.setTop (mkF m 285 #[.val (.long q0), .second, .val (.long q1), .second, .val (.int p2), .val (.long q0), .second, .val (.long q1), .second, .val (.int (1 : Int32)), .val (.int (1 : Int32)), .val (.int (1 : Int32)), .val (.int (1 : Int32)), .val (.int (1 : Int32)), .val (.int (1 : Int32)), .val (.int (1 : Int32)), .val (.int (1 : Int32)), .val (.int (1 : Int32))] [(.int (1 : Int32))]))
                    exact own_outN X22 hx hlk (t := .boolean) hret (by simp) (hb hby at_285) (z' := (1 : Int32)) rfl (Q := Q0 Z q0 q1 p2 w_EQUAL w_NOT_EQUAL w_LESS w_AT_MOST w_GREATER w_AT_LEAST h0 n0) ⟨rfl, N22⟩ (by decide) (by decide)
                  · skip
                    exact (dead0_0 q0 q1 p2 hc7_1 hc37_3 hc57_5 hc96_8 hc126_11 hc161_14 hc183_17 hc218_20 hc240_23).elim
                · skip
                  exact (dead0_1 q0 q1 p2 hc7_1 hc37_3 hc57_5 hc96_8 hc126_11 hc161_14 hc183_17 hc218_20).elim
              · skip
                exact (dead0_2 q0 q1 p2 hc7_1 hc37_3 hc57_5 hc96_8 hc126_11 hc161_14 hc183_17).elim
            · skip
              exact (dead0_3 q0 q1 p2 hc7_1 hc37_3 hc57_5 hc96_8 hc126_11 hc161_14).elim
          · skip
            exact (dead0_4 q0 q1 p2 hc7_1 hc37_3 hc57_5 hc96_8 hc126_11).elim
        · skip
          exact (dead0_5 q0 q1 p2 hc7_1 hc37_3 hc57_5 hc96_8).elim
      · skip
        refine own_of (fun _ k => XS.ifYes X4.here hx rfl (pc0 := 57) (pc' := 64) rfl (hb hby at_57) rfl (own_lfeq hc57_5).2 (by decide) (by decide) k) ?_
        show own_Out p e below _ (T4.setTop (mkF m 64 #[.val (.long q0), .second, .val (.long q1), .second, .val (.int p2), .val (.long q0), .second, .val (.long q1), .second, .val (.int (1 : Int32)), .unset, .unset, .unset, .unset, .unset, .unset, .unset, .unset] []))
        refine own_of (fun _ k => XS.iconst X4.here hx rfl (hb hby at_64) k) ?_
        show own_Out p e below _ (T4.setTop (mkF m 65 #[.val (.long q0), .second, .val (.long q1), .second, .val (.int p2), .val (.long q0), .second, .val (.long q1), .second, .val (.int (1 : Int32)), .unset, .unset, .unset, .unset, .unset, .unset, .unset, .unset] [(.int (0 : Int32))]))
        refine own_of (fun _ k => XS.istore X4.here hx rfl (hb hby at_65) rfl (l' := #[.val (.long q0), .second, .val (.long q1), .second, .val (.int p2), .val (.long q0), .second, .val (.long q1), .second, .val (.int (1 : Int32)), .val (.int (0 : Int32)), .unset, .unset, .unset, .unset, .unset, .unset, .unset]) rfl k) ?_
        show own_Out p e below _ (T4.setTop (mkF m 67 #[.val (.long q0), .second, .val (.long q1), .second, .val (.int p2), .val (.long q0), .second, .val (.long q1), .second, .val (.int (1 : Int32)), .val (.int (0 : Int32)), .unset, .unset, .unset, .unset, .unset, .unset, .unset] []))
        refine own_of (fun _ k => XS.iload X4.here hx rfl (hb hby at_67) rfl k) ?_
        show own_Out p e below _ (T4.setTop (mkF m 69 #[.val (.long q0), .second, .val (.long q1), .second, .val (.int p2), .val (.long q0), .second, .val (.long q1), .second, .val (.int (1 : Int32)), .val (.int (0 : Int32)), .unset, .unset, .unset, .unset, .unset, .unset, .unset] [(.int (1 : Int32))]))
        refine own_of (fun _ k => XS.ifNo X4.here hx rfl (hb hby at_69) rfl ((if0 _ _).trans (feq (by decide : ¬ ((1 : Int32) = (0 : Int32)))).1) k) ?_
        show own_Out p e below _ (T4.setTop (mkF m 72 #[.val (.long q0), .second, .val (.long q1), .second, .val (.int p2), .val (.long q0), .second, .val (.long q1), .second, .val (.int (1 : Int32)), .val (.int (0 : Int32)), .unset, .unset, .unset, .unset, .unset, .unset, .unset] []))
        refine own_of (fun _ k => XS.iload X4.here hx rfl (hb hby at_72) rfl k) ?_
        show own_Out p e below _ (T4.setTop (mkF m 74 #[.val (.long q0), .second, .val (.long q1), .second, .val (.int p2), .val (.long q0), .second, .val (.long q1), .second, .val (.int (1 : Int32)), .val (.int (0 : Int32)), .unset, .unset, .unset, .unset, .unset, .unset, .unset] [(.int (0 : Int32))]))
        refine own_of (fun _ k => XS.ifYes X4.here hx rfl (pc0 := 74) (pc' := 81) rfl (hb hby at_74) rfl ((if0 _ _).trans (teq (by decide : (0 : Int32) = (0 : Int32))).1) (by decide) (by decide) k) ?_
        show own_Out p e below _ (T4.setTop (mkF m 81 #[.val (.long q0), .second, .val (.long q1), .second, .val (.int p2), .val (.long q0), .second, .val (.long q1), .second, .val (.int (1 : Int32)), .val (.int (0 : Int32)), .unset, .unset, .unset, .unset, .unset, .unset, .unset] []))
        refine own_of (fun _ k => XS.iconst X4.here hx rfl (hb hby at_81) k) ?_
        show own_Out p e below _ (T4.setTop (mkF m 82 #[.val (.long q0), .second, .val (.long q1), .second, .val (.int p2), .val (.long q0), .second, .val (.long q1), .second, .val (.int (1 : Int32)), .val (.int (0 : Int32)), .unset, .unset, .unset, .unset, .unset, .unset, .unset] [(.int (0 : Int32))]))
        refine own_of (fun _ k => XS.istore X4.here hx rfl (hb hby at_82) rfl (l' := #[.val (.long q0), .second, .val (.long q1), .second, .val (.int p2), .val (.long q0), .second, .val (.long q1), .second, .val (.int (1 : Int32)), .val (.int (0 : Int32)), .val (.int (0 : Int32)), .unset, .unset, .unset, .unset, .unset, .unset]) rfl k) ?_
        show own_Out p e below _ (T4.setTop (mkF m 84 #[.val (.long q0), .second, .val (.long q1), .second, .val (.int p2), .val (.long q0), .second, .val (.long q1), .second, .val (.int (1 : Int32)), .val (.int (0 : Int32)), .val (.int (0 : Int32)), .unset, .unset, .unset, .unset, .unset, .unset] []))
        obtain ⟨T24, X24, e24, st24⟩ := getS2 X4 hx hZ hown (host := "") (Or.inl (hw _ (List.mem_of_getElem? (i := 7) rfl))) Via.refl hh4 S_w_EQUAL (g := (mkF m 84 #[.val (.long q0), .second, .val (.long q1), .second, .val (.int p2), .val (.long q0), .second, .val (.long q1), .second, .val (.int (1 : Int32)), .val (.int (0 : Int32)), .val (.int (0 : Int32)), .unset, .unset, .unset, .unset, .unset, .unset] [])) rfl (hb hby at_84)
        refine own_of st24 ?_
        show own_Out p e below _ (T24.setTop (mkF m 87 #[.val (.long q0), .second, .val (.long q1), .second, .val (.int p2), .val (.long q0), .second, .val (.long q1), .second, .val (.int (1 : Int32)), .val (.int (0 : Int32)), .val (.int (0 : Int32)), .unset, .unset, .unset, .unset, .unset, .unset] [(.ref w_EQUAL)]))
        refine own_of (fun _ k => XS.lload X24.here hx rfl (hb hby at_87) rfl k) ?_
        show own_Out p e below _ (T24.setTop (mkF m 89 #[.val (.long q0), .second, .val (.long q1), .second, .val (.int p2), .val (.long q0), .second, .val (.long q1), .second, .val (.int (1 : Int32)), .val (.int (0 : Int32)), .val (.int (0 : Int32)), .unset, .unset, .unset, .unset, .unset, .unset] [(.long q0), (.ref w_EQUAL)]))
        refine own_of (fun _ k => XS.lload X24.here hx rfl (hb hby at_89) rfl k) ?_
        show own_Out p e below _ (T24.setTop (mkF m 91 #[.val (.long q0), .second, .val (.long q1), .second, .val (.int p2), .val (.long q0), .second, .val (.long q1), .second, .val (.int (1 : Int32)), .val (.int (0 : Int32)), .val (.int (0 : Int32)), .unset, .unset, .unset, .unset, .unset, .unset] [(.long q1), (.long q0), (.ref w_EQUAL)]))
        obtain ⟨cq25, kq25, q25a, q25b, q25c⟩ := isOf hZ e24 E_w_EQUAL
        obtain ⟨_, _, ⟨T25, L25, k25, n25⟩, -, X25, ⟨Lc25, hQ25, l25, y25, z25⟩, st25⟩ := X24.virtualBack hx (y := (⟨"com/example/ringd/ringd/core/Comparison$Operator", "holds", "(JJ)Z"⟩ : MethodName)) (z := (⟨"com/example/ringd/ringd/core/Comparison$Operator", "holds", "(JJ)Z"⟩ : MethodName)) hown (mvT hZ (hw _ (List.mem_of_getElem? (i := 10) rfl))) (mvT hZ (hw _ (List.mem_of_getElem? (i := 11) rfl))) (notFace_of_selects (args := #[]) (mvT hZ (hw _ (List.mem_of_getElem? (i := 13) rfl)))) (mvT hZ (hw _ (List.mem_of_getElem? (i := 13) rfl))) (mvT hZ (hw _ (List.mem_of_getElem? (i := 12) rfl))) (by decide) (backOf (W := 0) (rm3e0 l Z a0 hw [] w_EQUAL q0 q1 h0 n0 Z0 E_w_EQUAL F_w_EQUAL) hZ (hw _ (List.mem_of_getElem? (i := 14) rfl)) (hw _ (List.mem_of_getElem? (i := 8) rfl)) (by decide) (by decide)) q25a q25c (g := (mkF m 91 #[.val (.long q0), .second, .val (.long q1), .second, .val (.int p2), .val (.long q0), .second, .val (.long q1), .second, .val (.int (1 : Int32)), .val (.int (0 : Int32)), .val (.int (0 : Int32)), .unset, .unset, .unset, .unset, .unset, .unset] [(.long q1), (.long q0), (.ref w_EQUAL)])) rfl (by rw [hml]; rfl) (Steps.refl _) (argsL := [(.long q0), (.long q1)]) (rest := []) (lenOf pd_2 rfl) rfl (by show 2 * 0 + _ ≤ _; exact Nat.le_of_eq rfl) (hb hby at_91) (fun _ _ => ⟨rfl, e24, (by decide : 0 + 0 ≤ _), (by decide : 0 + 0 ≤ _)⟩)
        dsimp only [Pt.U, Pt.locs, Pt.cells, Pt.slots] at X25 l25 y25 z25 st25 hQ25
        subst l25 y25 z25
        obtain ⟨rfl, N25q, hh25⟩ := hQ25
        have N25 := Fr.app N4 N25q
        refine own_of (fun _ k => st25.trans k) ?_
        show own_Out p e below _ (T25.setTop (mkF m 94 #[.val (.long q0), .second, .val (.long q1), .second, .val (.int p2), .val (.long q0), .second, .val (.long q1), .second, .val (.int (1 : Int32)), .val (.int (0 : Int32)), .val (.int (0 : Int32)), .unset, .unset, .unset, .unset, .unset, .unset] [(.int (f3e0 q0 q1))]))
        refine own_of (fun _ k => XS.iload X25.here hx rfl (hb hby at_94) rfl k) ?_
        show own_Out p e below _ (T25.setTop (mkF m 96 #[.val (.long q0), .second, .val (.long q1), .second, .val (.int p2), .val (.long q0), .second, .val (.long q1), .second, .val (.int (1 : Int32)), .val (.int (0 : Int32)), .val (.int (0 : Int32)), .unset, .unset, .unset, .unset, .unset, .unset] [(.int (0 : Int32)), (.int (f3e0 q0 q1))]))
        by_cases hc96_26 : (f3e0 q0 q1) = (0 : Int32)
        · skip
          refine own_of (fun _ k => XS.icmpNo X25.here hx rfl (hb hby at_96) rfl (teq hc96_26).2 k) ?_
          show own_Out p e below _ (T25.setTop (mkF m 99 #[.val (.long q0), .second, .val (.long q1), .second, .val (.int p2), .val (.long q0), .second, .val (.long q1), .second, .val (.int (1 : Int32)), .val (.int (0 : Int32)), .val (.int (0 : Int32)), .unset, .unset, .unset, .unset, .unset, .unset] []))
          refine own_of (fun _ k => XS.iconst X25.here hx rfl (hb hby at_99) k) ?_
          show own_Out p e below _ (T25.setTop (mkF m 100 #[.val (.long q0), .second, .val (.long q1), .second, .val (.int p2), .val (.long q0), .second, .val (.long q1), .second, .val (.int (1 : Int32)), .val (.int (0 : Int32)), .val (.int (0 : Int32)), .unset, .unset, .unset, .unset, .unset, .unset] [(.int (1 : Int32))]))
          refine own_of (fun _ k => XS.goto X25.here hx rfl (pc0 := 100) (pc' := 104) rfl (hb hby at_100) (by decide) (by decide) k) ?_
          show own_Out p e below _ (T25.setTop (mkF m 104 #[.val (.long q0), .second, .val (.long q1), .second, .val (.int p2), .val (.long q0), .second, .val (.long q1), .second, .val (.int (1 : Int32)), .val (.int (0 : Int32)), .val (.int (0 : Int32)), .unset, .unset, .unset, .unset, .unset, .unset] [(.int (1 : Int32))]))
          refine own_of (fun _ k => XS.istore X25.here hx rfl (hb hby at_104) rfl (l' := #[.val (.long q0), .second, .val (.long q1), .second, .val (.int p2), .val (.long q0), .second, .val (.long q1), .second, .val (.int (1 : Int32)), .val (.int (0 : Int32)), .val (.int (0 : Int32)), .val (.int (1 : Int32)), .unset, .unset, .unset, .unset, .unset]) rfl k) ?_
          show own_Out p e below _ (T25.setTop (mkF m 106 #[.val (.long q0), .second, .val (.long q1), .second, .val (.int p2), .val (.long q0), .second, .val (.long q1), .second, .val (.int (1 : Int32)), .val (.int (0 : Int32)), .val (.int (0 : Int32)), .val (.int (1 : Int32)), .unset, .unset, .unset, .unset, .unset] []))
          obtain ⟨T27, X27, e27, st27⟩ := getS2 X25 hx hZ hown (host := "") (Or.inl (hw _ (List.mem_of_getElem? (i := 24) rfl))) Via.refl hh25 S_w_NOT_EQUAL (g := (mkF m 106 #[.val (.long q0), .second, .val (.long q1), .second, .val (.int p2), .val (.long q0), .second, .val (.long q1), .second, .val (.int (1 : Int32)), .val (.int (0 : Int32)), .val (.int (0 : Int32)), .val (.int (1 : Int32)), .unset, .unset, .unset, .unset, .unset] [])) rfl (hb hby at_106)
          refine own_of st27 ?_
          show own_Out p e below _ (T27.setTop (mkF m 109 #[.val (.long q0), .second, .val (.long q1), .second, .val (.int p2), .val (.long q0), .second, .val (.long q1), .second, .val (.int (1 : Int32)), .val (.int (0 : Int32)), .val (.int (0 : Int32)), .val (.int (1 : Int32)), .unset, .unset, .unset, .unset, .unset] [(.ref w_NOT_EQUAL)]))
          refine own_of (fun _ k => XS.lload X27.here hx rfl (hb hby at_109) rfl k) ?_
          show own_Out p e below _ (T27.setTop (mkF m 111 #[.val (.long q0), .second, .val (.long q1), .second, .val (.int p2), .val (.long q0), .second, .val (.long q1), .second, .val (.int (1 : Int32)), .val (.int (0 : Int32)), .val (.int (0 : Int32)), .val (.int (1 : Int32)), .unset, .unset, .unset, .unset, .unset] [(.long q0), (.ref w_NOT_EQUAL)]))
          refine own_of (fun _ k => XS.lload X27.here hx rfl (hb hby at_111) rfl k) ?_
          show own_Out p e below _ (T27.setTop (mkF m 113 #[.val (.long q0), .second, .val (.long q1), .second, .val (.int p2), .val (.long q0), .second, .val (.long q1), .second, .val (.int (1 : Int32)), .val (.int (0 : Int32)), .val (.int (0 : Int32)), .val (.int (1 : Int32)), .unset, .unset, .unset, .unset, .unset] [(.long q1), (.long q0), (.ref w_NOT_EQUAL)]))
          obtain ⟨cq28, kq28, q28a, q28b, q28c⟩ := isOf hZ e27 E_w_NOT_EQUAL
          obtain ⟨_, _, ⟨T28, L28, k28, n28⟩, -, X28, ⟨Lc28, hQ28, l28, y28, z28⟩, st28⟩ := X27.virtualBack hx (y := (⟨"com/example/ringd/ringd/core/Comparison$Operator", "holds", "(JJ)Z"⟩ : MethodName)) (z := (⟨"com/example/ringd/ringd/core/Comparison$Operator", "holds", "(JJ)Z"⟩ : MethodName)) hown (mvT hZ (hw _ (List.mem_of_getElem? (i := 10) rfl))) (mvT hZ (hw _ (List.mem_of_getElem? (i := 11) rfl))) (notFace_of_selects (args := #[]) (mvT hZ (hw _ (List.mem_of_getElem? (i := 13) rfl)))) (mvT hZ (hw _ (List.mem_of_getElem? (i := 13) rfl))) (mvT hZ (hw _ (List.mem_of_getElem? (i := 12) rfl))) (by decide) (backOf (W := 0) (rm3e1 l Z a0 hw [] w_NOT_EQUAL q0 q1 h0 n0 Z0 E_w_NOT_EQUAL F_w_NOT_EQUAL) hZ (hw _ (List.mem_of_getElem? (i := 14) rfl)) (hw _ (List.mem_of_getElem? (i := 8) rfl)) (by decide) (by decide)) q28a q28c (g := (mkF m 113 #[.val (.long q0), .second, .val (.long q1), .second, .val (.int p2), .val (.long q0), .second, .val (.long q1), .second, .val (.int (1 : Int32)), .val (.int (0 : Int32)), .val (.int (0 : Int32)), .val (.int (1 : Int32)), .unset, .unset, .unset, .unset, .unset] [(.long q1), (.long q0), (.ref w_NOT_EQUAL)])) rfl (by rw [hml]; rfl) (Steps.refl _) (argsL := [(.long q0), (.long q1)]) (rest := []) (lenOf pd_2 rfl) rfl (by show 2 * 0 + _ ≤ _; exact Nat.le_of_eq rfl) (hb hby at_113) (fun _ _ => ⟨rfl, e27, (by decide : 0 + 0 ≤ _), (by decide : 0 + 0 ≤ _)⟩)
          dsimp only [Pt.U, Pt.locs, Pt.cells, Pt.slots] at X28 l28 y28 z28 st28 hQ28
          subst l28 y28 z28
          obtain ⟨rfl, N28q, hh28⟩ := hQ28
          have N28 := Fr.app N25 N28q
          refine own_of (fun _ k => st28.trans k) ?_
          show own_Out p e below _ (T28.setTop (mkF m 116 #[.val (.long q0), .second, .val (.long q1), .second, .val (.int p2), .val (.long q0), .second, .val (.long q1), .second, .val (.int (1 : Int32)), .val (.int (0 : Int32)), .val (.int (0 : Int32)), .val (.int (1 : Int32)), .unset, .unset, .unset, .unset, .unset] [(.int (f3e1 q0 q1))]))
          refine own_of (fun _ k => XS.iload X28.here hx rfl (hb hby at_116) rfl k) ?_
          show own_Out p e below _ (T28.setTop (mkF m 118 #[.val (.long q0), .second, .val (.long q1), .second, .val (.int p2), .val (.long q0), .second, .val (.long q1), .second, .val (.int (1 : Int32)), .val (.int (0 : Int32)), .val (.int (0 : Int32)), .val (.int (1 : Int32)), .unset, .unset, .unset, .unset, .unset] [(.int (0 : Int32)), (.int (f3e1 q0 q1))]))
          refine own_of (fun _ k => XS.ifNo X28.here hx rfl (hb hby at_118) rfl ((if0 _ _).trans (teq (by decide : (0 : Int32) = (0 : Int32))).2) k) ?_
          show own_Out p e below _ (T28.setTop (mkF m 121 #[.val (.long q0), .second, .val (.long q1), .second, .val (.int p2), .val (.long q0), .second, .val (.long q1), .second, .val (.int (1 : Int32)), .val (.int (0 : Int32)), .val (.int (0 : Int32)), .val (.int (1 : Int32)), .unset, .unset, .unset, .unset, .unset] [(.int (f3e1 q0 q1))]))
          refine own_of (fun _ k => XS.iconst X28.here hx rfl (hb hby at_121) k) ?_
          show own_Out p e below _ (T28.setTop (mkF m 122 #[.val (.long q0), .second, .val (.long q1), .second, .val (.int p2), .val (.long q0), .second, .val (.long q1), .second, .val (.int (1 : Int32)), .val (.int (0 : Int32)), .val (.int (0 : Int32)), .val (.int (1 : Int32)), .unset, .unset, .unset, .unset, .unset] [(.int (1 : Int32)), (.int (f3e1 q0 q1))]))
          refine own_of (fun _ k => XS.goto X28.here hx rfl (pc0 := 122) (pc' := 126) rfl (hb hby at_122) (by decide) (by decide) k) ?_
          show own_Out p e below _ (T28.setTop (mkF m 126 #[.val (.long q0), .second, .val (.long q1), .second, .val (.int p2), .val (.long q0), .second, .val (.long q1), .second, .val (.int (1 : Int32)), .val (.int (0 : Int32)), .val (.int (0 : Int32)), .val (.int (1 : Int32)), .unset, .unset, .unset, .unset, .unset] [(.int (1 : Int32)), (.int (f3e1 q0 q1))]))
          by_cases hc126_29 : (f3e1 q0 q1) = (1 : Int32)
          · skip
            refine own_of (fun _ k => XS.icmpNo X28.here hx rfl (hb hby at_126) rfl (teq hc126_29).2 k) ?_
            show own_Out p e below _ (T28.setTop (mkF m 129 #[.val (.long q0), .second, .val (.long q1), .second, .val (.int p2), .val (.long q0), .second, .val (.long q1), .second, .val (.int (1 : Int32)), .val (.int (0 : Int32)), .val (.int (0 : Int32)), .val (.int (1 : Int32)), .unset, .unset, .unset, .unset, .unset] []))
            refine own_of (fun _ k => XS.iconst X28.here hx rfl (hb hby at_129) k) ?_
            show own_Out p e below _ (T28.setTop (mkF m 130 #[.val (.long q0), .second, .val (.long q1), .second, .val (.int p2), .val (.long q0), .second, .val (.long q1), .second, .val (.int (1 : Int32)), .val (.int (0 : Int32)), .val (.int (0 : Int32)), .val (.int (1 : Int32)), .unset, .unset, .unset, .unset, .unset] [(.int (1 : Int32))]))
            refine own_of (fun _ k => XS.goto X28.here hx rfl (pc0 := 130) (pc' := 134) rfl (hb hby at_130) (by decide) (by decide) k) ?_
            show own_Out p e below _ (T28.setTop (mkF m 134 #[.val (.long q0), .second, .val (.long q1), .second, .val (.int p2), .val (.long q0), .second, .val (.long q1), .second, .val (.int (1 : Int32)), .val (.int (0 : Int32)), .val (.int (0 : Int32)), .val (.int (1 : Int32)), .unset, .unset, .unset, .unset, .unset] [(.int (1 : Int32))]))
            refine own_of (fun _ k => XS.istore X28.here hx rfl (hb hby at_134) rfl (l' := #[.val (.long q0), .second, .val (.long q1), .second, .val (.int p2), .val (.long q0), .second, .val (.long q1), .second, .val (.int (1 : Int32)), .val (.int (0 : Int32)), .val (.int (0 : Int32)), .val (.int (1 : Int32)), .val (.int (1 : Int32)), .unset, .unset, .unset, .unset]) rfl k) ?_
            show own_Out p e below _ (T28.setTop (mkF m 136 #[.val (.long q0), .second, .val (.long q1), .second, .val (.int p2), .val (.long q0), .second, .val (.long q1), .second, .val (.int (1 : Int32)), .val (.int (0 : Int32)), .val (.int (0 : Int32)), .val (.int (1 : Int32)), .val (.int (1 : Int32)), .unset, .unset, .unset, .unset] []))
            obtain ⟨T30, X30, e30, st30⟩ := getS2 X28 hx hZ hown (host := "") (Or.inl (hw _ (List.mem_of_getElem? (i := 26) rfl))) Via.refl hh28 S_w_LESS (g := (mkF m 136 #[.val (.long q0), .second, .val (.long q1), .second, .val (.int p2), .val (.long q0), .second, .val (.long q1), .second, .val (.int (1 : Int32)), .val (.int (0 : Int32)), .val (.int (0 : Int32)), .val (.int (1 : Int32)), .val (.int (1 : Int32)), .unset, .unset, .unset, .unset] [])) rfl (hb hby at_136)
            refine own_of st30 ?_
            show own_Out p e below _ (T30.setTop (mkF m 139 #[.val (.long q0), .second, .val (.long q1), .second, .val (.int p2), .val (.long q0), .second, .val (.long q1), .second, .val (.int (1 : Int32)), .val (.int (0 : Int32)), .val (.int (0 : Int32)), .val (.int (1 : Int32)), .val (.int (1 : Int32)), .unset, .unset, .unset, .unset] [(.ref w_LESS)]))
            refine own_of (fun _ k => XS.lload X30.here hx rfl (hb hby at_139) rfl k) ?_
            show own_Out p e below _ (T30.setTop (mkF m 141 #[.val (.long q0), .second, .val (.long q1), .second, .val (.int p2), .val (.long q0), .second, .val (.long q1), .second, .val (.int (1 : Int32)), .val (.int (0 : Int32)), .val (.int (0 : Int32)), .val (.int (1 : Int32)), .val (.int (1 : Int32)), .unset, .unset, .unset, .unset] [(.long q0), (.ref w_LESS)]))
            refine own_of (fun _ k => XS.lload X30.here hx rfl (hb hby at_141) rfl k) ?_
            show own_Out p e below _ (T30.setTop (mkF m 143 #[.val (.long q0), .second, .val (.long q1), .second, .val (.int p2), .val (.long q0), .second, .val (.long q1), .second, .val (.int (1 : Int32)), .val (.int (0 : Int32)), .val (.int (0 : Int32)), .val (.int (1 : Int32)), .val (.int (1 : Int32)), .unset, .unset, .unset, .unset] [(.long q1), (.long q0), (.ref w_LESS)]))
            obtain ⟨cq31, kq31, q31a, q31b, q31c⟩ := isOf hZ e30 E_w_LESS
            obtain ⟨_, _, ⟨T31, L31, k31, n31⟩, -, X31, ⟨Lc31, hQ31, l31, y31, z31⟩, st31⟩ := X30.virtualBack hx (y := (⟨"com/example/ringd/ringd/core/Comparison$Operator", "holds", "(JJ)Z"⟩ : MethodName)) (z := (⟨"com/example/ringd/ringd/core/Comparison$Operator", "holds", "(JJ)Z"⟩ : MethodName)) hown (mvT hZ (hw _ (List.mem_of_getElem? (i := 10) rfl))) (mvT hZ (hw _ (List.mem_of_getElem? (i := 11) rfl))) (notFace_of_selects (args := #[]) (mvT hZ (hw _ (List.mem_of_getElem? (i := 13) rfl)))) (mvT hZ (hw _ (List.mem_of_getElem? (i := 13) rfl))) (mvT hZ (hw _ (List.mem_of_getElem? (i := 12) rfl))) (by decide) (backOf (W := 0) (rm3e2 l Z a0 hw [] w_LESS q0 q1 h0 n0 Z0 E_w_LESS F_w_LESS) hZ (hw _ (List.mem_of_getElem? (i := 14) rfl)) (hw _ (List.mem_of_getElem? (i := 8) rfl)) (by decide) (by decide)) q31a q31c (g := (mkF m 143 #[.val (.long q0), .second, .val (.long q1), .second, .val (.int p2), .val (.long q0), .second, .val (.long q1), .second, .val (.int (1 : Int32)), .val (.int (0 : Int32)), .val (.int (0 : Int32)), .val (.int (1 : Int32)), .val (.int (1 : Int32)), .unset, .unset, .unset, .unset] [(.long q1), (.long q0), (.ref w_LESS)])) rfl (by rw [hml]; rfl) (Steps.refl _) (argsL := [(.long q0), (.long q1)]) (rest := []) (lenOf pd_2 rfl) rfl (by show 2 * 0 + _ ≤ _; exact Nat.le_of_eq rfl) (hb hby at_143) (fun _ _ => ⟨rfl, e30, (by decide : 0 + 0 ≤ _), (by decide : 0 + 0 ≤ _)⟩)
            dsimp only [Pt.U, Pt.locs, Pt.cells, Pt.slots] at X31 l31 y31 z31 st31 hQ31
            subst l31 y31 z31
            obtain ⟨rfl, N31q, hh31⟩ := hQ31
            have N31 := Fr.app N28 N31q
            refine own_of (fun _ k => st31.trans k) ?_
            show own_Out p e below _ (T31.setTop (mkF m 146 #[.val (.long q0), .second, .val (.long q1), .second, .val (.int p2), .val (.long q0), .second, .val (.long q1), .second, .val (.int (1 : Int32)), .val (.int (0 : Int32)), .val (.int (0 : Int32)), .val (.int (1 : Int32)), .val (.int (1 : Int32)), .unset, .unset, .unset, .unset] [(.int (f3e2 q0 q1))]))
            refine own_of (fun _ k => XS.iload X31.here hx rfl (hb hby at_146) rfl k) ?_
            show own_Out p e below _ (T31.setTop (mkF m 148 #[.val (.long q0), .second, .val (.long q1), .second, .val (.int p2), .val (.long q0), .second, .val (.long q1), .second, .val (.int (1 : Int32)), .val (.int (0 : Int32)), .val (.int (0 : Int32)), .val (.int (1 : Int32)), .val (.int (1 : Int32)), .unset, .unset, .unset, .unset] [(.int (1 : Int32)), (.int (f3e2 q0 q1))]))
            refine own_of (fun _ k => XS.ifNo X31.here hx rfl (hb hby at_148) rfl ((if0 _ _).trans (feq (by decide : ¬ ((1 : Int32) = (0 : Int32)))).1) k) ?_
            show own_Out p e below _ (T31.setTop (mkF m 151 #[.val (.long q0), .second, .val (.long q1), .second, .val (.int p2), .val (.long q0), .second, .val (.long q1), .second, .val (.int (1 : Int32)), .val (.int (0 : Int32)), .val (.int (0 : Int32)), .val (.int (1 : Int32)), .val (.int (1 : Int32)), .unset, .unset, .unset, .unset] [(.int (f3e2 q0 q1))]))
            refine own_of (fun _ k => XS.iload X31.here hx rfl (hb hby at_151) rfl k) ?_
            show own_Out p e below _ (T31.setTop (mkF m 153 #[.val (.long q0), .second, .val (.long q1), .second, .val (.int p2), .val (.long q0), .second, .val (.long q1), .second, .val (.int (1 : Int32)), .val (.int (0 : Int32)), .val (.int (0 : Int32)), .val (.int (1 : Int32)), .val (.int (1 : Int32)), .unset, .unset, .unset, .unset] [(.int (0 : Int32)), (.int (f3e2 q0 q1))]))
            refine own_of (fun _ k => XS.ifNo X31.here hx rfl (hb hby at_153) rfl ((if0 _ _).trans (teq (by decide : (0 : Int32) = (0 : Int32))).2) k) ?_
            show own_Out p e below _ (T31.setTop (mkF m 156 #[.val (.long q0), .second, .val (.long q1), .second, .val (.int p2), .val (.long q0), .second, .val (.long q1), .second, .val (.int (1 : Int32)), .val (.int (0 : Int32)), .val (.int (0 : Int32)), .val (.int (1 : Int32)), .val (.int (1 : Int32)), .unset, .unset, .unset, .unset] [(.int (f3e2 q0 q1))]))
            refine own_of (fun _ k => XS.iconst X31.here hx rfl (hb hby at_156) k) ?_
            show own_Out p e below _ (T31.setTop (mkF m 157 #[.val (.long q0), .second, .val (.long q1), .second, .val (.int p2), .val (.long q0), .second, .val (.long q1), .second, .val (.int (1 : Int32)), .val (.int (0 : Int32)), .val (.int (0 : Int32)), .val (.int (1 : Int32)), .val (.int (1 : Int32)), .unset, .unset, .unset, .unset] [(.int (1 : Int32)), (.int (f3e2 q0 q1))]))
            refine own_of (fun _ k => XS.goto X31.here hx rfl (pc0 := 157) (pc' := 161) rfl (hb hby at_157) (by decide) (by decide) k) ?_
            show own_Out p e below _ (T31.setTop (mkF m 161 #[.val (.long q0), .second, .val (.long q1), .second, .val (.int p2), .val (.long q0), .second, .val (.long q1), .second, .val (.int (1 : Int32)), .val (.int (0 : Int32)), .val (.int (0 : Int32)), .val (.int (1 : Int32)), .val (.int (1 : Int32)), .unset, .unset, .unset, .unset] [(.int (1 : Int32)), (.int (f3e2 q0 q1))]))
            by_cases hc161_32 : (f3e2 q0 q1) = (1 : Int32)
            · skip
              refine own_of (fun _ k => XS.icmpNo X31.here hx rfl (hb hby at_161) rfl (teq hc161_32).2 k) ?_
              show own_Out p e below _ (T31.setTop (mkF m 164 #[.val (.long q0), .second, .val (.long q1), .second, .val (.int p2), .val (.long q0), .second, .val (.long q1), .second, .val (.int (1 : Int32)), .val (.int (0 : Int32)), .val (.int (0 : Int32)), .val (.int (1 : Int32)), .val (.int (1 : Int32)), .unset, .unset, .unset, .unset] []))
              refine own_of (fun _ k => XS.iconst X31.here hx rfl (hb hby at_164) k) ?_
              show own_Out p e below _ (T31.setTop (mkF m 165 #[.val (.long q0), .second, .val (.long q1), .second, .val (.int p2), .val (.long q0), .second, .val (.long q1), .second, .val (.int (1 : Int32)), .val (.int (0 : Int32)), .val (.int (0 : Int32)), .val (.int (1 : Int32)), .val (.int (1 : Int32)), .unset, .unset, .unset, .unset] [(.int (1 : Int32))]))
              refine own_of (fun _ k => XS.goto X31.here hx rfl (pc0 := 165) (pc' := 169) rfl (hb hby at_165) (by decide) (by decide) k) ?_
              show own_Out p e below _ (T31.setTop (mkF m 169 #[.val (.long q0), .second, .val (.long q1), .second, .val (.int p2), .val (.long q0), .second, .val (.long q1), .second, .val (.int (1 : Int32)), .val (.int (0 : Int32)), .val (.int (0 : Int32)), .val (.int (1 : Int32)), .val (.int (1 : Int32)), .unset, .unset, .unset, .unset] [(.int (1 : Int32))]))
              refine own_of (fun _ k => XS.istore X31.here hx rfl (hb hby at_169) rfl (l' := #[.val (.long q0), .second, .val (.long q1), .second, .val (.int p2), .val (.long q0), .second, .val (.long q1), .second, .val (.int (1 : Int32)), .val (.int (0 : Int32)), .val (.int (0 : Int32)), .val (.int (1 : Int32)), .val (.int (1 : Int32)), .val (.int (1 : Int32)), .unset, .unset, .unset]) rfl k) ?_
              show own_Out p e below _ (T31.setTop (mkF m 171 #[.val (.long q0), .second, .val (.long q1), .second, .val (.int p2), .val (.long q0), .second, .val (.long q1), .second, .val (.int (1 : Int32)), .val (.int (0 : Int32)), .val (.int (0 : Int32)), .val (.int (1 : Int32)), .val (.int (1 : Int32)), .val (.int (1 : Int32)), .unset, .unset, .unset] []))
              obtain ⟨T33, X33, e33, st33⟩ := getS2 X31 hx hZ hown (host := "") (Or.inl (hw _ (List.mem_of_getElem? (i := 28) rfl))) Via.refl hh31 S_w_AT_MOST (g := (mkF m 171 #[.val (.long q0), .second, .val (.long q1), .second, .val (.int p2), .val (.long q0), .second, .val (.long q1), .second, .val (.int (1 : Int32)), .val (.int (0 : Int32)), .val (.int (0 : Int32)), .val (.int (1 : Int32)), .val (.int (1 : Int32)), .val (.int (1 : Int32)), .unset, .unset, .unset] [])) rfl (hb hby at_171)
              refine own_of st33 ?_
              show own_Out p e below _ (T33.setTop (mkF m 174 #[.val (.long q0), .second, .val (.long q1), .second, .val (.int p2), .val (.long q0), .second, .val (.long q1), .second, .val (.int (1 : Int32)), .val (.int (0 : Int32)), .val (.int (0 : Int32)), .val (.int (1 : Int32)), .val (.int (1 : Int32)), .val (.int (1 : Int32)), .unset, .unset, .unset] [(.ref w_AT_MOST)]))
              refine own_of (fun _ k => XS.lload X33.here hx rfl (hb hby at_174) rfl k) ?_
              show own_Out p e below _ (T33.setTop (mkF m 176 #[.val (.long q0), .second, .val (.long q1), .second, .val (.int p2), .val (.long q0), .second, .val (.long q1), .second, .val (.int (1 : Int32)), .val (.int (0 : Int32)), .val (.int (0 : Int32)), .val (.int (1 : Int32)), .val (.int (1 : Int32)), .val (.int (1 : Int32)), .unset, .unset, .unset] [(.long q0), (.ref w_AT_MOST)]))
              refine own_of (fun _ k => XS.lload X33.here hx rfl (hb hby at_176) rfl k) ?_
              show own_Out p e below _ (T33.setTop (mkF m 178 #[.val (.long q0), .second, .val (.long q1), .second, .val (.int p2), .val (.long q0), .second, .val (.long q1), .second, .val (.int (1 : Int32)), .val (.int (0 : Int32)), .val (.int (0 : Int32)), .val (.int (1 : Int32)), .val (.int (1 : Int32)), .val (.int (1 : Int32)), .unset, .unset, .unset] [(.long q1), (.long q0), (.ref w_AT_MOST)]))
              obtain ⟨cq34, kq34, q34a, q34b, q34c⟩ := isOf hZ e33 E_w_AT_MOST
              obtain ⟨_, _, ⟨T34, L34, k34, n34⟩, -, X34, ⟨Lc34, hQ34, l34, y34, z34⟩, st34⟩ := X33.virtualBack hx (y := (⟨"com/example/ringd/ringd/core/Comparison$Operator", "holds", "(JJ)Z"⟩ : MethodName)) (z := (⟨"com/example/ringd/ringd/core/Comparison$Operator", "holds", "(JJ)Z"⟩ : MethodName)) hown (mvT hZ (hw _ (List.mem_of_getElem? (i := 10) rfl))) (mvT hZ (hw _ (List.mem_of_getElem? (i := 11) rfl))) (notFace_of_selects (args := #[]) (mvT hZ (hw _ (List.mem_of_getElem? (i := 13) rfl)))) (mvT hZ (hw _ (List.mem_of_getElem? (i := 13) rfl))) (mvT hZ (hw _ (List.mem_of_getElem? (i := 12) rfl))) (by decide) (backOf (W := 0) (rm3e3 l Z a0 hw [] w_AT_MOST q0 q1 h0 n0 Z0 E_w_AT_MOST F_w_AT_MOST) hZ (hw _ (List.mem_of_getElem? (i := 14) rfl)) (hw _ (List.mem_of_getElem? (i := 8) rfl)) (by decide) (by decide)) q34a q34c (g := (mkF m 178 #[.val (.long q0), .second, .val (.long q1), .second, .val (.int p2), .val (.long q0), .second, .val (.long q1), .second, .val (.int (1 : Int32)), .val (.int (0 : Int32)), .val (.int (0 : Int32)), .val (.int (1 : Int32)), .val (.int (1 : Int32)), .val (.int (1 : Int32)), .unset, .unset, .unset] [(.long q1), (.long q0), (.ref w_AT_MOST)])) rfl (by rw [hml]; rfl) (Steps.refl _) (argsL := [(.long q0), (.long q1)]) (rest := []) (lenOf pd_2 rfl) rfl (by show 2 * 0 + _ ≤ _; exact Nat.le_of_eq rfl) (hb hby at_178) (fun _ _ => ⟨rfl, e33, (by decide : 0 + 0 ≤ _), (by decide : 0 + 0 ≤ _)⟩)
              dsimp only [Pt.U, Pt.locs, Pt.cells, Pt.slots] at X34 l34 y34 z34 st34 hQ34
              subst l34 y34 z34
              obtain ⟨rfl, N34q, hh34⟩ := hQ34
              have N34 := Fr.app N31 N34q
              refine own_of (fun _ k => st34.trans k) ?_
              show own_Out p e below _ (T34.setTop (mkF m 181 #[.val (.long q0), .second, .val (.long q1), .second, .val (.int p2), .val (.long q0), .second, .val (.long q1), .second, .val (.int (1 : Int32)), .val (.int (0 : Int32)), .val (.int (0 : Int32)), .val (.int (1 : Int32)), .val (.int (1 : Int32)), .val (.int (1 : Int32)), .unset, .unset, .unset] [(.int (f3e3 q0 q1))]))
              refine own_of (fun _ k => XS.iload X34.here hx rfl (hb hby at_181) rfl k) ?_
              show own_Out p e below _ (T34.setTop (mkF m 183 #[.val (.long q0), .second, .val (.long q1), .second, .val (.int p2), .val (.long q0), .second, .val (.long q1), .second, .val (.int (1 : Int32)), .val (.int (0 : Int32)), .val (.int (0 : Int32)), .val (.int (1 : Int32)), .val (.int (1 : Int32)), .val (.int (1 : Int32)), .unset, .unset, .unset] [(.int (1 : Int32)), (.int (f3e3 q0 q1))]))
              by_cases hc183_35 : (f3e3 q0 q1) = (1 : Int32)
              · skip
                refine own_of (fun _ k => XS.icmpNo X34.here hx rfl (hb hby at_183) rfl (teq hc183_35).2 k) ?_
                show own_Out p e below _ (T34.setTop (mkF m 186 #[.val (.long q0), .second, .val (.long q1), .second, .val (.int p2), .val (.long q0), .second, .val (.long q1), .second, .val (.int (1 : Int32)), .val (.int (0 : Int32)), .val (.int (0 : Int32)), .val (.int (1 : Int32)), .val (.int (1 : Int32)), .val (.int (1 : Int32)), .unset, .unset, .unset] []))
                refine own_of (fun _ k => XS.iconst X34.here hx rfl (hb hby at_186) k) ?_
                show own_Out p e below _ (T34.setTop (mkF m 187 #[.val (.long q0), .second, .val (.long q1), .second, .val (.int p2), .val (.long q0), .second, .val (.long q1), .second, .val (.int (1 : Int32)), .val (.int (0 : Int32)), .val (.int (0 : Int32)), .val (.int (1 : Int32)), .val (.int (1 : Int32)), .val (.int (1 : Int32)), .unset, .unset, .unset] [(.int (1 : Int32))]))
                refine own_of (fun _ k => XS.goto X34.here hx rfl (pc0 := 187) (pc' := 191) rfl (hb hby at_187) (by decide) (by decide) k) ?_
                show own_Out p e below _ (T34.setTop (mkF m 191 #[.val (.long q0), .second, .val (.long q1), .second, .val (.int p2), .val (.long q0), .second, .val (.long q1), .second, .val (.int (1 : Int32)), .val (.int (0 : Int32)), .val (.int (0 : Int32)), .val (.int (1 : Int32)), .val (.int (1 : Int32)), .val (.int (1 : Int32)), .unset, .unset, .unset] [(.int (1 : Int32))]))
                refine own_of (fun _ k => XS.istore X34.here hx rfl (hb hby at_191) rfl (l' := #[.val (.long q0), .second, .val (.long q1), .second, .val (.int p2), .val (.long q0), .second, .val (.long q1), .second, .val (.int (1 : Int32)), .val (.int (0 : Int32)), .val (.int (0 : Int32)), .val (.int (1 : Int32)), .val (.int (1 : Int32)), .val (.int (1 : Int32)), .val (.int (1 : Int32)), .unset, .unset]) rfl k) ?_
                show own_Out p e below _ (T34.setTop (mkF m 193 #[.val (.long q0), .second, .val (.long q1), .second, .val (.int p2), .val (.long q0), .second, .val (.long q1), .second, .val (.int (1 : Int32)), .val (.int (0 : Int32)), .val (.int (0 : Int32)), .val (.int (1 : Int32)), .val (.int (1 : Int32)), .val (.int (1 : Int32)), .val (.int (1 : Int32)), .unset, .unset] []))
                obtain ⟨T36, X36, e36, st36⟩ := getS2 X34 hx hZ hown (host := "") (Or.inl (hw _ (List.mem_of_getElem? (i := 30) rfl))) Via.refl hh34 S_w_GREATER (g := (mkF m 193 #[.val (.long q0), .second, .val (.long q1), .second, .val (.int p2), .val (.long q0), .second, .val (.long q1), .second, .val (.int (1 : Int32)), .val (.int (0 : Int32)), .val (.int (0 : Int32)), .val (.int (1 : Int32)), .val (.int (1 : Int32)), .val (.int (1 : Int32)), .val (.int (1 : Int32)), .unset, .unset] [])) rfl (hb hby at_193)
                refine own_of st36 ?_
                show own_Out p e below _ (T36.setTop (mkF m 196 #[.val (.long q0), .second, .val (.long q1), .second, .val (.int p2), .val (.long q0), .second, .val (.long q1), .second, .val (.int (1 : Int32)), .val (.int (0 : Int32)), .val (.int (0 : Int32)), .val (.int (1 : Int32)), .val (.int (1 : Int32)), .val (.int (1 : Int32)), .val (.int (1 : Int32)), .unset, .unset] [(.ref w_GREATER)]))
                refine own_of (fun _ k => XS.lload X36.here hx rfl (hb hby at_196) rfl k) ?_
                show own_Out p e below _ (T36.setTop (mkF m 198 #[.val (.long q0), .second, .val (.long q1), .second, .val (.int p2), .val (.long q0), .second, .val (.long q1), .second, .val (.int (1 : Int32)), .val (.int (0 : Int32)), .val (.int (0 : Int32)), .val (.int (1 : Int32)), .val (.int (1 : Int32)), .val (.int (1 : Int32)), .val (.int (1 : Int32)), .unset, .unset] [(.long q0), (.ref w_GREATER)]))
                refine own_of (fun _ k => XS.lload X36.here hx rfl (hb hby at_198) rfl k) ?_
                show own_Out p e below _ (T36.setTop (mkF m 200 #[.val (.long q0), .second, .val (.long q1), .second, .val (.int p2), .val (.long q0), .second, .val (.long q1), .second, .val (.int (1 : Int32)), .val (.int (0 : Int32)), .val (.int (0 : Int32)), .val (.int (1 : Int32)), .val (.int (1 : Int32)), .val (.int (1 : Int32)), .val (.int (1 : Int32)), .unset, .unset] [(.long q1), (.long q0), (.ref w_GREATER)]))
                obtain ⟨cq37, kq37, q37a, q37b, q37c⟩ := isOf hZ e36 E_w_GREATER
                obtain ⟨_, _, ⟨T37, L37, k37, n37⟩, -, X37, ⟨Lc37, hQ37, l37, y37, z37⟩, st37⟩ := X36.virtualBack hx (y := (⟨"com/example/ringd/ringd/core/Comparison$Operator", "holds", "(JJ)Z"⟩ : MethodName)) (z := (⟨"com/example/ringd/ringd/core/Comparison$Operator", "holds", "(JJ)Z"⟩ : MethodName)) hown (mvT hZ (hw _ (List.mem_of_getElem? (i := 10) rfl))) (mvT hZ (hw _ (List.mem_of_getElem? (i := 11) rfl))) (notFace_of_selects (args := #[]) (mvT hZ (hw _ (List.mem_of_getElem? (i := 13) rfl)))) (mvT hZ (hw _ (List.mem_of_getElem? (i := 13) rfl))) (mvT hZ (hw _ (List.mem_of_getElem? (i := 12) rfl))) (by decide) (backOf (W := 0) (rm3e4 l Z a0 hw [] w_GREATER q0 q1 h0 n0 Z0 E_w_GREATER F_w_GREATER) hZ (hw _ (List.mem_of_getElem? (i := 14) rfl)) (hw _ (List.mem_of_getElem? (i := 8) rfl)) (by decide) (by decide)) q37a q37c (g := (mkF m 200 #[.val (.long q0), .second, .val (.long q1), .second, .val (.int p2), .val (.long q0), .second, .val (.long q1), .second, .val (.int (1 : Int32)), .val (.int (0 : Int32)), .val (.int (0 : Int32)), .val (.int (1 : Int32)), .val (.int (1 : Int32)), .val (.int (1 : Int32)), .val (.int (1 : Int32)), .unset, .unset] [(.long q1), (.long q0), (.ref w_GREATER)])) rfl (by rw [hml]; rfl) (Steps.refl _) (argsL := [(.long q0), (.long q1)]) (rest := []) (lenOf pd_2 rfl) rfl (by show 2 * 0 + _ ≤ _; exact Nat.le_of_eq rfl) (hb hby at_200) (fun _ _ => ⟨rfl, e36, (by decide : 0 + 0 ≤ _), (by decide : 0 + 0 ≤ _)⟩)
                dsimp only [Pt.U, Pt.locs, Pt.cells, Pt.slots] at X37 l37 y37 z37 st37 hQ37
                subst l37 y37 z37
                obtain ⟨rfl, N37q, hh37⟩ := hQ37
                have N37 := Fr.app N34 N37q
                refine own_of (fun _ k => st37.trans k) ?_
                show own_Out p e below _ (T37.setTop (mkF m 203 #[.val (.long q0), .second, .val (.long q1), .second, .val (.int p2), .val (.long q0), .second, .val (.long q1), .second, .val (.int (1 : Int32)), .val (.int (0 : Int32)), .val (.int (0 : Int32)), .val (.int (1 : Int32)), .val (.int (1 : Int32)), .val (.int (1 : Int32)), .val (.int (1 : Int32)), .unset, .unset] [(.int (f3e4 q0 q1))]))
                refine own_of (fun _ k => XS.iload X37.here hx rfl (hb hby at_203) rfl k) ?_
                show own_Out p e below _ (T37.setTop (mkF m 205 #[.val (.long q0), .second, .val (.long q1), .second, .val (.int p2), .val (.long q0), .second, .val (.long q1), .second, .val (.int (1 : Int32)), .val (.int (0 : Int32)), .val (.int (0 : Int32)), .val (.int (1 : Int32)), .val (.int (1 : Int32)), .val (.int (1 : Int32)), .val (.int (1 : Int32)), .unset, .unset] [(.int (0 : Int32)), (.int (f3e4 q0 q1))]))
                refine own_of (fun _ k => XS.ifYes X37.here hx rfl (pc0 := 205) (pc' := 217) rfl (hb hby at_205) rfl ((if0 _ _).trans (teq (by decide : (0 : Int32) = (0 : Int32))).1) (by decide) (by decide) k) ?_
                show own_Out p e below _ (T37.setTop (mkF m 217 #[.val (.long q0), .second, .val (.long q1), .second, .val (.int p2), .val (.long q0), .second, .val (.long q1), .second, .val (.int (1 : Int32)), .val (.int (0 : Int32)), .val (.int (0 : Int32)), .val (.int (1 : Int32)), .val (.int (1 : Int32)), .val (.int (1 : Int32)), .val (.int (1 : Int32)), .unset, .unset] [(.int (f3e4 q0 q1))]))
                refine own_of (fun _ k => XS.iconst X37.here hx rfl (hb hby at_217) k) ?_
                show own_Out p e below _ (T37.setTop (mkF m 218 #[.val (.long q0), .second, .val (.long q1), .second, .val (.int p2), .val (.long q0), .second, .val (.long q1), .second, .val (.int (1 : Int32)), .val (.int (0 : Int32)), .val (.int (0 : Int32)), .val (.int (1 : Int32)), .val (.int (1 : Int32)), .val (.int (1 : Int32)), .val (.int (1 : Int32)), .unset, .unset] [(.int (0 : Int32)), (.int (f3e4 q0 q1))]))
                by_cases hc218_38 : (f3e4 q0 q1) = (0 : Int32)
                · skip
                  refine own_of (fun _ k => XS.icmpNo X37.here hx rfl (hb hby at_218) rfl (teq hc218_38).2 k) ?_
                  show own_Out p e below _ (T37.setTop (mkF m 221 #[.val (.long q0), .second, .val (.long q1), .second, .val (.int p2), .val (.long q0), .second, .val (.long q1), .second, .val (.int (1 : Int32)), .val (.int (0 : Int32)), .val (.int (0 : Int32)), .val (.int (1 : Int32)), .val (.int (1 : Int32)), .val (.int (1 : Int32)), .val (.int (1 : Int32)), .unset, .unset] []))
                  refine own_of (fun _ k => XS.iconst X37.here hx rfl (hb hby at_221) k) ?_
                  show own_Out p e below _ (T37.setTop (mkF m 222 #[.val (.long q0), .second, .val (.long q1), .second, .val (.int p2), .val (.long q0), .second, .val (.long q1), .second, .val (.int (1 : Int32)), .val (.int (0 : Int32)), .val (.int (0 : Int32)), .val (.int (1 : Int32)), .val (.int (1 : Int32)), .val (.int (1 : Int32)), .val (.int (1 : Int32)), .unset, .unset] [(.int (1 : Int32))]))
                  refine own_of (fun _ k => XS.goto X37.here hx rfl (pc0 := 222) (pc' := 226) rfl (hb hby at_222) (by decide) (by decide) k) ?_
                  show own_Out p e below _ (T37.setTop (mkF m 226 #[.val (.long q0), .second, .val (.long q1), .second, .val (.int p2), .val (.long q0), .second, .val (.long q1), .second, .val (.int (1 : Int32)), .val (.int (0 : Int32)), .val (.int (0 : Int32)), .val (.int (1 : Int32)), .val (.int (1 : Int32)), .val (.int (1 : Int32)), .val (.int (1 : Int32)), .unset, .unset] [(.int (1 : Int32))]))
                  refine own_of (fun _ k => XS.istore X37.here hx rfl (hb hby at_226) rfl (l' := #[.val (.long q0), .second, .val (.long q1), .second, .val (.int p2), .val (.long q0), .second, .val (.long q1), .second, .val (.int (1 : Int32)), .val (.int (0 : Int32)), .val (.int (0 : Int32)), .val (.int (1 : Int32)), .val (.int (1 : Int32)), .val (.int (1 : Int32)), .val (.int (1 : Int32)), .val (.int (1 : Int32)), .unset]) rfl k) ?_
                  show own_Out p e below _ (T37.setTop (mkF m 228 #[.val (.long q0), .second, .val (.long q1), .second, .val (.int p2), .val (.long q0), .second, .val (.long q1), .second, .val (.int (1 : Int32)), .val (.int (0 : Int32)), .val (.int (0 : Int32)), .val (.int (1 : Int32)), .val (.int (1 : Int32)), .val (.int (1 : Int32)), .val (.int (1 : Int32)), .val (.int (1 : Int32)), .unset] []))
                  obtain ⟨T39, X39, e39, st39⟩ := getS2 X37 hx hZ hown (host := "") (Or.inl (hw _ (List.mem_of_getElem? (i := 32) rfl))) Via.refl hh37 S_w_AT_LEAST (g := (mkF m 228 #[.val (.long q0), .second, .val (.long q1), .second, .val (.int p2), .val (.long q0), .second, .val (.long q1), .second, .val (.int (1 : Int32)), .val (.int (0 : Int32)), .val (.int (0 : Int32)), .val (.int (1 : Int32)), .val (.int (1 : Int32)), .val (.int (1 : Int32)), .val (.int (1 : Int32)), .val (.int (1 : Int32)), .unset] [])) rfl (hb hby at_228)
                  refine own_of st39 ?_
                  show own_Out p e below _ (T39.setTop (mkF m 231 #[.val (.long q0), .second, .val (.long q1), .second, .val (.int p2), .val (.long q0), .second, .val (.long q1), .second, .val (.int (1 : Int32)), .val (.int (0 : Int32)), .val (.int (0 : Int32)), .val (.int (1 : Int32)), .val (.int (1 : Int32)), .val (.int (1 : Int32)), .val (.int (1 : Int32)), .val (.int (1 : Int32)), .unset] [(.ref w_AT_LEAST)]))
                  refine own_of (fun _ k => XS.lload X39.here hx rfl (hb hby at_231) rfl k) ?_
                  show own_Out p e below _ (T39.setTop (mkF m 233 #[.val (.long q0), .second, .val (.long q1), .second, .val (.int p2), .val (.long q0), .second, .val (.long q1), .second, .val (.int (1 : Int32)), .val (.int (0 : Int32)), .val (.int (0 : Int32)), .val (.int (1 : Int32)), .val (.int (1 : Int32)), .val (.int (1 : Int32)), .val (.int (1 : Int32)), .val (.int (1 : Int32)), .unset] [(.long q0), (.ref w_AT_LEAST)]))
                  refine own_of (fun _ k => XS.lload X39.here hx rfl (hb hby at_233) rfl k) ?_
                  show own_Out p e below _ (T39.setTop (mkF m 235 #[.val (.long q0), .second, .val (.long q1), .second, .val (.int p2), .val (.long q0), .second, .val (.long q1), .second, .val (.int (1 : Int32)), .val (.int (0 : Int32)), .val (.int (0 : Int32)), .val (.int (1 : Int32)), .val (.int (1 : Int32)), .val (.int (1 : Int32)), .val (.int (1 : Int32)), .val (.int (1 : Int32)), .unset] [(.long q1), (.long q0), (.ref w_AT_LEAST)]))
                  obtain ⟨cq40, kq40, q40a, q40b, q40c⟩ := isOf hZ e39 E_w_AT_LEAST
                  obtain ⟨_, _, ⟨T40, L40, k40, n40⟩, -, X40, ⟨Lc40, hQ40, l40, y40, z40⟩, st40⟩ := X39.virtualBack hx (y := (⟨"com/example/ringd/ringd/core/Comparison$Operator", "holds", "(JJ)Z"⟩ : MethodName)) (z := (⟨"com/example/ringd/ringd/core/Comparison$Operator", "holds", "(JJ)Z"⟩ : MethodName)) hown (mvT hZ (hw _ (List.mem_of_getElem? (i := 10) rfl))) (mvT hZ (hw _ (List.mem_of_getElem? (i := 11) rfl))) (notFace_of_selects (args := #[]) (mvT hZ (hw _ (List.mem_of_getElem? (i := 13) rfl)))) (mvT hZ (hw _ (List.mem_of_getElem? (i := 13) rfl))) (mvT hZ (hw _ (List.mem_of_getElem? (i := 12) rfl))) (by decide) (backOf (W := 0) (rm3e5 l Z a0 hw [] w_AT_LEAST q0 q1 h0 n0 Z0 E_w_AT_LEAST F_w_AT_LEAST) hZ (hw _ (List.mem_of_getElem? (i := 14) rfl)) (hw _ (List.mem_of_getElem? (i := 8) rfl)) (by decide) (by decide)) q40a q40c (g := (mkF m 235 #[.val (.long q0), .second, .val (.long q1), .second, .val (.int p2), .val (.long q0), .second, .val (.long q1), .second, .val (.int (1 : Int32)), .val (.int (0 : Int32)), .val (.int (0 : Int32)), .val (.int (1 : Int32)), .val (.int (1 : Int32)), .val (.int (1 : Int32)), .val (.int (1 : Int32)), .val (.int (1 : Int32)), .unset] [(.long q1), (.long q0), (.ref w_AT_LEAST)])) rfl (by rw [hml]; rfl) (Steps.refl _) (argsL := [(.long q0), (.long q1)]) (rest := []) (lenOf pd_2 rfl) rfl (by show 2 * 0 + _ ≤ _; exact Nat.le_of_eq rfl) (hb hby at_235) (fun _ _ => ⟨rfl, e39, (by decide : 0 + 0 ≤ _), (by decide : 0 + 0 ≤ _)⟩)
                  dsimp only [Pt.U, Pt.locs, Pt.cells, Pt.slots] at X40 l40 y40 z40 st40 hQ40
                  subst l40 y40 z40
                  obtain ⟨rfl, N40q, hh40⟩ := hQ40
                  have N40 := Fr.app N37 N40q
                  refine own_of (fun _ k => st40.trans k) ?_
                  show own_Out p e below _ (T40.setTop (mkF m 238 #[.val (.long q0), .second, .val (.long q1), .second, .val (.int p2), .val (.long q0), .second, .val (.long q1), .second, .val (.int (1 : Int32)), .val (.int (0 : Int32)), .val (.int (0 : Int32)), .val (.int (1 : Int32)), .val (.int (1 : Int32)), .val (.int (1 : Int32)), .val (.int (1 : Int32)), .val (.int (1 : Int32)), .unset] [(.int (f3e5 q0 q1))]))
                  refine own_of (fun _ k => XS.iload X40.here hx rfl (hb hby at_238) rfl k) ?_
                  show own_Out p e below _ (T40.setTop (mkF m 240 #[.val (.long q0), .second, .val (.long q1), .second, .val (.int p2), .val (.long q0), .second, .val (.long q1), .second, .val (.int (1 : Int32)), .val (.int (0 : Int32)), .val (.int (0 : Int32)), .val (.int (1 : Int32)), .val (.int (1 : Int32)), .val (.int (1 : Int32)), .val (.int (1 : Int32)), .val (.int (1 : Int32)), .unset] [(.int (0 : Int32)), (.int (f3e5 q0 q1))]))
                  by_cases hc240_41 : (f3e5 q0 q1) = (0 : Int32)
                  · skip
                    refine own_of (fun _ k => XS.icmpNo X40.here hx rfl (hb hby at_240) rfl (teq hc240_41).2 k) ?_
                    show own_Out p e below _ (T40.setTop (mkF m 243 #[.val (.long q0), .second, .val (.long q1), .second, .val (.int p2), .val (.long q0), .second, .val (.long q1), .second, .val (.int (1 : Int32)), .val (.int (0 : Int32)), .val (.int (0 : Int32)), .val (.int (1 : Int32)), .val (.int (1 : Int32)), .val (.int (1 : Int32)), .val (.int (1 : Int32)), .val (.int (1 : Int32)), .unset] []))
                    refine own_of (fun _ k => XS.iconst X40.here hx rfl (hb hby at_243) k) ?_
                    show own_Out p e below _ (T40.setTop (mkF m 244 #[.val (.long q0), .second, .val (.long q1), .second, .val (.int p2), .val (.long q0), .second, .val (.long q1), .second, .val (.int (1 : Int32)), .val (.int (0 : Int32)), .val (.int (0 : Int32)), .val (.int (1 : Int32)), .val (.int (1 : Int32)), .val (.int (1 : Int32)), .val (.int (1 : Int32)), .val (.int (1 : Int32)), .unset] [(.int (1 : Int32))]))
                    refine own_of (fun _ k => XS.goto X40.here hx rfl (pc0 := 244) (pc' := 248) rfl (hb hby at_244) (by decide) (by decide) k) ?_
                    show own_Out p e below _ (T40.setTop (mkF m 248 #[.val (.long q0), .second, .val (.long q1), .second, .val (.int p2), .val (.long q0), .second, .val (.long q1), .second, .val (.int (1 : Int32)), .val (.int (0 : Int32)), .val (.int (0 : Int32)), .val (.int (1 : Int32)), .val (.int (1 : Int32)), .val (.int (1 : Int32)), .val (.int (1 : Int32)), .val (.int (1 : Int32)), .unset] [(.int (1 : Int32))]))
                    refine own_of (fun _ k => XS.istore X40.here hx rfl (hb hby at_248) rfl (l' := #[.val (.long q0), .second, .val (.long q1), .second, .val (.int p2), .val (.long q0), .second, .val (.long q1), .second, .val (.int (1 : Int32)), .val (.int (0 : Int32)), .val (.int (0 : Int32)), .val (.int (1 : Int32)), .val (.int (1 : Int32)), .val (.int (1 : Int32)), .val (.int (1 : Int32)), .val (.int (1 : Int32)), .val (.int (1 : Int32))]) rfl k) ?_
                    show own_Out p e below _ (T40.setTop (mkF m 250 #[.val (.long q0), .second, .val (.long q1), .second, .val (.int p2), .val (.long q0), .second, .val (.long q1), .second, .val (.int (1 : Int32)), .val (.int (0 : Int32)), .val (.int (0 : Int32)), .val (.int (1 : Int32)), .val (.int (1 : Int32)), .val (.int (1 : Int32)), .val (.int (1 : Int32)), .val (.int (1 : Int32)), .val (.int (1 : Int32))] []))
                    refine own_of (fun _ k => XS.iload X40.here hx rfl (hb hby at_250) rfl k) ?_
                    show own_Out p e below _ (T40.setTop (mkF m 252 #[.val (.long q0), .second, .val (.long q1), .second, .val (.int p2), .val (.long q0), .second, .val (.long q1), .second, .val (.int (1 : Int32)), .val (.int (0 : Int32)), .val (.int (0 : Int32)), .val (.int (1 : Int32)), .val (.int (1 : Int32)), .val (.int (1 : Int32)), .val (.int (1 : Int32)), .val (.int (1 : Int32)), .val (.int (1 : Int32))] [(.int (1 : Int32))]))
                    refine own_of (fun _ k => XS.ifNo X40.here hx rfl (hb hby at_252) rfl ((if0 _ _).trans (feq (by decide : ¬ ((1 : Int32) = (0 : Int32)))).1) k) ?_
                    show own_Out p e below _ (T40.setTop (mkF m 255 #[.val (.long q0), .second, .val (.long q1), .second, .val (.int p2), .val (.long q0), .second, .val (.long q1), .second, .val (.int (1 : Int32)), .val (.int (0 : Int32)), .val (.int (0 : Int32)), .val (.int (1 : Int32)), .val (.int (1 : Int32)), .val (.int (1 : Int32)), .val (.int (1 : Int32)), .val (.int (1 : Int32)), .val (.int (1 : Int32))] []))
                    refine own_of (fun _ k => XS.iload X40.here hx rfl (hb hby at_255) rfl k) ?_
                    show own_Out p e below _ (T40.setTop (mkF m 257 #[.val (.long q0), .second, .val (.long q1), .second, .val (.int p2), .val (.long q0), .second, .val (.long q1), .second, .val (.int (1 : Int32)), .val (.int (0 : Int32)), .val (.int (0 : Int32)), .val (.int (1 : Int32)), .val (.int (1 : Int32)), .val (.int (1 : Int32)), .val (.int (1 : Int32)), .val (.int (1 : Int32)), .val (.int (1 : Int32))] [(.int (1 : Int32))]))
                    refine own_of (fun _ k => XS.ifNo X40.here hx rfl (hb hby at_257) rfl ((if0 _ _).trans (feq (by decide : ¬ ((1 : Int32) = (0 : Int32)))).1) k) ?_
                    show own_Out p e below _ (T40.setTop (mkF m 260 #[.val (.long q0), .second, .val (.long q1), .second, .val (.int p2), .val (.long q0), .second, .val (.long q1), .second, .val (.int (1 : Int32)), .val (.int (0 : Int32)), .val (.int (0 : Int32)), .val (.int (1 : Int32)), .val (.int (1 : Int32)), .val (.int (1 : Int32)), .val (.int (1 : Int32)), .val (.int (1 : Int32)), .val (.int (1 : Int32))] []))
                    refine own_of (fun _ k => XS.iload X40.here hx rfl (hb hby at_260) rfl k) ?_
                    show own_Out p e below _ (T40.setTop (mkF m 262 #[.val (.long q0), .second, .val (.long q1), .second, .val (.int p2), .val (.long q0), .second, .val (.long q1), .second, .val (.int (1 : Int32)), .val (.int (0 : Int32)), .val (.int (0 : Int32)), .val (.int (1 : Int32)), .val (.int (1 : Int32)), .val (.int (1 : Int32)), .val (.int (1 : Int32)), .val (.int (1 : Int32)), .val (.int (1 : Int32))] [(.int (1 : Int32))]))
                    refine own_of (fun _ k => XS.ifNo X40.here hx rfl (hb hby at_262) rfl ((if0 _ _).trans (feq (by decide : ¬ ((1 : Int32) = (0 : Int32)))).1) k) ?_
                    show own_Out p e below _ (T40.setTop (mkF m 265 #[.val (.long q0), .second, .val (.long q1), .second, .val (.int p2), .val (.long q0), .second, .val (.long q1), .second, .val (.int (1 : Int32)), .val (.int (0 : Int32)), .val (.int (0 : Int32)), .val (.int (1 : Int32)), .val (.int (1 : Int32)), .val (.int (1 : Int32)), .val (.int (1 : Int32)), .val (.int (1 : Int32)), .val (.int (1 : Int32))] []))
                    refine own_of (fun _ k => XS.iload X40.here hx rfl (hb hby at_265) rfl k) ?_
                    show own_Out p e below _ (T40.setTop (mkF m 267 #[.val (.long q0), .second, .val (.long q1), .second, .val (.int p2), .val (.long q0), .second, .val (.long q1), .second, .val (.int (1 : Int32)), .val (.int (0 : Int32)), .val (.int (0 : Int32)), .val (.int (1 : Int32)), .val (.int (1 : Int32)), .val (.int (1 : Int32)), .val (.int (1 : Int32)), .val (.int (1 : Int32)), .val (.int (1 : Int32))] [(.int (1 : Int32))]))
                    refine own_of (fun _ k => XS.ifNo X40.here hx rfl (hb hby at_267) rfl ((if0 _ _).trans (feq (by decide : ¬ ((1 : Int32) = (0 : Int32)))).1) k) ?_
                    show own_Out p e below _ (T40.setTop (mkF m 270 #[.val (.long q0), .second, .val (.long q1), .second, .val (.int p2), .val (.long q0), .second, .val (.long q1), .second, .val (.int (1 : Int32)), .val (.int (0 : Int32)), .val (.int (0 : Int32)), .val (.int (1 : Int32)), .val (.int (1 : Int32)), .val (.int (1 : Int32)), .val (.int (1 : Int32)), .val (.int (1 : Int32)), .val (.int (1 : Int32))] []))
                    refine own_of (fun _ k => XS.iload X40.here hx rfl (hb hby at_270) rfl k) ?_
                    show own_Out p e below _ (T40.setTop (mkF m 272 #[.val (.long q0), .second, .val (.long q1), .second, .val (.int p2), .val (.long q0), .second, .val (.long q1), .second, .val (.int (1 : Int32)), .val (.int (0 : Int32)), .val (.int (0 : Int32)), .val (.int (1 : Int32)), .val (.int (1 : Int32)), .val (.int (1 : Int32)), .val (.int (1 : Int32)), .val (.int (1 : Int32)), .val (.int (1 : Int32))] [(.int (1 : Int32))]))
                    refine own_of (fun _ k => XS.ifNo X40.here hx rfl (hb hby at_272) rfl ((if0 _ _).trans (feq (by decide : ¬ ((1 : Int32) = (0 : Int32)))).1) k) ?_
                    show own_Out p e below _ (T40.setTop (mkF m 275 #[.val (.long q0), .second, .val (.long q1), .second, .val (.int p2), .val (.long q0), .second, .val (.long q1), .second, .val (.int (1 : Int32)), .val (.int (0 : Int32)), .val (.int (0 : Int32)), .val (.int (1 : Int32)), .val (.int (1 : Int32)), .val (.int (1 : Int32)), .val (.int (1 : Int32)), .val (.int (1 : Int32)), .val (.int (1 : Int32))] []))
                    refine own_of (fun _ k => XS.iload X40.here hx rfl (hb hby at_275) rfl k) ?_
                    show own_Out p e below _ (T40.setTop (mkF m 277 #[.val (.long q0), .second, .val (.long q1), .second, .val (.int p2), .val (.long q0), .second, .val (.long q1), .second, .val (.int (1 : Int32)), .val (.int (0 : Int32)), .val (.int (0 : Int32)), .val (.int (1 : Int32)), .val (.int (1 : Int32)), .val (.int (1 : Int32)), .val (.int (1 : Int32)), .val (.int (1 : Int32)), .val (.int (1 : Int32))] [(.int (1 : Int32))]))
                    refine own_of (fun _ k => XS.ifNo X40.here hx rfl (hb hby at_277) rfl ((if0 _ _).trans (feq (by decide : ¬ ((1 : Int32) = (0 : Int32)))).1) k) ?_
                    show own_Out p e below _ (T40.setTop (mkF m 280 #[.val (.long q0), .second, .val (.long q1), .second, .val (.int p2), .val (.long q0), .second, .val (.long q1), .second, .val (.int (1 : Int32)), .val (.int (0 : Int32)), .val (.int (0 : Int32)), .val (.int (1 : Int32)), .val (.int (1 : Int32)), .val (.int (1 : Int32)), .val (.int (1 : Int32)), .val (.int (1 : Int32)), .val (.int (1 : Int32))] []))
                    refine own_of (fun _ k => XS.iconst X40.here hx rfl (hb hby at_280) k) ?_
                    show own_Out p e below _ (T40.setTop (mkF m 281 #[.val (.long q0), .second, .val (.long q1), .second, .val (.int p2), .val (.long q0), .second, .val (.long q1), .second, .val (.int (1 : Int32)), .val (.int (0 : Int32)), .val (.int (0 : Int32)), .val (.int (1 : Int32)), .val (.int (1 : Int32)), .val (.int (1 : Int32)), .val (.int (1 : Int32)), .val (.int (1 : Int32)), .val (.int (1 : Int32))] [(.int (1 : Int32))]))
                    refine own_of (fun _ k => XS.goto X40.here hx rfl (pc0 := 281) (pc' := 285) rfl (hb hby at_281) (by decide) (by decide) k) ?_
                    show own_Out p e below _ (T40.setTop (mkF m 285 #[.val (.long q0), .second, .val (.long q1), .second, .val (.int p2), .val (.long q0), .second, .val (.long q1), .second, .val (.int (1 : Int32)), .val (.int (0 : Int32)), .val (.int (0 : Int32)), .val (.int (1 : Int32)), .val (.int (1 : Int32)), .val (.int (1 : Int32)), .val (.int (1 : Int32)), .val (.int (1 : Int32)), .val (.int (1 : Int32))] [(.int (1 : Int32))]))
                    exact own_outN X40 hx hlk (t := .boolean) hret (by simp) (hb hby at_285) (z' := (1 : Int32)) rfl (Q := Q0 Z q0 q1 p2 w_EQUAL w_NOT_EQUAL w_LESS w_AT_MOST w_GREATER w_AT_LEAST h0 n0) ⟨rfl, N40⟩ (by decide) (by decide)
                  · skip
                    exact (dead0_6 q0 q1 p2 hc7_1 hc37_3 hc57_5 hc96_26 hc126_29 hc161_32 hc183_35 hc218_38 hc240_41).elim
                · skip
                  exact (dead0_7 q0 q1 p2 hc7_1 hc37_3 hc57_5 hc96_26 hc126_29 hc161_32 hc183_35 hc218_38).elim
              · skip
                exact (dead0_8 q0 q1 p2 hc7_1 hc37_3 hc57_5 hc96_26 hc126_29 hc161_32 hc183_35).elim
            · skip
              exact (dead0_9 q0 q1 p2 hc7_1 hc37_3 hc57_5 hc96_26 hc126_29 hc161_32).elim
          · skip
            exact (dead0_10 q0 q1 p2 hc7_1 hc37_3 hc57_5 hc96_26 hc126_29).elim
        · skip
          exact (dead0_11 q0 q1 p2 hc7_1 hc37_3 hc57_5 hc96_26).elim
    · skip
      refine own_of (fun _ k => XS.ifYes X2.here hx rfl (pc0 := 37) (pc' := 44) rfl (hb hby at_37) rfl (own_lfeq hc37_3).2 (by decide) (by decide) k) ?_
      show own_Out p e below _ (T2.setTop (mkF m 44 #[.val (.long q0), .second, .val (.long q1), .second, .val (.int p2), .val (.long q0), .second, .val (.long q1), .second, .unset, .unset, .unset, .unset, .unset, .unset, .unset, .unset, .unset] []))
      refine own_of (fun _ k => XS.iconst X2.here hx rfl (hb hby at_44) k) ?_
      show own_Out p e below _ (T2.setTop (mkF m 45 #[.val (.long q0), .second, .val (.long q1), .second, .val (.int p2), .val (.long q0), .second, .val (.long q1), .second, .unset, .unset, .unset, .unset, .unset, .unset, .unset, .unset, .unset] [(.int (0 : Int32))]))
      refine own_of (fun _ k => XS.istore X2.here hx rfl (hb hby at_45) rfl (l' := #[.val (.long q0), .second, .val (.long q1), .second, .val (.int p2), .val (.long q0), .second, .val (.long q1), .second, .val (.int (0 : Int32)), .unset, .unset, .unset, .unset, .unset, .unset, .unset, .unset]) rfl k) ?_
      show own_Out p e below _ (T2.setTop (mkF m 47 #[.val (.long q0), .second, .val (.long q1), .second, .val (.int p2), .val (.long q0), .second, .val (.long q1), .second, .val (.int (0 : Int32)), .unset, .unset, .unset, .unset, .unset, .unset, .unset, .unset] []))
      refine own_of (fun _ k => XS.lload X2.here hx rfl (hb hby at_47) rfl k) ?_
      show own_Out p e below _ (T2.setTop (mkF m 49 #[.val (.long q0), .second, .val (.long q1), .second, .val (.int p2), .val (.long q0), .second, .val (.long q1), .second, .val (.int (0 : Int32)), .unset, .unset, .unset, .unset, .unset, .unset, .unset, .unset] [(.long q0)]))
      refine own_of (fun _ k => XS.lload X2.here hx rfl (hb hby at_49) rfl k) ?_
      show own_Out p e below _ (T2.setTop (mkF m 51 #[.val (.long q0), .second, .val (.long q1), .second, .val (.int p2), .val (.long q0), .second, .val (.long q1), .second, .val (.int (0 : Int32)), .unset, .unset, .unset, .unset, .unset, .unset, .unset, .unset] [(.long q1), (.long q0)]))
      obtain ⟨_, _, ⟨T42, L42, k42, n42⟩, -, X42, ⟨Lc42, hQ42, l42, y42, z42⟩, st42⟩ := Jvm.LawKit.callS X2 hx (y := (⟨"java/lang/Math", "max", "(JJ)J"⟩ : MethodName)) hown (mvT hZ (hw _ (List.mem_of_getElem? (i := 4) rfl))) (mvT hZ (hw _ (List.mem_of_getElem? (i := 5) rfl))) (mvT hZ (hw _ (List.mem_of_getElem? (i := 2) rfl))) (mvT hZ (hw _ (List.mem_of_getElem? (i := 6) rfl))) (by decide) (backOf (W := 0) (rm2 l Z a0 hw [] q0 q1 h0 n0 Z0 ) hZ (hw _ (List.mem_of_getElem? (i := 6) rfl)) (hw _ (List.mem_of_getElem? (i := 2) rfl)) (by decide) (by decide)) (g := (mkF m 51 #[.val (.long q0), .second, .val (.long q1), .second, .val (.int p2), .val (.long q0), .second, .val (.long q1), .second, .val (.int (0 : Int32)), .unset, .unset, .unset, .unset, .unset, .unset, .unset, .unset] [(.long q1), (.long q0)])) rfl (by rw [hml]; rfl) (argsL := [(.long q0), (.long q1)]) (rest := []) (lenOf pd_1 rfl) rfl (by show 2 * 0 + _ ≤ _; exact Nat.le_of_eq rfl) (hb hby at_51) (fun _ _ => ⟨rfl, hh2, (by decide : 0 + 0 ≤ _), (by decide : 0 + 0 ≤ _)⟩)
      dsimp only [Pt.U, Pt.locs, Pt.cells, Pt.slots] at X42 l42 y42 z42 st42 hQ42
      subst l42 y42 z42
      obtain ⟨rfl, N42q, hh42⟩ := hQ42
      have N42 := Fr.app N2 N42q
      refine own_of st42 ?_
      show own_Out p e below _ (T42.setTop (mkF m 54 #[.val (.long q0), .second, .val (.long q1), .second, .val (.int p2), .val (.long q0), .second, .val (.long q1), .second, .val (.int (0 : Int32)), .unset, .unset, .unset, .unset, .unset, .unset, .unset, .unset] [(.long (f2 q0 q1))]))
      refine own_of (fun _ k => XS.lload X42.here hx rfl (hb hby at_54) rfl k) ?_
      show own_Out p e below _ (T42.setTop (mkF m 56 #[.val (.long q0), .second, .val (.long q1), .second, .val (.int p2), .val (.long q0), .second, .val (.long q1), .second, .val (.int (0 : Int32)), .unset, .unset, .unset, .unset, .unset, .unset, .unset, .unset] [(.long q0), (.long (f2 q0 q1))]))
      refine own_of (fun _ k => XS.lcmp X42.here hx rfl (hb hby at_56) rfl k) ?_
      show own_Out p e below _ (T42.setTop (mkF m 57 #[.val (.long q0), .second, .val (.long q1), .second, .val (.int p2), .val (.long q0), .second, .val (.long q1), .second, .val (.int (0 : Int32)), .unset, .unset, .unset, .unset, .unset, .unset, .unset, .unset] [(.int (lcmpW (f2 q0 q1) q0))]))
      by_cases hc57_43 : (f2 q0 q1) = q0
      · skip
        refine own_of (fun _ k => XS.ifNo X42.here hx rfl (hb hby at_57) rfl (own_leq hc57_43).2 k) ?_
        show own_Out p e below _ (T42.setTop (mkF m 60 #[.val (.long q0), .second, .val (.long q1), .second, .val (.int p2), .val (.long q0), .second, .val (.long q1), .second, .val (.int (0 : Int32)), .unset, .unset, .unset, .unset, .unset, .unset, .unset, .unset] []))
        refine own_of (fun _ k => XS.iconst X42.here hx rfl (hb hby at_60) k) ?_
        show own_Out p e below _ (T42.setTop (mkF m 61 #[.val (.long q0), .second, .val (.long q1), .second, .val (.int p2), .val (.long q0), .second, .val (.long q1), .second, .val (.int (0 : Int32)), .unset, .unset, .unset, .unset, .unset, .unset, .unset, .unset] [(.int (1 : Int32))]))
        refine own_of (fun _ k => XS.goto X42.here hx rfl (pc0 := 61) (pc' := 65) rfl (hb hby at_61) (by decide) (by decide) k) ?_
        show own_Out p e below _ (T42.setTop (mkF m 65 #[.val (.long q0), .second, .val (.long q1), .second, .val (.int p2), .val (.long q0), .second, .val (.long q1), .second, .val (.int (0 : Int32)), .unset, .unset, .unset, .unset, .unset, .unset, .unset, .unset] [(.int (1 : Int32))]))
        refine own_of (fun _ k => XS.istore X42.here hx rfl (hb hby at_65) rfl (l' := #[.val (.long q0), .second, .val (.long q1), .second, .val (.int p2), .val (.long q0), .second, .val (.long q1), .second, .val (.int (0 : Int32)), .val (.int (1 : Int32)), .unset, .unset, .unset, .unset, .unset, .unset, .unset]) rfl k) ?_
        show own_Out p e below _ (T42.setTop (mkF m 67 #[.val (.long q0), .second, .val (.long q1), .second, .val (.int p2), .val (.long q0), .second, .val (.long q1), .second, .val (.int (0 : Int32)), .val (.int (1 : Int32)), .unset, .unset, .unset, .unset, .unset, .unset, .unset] []))
        refine own_of (fun _ k => XS.iload X42.here hx rfl (hb hby at_67) rfl k) ?_
        show own_Out p e below _ (T42.setTop (mkF m 69 #[.val (.long q0), .second, .val (.long q1), .second, .val (.int p2), .val (.long q0), .second, .val (.long q1), .second, .val (.int (0 : Int32)), .val (.int (1 : Int32)), .unset, .unset, .unset, .unset, .unset, .unset, .unset] [(.int (0 : Int32))]))
        refine own_of (fun _ k => XS.ifYes X42.here hx rfl (pc0 := 69) (pc' := 81) rfl (hb hby at_69) rfl ((if0 _ _).trans (teq (by decide : (0 : Int32) = (0 : Int32))).1) (by decide) (by decide) k) ?_
        show own_Out p e below _ (T42.setTop (mkF m 81 #[.val (.long q0), .second, .val (.long q1), .second, .val (.int p2), .val (.long q0), .second, .val (.long q1), .second, .val (.int (0 : Int32)), .val (.int (1 : Int32)), .unset, .unset, .unset, .unset, .unset, .unset, .unset] []))
        refine own_of (fun _ k => XS.iconst X42.here hx rfl (hb hby at_81) k) ?_
        show own_Out p e below _ (T42.setTop (mkF m 82 #[.val (.long q0), .second, .val (.long q1), .second, .val (.int p2), .val (.long q0), .second, .val (.long q1), .second, .val (.int (0 : Int32)), .val (.int (1 : Int32)), .unset, .unset, .unset, .unset, .unset, .unset, .unset] [(.int (0 : Int32))]))
        refine own_of (fun _ k => XS.istore X42.here hx rfl (hb hby at_82) rfl (l' := #[.val (.long q0), .second, .val (.long q1), .second, .val (.int p2), .val (.long q0), .second, .val (.long q1), .second, .val (.int (0 : Int32)), .val (.int (1 : Int32)), .val (.int (0 : Int32)), .unset, .unset, .unset, .unset, .unset, .unset]) rfl k) ?_
        show own_Out p e below _ (T42.setTop (mkF m 84 #[.val (.long q0), .second, .val (.long q1), .second, .val (.int p2), .val (.long q0), .second, .val (.long q1), .second, .val (.int (0 : Int32)), .val (.int (1 : Int32)), .val (.int (0 : Int32)), .unset, .unset, .unset, .unset, .unset, .unset] []))
        obtain ⟨T44, X44, e44, st44⟩ := getS2 X42 hx hZ hown (host := "") (Or.inl (hw _ (List.mem_of_getElem? (i := 7) rfl))) Via.refl hh42 S_w_EQUAL (g := (mkF m 84 #[.val (.long q0), .second, .val (.long q1), .second, .val (.int p2), .val (.long q0), .second, .val (.long q1), .second, .val (.int (0 : Int32)), .val (.int (1 : Int32)), .val (.int (0 : Int32)), .unset, .unset, .unset, .unset, .unset, .unset] [])) rfl (hb hby at_84)
        refine own_of st44 ?_
        show own_Out p e below _ (T44.setTop (mkF m 87 #[.val (.long q0), .second, .val (.long q1), .second, .val (.int p2), .val (.long q0), .second, .val (.long q1), .second, .val (.int (0 : Int32)), .val (.int (1 : Int32)), .val (.int (0 : Int32)), .unset, .unset, .unset, .unset, .unset, .unset] [(.ref w_EQUAL)]))
        refine own_of (fun _ k => XS.lload X44.here hx rfl (hb hby at_87) rfl k) ?_
        show own_Out p e below _ (T44.setTop (mkF m 89 #[.val (.long q0), .second, .val (.long q1), .second, .val (.int p2), .val (.long q0), .second, .val (.long q1), .second, .val (.int (0 : Int32)), .val (.int (1 : Int32)), .val (.int (0 : Int32)), .unset, .unset, .unset, .unset, .unset, .unset] [(.long q0), (.ref w_EQUAL)]))
        refine own_of (fun _ k => XS.lload X44.here hx rfl (hb hby at_89) rfl k) ?_
        show own_Out p e below _ (T44.setTop (mkF m 91 #[.val (.long q0), .second, .val (.long q1), .second, .val (.int p2), .val (.long q0), .second, .val (.long q1), .second, .val (.int (0 : Int32)), .val (.int (1 : Int32)), .val (.int (0 : Int32)), .unset, .unset, .unset, .unset, .unset, .unset] [(.long q1), (.long q0), (.ref w_EQUAL)]))
        obtain ⟨cq45, kq45, q45a, q45b, q45c⟩ := isOf hZ e44 E_w_EQUAL
        obtain ⟨_, _, ⟨T45, L45, k45, n45⟩, -, X45, ⟨Lc45, hQ45, l45, y45, z45⟩, st45⟩ := X44.virtualBack hx (y := (⟨"com/example/ringd/ringd/core/Comparison$Operator", "holds", "(JJ)Z"⟩ : MethodName)) (z := (⟨"com/example/ringd/ringd/core/Comparison$Operator", "holds", "(JJ)Z"⟩ : MethodName)) hown (mvT hZ (hw _ (List.mem_of_getElem? (i := 10) rfl))) (mvT hZ (hw _ (List.mem_of_getElem? (i := 11) rfl))) (notFace_of_selects (args := #[]) (mvT hZ (hw _ (List.mem_of_getElem? (i := 13) rfl)))) (mvT hZ (hw _ (List.mem_of_getElem? (i := 13) rfl))) (mvT hZ (hw _ (List.mem_of_getElem? (i := 12) rfl))) (by decide) (backOf (W := 0) (rm3e0 l Z a0 hw [] w_EQUAL q0 q1 h0 n0 Z0 E_w_EQUAL F_w_EQUAL) hZ (hw _ (List.mem_of_getElem? (i := 14) rfl)) (hw _ (List.mem_of_getElem? (i := 8) rfl)) (by decide) (by decide)) q45a q45c (g := (mkF m 91 #[.val (.long q0), .second, .val (.long q1), .second, .val (.int p2), .val (.long q0), .second, .val (.long q1), .second, .val (.int (0 : Int32)), .val (.int (1 : Int32)), .val (.int (0 : Int32)), .unset, .unset, .unset, .unset, .unset, .unset] [(.long q1), (.long q0), (.ref w_EQUAL)])) rfl (by rw [hml]; rfl) (Steps.refl _) (argsL := [(.long q0), (.long q1)]) (rest := []) (lenOf pd_2 rfl) rfl (by show 2 * 0 + _ ≤ _; exact Nat.le_of_eq rfl) (hb hby at_91) (fun _ _ => ⟨rfl, e44, (by decide : 0 + 0 ≤ _), (by decide : 0 + 0 ≤ _)⟩)
        dsimp only [Pt.U, Pt.locs, Pt.cells, Pt.slots] at X45 l45 y45 z45 st45 hQ45
        subst l45 y45 z45
        obtain ⟨rfl, N45q, hh45⟩ := hQ45
        have N45 := Fr.app N42 N45q
        refine own_of (fun _ k => st45.trans k) ?_
        show own_Out p e below _ (T45.setTop (mkF m 94 #[.val (.long q0), .second, .val (.long q1), .second, .val (.int p2), .val (.long q0), .second, .val (.long q1), .second, .val (.int (0 : Int32)), .val (.int (1 : Int32)), .val (.int (0 : Int32)), .unset, .unset, .unset, .unset, .unset, .unset] [(.int (f3e0 q0 q1))]))
        refine own_of (fun _ k => XS.iload X45.here hx rfl (hb hby at_94) rfl k) ?_
        show own_Out p e below _ (T45.setTop (mkF m 96 #[.val (.long q0), .second, .val (.long q1), .second, .val (.int p2), .val (.long q0), .second, .val (.long q1), .second, .val (.int (0 : Int32)), .val (.int (1 : Int32)), .val (.int (0 : Int32)), .unset, .unset, .unset, .unset, .unset, .unset] [(.int (0 : Int32)), (.int (f3e0 q0 q1))]))
        by_cases hc96_46 : (f3e0 q0 q1) = (0 : Int32)
        · skip
          refine own_of (fun _ k => XS.icmpNo X45.here hx rfl (hb hby at_96) rfl (teq hc96_46).2 k) ?_
          show own_Out p e below _ (T45.setTop (mkF m 99 #[.val (.long q0), .second, .val (.long q1), .second, .val (.int p2), .val (.long q0), .second, .val (.long q1), .second, .val (.int (0 : Int32)), .val (.int (1 : Int32)), .val (.int (0 : Int32)), .unset, .unset, .unset, .unset, .unset, .unset] []))
          refine own_of (fun _ k => XS.iconst X45.here hx rfl (hb hby at_99) k) ?_
          show own_Out p e below _ (T45.setTop (mkF m 100 #[.val (.long q0), .second, .val (.long q1), .second, .val (.int p2), .val (.long q0), .second, .val (.long q1), .second, .val (.int (0 : Int32)), .val (.int (1 : Int32)), .val (.int (0 : Int32)), .unset, .unset, .unset, .unset, .unset, .unset] [(.int (1 : Int32))]))
          refine own_of (fun _ k => XS.goto X45.here hx rfl (pc0 := 100) (pc' := 104) rfl (hb hby at_100) (by decide) (by decide) k) ?_
          show own_Out p e below _ (T45.setTop (mkF m 104 #[.val (.long q0), .second, .val (.long q1), .second, .val (.int p2), .val (.long q0), .second, .val (.long q1), .second, .val (.int (0 : Int32)), .val (.int (1 : Int32)), .val (.int (0 : Int32)), .unset, .unset, .unset, .unset, .unset, .unset] [(.int (1 : Int32))]))
          refine own_of (fun _ k => XS.istore X45.here hx rfl (hb hby at_104) rfl (l' := #[.val (.long q0), .second, .val (.long q1), .second, .val (.int p2), .val (.long q0), .second, .val (.long q1), .second, .val (.int (0 : Int32)), .val (.int (1 : Int32)), .val (.int (0 : Int32)), .val (.int (1 : Int32)), .unset, .unset, .unset, .unset, .unset]) rfl k) ?_
          show own_Out p e below _ (T45.setTop (mkF m 106 #[.val (.long q0), .second, .val (.long q1), .second, .val (.int p2), .val (.long q0), .second, .val (.long q1), .second, .val (.int (0 : Int32)), .val (.int (1 : Int32)), .val (.int (0 : Int32)), .val (.int (1 : Int32)), .unset, .unset, .unset, .unset, .unset] []))
          obtain ⟨T47, X47, e47, st47⟩ := getS2 X45 hx hZ hown (host := "") (Or.inl (hw _ (List.mem_of_getElem? (i := 24) rfl))) Via.refl hh45 S_w_NOT_EQUAL (g := (mkF m 106 #[.val (.long q0), .second, .val (.long q1), .second, .val (.int p2), .val (.long q0), .second, .val (.long q1), .second, .val (.int (0 : Int32)), .val (.int (1 : Int32)), .val (.int (0 : Int32)), .val (.int (1 : Int32)), .unset, .unset, .unset, .unset, .unset] [])) rfl (hb hby at_106)
          refine own_of st47 ?_
          show own_Out p e below _ (T47.setTop (mkF m 109 #[.val (.long q0), .second, .val (.long q1), .second, .val (.int p2), .val (.long q0), .second, .val (.long q1), .second, .val (.int (0 : Int32)), .val (.int (1 : Int32)), .val (.int (0 : Int32)), .val (.int (1 : Int32)), .unset, .unset, .unset, .unset, .unset] [(.ref w_NOT_EQUAL)]))
          refine own_of (fun _ k => XS.lload X47.here hx rfl (hb hby at_109) rfl k) ?_
          show own_Out p e below _ (T47.setTop (mkF m 111 #[.val (.long q0), .second, .val (.long q1), .second, .val (.int p2), .val (.long q0), .second, .val (.long q1), .second, .val (.int (0 : Int32)), .val (.int (1 : Int32)), .val (.int (0 : Int32)), .val (.int (1 : Int32)), .unset, .unset, .unset, .unset, .unset] [(.long q0), (.ref w_NOT_EQUAL)]))
          refine own_of (fun _ k => XS.lload X47.here hx rfl (hb hby at_111) rfl k) ?_
          show own_Out p e below _ (T47.setTop (mkF m 113 #[.val (.long q0), .second, .val (.long q1), .second, .val (.int p2), .val (.long q0), .second, .val (.long q1), .second, .val (.int (0 : Int32)), .val (.int (1 : Int32)), .val (.int (0 : Int32)), .val (.int (1 : Int32)), .unset, .unset, .unset, .unset, .unset] [(.long q1), (.long q0), (.ref w_NOT_EQUAL)]))
          obtain ⟨cq48, kq48, q48a, q48b, q48c⟩ := isOf hZ e47 E_w_NOT_EQUAL
          obtain ⟨_, _, ⟨T48, L48, k48, n48⟩, -, X48, ⟨Lc48, hQ48, l48, y48, z48⟩, st48⟩ := X47.virtualBack hx (y := (⟨"com/example/ringd/ringd/core/Comparison$Operator", "holds", "(JJ)Z"⟩ : MethodName)) (z := (⟨"com/example/ringd/ringd/core/Comparison$Operator", "holds", "(JJ)Z"⟩ : MethodName)) hown (mvT hZ (hw _ (List.mem_of_getElem? (i := 10) rfl))) (mvT hZ (hw _ (List.mem_of_getElem? (i := 11) rfl))) (notFace_of_selects (args := #[]) (mvT hZ (hw _ (List.mem_of_getElem? (i := 13) rfl)))) (mvT hZ (hw _ (List.mem_of_getElem? (i := 13) rfl))) (mvT hZ (hw _ (List.mem_of_getElem? (i := 12) rfl))) (by decide) (backOf (W := 0) (rm3e1 l Z a0 hw [] w_NOT_EQUAL q0 q1 h0 n0 Z0 E_w_NOT_EQUAL F_w_NOT_EQUAL) hZ (hw _ (List.mem_of_getElem? (i := 14) rfl)) (hw _ (List.mem_of_getElem? (i := 8) rfl)) (by decide) (by decide)) q48a q48c (g := (mkF m 113 #[.val (.long q0), .second, .val (.long q1), .second, .val (.int p2), .val (.long q0), .second, .val (.long q1), .second, .val (.int (0 : Int32)), .val (.int (1 : Int32)), .val (.int (0 : Int32)), .val (.int (1 : Int32)), .unset, .unset, .unset, .unset, .unset] [(.long q1), (.long q0), (.ref w_NOT_EQUAL)])) rfl (by rw [hml]; rfl) (Steps.refl _) (argsL := [(.long q0), (.long q1)]) (rest := []) (lenOf pd_2 rfl) rfl (by show 2 * 0 + _ ≤ _; exact Nat.le_of_eq rfl) (hb hby at_113) (fun _ _ => ⟨rfl, e47, (by decide : 0 + 0 ≤ _), (by decide : 0 + 0 ≤ _)⟩)
          dsimp only [Pt.U, Pt.locs, Pt.cells, Pt.slots] at X48 l48 y48 z48 st48 hQ48
          subst l48 y48 z48
          obtain ⟨rfl, N48q, hh48⟩ := hQ48
          have N48 := Fr.app N45 N48q
          refine own_of (fun _ k => st48.trans k) ?_
          show own_Out p e below _ (T48.setTop (mkF m 116 #[.val (.long q0), .second, .val (.long q1), .second, .val (.int p2), .val (.long q0), .second, .val (.long q1), .second, .val (.int (0 : Int32)), .val (.int (1 : Int32)), .val (.int (0 : Int32)), .val (.int (1 : Int32)), .unset, .unset, .unset, .unset, .unset] [(.int (f3e1 q0 q1))]))
          refine own_of (fun _ k => XS.iload X48.here hx rfl (hb hby at_116) rfl k) ?_
          show own_Out p e below _ (T48.setTop (mkF m 118 #[.val (.long q0), .second, .val (.long q1), .second, .val (.int p2), .val (.long q0), .second, .val (.long q1), .second, .val (.int (0 : Int32)), .val (.int (1 : Int32)), .val (.int (0 : Int32)), .val (.int (1 : Int32)), .unset, .unset, .unset, .unset, .unset] [(.int (0 : Int32)), (.int (f3e1 q0 q1))]))
          refine own_of (fun _ k => XS.ifNo X48.here hx rfl (hb hby at_118) rfl ((if0 _ _).trans (teq (by decide : (0 : Int32) = (0 : Int32))).2) k) ?_
          show own_Out p e below _ (T48.setTop (mkF m 121 #[.val (.long q0), .second, .val (.long q1), .second, .val (.int p2), .val (.long q0), .second, .val (.long q1), .second, .val (.int (0 : Int32)), .val (.int (1 : Int32)), .val (.int (0 : Int32)), .val (.int (1 : Int32)), .unset, .unset, .unset, .unset, .unset] [(.int (f3e1 q0 q1))]))
          refine own_of (fun _ k => XS.iconst X48.here hx rfl (hb hby at_121) k) ?_
          show own_Out p e below _ (T48.setTop (mkF m 122 #[.val (.long q0), .second, .val (.long q1), .second, .val (.int p2), .val (.long q0), .second, .val (.long q1), .second, .val (.int (0 : Int32)), .val (.int (1 : Int32)), .val (.int (0 : Int32)), .val (.int (1 : Int32)), .unset, .unset, .unset, .unset, .unset] [(.int (1 : Int32)), (.int (f3e1 q0 q1))]))
          refine own_of (fun _ k => XS.goto X48.here hx rfl (pc0 := 122) (pc' := 126) rfl (hb hby at_122) (by decide) (by decide) k) ?_
          show own_Out p e below _ (T48.setTop (mkF m 126 #[.val (.long q0), .second, .val (.long q1), .second, .val (.int p2), .val (.long q0), .second, .val (.long q1), .second, .val (.int (0 : Int32)), .val (.int (1 : Int32)), .val (.int (0 : Int32)), .val (.int (1 : Int32)), .unset, .unset, .unset, .unset, .unset] [(.int (1 : Int32)), (.int (f3e1 q0 q1))]))
          by_cases hc126_49 : (f3e1 q0 q1) = (1 : Int32)
          · skip
            refine own_of (fun _ k => XS.icmpNo X48.here hx rfl (hb hby at_126) rfl (teq hc126_49).2 k) ?_
            show own_Out p e below _ (T48.setTop (mkF m 129 #[.val (.long q0), .second, .val (.long q1), .second, .val (.int p2), .val (.long q0), .second, .val (.long q1), .second, .val (.int (0 : Int32)), .val (.int (1 : Int32)), .val (.int (0 : Int32)), .val (.int (1 : Int32)), .unset, .unset, .unset, .unset, .unset] []))
            refine own_of (fun _ k => XS.iconst X48.here hx rfl (hb hby at_129) k) ?_
            show own_Out p e below _ (T48.setTop (mkF m 130 #[.val (.long q0), .second, .val (.long q1), .second, .val (.int p2), .val (.long q0), .second, .val (.long q1), .second, .val (.int (0 : Int32)), .val (.int (1 : Int32)), .val (.int (0 : Int32)), .val (.int (1 : Int32)), .unset, .unset, .unset, .unset, .unset] [(.int (1 : Int32))]))
            refine own_of (fun _ k => XS.goto X48.here hx rfl (pc0 := 130) (pc' := 134) rfl (hb hby at_130) (by decide) (by decide) k) ?_
            show own_Out p e below _ (T48.setTop (mkF m 134 #[.val (.long q0), .second, .val (.long q1), .second, .val (.int p2), .val (.long q0), .second, .val (.long q1), .second, .val (.int (0 : Int32)), .val (.int (1 : Int32)), .val (.int (0 : Int32)), .val (.int (1 : Int32)), .unset, .unset, .unset, .unset, .unset] [(.int (1 : Int32))]))
            refine own_of (fun _ k => XS.istore X48.here hx rfl (hb hby at_134) rfl (l' := #[.val (.long q0), .second, .val (.long q1), .second, .val (.int p2), .val (.long q0), .second, .val (.long q1), .second, .val (.int (0 : Int32)), .val (.int (1 : Int32)), .val (.int (0 : Int32)), .val (.int (1 : Int32)), .val (.int (1 : Int32)), .unset, .unset, .unset, .unset]) rfl k) ?_
            show own_Out p e below _ (T48.setTop (mkF m 136 #[.val (.long q0), .second, .val (.long q1), .second, .val (.int p2), .val (.long q0), .second, .val (.long q1), .second, .val (.int (0 : Int32)), .val (.int (1 : Int32)), .val (.int (0 : Int32)), .val (.int (1 : Int32)), .val (.int (1 : Int32)), .unset, .unset, .unset, .unset] []))
            obtain ⟨T50, X50, e50, st50⟩ := getS2 X48 hx hZ hown (host := "") (Or.inl (hw _ (List.mem_of_getElem? (i := 26) rfl))) Via.refl hh48 S_w_LESS (g := (mkF m 136 #[.val (.long q0), .second, .val (.long q1), .second, .val (.int p2), .val (.long q0), .second, .val (.long q1), .second, .val (.int (0 : Int32)), .val (.int (1 : Int32)), .val (.int (0 : Int32)), .val (.int (1 : Int32)), .val (.int (1 : Int32)), .unset, .unset, .unset, .unset] [])) rfl (hb hby at_136)
            refine own_of st50 ?_
            show own_Out p e below _ (T50.setTop (mkF m 139 #[.val (.long q0), .second, .val (.long q1), .second, .val (.int p2), .val (.long q0), .second, .val (.long q1), .second, .val (.int (0 : Int32)), .val (.int (1 : Int32)), .val (.int (0 : Int32)), .val (.int (1 : Int32)), .val (.int (1 : Int32)), .unset, .unset, .unset, .unset] [(.ref w_LESS)]))
            refine own_of (fun _ k => XS.lload X50.here hx rfl (hb hby at_139) rfl k) ?_
            show own_Out p e below _ (T50.setTop (mkF m 141 #[.val (.long q0), .second, .val (.long q1), .second, .val (.int p2), .val (.long q0), .second, .val (.long q1), .second, .val (.int (0 : Int32)), .val (.int (1 : Int32)), .val (.int (0 : Int32)), .val (.int (1 : Int32)), .val (.int (1 : Int32)), .unset, .unset, .unset, .unset] [(.long q0), (.ref w_LESS)]))
            refine own_of (fun _ k => XS.lload X50.here hx rfl (hb hby at_141) rfl k) ?_
            show own_Out p e below _ (T50.setTop (mkF m 143 #[.val (.long q0), .second, .val (.long q1), .second, .val (.int p2), .val (.long q0), .second, .val (.long q1), .second, .val (.int (0 : Int32)), .val (.int (1 : Int32)), .val (.int (0 : Int32)), .val (.int (1 : Int32)), .val (.int (1 : Int32)), .unset, .unset, .unset, .unset] [(.long q1), (.long q0), (.ref w_LESS)]))
            obtain ⟨cq51, kq51, q51a, q51b, q51c⟩ := isOf hZ e50 E_w_LESS
            obtain ⟨_, _, ⟨T51, L51, k51, n51⟩, -, X51, ⟨Lc51, hQ51, l51, y51, z51⟩, st51⟩ := X50.virtualBack hx (y := (⟨"com/example/ringd/ringd/core/Comparison$Operator", "holds", "(JJ)Z"⟩ : MethodName)) (z := (⟨"com/example/ringd/ringd/core/Comparison$Operator", "holds", "(JJ)Z"⟩ : MethodName)) hown (mvT hZ (hw _ (List.mem_of_getElem? (i := 10) rfl))) (mvT hZ (hw _ (List.mem_of_getElem? (i := 11) rfl))) (notFace_of_selects (args := #[]) (mvT hZ (hw _ (List.mem_of_getElem? (i := 13) rfl)))) (mvT hZ (hw _ (List.mem_of_getElem? (i := 13) rfl))) (mvT hZ (hw _ (List.mem_of_getElem? (i := 12) rfl))) (by decide) (backOf (W := 0) (rm3e2 l Z a0 hw [] w_LESS q0 q1 h0 n0 Z0 E_w_LESS F_w_LESS) hZ (hw _ (List.mem_of_getElem? (i := 14) rfl)) (hw _ (List.mem_of_getElem? (i := 8) rfl)) (by decide) (by decide)) q51a q51c (g := (mkF m 143 #[.val (.long q0), .second, .val (.long q1), .second, .val (.int p2), .val (.long q0), .second, .val (.long q1), .second, .val (.int (0 : Int32)), .val (.int (1 : Int32)), .val (.int (0 : Int32)), .val (.int (1 : Int32)), .val (.int (1 : Int32)), .unset, .unset, .unset, .unset] [(.long q1), (.long q0), (.ref w_LESS)])) rfl (by rw [hml]; rfl) (Steps.refl _) (argsL := [(.long q0), (.long q1)]) (rest := []) (lenOf pd_2 rfl) rfl (by show 2 * 0 + _ ≤ _; exact Nat.le_of_eq rfl) (hb hby at_143) (fun _ _ => ⟨rfl, e50, (by decide : 0 + 0 ≤ _), (by decide : 0 + 0 ≤ _)⟩)
            dsimp only [Pt.U, Pt.locs, Pt.cells, Pt.slots] at X51 l51 y51 z51 st51 hQ51
            subst l51 y51 z51
            obtain ⟨rfl, N51q, hh51⟩ := hQ51
            have N51 := Fr.app N48 N51q
            refine own_of (fun _ k => st51.trans k) ?_
            show own_Out p e below _ (T51.setTop (mkF m 146 #[.val (.long q0), .second, .val (.long q1), .second, .val (.int p2), .val (.long q0), .second, .val (.long q1), .second, .val (.int (0 : Int32)), .val (.int (1 : Int32)), .val (.int (0 : Int32)), .val (.int (1 : Int32)), .val (.int (1 : Int32)), .unset, .unset, .unset, .unset] [(.int (f3e2 q0 q1))]))
            refine own_of (fun _ k => XS.iload X51.here hx rfl (hb hby at_146) rfl k) ?_
            show own_Out p e below _ (T51.setTop (mkF m 148 #[.val (.long q0), .second, .val (.long q1), .second, .val (.int p2), .val (.long q0), .second, .val (.long q1), .second, .val (.int (0 : Int32)), .val (.int (1 : Int32)), .val (.int (0 : Int32)), .val (.int (1 : Int32)), .val (.int (1 : Int32)), .unset, .unset, .unset, .unset] [(.int (0 : Int32)), (.int (f3e2 q0 q1))]))
            refine own_of (fun _ k => XS.ifYes X51.here hx rfl (pc0 := 148) (pc' := 160) rfl (hb hby at_148) rfl ((if0 _ _).trans (teq (by decide : (0 : Int32) = (0 : Int32))).1) (by decide) (by decide) k) ?_
            show own_Out p e below _ (T51.setTop (mkF m 160 #[.val (.long q0), .second, .val (.long q1), .second, .val (.int p2), .val (.long q0), .second, .val (.long q1), .second, .val (.int (0 : Int32)), .val (.int (1 : Int32)), .val (.int (0 : Int32)), .val (.int (1 : Int32)), .val (.int (1 : Int32)), .unset, .unset, .unset, .unset] [(.int (f3e2 q0 q1))]))
            refine own_of (fun _ k => XS.iconst X51.here hx rfl (hb hby at_160) k) ?_
            show own_Out p e below _ (T51.setTop (mkF m 161 #[.val (.long q0), .second, .val (.long q1), .second, .val (.int p2), .val (.long q0), .second, .val (.long q1), .second, .val (.int (0 : Int32)), .val (.int (1 : Int32)), .val (.int (0 : Int32)), .val (.int (1 : Int32)), .val (.int (1 : Int32)), .unset, .unset, .unset, .unset] [(.int (0 : Int32)), (.int (f3e2 q0 q1))]))
            by_cases hc161_52 : (f3e2 q0 q1) = (0 : Int32)
            · skip
              refine own_of (fun _ k => XS.icmpNo X51.here hx rfl (hb hby at_161) rfl (teq hc161_52).2 k) ?_
              show own_Out p e below _ (T51.setTop (mkF m 164 #[.val (.long q0), .second, .val (.long q1), .second, .val (.int p2), .val (.long q0), .second, .val (.long q1), .second, .val (.int (0 : Int32)), .val (.int (1 : Int32)), .val (.int (0 : Int32)), .val (.int (1 : Int32)), .val (.int (1 : Int32)), .unset, .unset, .unset, .unset] []))
              refine own_of (fun _ k => XS.iconst X51.here hx rfl (hb hby at_164) k) ?_
              show own_Out p e below _ (T51.setTop (mkF m 165 #[.val (.long q0), .second, .val (.long q1), .second, .val (.int p2), .val (.long q0), .second, .val (.long q1), .second, .val (.int (0 : Int32)), .val (.int (1 : Int32)), .val (.int (0 : Int32)), .val (.int (1 : Int32)), .val (.int (1 : Int32)), .unset, .unset, .unset, .unset] [(.int (1 : Int32))]))
              refine own_of (fun _ k => XS.goto X51.here hx rfl (pc0 := 165) (pc' := 169) rfl (hb hby at_165) (by decide) (by decide) k) ?_
              show own_Out p e below _ (T51.setTop (mkF m 169 #[.val (.long q0), .second, .val (.long q1), .second, .val (.int p2), .val (.long q0), .second, .val (.long q1), .second, .val (.int (0 : Int32)), .val (.int (1 : Int32)), .val (.int (0 : Int32)), .val (.int (1 : Int32)), .val (.int (1 : Int32)), .unset, .unset, .unset, .unset] [(.int (1 : Int32))]))
              refine own_of (fun _ k => XS.istore X51.here hx rfl (hb hby at_169) rfl (l' := #[.val (.long q0), .second, .val (.long q1), .second, .val (.int p2), .val (.long q0), .second, .val (.long q1), .second, .val (.int (0 : Int32)), .val (.int (1 : Int32)), .val (.int (0 : Int32)), .val (.int (1 : Int32)), .val (.int (1 : Int32)), .val (.int (1 : Int32)), .unset, .unset, .unset]) rfl k) ?_
              show own_Out p e below _ (T51.setTop (mkF m 171 #[.val (.long q0), .second, .val (.long q1), .second, .val (.int p2), .val (.long q0), .second, .val (.long q1), .second, .val (.int (0 : Int32)), .val (.int (1 : Int32)), .val (.int (0 : Int32)), .val (.int (1 : Int32)), .val (.int (1 : Int32)), .val (.int (1 : Int32)), .unset, .unset, .unset] []))
              obtain ⟨T53, X53, e53, st53⟩ := getS2 X51 hx hZ hown (host := "") (Or.inl (hw _ (List.mem_of_getElem? (i := 28) rfl))) Via.refl hh51 S_w_AT_MOST (g := (mkF m 171 #[.val (.long q0), .second, .val (.long q1), .second, .val (.int p2), .val (.long q0), .second, .val (.long q1), .second, .val (.int (0 : Int32)), .val (.int (1 : Int32)), .val (.int (0 : Int32)), .val (.int (1 : Int32)), .val (.int (1 : Int32)), .val (.int (1 : Int32)), .unset, .unset, .unset] [])) rfl (hb hby at_171)
              refine own_of st53 ?_
              show own_Out p e below _ (T53.setTop (mkF m 174 #[.val (.long q0), .second, .val (.long q1), .second, .val (.int p2), .val (.long q0), .second, .val (.long q1), .second, .val (.int (0 : Int32)), .val (.int (1 : Int32)), .val (.int (0 : Int32)), .val (.int (1 : Int32)), .val (.int (1 : Int32)), .val (.int (1 : Int32)), .unset, .unset, .unset] [(.ref w_AT_MOST)]))
              refine own_of (fun _ k => XS.lload X53.here hx rfl (hb hby at_174) rfl k) ?_
              show own_Out p e below _ (T53.setTop (mkF m 176 #[.val (.long q0), .second, .val (.long q1), .second, .val (.int p2), .val (.long q0), .second, .val (.long q1), .second, .val (.int (0 : Int32)), .val (.int (1 : Int32)), .val (.int (0 : Int32)), .val (.int (1 : Int32)), .val (.int (1 : Int32)), .val (.int (1 : Int32)), .unset, .unset, .unset] [(.long q0), (.ref w_AT_MOST)]))
              refine own_of (fun _ k => XS.lload X53.here hx rfl (hb hby at_176) rfl k) ?_
              show own_Out p e below _ (T53.setTop (mkF m 178 #[.val (.long q0), .second, .val (.long q1), .second, .val (.int p2), .val (.long q0), .second, .val (.long q1), .second, .val (.int (0 : Int32)), .val (.int (1 : Int32)), .val (.int (0 : Int32)), .val (.int (1 : Int32)), .val (.int (1 : Int32)), .val (.int (1 : Int32)), .unset, .unset, .unset] [(.long q1), (.long q0), (.ref w_AT_MOST)]))
              obtain ⟨cq54, kq54, q54a, q54b, q54c⟩ := isOf hZ e53 E_w_AT_MOST
              obtain ⟨_, _, ⟨T54, L54, k54, n54⟩, -, X54, ⟨Lc54, hQ54, l54, y54, z54⟩, st54⟩ := X53.virtualBack hx (y := (⟨"com/example/ringd/ringd/core/Comparison$Operator", "holds", "(JJ)Z"⟩ : MethodName)) (z := (⟨"com/example/ringd/ringd/core/Comparison$Operator", "holds", "(JJ)Z"⟩ : MethodName)) hown (mvT hZ (hw _ (List.mem_of_getElem? (i := 10) rfl))) (mvT hZ (hw _ (List.mem_of_getElem? (i := 11) rfl))) (notFace_of_selects (args := #[]) (mvT hZ (hw _ (List.mem_of_getElem? (i := 13) rfl)))) (mvT hZ (hw _ (List.mem_of_getElem? (i := 13) rfl))) (mvT hZ (hw _ (List.mem_of_getElem? (i := 12) rfl))) (by decide) (backOf (W := 0) (rm3e3 l Z a0 hw [] w_AT_MOST q0 q1 h0 n0 Z0 E_w_AT_MOST F_w_AT_MOST) hZ (hw _ (List.mem_of_getElem? (i := 14) rfl)) (hw _ (List.mem_of_getElem? (i := 8) rfl)) (by decide) (by decide)) q54a q54c (g := (mkF m 178 #[.val (.long q0), .second, .val (.long q1), .second, .val (.int p2), .val (.long q0), .second, .val (.long q1), .second, .val (.int (0 : Int32)), .val (.int (1 : Int32)), .val (.int (0 : Int32)), .val (.int (1 : Int32)), .val (.int (1 : Int32)), .val (.int (1 : Int32)), .unset, .unset, .unset] [(.long q1), (.long q0), (.ref w_AT_MOST)])) rfl (by rw [hml]; rfl) (Steps.refl _) (argsL := [(.long q0), (.long q1)]) (rest := []) (lenOf pd_2 rfl) rfl (by show 2 * 0 + _ ≤ _; exact Nat.le_of_eq rfl) (hb hby at_178) (fun _ _ => ⟨rfl, e53, (by decide : 0 + 0 ≤ _), (by decide : 0 + 0 ≤ _)⟩)
              dsimp only [Pt.U, Pt.locs, Pt.cells, Pt.slots] at X54 l54 y54 z54 st54 hQ54
              subst l54 y54 z54
              obtain ⟨rfl, N54q, hh54⟩ := hQ54
              have N54 := Fr.app N51 N54q
              refine own_of (fun _ k => st54.trans k) ?_
              show own_Out p e below _ (T54.setTop (mkF m 181 #[.val (.long q0), .second, .val (.long q1), .second, .val (.int p2), .val (.long q0), .second, .val (.long q1), .second, .val (.int (0 : Int32)), .val (.int (1 : Int32)), .val (.int (0 : Int32)), .val (.int (1 : Int32)), .val (.int (1 : Int32)), .val (.int (1 : Int32)), .unset, .unset, .unset] [(.int (f3e3 q0 q1))]))
              refine own_of (fun _ k => XS.iload X54.here hx rfl (hb hby at_181) rfl k) ?_
              show own_Out p e below _ (T54.setTop (mkF m 183 #[.val (.long q0), .second, .val (.long q1), .second, .val (.int p2), .val (.long q0), .second, .val (.long q1), .second, .val (.int (0 : Int32)), .val (.int (1 : Int32)), .val (.int (0 : Int32)), .val (.int (1 : Int32)), .val (.int (1 : Int32)), .val (.int (1 : Int32)), .unset, .unset, .unset] [(.int (0 : Int32)), (.int (f3e3 q0 q1))]))
              by_cases hc183_55 : (f3e3 q0 q1) = (0 : Int32)
              · skip
                refine own_of (fun _ k => XS.icmpNo X54.here hx rfl (hb hby at_183) rfl (teq hc183_55).2 k) ?_
                show own_Out p e below _ (T54.setTop (mkF m 186 #[.val (.long q0), .second, .val (.long q1), .second, .val (.int p2), .val (.long q0), .second, .val (.long q1), .second, .val (.int (0 : Int32)), .val (.int (1 : Int32)), .val (.int (0 : Int32)), .val (.int (1 : Int32)), .val (.int (1 : Int32)), .val (.int (1 : Int32)), .unset, .unset, .unset] []))
                refine own_of (fun _ k => XS.iconst X54.here hx rfl (hb hby at_186) k) ?_
                show own_Out p e below _ (T54.setTop (mkF m 187 #[.val (.long q0), .second, .val (.long q1), .second, .val (.int p2), .val (.long q0), .second, .val (.long q1), .second, .val (.int (0 : Int32)), .val (.int (1 : Int32)), .val (.int (0 : Int32)), .val (.int (1 : Int32)), .val (.int (1 : Int32)), .val (.int (1 : Int32)), .unset, .unset, .unset] [(.int (1 : Int32))]))
                refine own_of (fun _ k => XS.goto X54.here hx rfl (pc0 := 187) (pc' := 191) rfl (hb hby at_187) (by decide) (by decide) k) ?_
                show own_Out p e below _ (T54.setTop (mkF m 191 #[.val (.long q0), .second, .val (.long q1), .second, .val (.int p2), .val (.long q0), .second, .val (.long q1), .second, .val (.int (0 : Int32)), .val (.int (1 : Int32)), .val (.int (0 : Int32)), .val (.int (1 : Int32)), .val (.int (1 : Int32)), .val (.int (1 : Int32)), .unset, .unset, .unset] [(.int (1 : Int32))]))
                refine own_of (fun _ k => XS.istore X54.here hx rfl (hb hby at_191) rfl (l' := #[.val (.long q0), .second, .val (.long q1), .second, .val (.int p2), .val (.long q0), .second, .val (.long q1), .second, .val (.int (0 : Int32)), .val (.int (1 : Int32)), .val (.int (0 : Int32)), .val (.int (1 : Int32)), .val (.int (1 : Int32)), .val (.int (1 : Int32)), .val (.int (1 : Int32)), .unset, .unset]) rfl k) ?_
                show own_Out p e below _ (T54.setTop (mkF m 193 #[.val (.long q0), .second, .val (.long q1), .second, .val (.int p2), .val (.long q0), .second, .val (.long q1), .second, .val (.int (0 : Int32)), .val (.int (1 : Int32)), .val (.int (0 : Int32)), .val (.int (1 : Int32)), .val (.int (1 : Int32)), .val (.int (1 : Int32)), .val (.int (1 : Int32)), .unset, .unset] []))
                obtain ⟨T56, X56, e56, st56⟩ := getS2 X54 hx hZ hown (host := "") (Or.inl (hw _ (List.mem_of_getElem? (i := 30) rfl))) Via.refl hh54 S_w_GREATER (g := (mkF m 193 #[.val (.long q0), .second, .val (.long q1), .second, .val (.int p2), .val (.long q0), .second, .val (.long q1), .second, .val (.int (0 : Int32)), .val (.int (1 : Int32)), .val (.int (0 : Int32)), .val (.int (1 : Int32)), .val (.int (1 : Int32)), .val (.int (1 : Int32)), .val (.int (1 : Int32)), .unset, .unset] [])) rfl (hb hby at_193)
                refine own_of st56 ?_
                show own_Out p e below _ (T56.setTop (mkF m 196 #[.val (.long q0), .second, .val (.long q1), .second, .val (.int p2), .val (.long q0), .second, .val (.long q1), .second, .val (.int (0 : Int32)), .val (.int (1 : Int32)), .val (.int (0 : Int32)), .val (.int (1 : Int32)), .val (.int (1 : Int32)), .val (.int (1 : Int32)), .val (.int (1 : Int32)), .unset, .unset] [(.ref w_GREATER)]))
                refine own_of (fun _ k => XS.lload X56.here hx rfl (hb hby at_196) rfl k) ?_
                show own_Out p e below _ (T56.setTop (mkF m 198 #[.val (.long q0), .second, .val (.long q1), .second, .val (.int p2), .val (.long q0), .second, .val (.long q1), .second, .val (.int (0 : Int32)), .val (.int (1 : Int32)), .val (.int (0 : Int32)), .val (.int (1 : Int32)), .val (.int (1 : Int32)), .val (.int (1 : Int32)), .val (.int (1 : Int32)), .unset, .unset] [(.long q0), (.ref w_GREATER)]))
                refine own_of (fun _ k => XS.lload X56.here hx rfl (hb hby at_198) rfl k) ?_
                show own_Out p e below _ (T56.setTop (mkF m 200 #[.val (.long q0), .second, .val (.long q1), .second, .val (.int p2), .val (.long q0), .second, .val (.long q1), .second, .val (.int (0 : Int32)), .val (.int (1 : Int32)), .val (.int (0 : Int32)), .val (.int (1 : Int32)), .val (.int (1 : Int32)), .val (.int (1 : Int32)), .val (.int (1 : Int32)), .unset, .unset] [(.long q1), (.long q0), (.ref w_GREATER)]))
                obtain ⟨cq57, kq57, q57a, q57b, q57c⟩ := isOf hZ e56 E_w_GREATER
                obtain ⟨_, _, ⟨T57, L57, k57, n57⟩, -, X57, ⟨Lc57, hQ57, l57, y57, z57⟩, st57⟩ := X56.virtualBack hx (y := (⟨"com/example/ringd/ringd/core/Comparison$Operator", "holds", "(JJ)Z"⟩ : MethodName)) (z := (⟨"com/example/ringd/ringd/core/Comparison$Operator", "holds", "(JJ)Z"⟩ : MethodName)) hown (mvT hZ (hw _ (List.mem_of_getElem? (i := 10) rfl))) (mvT hZ (hw _ (List.mem_of_getElem? (i := 11) rfl))) (notFace_of_selects (args := #[]) (mvT hZ (hw _ (List.mem_of_getElem? (i := 13) rfl)))) (mvT hZ (hw _ (List.mem_of_getElem? (i := 13) rfl))) (mvT hZ (hw _ (List.mem_of_getElem? (i := 12) rfl))) (by decide) (backOf (W := 0) (rm3e4 l Z a0 hw [] w_GREATER q0 q1 h0 n0 Z0 E_w_GREATER F_w_GREATER) hZ (hw _ (List.mem_of_getElem? (i := 14) rfl)) (hw _ (List.mem_of_getElem? (i := 8) rfl)) (by decide) (by decide)) q57a q57c (g := (mkF m 200 #[.val (.long q0), .second, .val (.long q1), .second, .val (.int p2), .val (.long q0), .second, .val (.long q1), .second, .val (.int (0 : Int32)), .val (.int (1 : Int32)), .val (.int (0 : Int32)), .val (.int (1 : Int32)), .val (.int (1 : Int32)), .val (.int (1 : Int32)), .val (.int (1 : Int32)), .unset, .unset] [(.long q1), (.long q0), (.ref w_GREATER)])) rfl (by rw [hml]; rfl) (Steps.refl _) (argsL := [(.long q0), (.long q1)]) (rest := []) (lenOf pd_2 rfl) rfl (by show 2 * 0 + _ ≤ _; exact Nat.le_of_eq rfl) (hb hby at_200) (fun _ _ => ⟨rfl, e56, (by decide : 0 + 0 ≤ _), (by decide : 0 + 0 ≤ _)⟩)
                dsimp only [Pt.U, Pt.locs, Pt.cells, Pt.slots] at X57 l57 y57 z57 st57 hQ57
                subst l57 y57 z57
                obtain ⟨rfl, N57q, hh57⟩ := hQ57
                have N57 := Fr.app N54 N57q
                refine own_of (fun _ k => st57.trans k) ?_
                show own_Out p e below _ (T57.setTop (mkF m 203 #[.val (.long q0), .second, .val (.long q1), .second, .val (.int p2), .val (.long q0), .second, .val (.long q1), .second, .val (.int (0 : Int32)), .val (.int (1 : Int32)), .val (.int (0 : Int32)), .val (.int (1 : Int32)), .val (.int (1 : Int32)), .val (.int (1 : Int32)), .val (.int (1 : Int32)), .unset, .unset] [(.int (f3e4 q0 q1))]))
                refine own_of (fun _ k => XS.iload X57.here hx rfl (hb hby at_203) rfl k) ?_
                show own_Out p e below _ (T57.setTop (mkF m 205 #[.val (.long q0), .second, .val (.long q1), .second, .val (.int p2), .val (.long q0), .second, .val (.long q1), .second, .val (.int (0 : Int32)), .val (.int (1 : Int32)), .val (.int (0 : Int32)), .val (.int (1 : Int32)), .val (.int (1 : Int32)), .val (.int (1 : Int32)), .val (.int (1 : Int32)), .unset, .unset] [(.int (1 : Int32)), (.int (f3e4 q0 q1))]))
                refine own_of (fun _ k => XS.ifNo X57.here hx rfl (hb hby at_205) rfl ((if0 _ _).trans (feq (by decide : ¬ ((1 : Int32) = (0 : Int32)))).1) k) ?_
                show own_Out p e below _ (T57.setTop (mkF m 208 #[.val (.long q0), .second, .val (.long q1), .second, .val (.int p2), .val (.long q0), .second, .val (.long q1), .second, .val (.int (0 : Int32)), .val (.int (1 : Int32)), .val (.int (0 : Int32)), .val (.int (1 : Int32)), .val (.int (1 : Int32)), .val (.int (1 : Int32)), .val (.int (1 : Int32)), .unset, .unset] [(.int (f3e4 q0 q1))]))
                refine own_of (fun _ k => XS.iload X57.here hx rfl (hb hby at_208) rfl k) ?_
                show own_Out p e below _ (T57.setTop (mkF m 210 #[.val (.long q0), .second, .val (.long q1), .second, .val (.int p2), .val (.long q0), .second, .val (.long q1), .second, .val (.int (0 : Int32)), .val (.int (1 : Int32)), .val (.int (0 : Int32)), .val (.int (1 : Int32)), .val (.int (1 : Int32)), .val (.int (1 : Int32)), .val (.int (1 : Int32)), .unset, .unset] [(.int (0 : Int32)), (.int (f3e4 q0 q1))]))
                refine own_of (fun _ k => XS.ifNo X57.here hx rfl (hb hby at_210) rfl ((if0 _ _).trans (teq (by decide : (0 : Int32) = (0 : Int32))).2) k) ?_
                show own_Out p e below _ (T57.setTop (mkF m 213 #[.val (.long q0), .second, .val (.long q1), .second, .val (.int p2), .val (.long q0), .second, .val (.long q1), .second, .val (.int (0 : Int32)), .val (.int (1 : Int32)), .val (.int (0 : Int32)), .val (.int (1 : Int32)), .val (.int (1 : Int32)), .val (.int (1 : Int32)), .val (.int (1 : Int32)), .unset, .unset] [(.int (f3e4 q0 q1))]))
                refine own_of (fun _ k => XS.iconst X57.here hx rfl (hb hby at_213) k) ?_
                show own_Out p e below _ (T57.setTop (mkF m 214 #[.val (.long q0), .second, .val (.long q1), .second, .val (.int p2), .val (.long q0), .second, .val (.long q1), .second, .val (.int (0 : Int32)), .val (.int (1 : Int32)), .val (.int (0 : Int32)), .val (.int (1 : Int32)), .val (.int (1 : Int32)), .val (.int (1 : Int32)), .val (.int (1 : Int32)), .unset, .unset] [(.int (1 : Int32)), (.int (f3e4 q0 q1))]))
                refine own_of (fun _ k => XS.goto X57.here hx rfl (pc0 := 214) (pc' := 218) rfl (hb hby at_214) (by decide) (by decide) k) ?_
                show own_Out p e below _ (T57.setTop (mkF m 218 #[.val (.long q0), .second, .val (.long q1), .second, .val (.int p2), .val (.long q0), .second, .val (.long q1), .second, .val (.int (0 : Int32)), .val (.int (1 : Int32)), .val (.int (0 : Int32)), .val (.int (1 : Int32)), .val (.int (1 : Int32)), .val (.int (1 : Int32)), .val (.int (1 : Int32)), .unset, .unset] [(.int (1 : Int32)), (.int (f3e4 q0 q1))]))
                by_cases hc218_58 : (f3e4 q0 q1) = (1 : Int32)
                · skip
                  refine own_of (fun _ k => XS.icmpNo X57.here hx rfl (hb hby at_218) rfl (teq hc218_58).2 k) ?_
                  show own_Out p e below _ (T57.setTop (mkF m 221 #[.val (.long q0), .second, .val (.long q1), .second, .val (.int p2), .val (.long q0), .second, .val (.long q1), .second, .val (.int (0 : Int32)), .val (.int (1 : Int32)), .val (.int (0 : Int32)), .val (.int (1 : Int32)), .val (.int (1 : Int32)), .val (.int (1 : Int32)), .val (.int (1 : Int32)), .unset, .unset] []))
                  refine own_of (fun _ k => XS.iconst X57.here hx rfl (hb hby at_221) k) ?_
                  show own_Out p e below _ (T57.setTop (mkF m 222 #[.val (.long q0), .second, .val (.long q1), .second, .val (.int p2), .val (.long q0), .second, .val (.long q1), .second, .val (.int (0 : Int32)), .val (.int (1 : Int32)), .val (.int (0 : Int32)), .val (.int (1 : Int32)), .val (.int (1 : Int32)), .val (.int (1 : Int32)), .val (.int (1 : Int32)), .unset, .unset] [(.int (1 : Int32))]))
                  refine own_of (fun _ k => XS.goto X57.here hx rfl (pc0 := 222) (pc' := 226) rfl (hb hby at_222) (by decide) (by decide) k) ?_
                  show own_Out p e below _ (T57.setTop (mkF m 226 #[.val (.long q0), .second, .val (.long q1), .second, .val (.int p2), .val (.long q0), .second, .val (.long q1), .second, .val (.int (0 : Int32)), .val (.int (1 : Int32)), .val (.int (0 : Int32)), .val (.int (1 : Int32)), .val (.int (1 : Int32)), .val (.int (1 : Int32)), .val (.int (1 : Int32)), .unset, .unset] [(.int (1 : Int32))]))
                  refine own_of (fun _ k => XS.istore X57.here hx rfl (hb hby at_226) rfl (l' := #[.val (.long q0), .second, .val (.long q1), .second, .val (.int p2), .val (.long q0), .second, .val (.long q1), .second, .val (.int (0 : Int32)), .val (.int (1 : Int32)), .val (.int (0 : Int32)), .val (.int (1 : Int32)), .val (.int (1 : Int32)), .val (.int (1 : Int32)), .val (.int (1 : Int32)), .val (.int (1 : Int32)), .unset]) rfl k) ?_
                  show own_Out p e below _ (T57.setTop (mkF m 228 #[.val (.long q0), .second, .val (.long q1), .second, .val (.int p2), .val (.long q0), .second, .val (.long q1), .second, .val (.int (0 : Int32)), .val (.int (1 : Int32)), .val (.int (0 : Int32)), .val (.int (1 : Int32)), .val (.int (1 : Int32)), .val (.int (1 : Int32)), .val (.int (1 : Int32)), .val (.int (1 : Int32)), .unset] []))
                  obtain ⟨T59, X59, e59, st59⟩ := getS2 X57 hx hZ hown (host := "") (Or.inl (hw _ (List.mem_of_getElem? (i := 32) rfl))) Via.refl hh57 S_w_AT_LEAST (g := (mkF m 228 #[.val (.long q0), .second, .val (.long q1), .second, .val (.int p2), .val (.long q0), .second, .val (.long q1), .second, .val (.int (0 : Int32)), .val (.int (1 : Int32)), .val (.int (0 : Int32)), .val (.int (1 : Int32)), .val (.int (1 : Int32)), .val (.int (1 : Int32)), .val (.int (1 : Int32)), .val (.int (1 : Int32)), .unset] [])) rfl (hb hby at_228)
                  refine own_of st59 ?_
                  show own_Out p e below _ (T59.setTop (mkF m 231 #[.val (.long q0), .second, .val (.long q1), .second, .val (.int p2), .val (.long q0), .second, .val (.long q1), .second, .val (.int (0 : Int32)), .val (.int (1 : Int32)), .val (.int (0 : Int32)), .val (.int (1 : Int32)), .val (.int (1 : Int32)), .val (.int (1 : Int32)), .val (.int (1 : Int32)), .val (.int (1 : Int32)), .unset] [(.ref w_AT_LEAST)]))
                  refine own_of (fun _ k => XS.lload X59.here hx rfl (hb hby at_231) rfl k) ?_
                  show own_Out p e below _ (T59.setTop (mkF m 233 #[.val (.long q0), .second, .val (.long q1), .second, .val (.int p2), .val (.long q0), .second, .val (.long q1), .second, .val (.int (0 : Int32)), .val (.int (1 : Int32)), .val (.int (0 : Int32)), .val (.int (1 : Int32)), .val (.int (1 : Int32)), .val (.int (1 : Int32)), .val (.int (1 : Int32)), .val (.int (1 : Int32)), .unset] [(.long q0), (.ref w_AT_LEAST)]))
                  refine own_of (fun _ k => XS.lload X59.here hx rfl (hb hby at_233) rfl k) ?_
                  show own_Out p e below _ (T59.setTop (mkF m 235 #[.val (.long q0), .second, .val (.long q1), .second, .val (.int p2), .val (.long q0), .second, .val (.long q1), .second, .val (.int (0 : Int32)), .val (.int (1 : Int32)), .val (.int (0 : Int32)), .val (.int (1 : Int32)), .val (.int (1 : Int32)), .val (.int (1 : Int32)), .val (.int (1 : Int32)), .val (.int (1 : Int32)), .unset] [(.long q1), (.long q0), (.ref w_AT_LEAST)]))
                  obtain ⟨cq60, kq60, q60a, q60b, q60c⟩ := isOf hZ e59 E_w_AT_LEAST
                  obtain ⟨_, _, ⟨T60, L60, k60, n60⟩, -, X60, ⟨Lc60, hQ60, l60, y60, z60⟩, st60⟩ := X59.virtualBack hx (y := (⟨"com/example/ringd/ringd/core/Comparison$Operator", "holds", "(JJ)Z"⟩ : MethodName)) (z := (⟨"com/example/ringd/ringd/core/Comparison$Operator", "holds", "(JJ)Z"⟩ : MethodName)) hown (mvT hZ (hw _ (List.mem_of_getElem? (i := 10) rfl))) (mvT hZ (hw _ (List.mem_of_getElem? (i := 11) rfl))) (notFace_of_selects (args := #[]) (mvT hZ (hw _ (List.mem_of_getElem? (i := 13) rfl)))) (mvT hZ (hw _ (List.mem_of_getElem? (i := 13) rfl))) (mvT hZ (hw _ (List.mem_of_getElem? (i := 12) rfl))) (by decide) (backOf (W := 0) (rm3e5 l Z a0 hw [] w_AT_LEAST q0 q1 h0 n0 Z0 E_w_AT_LEAST F_w_AT_LEAST) hZ (hw _ (List.mem_of_getElem? (i := 14) rfl)) (hw _ (List.mem_of_getElem? (i := 8) rfl)) (by decide) (by decide)) q60a q60c (g := (mkF m 235 #[.val (.long q0), .second, .val (.long q1), .second, .val (.int p2), .val (.long q0), .second, .val (.long q1), .second, .val (.int (0 : Int32)), .val (.int (1 : Int32)), .val (.int (0 : Int32)), .val (.int (1 : Int32)), .val (.int (1 : Int32)), .val (.int (1 : Int32)), .val (.int (1 : Int32)), .val (.int (1 : Int32)), .unset] [(.long q1), (.long q0), (.ref w_AT_LEAST)])) rfl (by rw [hml]; rfl) (Steps.refl _) (argsL := [(.long q0), (.long q1)]) (rest := []) (lenOf pd_2 rfl) rfl (by show 2 * 0 + _ ≤ _; exact Nat.le_of_eq rfl) (hb hby at_235) (fun _ _ => ⟨rfl, e59, (by decide : 0 + 0 ≤ _), (by decide : 0 + 0 ≤ _)⟩)
                  dsimp only [Pt.U, Pt.locs, Pt.cells, Pt.slots] at X60 l60 y60 z60 st60 hQ60
                  subst l60 y60 z60
                  obtain ⟨rfl, N60q, hh60⟩ := hQ60
                  have N60 := Fr.app N57 N60q
                  refine own_of (fun _ k => st60.trans k) ?_
                  show own_Out p e below _ (T60.setTop (mkF m 238 #[.val (.long q0), .second, .val (.long q1), .second, .val (.int p2), .val (.long q0), .second, .val (.long q1), .second, .val (.int (0 : Int32)), .val (.int (1 : Int32)), .val (.int (0 : Int32)), .val (.int (1 : Int32)), .val (.int (1 : Int32)), .val (.int (1 : Int32)), .val (.int (1 : Int32)), .val (.int (1 : Int32)), .unset] [(.int (f3e5 q0 q1))]))
                  refine own_of (fun _ k => XS.iload X60.here hx rfl (hb hby at_238) rfl k) ?_
                  show own_Out p e below _ (T60.setTop (mkF m 240 #[.val (.long q0), .second, .val (.long q1), .second, .val (.int p2), .val (.long q0), .second, .val (.long q1), .second, .val (.int (0 : Int32)), .val (.int (1 : Int32)), .val (.int (0 : Int32)), .val (.int (1 : Int32)), .val (.int (1 : Int32)), .val (.int (1 : Int32)), .val (.int (1 : Int32)), .val (.int (1 : Int32)), .unset] [(.int (1 : Int32)), (.int (f3e5 q0 q1))]))
                  by_cases hc240_61 : (f3e5 q0 q1) = (1 : Int32)
                  · skip
                    refine own_of (fun _ k => XS.icmpNo X60.here hx rfl (hb hby at_240) rfl (teq hc240_61).2 k) ?_
                    show own_Out p e below _ (T60.setTop (mkF m 243 #[.val (.long q0), .second, .val (.long q1), .second, .val (.int p2), .val (.long q0), .second, .val (.long q1), .second, .val (.int (0 : Int32)), .val (.int (1 : Int32)), .val (.int (0 : Int32)), .val (.int (1 : Int32)), .val (.int (1 : Int32)), .val (.int (1 : Int32)), .val (.int (1 : Int32)), .val (.int (1 : Int32)), .unset] []))
                    refine own_of (fun _ k => XS.iconst X60.here hx rfl (hb hby at_243) k) ?_
                    show own_Out p e below _ (T60.setTop (mkF m 244 #[.val (.long q0), .second, .val (.long q1), .second, .val (.int p2), .val (.long q0), .second, .val (.long q1), .second, .val (.int (0 : Int32)), .val (.int (1 : Int32)), .val (.int (0 : Int32)), .val (.int (1 : Int32)), .val (.int (1 : Int32)), .val (.int (1 : Int32)), .val (.int (1 : Int32)), .val (.int (1 : Int32)), .unset] [(.int (1 : Int32))]))
                    refine own_of (fun _ k => XS.goto X60.here hx rfl (pc0 := 244) (pc' := 248) rfl (hb hby at_244) (by decide) (by decide) k) ?_
                    show own_Out p e below _ (T60.setTop (mkF m 248 #[.val (.long q0), .second, .val (.long q1), .second, .val (.int p2), .val (.long q0), .second, .val (.long q1), .second, .val (.int (0 : Int32)), .val (.int (1 : Int32)), .val (.int (0 : Int32)), .val (.int (1 : Int32)), .val (.int (1 : Int32)), .val (.int (1 : Int32)), .val (.int (1 : Int32)), .val (.int (1 : Int32)), .unset] [(.int (1 : Int32))]))
                    refine own_of (fun _ k => XS.istore X60.here hx rfl (hb hby at_248) rfl (l' := #[.val (.long q0), .second, .val (.long q1), .second, .val (.int p2), .val (.long q0), .second, .val (.long q1), .second, .val (.int (0 : Int32)), .val (.int (1 : Int32)), .val (.int (0 : Int32)), .val (.int (1 : Int32)), .val (.int (1 : Int32)), .val (.int (1 : Int32)), .val (.int (1 : Int32)), .val (.int (1 : Int32)), .val (.int (1 : Int32))]) rfl k) ?_
                    show own_Out p e below _ (T60.setTop (mkF m 250 #[.val (.long q0), .second, .val (.long q1), .second, .val (.int p2), .val (.long q0), .second, .val (.long q1), .second, .val (.int (0 : Int32)), .val (.int (1 : Int32)), .val (.int (0 : Int32)), .val (.int (1 : Int32)), .val (.int (1 : Int32)), .val (.int (1 : Int32)), .val (.int (1 : Int32)), .val (.int (1 : Int32)), .val (.int (1 : Int32))] []))
                    refine own_of (fun _ k => XS.iload X60.here hx rfl (hb hby at_250) rfl k) ?_
                    show own_Out p e below _ (T60.setTop (mkF m 252 #[.val (.long q0), .second, .val (.long q1), .second, .val (.int p2), .val (.long q0), .second, .val (.long q1), .second, .val (.int (0 : Int32)), .val (.int (1 : Int32)), .val (.int (0 : Int32)), .val (.int (1 : Int32)), .val (.int (1 : Int32)), .val (.int (1 : Int32)), .val (.int (1 : Int32)), .val (.int (1 : Int32)), .val (.int (1 : Int32))] [(.int (1 : Int32))]))
                    refine own_of (fun _ k => XS.ifNo X60.here hx rfl (hb hby at_252) rfl ((if0 _ _).trans (feq (by decide : ¬ ((1 : Int32) = (0 : Int32)))).1) k) ?_
                    show own_Out p e below _ (T60.setTop (mkF m 255 #[.val (.long q0), .second, .val (.long q1), .second, .val (.int p2), .val (.long q0), .second, .val (.long q1), .second, .val (.int (0 : Int32)), .val (.int (1 : Int32)), .val (.int (0 : Int32)), .val (.int (1 : Int32)), .val (.int (1 : Int32)), .val (.int (1 : Int32)), .val (.int (1 : Int32)), .val (.int (1 : Int32)), .val (.int (1 : Int32))] []))
                    refine own_of (fun _ k => XS.iload X60.here hx rfl (hb hby at_255) rfl k) ?_
                    show own_Out p e below _ (T60.setTop (mkF m 257 #[.val (.long q0), .second, .val (.long q1), .second, .val (.int p2), .val (.long q0), .second, .val (.long q1), .second, .val (.int (0 : Int32)), .val (.int (1 : Int32)), .val (.int (0 : Int32)), .val (.int (1 : Int32)), .val (.int (1 : Int32)), .val (.int (1 : Int32)), .val (.int (1 : Int32)), .val (.int (1 : Int32)), .val (.int (1 : Int32))] [(.int (1 : Int32))]))
                    refine own_of (fun _ k => XS.ifNo X60.here hx rfl (hb hby at_257) rfl ((if0 _ _).trans (feq (by decide : ¬ ((1 : Int32) = (0 : Int32)))).1) k) ?_
                    show own_Out p e below _ (T60.setTop (mkF m 260 #[.val (.long q0), .second, .val (.long q1), .second, .val (.int p2), .val (.long q0), .second, .val (.long q1), .second, .val (.int (0 : Int32)), .val (.int (1 : Int32)), .val (.int (0 : Int32)), .val (.int (1 : Int32)), .val (.int (1 : Int32)), .val (.int (1 : Int32)), .val (.int (1 : Int32)), .val (.int (1 : Int32)), .val (.int (1 : Int32))] []))
                    refine own_of (fun _ k => XS.iload X60.here hx rfl (hb hby at_260) rfl k) ?_
                    show own_Out p e below _ (T60.setTop (mkF m 262 #[.val (.long q0), .second, .val (.long q1), .second, .val (.int p2), .val (.long q0), .second, .val (.long q1), .second, .val (.int (0 : Int32)), .val (.int (1 : Int32)), .val (.int (0 : Int32)), .val (.int (1 : Int32)), .val (.int (1 : Int32)), .val (.int (1 : Int32)), .val (.int (1 : Int32)), .val (.int (1 : Int32)), .val (.int (1 : Int32))] [(.int (1 : Int32))]))
                    refine own_of (fun _ k => XS.ifNo X60.here hx rfl (hb hby at_262) rfl ((if0 _ _).trans (feq (by decide : ¬ ((1 : Int32) = (0 : Int32)))).1) k) ?_
                    show own_Out p e below _ (T60.setTop (mkF m 265 #[.val (.long q0), .second, .val (.long q1), .second, .val (.int p2), .val (.long q0), .second, .val (.long q1), .second, .val (.int (0 : Int32)), .val (.int (1 : Int32)), .val (.int (0 : Int32)), .val (.int (1 : Int32)), .val (.int (1 : Int32)), .val (.int (1 : Int32)), .val (.int (1 : Int32)), .val (.int (1 : Int32)), .val (.int (1 : Int32))] []))
                    refine own_of (fun _ k => XS.iload X60.here hx rfl (hb hby at_265) rfl k) ?_
                    show own_Out p e below _ (T60.setTop (mkF m 267 #[.val (.long q0), .second, .val (.long q1), .second, .val (.int p2), .val (.long q0), .second, .val (.long q1), .second, .val (.int (0 : Int32)), .val (.int (1 : Int32)), .val (.int (0 : Int32)), .val (.int (1 : Int32)), .val (.int (1 : Int32)), .val (.int (1 : Int32)), .val (.int (1 : Int32)), .val (.int (1 : Int32)), .val (.int (1 : Int32))] [(.int (1 : Int32))]))
                    refine own_of (fun _ k => XS.ifNo X60.here hx rfl (hb hby at_267) rfl ((if0 _ _).trans (feq (by decide : ¬ ((1 : Int32) = (0 : Int32)))).1) k) ?_
                    show own_Out p e below _ (T60.setTop (mkF m 270 #[.val (.long q0), .second, .val (.long q1), .second, .val (.int p2), .val (.long q0), .second, .val (.long q1), .second, .val (.int (0 : Int32)), .val (.int (1 : Int32)), .val (.int (0 : Int32)), .val (.int (1 : Int32)), .val (.int (1 : Int32)), .val (.int (1 : Int32)), .val (.int (1 : Int32)), .val (.int (1 : Int32)), .val (.int (1 : Int32))] []))
                    refine own_of (fun _ k => XS.iload X60.here hx rfl (hb hby at_270) rfl k) ?_
                    show own_Out p e below _ (T60.setTop (mkF m 272 #[.val (.long q0), .second, .val (.long q1), .second, .val (.int p2), .val (.long q0), .second, .val (.long q1), .second, .val (.int (0 : Int32)), .val (.int (1 : Int32)), .val (.int (0 : Int32)), .val (.int (1 : Int32)), .val (.int (1 : Int32)), .val (.int (1 : Int32)), .val (.int (1 : Int32)), .val (.int (1 : Int32)), .val (.int (1 : Int32))] [(.int (1 : Int32))]))
                    refine own_of (fun _ k => XS.ifNo X60.here hx rfl (hb hby at_272) rfl ((if0 _ _).trans (feq (by decide : ¬ ((1 : Int32) = (0 : Int32)))).1) k) ?_
                    show own_Out p e below _ (T60.setTop (mkF m 275 #[.val (.long q0), .second, .val (.long q1), .second, .val (.int p2), .val (.long q0), .second, .val (.long q1), .second, .val (.int (0 : Int32)), .val (.int (1 : Int32)), .val (.int (0 : Int32)), .val (.int (1 : Int32)), .val (.int (1 : Int32)), .val (.int (1 : Int32)), .val (.int (1 : Int32)), .val (.int (1 : Int32)), .val (.int (1 : Int32))] []))
                    refine own_of (fun _ k => XS.iload X60.here hx rfl (hb hby at_275) rfl k) ?_
                    show own_Out p e below _ (T60.setTop (mkF m 277 #[.val (.long q0), .second, .val (.long q1), .second, .val (.int p2), .val (.long q0), .second, .val (.long q1), .second, .val (.int (0 : Int32)), .val (.int (1 : Int32)), .val (.int (0 : Int32)), .val (.int (1 : Int32)), .val (.int (1 : Int32)), .val (.int (1 : Int32)), .val (.int (1 : Int32)), .val (.int (1 : Int32)), .val (.int (1 : Int32))] [(.int (1 : Int32))]))
                    refine own_of (fun _ k => XS.ifNo X60.here hx rfl (hb hby at_277) rfl ((if0 _ _).trans (feq (by decide : ¬ ((1 : Int32) = (0 : Int32)))).1) k) ?_
                    show own_Out p e below _ (T60.setTop (mkF m 280 #[.val (.long q0), .second, .val (.long q1), .second, .val (.int p2), .val (.long q0), .second, .val (.long q1), .second, .val (.int (0 : Int32)), .val (.int (1 : Int32)), .val (.int (0 : Int32)), .val (.int (1 : Int32)), .val (.int (1 : Int32)), .val (.int (1 : Int32)), .val (.int (1 : Int32)), .val (.int (1 : Int32)), .val (.int (1 : Int32))] []))
                    refine own_of (fun _ k => XS.iconst X60.here hx rfl (hb hby at_280) k) ?_
                    show own_Out p e below _ (T60.setTop (mkF m 281 #[.val (.long q0), .second, .val (.long q1), .second, .val (.int p2), .val (.long q0), .second, .val (.long q1), .second, .val (.int (0 : Int32)), .val (.int (1 : Int32)), .val (.int (0 : Int32)), .val (.int (1 : Int32)), .val (.int (1 : Int32)), .val (.int (1 : Int32)), .val (.int (1 : Int32)), .val (.int (1 : Int32)), .val (.int (1 : Int32))] [(.int (1 : Int32))]))
                    refine own_of (fun _ k => XS.goto X60.here hx rfl (pc0 := 281) (pc' := 285) rfl (hb hby at_281) (by decide) (by decide) k) ?_
                    show own_Out p e below _ (T60.setTop (mkF m 285 #[.val (.long q0), .second, .val (.long q1), .second, .val (.int p2), .val (.long q0), .second, .val (.long q1), .second, .val (.int (0 : Int32)), .val (.int (1 : Int32)), .val (.int (0 : Int32)), .val (.int (1 : Int32)), .val (.int (1 : Int32)), .val (.int (1 : Int32)), .val (.int (1 : Int32)), .val (.int (1 : Int32)), .val (.int (1 : Int32))] [(.int (1 : Int32))]))
                    exact own_outN X60 hx hlk (t := .boolean) hret (by simp) (hb hby at_285) (z' := (1 : Int32)) rfl (Q := Q0 Z q0 q1 p2 w_EQUAL w_NOT_EQUAL w_LESS w_AT_MOST w_GREATER w_AT_LEAST h0 n0) ⟨rfl, N60⟩ (by decide) (by decide)
                  · skip
                    exact (dead0_12 q0 q1 p2 hc7_1 hc37_3 hc57_43 hc96_46 hc126_49 hc161_52 hc183_55 hc218_58 hc240_61).elim
                · skip
                  exact (dead0_13 q0 q1 p2 hc7_1 hc37_3 hc57_43 hc96_46 hc126_49 hc161_52 hc183_55 hc218_58).elim
              · skip
                exact (dead0_14 q0 q1 p2 hc7_1 hc37_3 hc57_43 hc96_46 hc126_49 hc161_52 hc183_55).elim
            · skip
              exact (dead0_15 q0 q1 p2 hc7_1 hc37_3 hc57_43 hc96_46 hc126_49 hc161_52).elim
          · skip
            exact (dead0_16 q0 q1 p2 hc7_1 hc37_3 hc57_43 hc96_46 hc126_49).elim
        · skip
          exact (dead0_17 q0 q1 p2 hc7_1 hc37_3 hc57_43 hc96_46).elim
      · skip
        exact (dead0_18 q0 q1 p2 hc7_1 hc37_3 hc57_43).elim
  · skip
    refine own_of (fun _ k => XS.ifNo X0.here hx rfl (hb hby at_7) rfl ((if0 _ _).trans (feq hc7_1).1) k) ?_
    show own_Out p e below _ (s₁.setTop (mkF m 10 #[.val (.long q0), .second, .val (.long q1), .second, .val (.int p2), .val (.long q0), .second, .unset, .unset, .unset, .unset, .unset, .unset, .unset, .unset, .unset, .unset, .unset] []))
    refine own_of (fun _ k => XS.lloadN X0.here hx rfl (hb hby at_10) rfl k) ?_
    show own_Out p e below _ (s₁.setTop (mkF m 11 #[.val (.long q0), .second, .val (.long q1), .second, .val (.int p2), .val (.long q0), .second, .unset, .unset, .unset, .unset, .unset, .unset, .unset, .unset, .unset, .unset, .unset] [(.long q0)]))
    refine own_of (fun _ k => XS.iload X0.here hx rfl (hb hby at_11) rfl k) ?_
    show own_Out p e below _ (s₁.setTop (mkF m 13 #[.val (.long q0), .second, .val (.long q1), .second, .val (.int p2), .val (.long q0), .second, .unset, .unset, .unset, .unset, .unset, .unset, .unset, .unset, .unset, .unset, .unset] [(.int p2), (.long q0)]))
    refine own_of (fun _ k => XS.iconst X0.here hx rfl (hb hby at_13) k) ?_
    show own_Out p e below _ (s₁.setTop (mkF m 14 #[.val (.long q0), .second, .val (.long q1), .second, .val (.int p2), .val (.long q0), .second, .unset, .unset, .unset, .unset, .unset, .unset, .unset, .unset, .unset, .unset, .unset] [(.int (1 : Int32)), (.int p2), (.long q0)]))
    refine own_of (fun _ k => XS.ishr X0.here hx rfl (hb hby at_14) rfl k) ?_
    show own_Out p e below _ (s₁.setTop (mkF m 15 #[.val (.long q0), .second, .val (.long q1), .second, .val (.int p2), .val (.long q0), .second, .unset, .unset, .unset, .unset, .unset, .unset, .unset, .unset, .unset, .unset, .unset] [(.int (p2 >>> ((1 : Int32) &&& 31))), (.long q0)]))
    refine own_of (fun _ k => XS.iconst X0.here hx rfl (hb hby at_15) k) ?_
    show own_Out p e below _ (s₁.setTop (mkF m 16 #[.val (.long q0), .second, .val (.long q1), .second, .val (.int p2), .val (.long q0), .second, .unset, .unset, .unset, .unset, .unset, .unset, .unset, .unset, .unset, .unset, .unset] [(.int (3 : Int32)), (.int (p2 >>> ((1 : Int32) &&& 31))), (.long q0)]))
    refine own_of (fun _ k => iremM X0 hx rfl (hb hby at_16) rfl (by decide) k) ?_
    show own_Out p e below _ (s₁.setTop (mkF m 17 #[.val (.long q0), .second, .val (.long q1), .second, .val (.int p2), .val (.long q0), .second, .unset, .unset, .unset, .unset, .unset, .unset, .unset, .unset, .unset, .unset, .unset] [(.int ((p2 >>> ((1 : Int32) &&& 31)) % (3 : Int32))), (.long q0)]))
    refine own_of (fun _ k => XS.i2l X0.here hx rfl (hb hby at_17) rfl k) ?_
    show own_Out p e below _ (s₁.setTop (mkF m 18 #[.val (.long q0), .second, .val (.long q1), .second, .val (.int p2), .val (.long q0), .second, .unset, .unset, .unset, .unset, .unset, .unset, .unset, .unset, .unset, .unset, .unset] [(.long (((p2 >>> ((1 : Int32) &&& 31)) % (3 : Int32)).toInt64)), (.long q0)]))
    refine own_of (fun _ k => XS.lconst X0.here hx rfl (hb hby at_18) k) ?_
    show own_Out p e below _ (s₁.setTop (mkF m 19 #[.val (.long q0), .second, .val (.long q1), .second, .val (.int p2), .val (.long q0), .second, .unset, .unset, .unset, .unset, .unset, .unset, .unset, .unset, .unset, .unset, .unset] [(.long (1 : Int64)), (.long (((p2 >>> ((1 : Int32) &&& 31)) % (3 : Int32)).toInt64)), (.long q0)]))
    refine own_of (fun _ k => XS.lsub X0.here hx rfl (hb hby at_19) rfl k) ?_
    show own_Out p e below _ (s₁.setTop (mkF m 20 #[.val (.long q0), .second, .val (.long q1), .second, .val (.int p2), .val (.long q0), .second, .unset, .unset, .unset, .unset, .unset, .unset, .unset, .unset, .unset, .unset, .unset] [(.long ((((p2 >>> ((1 : Int32) &&& 31)) % (3 : Int32)).toInt64) - (1 : Int64))), (.long q0)]))
    refine own_of (fun _ k => XS.ladd X0.here hx rfl (hb hby at_20) rfl k) ?_
    show own_Out p e below _ (s₁.setTop (mkF m 21 #[.val (.long q0), .second, .val (.long q1), .second, .val (.int p2), .val (.long q0), .second, .unset, .unset, .unset, .unset, .unset, .unset, .unset, .unset, .unset, .unset, .unset] [(.long (q0 + ((((p2 >>> ((1 : Int32) &&& 31)) % (3 : Int32)).toInt64) - (1 : Int64))))]))
    refine own_of (fun _ k => XS.goto X0.here hx rfl (pc0 := 21) (pc' := 25) rfl (hb hby at_21) (by decide) (by decide) k) ?_
    show own_Out p e below _ (s₁.setTop (mkF m 25 #[.val (.long q0), .second, .val (.long q1), .second, .val (.int p2), .val (.long q0), .second, .unset, .unset, .unset, .unset, .unset, .unset, .unset, .unset, .unset, .unset, .unset] [(.long (q0 + ((((p2 >>> ((1 : Int32) &&& 31)) % (3 : Int32)).toInt64) - (1 : Int64))))]))
    refine own_of (fun _ k => XS.lstore X0.here hx rfl (hb hby at_25) rfl (l' := #[.val (.long q0), .second, .val (.long q1), .second, .val (.int p2), .val (.long q0), .second, .val (.long (q0 + ((((p2 >>> ((1 : Int32) &&& 31)) % (3 : Int32)).toInt64) - (1 : Int64)))), .second, .unset, .unset, .unset, .unset, .unset, .unset, .unset, .unset, .unset]) rfl k) ?_
    show own_Out p e below _ (s₁.setTop (mkF m 27 #[.val (.long q0), .second, .val (.long q1), .second, .val (.int p2), .val (.long q0), .second, .val (.long (q0 + ((((p2 >>> ((1 : Int32) &&& 31)) % (3 : Int32)).toInt64) - (1 : Int64)))), .second, .unset, .unset, .unset, .unset, .unset, .unset, .unset, .unset, .unset] []))
    refine own_of (fun _ k => XS.lload X0.here hx rfl (hb hby at_27) rfl k) ?_
    show own_Out p e below _ (s₁.setTop (mkF m 29 #[.val (.long q0), .second, .val (.long q1), .second, .val (.int p2), .val (.long q0), .second, .val (.long (q0 + ((((p2 >>> ((1 : Int32) &&& 31)) % (3 : Int32)).toInt64) - (1 : Int64)))), .second, .unset, .unset, .unset, .unset, .unset, .unset, .unset, .unset, .unset] [(.long q0)]))
    refine own_of (fun _ k => XS.lload X0.here hx rfl (hb hby at_29) rfl k) ?_
    show own_Out p e below _ (s₁.setTop (mkF m 31 #[.val (.long q0), .second, .val (.long q1), .second, .val (.int p2), .val (.long q0), .second, .val (.long (q0 + ((((p2 >>> ((1 : Int32) &&& 31)) % (3 : Int32)).toInt64) - (1 : Int64)))), .second, .unset, .unset, .unset, .unset, .unset, .unset, .unset, .unset, .unset] [(.long (q0 + ((((p2 >>> ((1 : Int32) &&& 31)) % (3 : Int32)).toInt64) - (1 : Int64)))), (.long q0)]))
    obtain ⟨_, _, ⟨T62, L62, k62, n62⟩, -, X62, ⟨Lc62, hQ62, l62, y62, z62⟩, st62⟩ := Jvm.LawKit.callS X0 hx (y := (⟨"java/lang/Math", "min", "(JJ)J"⟩ : MethodName)) hown (mvT hZ (hw _ (List.mem_of_getElem? (i := 0) rfl))) (mvT hZ (hw _ (List.mem_of_getElem? (i := 1) rfl))) (mvT hZ (hw _ (List.mem_of_getElem? (i := 2) rfl))) (mvT hZ (hw _ (List.mem_of_getElem? (i := 3) rfl))) (by decide) (backOf (W := 0) (rm1 l Z a0 hw [] q0 (q0 + ((((p2 >>> ((1 : Int32) &&& 31)) % (3 : Int32)).toInt64) - (1 : Int64))) h0 n0 Z0 ) hZ (hw _ (List.mem_of_getElem? (i := 3) rfl)) (hw _ (List.mem_of_getElem? (i := 2) rfl)) (by decide) (by decide)) (g := (mkF m 31 #[.val (.long q0), .second, .val (.long q1), .second, .val (.int p2), .val (.long q0), .second, .val (.long (q0 + ((((p2 >>> ((1 : Int32) &&& 31)) % (3 : Int32)).toInt64) - (1 : Int64)))), .second, .unset, .unset, .unset, .unset, .unset, .unset, .unset, .unset, .unset] [(.long (q0 + ((((p2 >>> ((1 : Int32) &&& 31)) % (3 : Int32)).toInt64) - (1 : Int64)))), (.long q0)])) rfl (by rw [hml]; rfl) (argsL := [(.long q0), (.long (q0 + ((((p2 >>> ((1 : Int32) &&& 31)) % (3 : Int32)).toInt64) - (1 : Int64))))]) (rest := []) (lenOf pd_1 rfl) rfl (by show 2 * 0 + _ ≤ _; exact Nat.le_of_eq rfl) (hb hby at_31) (fun _ _ => ⟨rfl, e0, (by decide : 0 + 0 ≤ _), (by decide : 0 + 0 ≤ _)⟩)
    dsimp only [Pt.U, Pt.locs, Pt.cells, Pt.slots] at X62 l62 y62 z62 st62 hQ62
    subst l62 y62 z62
    obtain ⟨rfl, N62q, hh62⟩ := hQ62
    have N62 := Fr.app N0 N62q
    refine own_of st62 ?_
    show own_Out p e below _ (T62.setTop (mkF m 34 #[.val (.long q0), .second, .val (.long q1), .second, .val (.int p2), .val (.long q0), .second, .val (.long (q0 + ((((p2 >>> ((1 : Int32) &&& 31)) % (3 : Int32)).toInt64) - (1 : Int64)))), .second, .unset, .unset, .unset, .unset, .unset, .unset, .unset, .unset, .unset] [(.long (f1 q0 (q0 + ((((p2 >>> ((1 : Int32) &&& 31)) % (3 : Int32)).toInt64) - (1 : Int64)))))]))
    refine own_of (fun _ k => XS.lload X62.here hx rfl (hb hby at_34) rfl k) ?_
    show own_Out p e below _ (T62.setTop (mkF m 36 #[.val (.long q0), .second, .val (.long q1), .second, .val (.int p2), .val (.long q0), .second, .val (.long (q0 + ((((p2 >>> ((1 : Int32) &&& 31)) % (3 : Int32)).toInt64) - (1 : Int64)))), .second, .unset, .unset, .unset, .unset, .unset, .unset, .unset, .unset, .unset] [(.long q0), (.long (f1 q0 (q0 + ((((p2 >>> ((1 : Int32) &&& 31)) % (3 : Int32)).toInt64) - (1 : Int64)))))]))
    refine own_of (fun _ k => XS.lcmp X62.here hx rfl (hb hby at_36) rfl k) ?_
    show own_Out p e below _ (T62.setTop (mkF m 37 #[.val (.long q0), .second, .val (.long q1), .second, .val (.int p2), .val (.long q0), .second, .val (.long (q0 + ((((p2 >>> ((1 : Int32) &&& 31)) % (3 : Int32)).toInt64) - (1 : Int64)))), .second, .unset, .unset, .unset, .unset, .unset, .unset, .unset, .unset, .unset] [(.int (lcmpW (f1 q0 (q0 + ((((p2 >>> ((1 : Int32) &&& 31)) % (3 : Int32)).toInt64) - (1 : Int64)))) q0))]))
    by_cases hc37_63 : (f1 q0 (q0 + ((((p2 >>> ((1 : Int32) &&& 31)) % (3 : Int32)).toInt64) - (1 : Int64)))) = q0
    · skip
      refine own_of (fun _ k => XS.ifNo X62.here hx rfl (hb hby at_37) rfl (own_leq hc37_63).2 k) ?_
      show own_Out p e below _ (T62.setTop (mkF m 40 #[.val (.long q0), .second, .val (.long q1), .second, .val (.int p2), .val (.long q0), .second, .val (.long (q0 + ((((p2 >>> ((1 : Int32) &&& 31)) % (3 : Int32)).toInt64) - (1 : Int64)))), .second, .unset, .unset, .unset, .unset, .unset, .unset, .unset, .unset, .unset] []))
      refine own_of (fun _ k => XS.iconst X62.here hx rfl (hb hby at_40) k) ?_
      show own_Out p e below _ (T62.setTop (mkF m 41 #[.val (.long q0), .second, .val (.long q1), .second, .val (.int p2), .val (.long q0), .second, .val (.long (q0 + ((((p2 >>> ((1 : Int32) &&& 31)) % (3 : Int32)).toInt64) - (1 : Int64)))), .second, .unset, .unset, .unset, .unset, .unset, .unset, .unset, .unset, .unset] [(.int (1 : Int32))]))
      refine own_of (fun _ k => XS.goto X62.here hx rfl (pc0 := 41) (pc' := 45) rfl (hb hby at_41) (by decide) (by decide) k) ?_
      show own_Out p e below _ (T62.setTop (mkF m 45 #[.val (.long q0), .second, .val (.long q1), .second, .val (.int p2), .val (.long q0), .second, .val (.long (q0 + ((((p2 >>> ((1 : Int32) &&& 31)) % (3 : Int32)).toInt64) - (1 : Int64)))), .second, .unset, .unset, .unset, .unset, .unset, .unset, .unset, .unset, .unset] [(.int (1 : Int32))]))
      refine own_of (fun _ k => XS.istore X62.here hx rfl (hb hby at_45) rfl (l' := #[.val (.long q0), .second, .val (.long q1), .second, .val (.int p2), .val (.long q0), .second, .val (.long (q0 + ((((p2 >>> ((1 : Int32) &&& 31)) % (3 : Int32)).toInt64) - (1 : Int64)))), .second, .val (.int (1 : Int32)), .unset, .unset, .unset, .unset, .unset, .unset, .unset, .unset]) rfl k) ?_
      show own_Out p e below _ (T62.setTop (mkF m 47 #[.val (.long q0), .second, .val (.long q1), .second, .val (.int p2), .val (.long q0), .second, .val (.long (q0 + ((((p2 >>> ((1 : Int32) &&& 31)) % (3 : Int32)).toInt64) - (1 : Int64)))), .second, .val (.int (1 : Int32)), .unset, .unset, .unset, .unset, .unset, .unset, .unset, .unset] []))
      refine own_of (fun _ k => XS.lload X62.here hx rfl (hb hby at_47) rfl k) ?_
      show own_Out p e below _ (T62.setTop (mkF m 49 #[.val (.long q0), .second, .val (.long q1), .second, .val (.int p2), .val (.long q0), .second, .val (.long (q0 + ((((p2 >>> ((1 : Int32) &&& 31)) % (3 : Int32)).toInt64) - (1 : Int64)))), .second, .val (.int (1 : Int32)), .unset, .unset, .unset, .unset, .unset, .unset, .unset, .unset] [(.long q0)]))
      refine own_of (fun _ k => XS.lload X62.here hx rfl (hb hby at_49) rfl k) ?_
      show own_Out p e below _ (T62.setTop (mkF m 51 #[.val (.long q0), .second, .val (.long q1), .second, .val (.int p2), .val (.long q0), .second, .val (.long (q0 + ((((p2 >>> ((1 : Int32) &&& 31)) % (3 : Int32)).toInt64) - (1 : Int64)))), .second, .val (.int (1 : Int32)), .unset, .unset, .unset, .unset, .unset, .unset, .unset, .unset] [(.long (q0 + ((((p2 >>> ((1 : Int32) &&& 31)) % (3 : Int32)).toInt64) - (1 : Int64)))), (.long q0)]))
      obtain ⟨_, _, ⟨T64, L64, k64, n64⟩, -, X64, ⟨Lc64, hQ64, l64, y64, z64⟩, st64⟩ := Jvm.LawKit.callS X62 hx (y := (⟨"java/lang/Math", "max", "(JJ)J"⟩ : MethodName)) hown (mvT hZ (hw _ (List.mem_of_getElem? (i := 4) rfl))) (mvT hZ (hw _ (List.mem_of_getElem? (i := 5) rfl))) (mvT hZ (hw _ (List.mem_of_getElem? (i := 2) rfl))) (mvT hZ (hw _ (List.mem_of_getElem? (i := 6) rfl))) (by decide) (backOf (W := 0) (rm2 l Z a0 hw [] q0 (q0 + ((((p2 >>> ((1 : Int32) &&& 31)) % (3 : Int32)).toInt64) - (1 : Int64))) h0 n0 Z0 ) hZ (hw _ (List.mem_of_getElem? (i := 6) rfl)) (hw _ (List.mem_of_getElem? (i := 2) rfl)) (by decide) (by decide)) (g := (mkF m 51 #[.val (.long q0), .second, .val (.long q1), .second, .val (.int p2), .val (.long q0), .second, .val (.long (q0 + ((((p2 >>> ((1 : Int32) &&& 31)) % (3 : Int32)).toInt64) - (1 : Int64)))), .second, .val (.int (1 : Int32)), .unset, .unset, .unset, .unset, .unset, .unset, .unset, .unset] [(.long (q0 + ((((p2 >>> ((1 : Int32) &&& 31)) % (3 : Int32)).toInt64) - (1 : Int64)))), (.long q0)])) rfl (by rw [hml]; rfl) (argsL := [(.long q0), (.long (q0 + ((((p2 >>> ((1 : Int32) &&& 31)) % (3 : Int32)).toInt64) - (1 : Int64))))]) (rest := []) (lenOf pd_1 rfl) rfl (by show 2 * 0 + _ ≤ _; exact Nat.le_of_eq rfl) (hb hby at_51) (fun _ _ => ⟨rfl, hh62, (by decide : 0 + 0 ≤ _), (by decide : 0 + 0 ≤ _)⟩)
      dsimp only [Pt.U, Pt.locs, Pt.cells, Pt.slots] at X64 l64 y64 z64 st64 hQ64
      subst l64 y64 z64
      obtain ⟨rfl, N64q, hh64⟩ := hQ64
      have N64 := Fr.app N62 N64q
      refine own_of st64 ?_
      show own_Out p e below _ (T64.setTop (mkF m 54 #[.val (.long q0), .second, .val (.long q1), .second, .val (.int p2), .val (.long q0), .second, .val (.long (q0 + ((((p2 >>> ((1 : Int32) &&& 31)) % (3 : Int32)).toInt64) - (1 : Int64)))), .second, .val (.int (1 : Int32)), .unset, .unset, .unset, .unset, .unset, .unset, .unset, .unset] [(.long (f2 q0 (q0 + ((((p2 >>> ((1 : Int32) &&& 31)) % (3 : Int32)).toInt64) - (1 : Int64)))))]))
      refine own_of (fun _ k => XS.lload X64.here hx rfl (hb hby at_54) rfl k) ?_
      show own_Out p e below _ (T64.setTop (mkF m 56 #[.val (.long q0), .second, .val (.long q1), .second, .val (.int p2), .val (.long q0), .second, .val (.long (q0 + ((((p2 >>> ((1 : Int32) &&& 31)) % (3 : Int32)).toInt64) - (1 : Int64)))), .second, .val (.int (1 : Int32)), .unset, .unset, .unset, .unset, .unset, .unset, .unset, .unset] [(.long q0), (.long (f2 q0 (q0 + ((((p2 >>> ((1 : Int32) &&& 31)) % (3 : Int32)).toInt64) - (1 : Int64)))))]))
      refine own_of (fun _ k => XS.lcmp X64.here hx rfl (hb hby at_56) rfl k) ?_
      show own_Out p e below _ (T64.setTop (mkF m 57 #[.val (.long q0), .second, .val (.long q1), .second, .val (.int p2), .val (.long q0), .second, .val (.long (q0 + ((((p2 >>> ((1 : Int32) &&& 31)) % (3 : Int32)).toInt64) - (1 : Int64)))), .second, .val (.int (1 : Int32)), .unset, .unset, .unset, .unset, .unset, .unset, .unset, .unset] [(.int (lcmpW (f2 q0 (q0 + ((((p2 >>> ((1 : Int32) &&& 31)) % (3 : Int32)).toInt64) - (1 : Int64)))) q0))]))
      by_cases hc57_65 : (f2 q0 (q0 + ((((p2 >>> ((1 : Int32) &&& 31)) % (3 : Int32)).toInt64) - (1 : Int64)))) = q0
      · skip
        refine own_of (fun _ k => XS.ifNo X64.here hx rfl (hb hby at_57) rfl (own_leq hc57_65).2 k) ?_
        show own_Out p e below _ (T64.setTop (mkF m 60 #[.val (.long q0), .second, .val (.long q1), .second, .val (.int p2), .val (.long q0), .second, .val (.long (q0 + ((((p2 >>> ((1 : Int32) &&& 31)) % (3 : Int32)).toInt64) - (1 : Int64)))), .second, .val (.int (1 : Int32)), .unset, .unset, .unset, .unset, .unset, .unset, .unset, .unset] []))
        refine own_of (fun _ k => XS.iconst X64.here hx rfl (hb hby at_60) k) ?_
        show own_Out p e below _ (T64.setTop (mkF m 61 #[.val (.long q0), .second, .val (.long q1), .second, .val (.int p2), .val (.long q0), .second, .val (.long (q0 + ((((p2 >>> ((1 : Int32) &&& 31)) % (3 : Int32)).toInt64) - (1 : Int64)))), .second, .val (.int (1 : Int32)), .unset, .unset, .unset, .unset, .unset, .unset, .unset, .unset] [(.int (1 : Int32))]))
        refine own_of (fun _ k => XS.goto X64.here hx rfl (pc0 := 61) (pc' := 65) rfl (hb hby at_61) (by decide) (by decide) k) ?_
        show own_Out p e below _ (T64.setTop (mkF m 65 #[.val (.long q0), .second, .val (.long q1), .second, .val (.int p2), .val (.long q0), .second, .val (.long (q0 + ((((p2 >>> ((1 : Int32) &&& 31)) % (3 : Int32)).toInt64) - (1 : Int64)))), .second, .val (.int (1 : Int32)), .unset, .unset, .unset, .unset, .unset, .unset, .unset, .unset] [(.int (1 : Int32))]))
        refine own_of (fun _ k => XS.istore X64.here hx rfl (hb hby at_65) rfl (l' := #[.val (.long q0), .second, .val (.long q1), .second, .val (.int p2), .val (.long q0), .second, .val (.long (q0 + ((((p2 >>> ((1 : Int32) &&& 31)) % (3 : Int32)).toInt64) - (1 : Int64)))), .second, .val (.int (1 : Int32)), .val (.int (1 : Int32)), .unset, .unset, .unset, .unset, .unset, .unset, .unset]) rfl k) ?_
        show own_Out p e below _ (T64.setTop (mkF m 67 #[.val (.long q0), .second, .val (.long q1), .second, .val (.int p2), .val (.long q0), .second, .val (.long (q0 + ((((p2 >>> ((1 : Int32) &&& 31)) % (3 : Int32)).toInt64) - (1 : Int64)))), .second, .val (.int (1 : Int32)), .val (.int (1 : Int32)), .unset, .unset, .unset, .unset, .unset, .unset, .unset] []))
        refine own_of (fun _ k => XS.iload X64.here hx rfl (hb hby at_67) rfl k) ?_
        show own_Out p e below _ (T64.setTop (mkF m 69 #[.val (.long q0), .second, .val (.long q1), .second, .val (.int p2), .val (.long q0), .second, .val (.long (q0 + ((((p2 >>> ((1 : Int32) &&& 31)) % (3 : Int32)).toInt64) - (1 : Int64)))), .second, .val (.int (1 : Int32)), .val (.int (1 : Int32)), .unset, .unset, .unset, .unset, .unset, .unset, .unset] [(.int (1 : Int32))]))
        refine own_of (fun _ k => XS.ifNo X64.here hx rfl (hb hby at_69) rfl ((if0 _ _).trans (feq (by decide : ¬ ((1 : Int32) = (0 : Int32)))).1) k) ?_
        show own_Out p e below _ (T64.setTop (mkF m 72 #[.val (.long q0), .second, .val (.long q1), .second, .val (.int p2), .val (.long q0), .second, .val (.long (q0 + ((((p2 >>> ((1 : Int32) &&& 31)) % (3 : Int32)).toInt64) - (1 : Int64)))), .second, .val (.int (1 : Int32)), .val (.int (1 : Int32)), .unset, .unset, .unset, .unset, .unset, .unset, .unset] []))
        refine own_of (fun _ k => XS.iload X64.here hx rfl (hb hby at_72) rfl k) ?_
        show own_Out p e below _ (T64.setTop (mkF m 74 #[.val (.long q0), .second, .val (.long q1), .second, .val (.int p2), .val (.long q0), .second, .val (.long (q0 + ((((p2 >>> ((1 : Int32) &&& 31)) % (3 : Int32)).toInt64) - (1 : Int64)))), .second, .val (.int (1 : Int32)), .val (.int (1 : Int32)), .unset, .unset, .unset, .unset, .unset, .unset, .unset] [(.int (1 : Int32))]))
        refine own_of (fun _ k => XS.ifNo X64.here hx rfl (hb hby at_74) rfl ((if0 _ _).trans (feq (by decide : ¬ ((1 : Int32) = (0 : Int32)))).1) k) ?_
        show own_Out p e below _ (T64.setTop (mkF m 77 #[.val (.long q0), .second, .val (.long q1), .second, .val (.int p2), .val (.long q0), .second, .val (.long (q0 + ((((p2 >>> ((1 : Int32) &&& 31)) % (3 : Int32)).toInt64) - (1 : Int64)))), .second, .val (.int (1 : Int32)), .val (.int (1 : Int32)), .unset, .unset, .unset, .unset, .unset, .unset, .unset] []))
        refine own_of (fun _ k => XS.iconst X64.here hx rfl (hb hby at_77) k) ?_
        show own_Out p e below _ (T64.setTop (mkF m 78 #[.val (.long q0), .second, .val (.long q1), .second, .val (.int p2), .val (.long q0), .second, .val (.long (q0 + ((((p2 >>> ((1 : Int32) &&& 31)) % (3 : Int32)).toInt64) - (1 : Int64)))), .second, .val (.int (1 : Int32)), .val (.int (1 : Int32)), .unset, .unset, .unset, .unset, .unset, .unset, .unset] [(.int (1 : Int32))]))
        refine own_of (fun _ k => XS.goto X64.here hx rfl (pc0 := 78) (pc' := 82) rfl (hb hby at_78) (by decide) (by decide) k) ?_
        show own_Out p e below _ (T64.setTop (mkF m 82 #[.val (.long q0), .second, .val (.long q1), .second, .val (.int p2), .val (.long q0), .second, .val (.long (q0 + ((((p2 >>> ((1 : Int32) &&& 31)) % (3 : Int32)).toInt64) - (1 : Int64)))), .second, .val (.int (1 : Int32)), .val (.int (1 : Int32)), .unset, .unset, .unset, .unset, .unset, .unset, .unset] [(.int (1 : Int32))]))
        refine own_of (fun _ k => XS.istore X64.here hx rfl (hb hby at_82) rfl (l' := #[.val (.long q0), .second, .val (.long q1), .second, .val (.int p2), .val (.long q0), .second, .val (.long (q0 + ((((p2 >>> ((1 : Int32) &&& 31)) % (3 : Int32)).toInt64) - (1 : Int64)))), .second, .val (.int (1 : Int32)), .val (.int (1 : Int32)), .val (.int (1 : Int32)), .unset, .unset, .unset, .unset, .unset, .unset]) rfl k) ?_
        show own_Out p e below _ (T64.setTop (mkF m 84 #[.val (.long q0), .second, .val (.long q1), .second, .val (.int p2), .val (.long q0), .second, .val (.long (q0 + ((((p2 >>> ((1 : Int32) &&& 31)) % (3 : Int32)).toInt64) - (1 : Int64)))), .second, .val (.int (1 : Int32)), .val (.int (1 : Int32)), .val (.int (1 : Int32)), .unset, .unset, .unset, .unset, .unset, .unset] []))
        obtain ⟨T66, X66, e66, st66⟩ := getS2 X64 hx hZ hown (host := "") (Or.inl (hw _ (List.mem_of_getElem? (i := 7) rfl))) Via.refl hh64 S_w_EQUAL (g := (mkF m 84 #[.val (.long q0), .second, .val (.long q1), .second, .val (.int p2), .val (.long q0), .second, .val (.long (q0 + ((((p2 >>> ((1 : Int32) &&& 31)) % (3 : Int32)).toInt64) - (1 : Int64)))), .second, .val (.int (1 : Int32)), .val (.int (1 : Int32)), .val (.int (1 : Int32)), .unset, .unset, .unset, .unset, .unset, .unset] [])) rfl (hb hby at_84)
        refine own_of st66 ?_
        show own_Out p e below _ (T66.setTop (mkF m 87 #[.val (.long q0), .second, .val (.long q1), .second, .val (.int p2), .val (.long q0), .second, .val (.long (q0 + ((((p2 >>> ((1 : Int32) &&& 31)) % (3 : Int32)).toInt64) - (1 : Int64)))), .second, .val (.int (1 : Int32)), .val (.int (1 : Int32)), .val (.int (1 : Int32)), .unset, .unset, .unset, .unset, .unset, .unset] [(.ref w_EQUAL)]))
        refine own_of (fun _ k => XS.lload X66.here hx rfl (hb hby at_87) rfl k) ?_
        show own_Out p e below _ (T66.setTop (mkF m 89 #[.val (.long q0), .second, .val (.long q1), .second, .val (.int p2), .val (.long q0), .second, .val (.long (q0 + ((((p2 >>> ((1 : Int32) &&& 31)) % (3 : Int32)).toInt64) - (1 : Int64)))), .second, .val (.int (1 : Int32)), .val (.int (1 : Int32)), .val (.int (1 : Int32)), .unset, .unset, .unset, .unset, .unset, .unset] [(.long q0), (.ref w_EQUAL)]))
        refine own_of (fun _ k => XS.lload X66.here hx rfl (hb hby at_89) rfl k) ?_
        show own_Out p e below _ (T66.setTop (mkF m 91 #[.val (.long q0), .second, .val (.long q1), .second, .val (.int p2), .val (.long q0), .second, .val (.long (q0 + ((((p2 >>> ((1 : Int32) &&& 31)) % (3 : Int32)).toInt64) - (1 : Int64)))), .second, .val (.int (1 : Int32)), .val (.int (1 : Int32)), .val (.int (1 : Int32)), .unset, .unset, .unset, .unset, .unset, .unset] [(.long (q0 + ((((p2 >>> ((1 : Int32) &&& 31)) % (3 : Int32)).toInt64) - (1 : Int64)))), (.long q0), (.ref w_EQUAL)]))
        obtain ⟨cq67, kq67, q67a, q67b, q67c⟩ := isOf hZ e66 E_w_EQUAL
        obtain ⟨_, _, ⟨T67, L67, k67, n67⟩, -, X67, ⟨Lc67, hQ67, l67, y67, z67⟩, st67⟩ := X66.virtualBack hx (y := (⟨"com/example/ringd/ringd/core/Comparison$Operator", "holds", "(JJ)Z"⟩ : MethodName)) (z := (⟨"com/example/ringd/ringd/core/Comparison$Operator", "holds", "(JJ)Z"⟩ : MethodName)) hown (mvT hZ (hw _ (List.mem_of_getElem? (i := 10) rfl))) (mvT hZ (hw _ (List.mem_of_getElem? (i := 11) rfl))) (notFace_of_selects (args := #[]) (mvT hZ (hw _ (List.mem_of_getElem? (i := 13) rfl)))) (mvT hZ (hw _ (List.mem_of_getElem? (i := 13) rfl))) (mvT hZ (hw _ (List.mem_of_getElem? (i := 12) rfl))) (by decide) (backOf (W := 0) (rm3e0 l Z a0 hw [] w_EQUAL q0 (q0 + ((((p2 >>> ((1 : Int32) &&& 31)) % (3 : Int32)).toInt64) - (1 : Int64))) h0 n0 Z0 E_w_EQUAL F_w_EQUAL) hZ (hw _ (List.mem_of_getElem? (i := 14) rfl)) (hw _ (List.mem_of_getElem? (i := 8) rfl)) (by decide) (by decide)) q67a q67c (g := (mkF m 91 #[.val (.long q0), .second, .val (.long q1), .second, .val (.int p2), .val (.long q0), .second, .val (.long (q0 + ((((p2 >>> ((1 : Int32) &&& 31)) % (3 : Int32)).toInt64) - (1 : Int64)))), .second, .val (.int (1 : Int32)), .val (.int (1 : Int32)), .val (.int (1 : Int32)), .unset, .unset, .unset, .unset, .unset, .unset] [(.long (q0 + ((((p2 >>> ((1 : Int32) &&& 31)) % (3 : Int32)).toInt64) - (1 : Int64)))), (.long q0), (.ref w_EQUAL)])) rfl (by rw [hml]; rfl) (Steps.refl _) (argsL := [(.long q0), (.long (q0 + ((((p2 >>> ((1 : Int32) &&& 31)) % (3 : Int32)).toInt64) - (1 : Int64))))]) (rest := []) (lenOf pd_2 rfl) rfl (by show 2 * 0 + _ ≤ _; exact Nat.le_of_eq rfl) (hb hby at_91) (fun _ _ => ⟨rfl, e66, (by decide : 0 + 0 ≤ _), (by decide : 0 + 0 ≤ _)⟩)
        dsimp only [Pt.U, Pt.locs, Pt.cells, Pt.slots] at X67 l67 y67 z67 st67 hQ67
        subst l67 y67 z67
        obtain ⟨rfl, N67q, hh67⟩ := hQ67
        have N67 := Fr.app N64 N67q
        refine own_of (fun _ k => st67.trans k) ?_
        show own_Out p e below _ (T67.setTop (mkF m 94 #[.val (.long q0), .second, .val (.long q1), .second, .val (.int p2), .val (.long q0), .second, .val (.long (q0 + ((((p2 >>> ((1 : Int32) &&& 31)) % (3 : Int32)).toInt64) - (1 : Int64)))), .second, .val (.int (1 : Int32)), .val (.int (1 : Int32)), .val (.int (1 : Int32)), .unset, .unset, .unset, .unset, .unset, .unset] [(.int (f3e0 q0 (q0 + ((((p2 >>> ((1 : Int32) &&& 31)) % (3 : Int32)).toInt64) - (1 : Int64)))))]))
        refine own_of (fun _ k => XS.iload X67.here hx rfl (hb hby at_94) rfl k) ?_
        show own_Out p e below _ (T67.setTop (mkF m 96 #[.val (.long q0), .second, .val (.long q1), .second, .val (.int p2), .val (.long q0), .second, .val (.long (q0 + ((((p2 >>> ((1 : Int32) &&& 31)) % (3 : Int32)).toInt64) - (1 : Int64)))), .second, .val (.int (1 : Int32)), .val (.int (1 : Int32)), .val (.int (1 : Int32)), .unset, .unset, .unset, .unset, .unset, .unset] [(.int (1 : Int32)), (.int (f3e0 q0 (q0 + ((((p2 >>> ((1 : Int32) &&& 31)) % (3 : Int32)).toInt64) - (1 : Int64)))))]))
        by_cases hc96_68 : (f3e0 q0 (q0 + ((((p2 >>> ((1 : Int32) &&& 31)) % (3 : Int32)).toInt64) - (1 : Int64)))) = (1 : Int32)
        · skip
          refine own_of (fun _ k => XS.icmpNo X67.here hx rfl (hb hby at_96) rfl (teq hc96_68).2 k) ?_
          show own_Out p e below _ (T67.setTop (mkF m 99 #[.val (.long q0), .second, .val (.long q1), .second, .val (.int p2), .val (.long q0), .second, .val (.long (q0 + ((((p2 >>> ((1 : Int32) &&& 31)) % (3 : Int32)).toInt64) - (1 : Int64)))), .second, .val (.int (1 : Int32)), .val (.int (1 : Int32)), .val (.int (1 : Int32)), .unset, .unset, .unset, .unset, .unset, .unset] []))
          refine own_of (fun _ k => XS.iconst X67.here hx rfl (hb hby at_99) k) ?_
          show own_Out p e below _ (T67.setTop (mkF m 100 #[.val (.long q0), .second, .val (.long q1), .second, .val (.int p2), .val (.long q0), .second, .val (.long (q0 + ((((p2 >>> ((1 : Int32) &&& 31)) % (3 : Int32)).toInt64) - (1 : Int64)))), .second, .val (.int (1 : Int32)), .val (.int (1 : Int32)), .val (.int (1 : Int32)), .unset, .unset, .unset, .unset, .unset, .unset] [(.int (1 : Int32))]))
          refine own_of (fun _ k => XS.goto X67.here hx rfl (pc0 := 100) (pc' := 104) rfl (hb hby at_100) (by decide) (by decide) k) ?_
          show own_Out p e below _ (T67.setTop (mkF m 104 #[.val (.long q0), .second, .val (.long q1), .second, .val (.int p2), .val (.long q0), .second, .val (.long (q0 + ((((p2 >>> ((1 : Int32) &&& 31)) % (3 : Int32)).toInt64) - (1 : Int64)))), .second, .val (.int (1 : Int32)), .val (.int (1 : Int32)), .val (.int (1 : Int32)), .unset, .unset, .unset, .unset, .unset, .unset] [(.int (1 : Int32))]))
          refine own_of (fun _ k => XS.istore X67.here hx rfl (hb hby at_104) rfl (l' := #[.val (.long q0), .second, .val (.long q1), .second, .val (.int p2), .val (.long q0), .second, .val (.long (q0 + ((((p2 >>> ((1 : Int32) &&& 31)) % (3 : Int32)).toInt64) - (1 : Int64)))), .second, .val (.int (1 : Int32)), .val (.int (1 : Int32)), .val (.int (1 : Int32)), .val (.int (1 : Int32)), .unset, .unset, .unset, .unset, .unset]) rfl k) ?_
          show own_Out p e below _ (T67.setTop (mkF m 106 #[.val (.long q0), .second, .val (.long q1), .second, .val (.int p2), .val (.long q0), .second, .val (.long (q0 + ((((p2 >>> ((1 : Int32) &&& 31)) % (3 : Int32)).toInt64) - (1 : Int64)))), .second, .val (.int (1 : Int32)), .val (.int (1 : Int32)), .val (.int (1 : Int32)), .val (.int (1 : Int32)), .unset, .unset, .unset, .unset, .unset] []))
          obtain ⟨T69, X69, e69, st69⟩ := getS2 X67 hx hZ hown (host := "") (Or.inl (hw _ (List.mem_of_getElem? (i := 24) rfl))) Via.refl hh67 S_w_NOT_EQUAL (g := (mkF m 106 #[.val (.long q0), .second, .val (.long q1), .second, .val (.int p2), .val (.long q0), .second, .val (.long (q0 + ((((p2 >>> ((1 : Int32) &&& 31)) % (3 : Int32)).toInt64) - (1 : Int64)))), .second, .val (.int (1 : Int32)), .val (.int (1 : Int32)), .val (.int (1 : Int32)), .val (.int (1 : Int32)), .unset, .unset, .unset, .unset, .unset] [])) rfl (hb hby at_106)
          refine own_of st69 ?_
          show own_Out p e below _ (T69.setTop (mkF m 109 #[.val (.long q0), .second, .val (.long q1), .second, .val (.int p2), .val (.long q0), .second, .val (.long (q0 + ((((p2 >>> ((1 : Int32) &&& 31)) % (3 : Int32)).toInt64) - (1 : Int64)))), .second, .val (.int (1 : Int32)), .val (.int (1 : Int32)), .val (.int (1 : Int32)), .val (.int (1 : Int32)), .unset, .unset, .unset, .unset, .unset] [(.ref w_NOT_EQUAL)]))
          refine own_of (fun _ k => XS.lload X69.here hx rfl (hb hby at_109) rfl k) ?_
          show own_Out p e below _ (T69.setTop (mkF m 111 #[.val (.long q0), .second, .val (.long q1), .second, .val (.int p2), .val (.long q0), .second, .val (.long (q0 + ((((p2 >>> ((1 : Int32) &&& 31)) % (3 : Int32)).toInt64) - (1 : Int64)))), .second, .val (.int (1 : Int32)), .val (.int (1 : Int32)), .val (.int (1 : Int32)), .val (.int (1 : Int32)), .unset, .unset, .unset, .unset, .unset] [(.long q0), (.ref w_NOT_EQUAL)]))
          refine own_of (fun _ k => XS.lload X69.here hx rfl (hb hby at_111) rfl k) ?_
          show own_Out p e below _ (T69.setTop (mkF m 113 #[.val (.long q0), .second, .val (.long q1), .second, .val (.int p2), .val (.long q0), .second, .val (.long (q0 + ((((p2 >>> ((1 : Int32) &&& 31)) % (3 : Int32)).toInt64) - (1 : Int64)))), .second, .val (.int (1 : Int32)), .val (.int (1 : Int32)), .val (.int (1 : Int32)), .val (.int (1 : Int32)), .unset, .unset, .unset, .unset, .unset] [(.long (q0 + ((((p2 >>> ((1 : Int32) &&& 31)) % (3 : Int32)).toInt64) - (1 : Int64)))), (.long q0), (.ref w_NOT_EQUAL)]))
          obtain ⟨cq70, kq70, q70a, q70b, q70c⟩ := isOf hZ e69 E_w_NOT_EQUAL
          obtain ⟨_, _, ⟨T70, L70, k70, n70⟩, -, X70, ⟨Lc70, hQ70, l70, y70, z70⟩, st70⟩ := X69.virtualBack hx (y := (⟨"com/example/ringd/ringd/core/Comparison$Operator", "holds", "(JJ)Z"⟩ : MethodName)) (z := (⟨"com/example/ringd/ringd/core/Comparison$Operator", "holds", "(JJ)Z"⟩ : MethodName)) hown (mvT hZ (hw _ (List.mem_of_getElem? (i := 10) rfl))) (mvT hZ (hw _ (List.mem_of_getElem? (i := 11) rfl))) (notFace_of_selects (args := #[]) (mvT hZ (hw _ (List.mem_of_getElem? (i := 13) rfl)))) (mvT hZ (hw _ (List.mem_of_getElem? (i := 13) rfl))) (mvT hZ (hw _ (List.mem_of_getElem? (i := 12) rfl))) (by decide) (backOf (W := 0) (rm3e1 l Z a0 hw [] w_NOT_EQUAL q0 (q0 + ((((p2 >>> ((1 : Int32) &&& 31)) % (3 : Int32)).toInt64) - (1 : Int64))) h0 n0 Z0 E_w_NOT_EQUAL F_w_NOT_EQUAL) hZ (hw _ (List.mem_of_getElem? (i := 14) rfl)) (hw _ (List.mem_of_getElem? (i := 8) rfl)) (by decide) (by decide)) q70a q70c (g := (mkF m 113 #[.val (.long q0), .second, .val (.long q1), .second, .val (.int p2), .val (.long q0), .second, .val (.long (q0 + ((((p2 >>> ((1 : Int32) &&& 31)) % (3 : Int32)).toInt64) - (1 : Int64)))), .second, .val (.int (1 : Int32)), .val (.int (1 : Int32)), .val (.int (1 : Int32)), .val (.int (1 : Int32)), .unset, .unset, .unset, .unset, .unset] [(.long (q0 + ((((p2 >>> ((1 : Int32) &&& 31)) % (3 : Int32)).toInt64) - (1 : Int64)))), (.long q0), (.ref w_NOT_EQUAL)])) rfl (by rw [hml]; rfl) (Steps.refl _) (argsL := [(.long q0), (.long (q0 + ((((p2 >>> ((1 : Int32) &&& 31)) % (3 : Int32)).toInt64) - (1 : Int64))))]) (rest := []) (lenOf pd_2 rfl) rfl (by show 2 * 0 + _ ≤ _; exact Nat.le_of_eq rfl) (hb hby at_113) (fun _ _ => ⟨rfl, e69, (by decide : 0 + 0 ≤ _), (by decide : 0 + 0 ≤ _)⟩)
          dsimp only [Pt.U, Pt.locs, Pt.cells, Pt.slots] at X70 l70 y70 z70 st70 hQ70
          subst l70 y70 z70
          obtain ⟨rfl, N70q, hh70⟩ := hQ70
          have N70 := Fr.app N67 N70q
          refine own_of (fun _ k => st70.trans k) ?_
          show own_Out p e below _ (T70.setTop (mkF m 116 #[.val (.long q0), .second, .val (.long q1), .second, .val (.int p2), .val (.long q0), .second, .val (.long (q0 + ((((p2 >>> ((1 : Int32) &&& 31)) % (3 : Int32)).toInt64) - (1 : Int64)))), .second, .val (.int (1 : Int32)), .val (.int (1 : Int32)), .val (.int (1 : Int32)), .val (.int (1 : Int32)), .unset, .unset, .unset, .unset, .unset] [(.int (f3e1 q0 (q0 + ((((p2 >>> ((1 : Int32) &&& 31)) % (3 : Int32)).toInt64) - (1 : Int64)))))]))
          refine own_of (fun _ k => XS.iload X70.here hx rfl (hb hby at_116) rfl k) ?_
          show own_Out p e below _ (T70.setTop (mkF m 118 #[.val (.long q0), .second, .val (.long q1), .second, .val (.int p2), .val (.long q0), .second, .val (.long (q0 + ((((p2 >>> ((1 : Int32) &&& 31)) % (3 : Int32)).toInt64) - (1 : Int64)))), .second, .val (.int (1 : Int32)), .val (.int (1 : Int32)), .val (.int (1 : Int32)), .val (.int (1 : Int32)), .unset, .unset, .unset, .unset, .unset] [(.int (1 : Int32)), (.int (f3e1 q0 (q0 + ((((p2 >>> ((1 : Int32) &&& 31)) % (3 : Int32)).toInt64) - (1 : Int64)))))]))
          refine own_of (fun _ k => XS.ifYes X70.here hx rfl (pc0 := 118) (pc' := 125) rfl (hb hby at_118) rfl ((if0 _ _).trans (feq (by decide : ¬ ((1 : Int32) = (0 : Int32)))).2) (by decide) (by decide) k) ?_
          show own_Out p e below _ (T70.setTop (mkF m 125 #[.val (.long q0), .second, .val (.long q1), .second, .val (.int p2), .val (.long q0), .second, .val (.long (q0 + ((((p2 >>> ((1 : Int32) &&& 31)) % (3 : Int32)).toInt64) - (1 : Int64)))), .second, .val (.int (1 : Int32)), .val (.int (1 : Int32)), .val (.int (1 : Int32)), .val (.int (1 : Int32)), .unset, .unset, .unset, .unset, .unset] [(.int (f3e1 q0 (q0 + ((((p2 >>> ((1 : Int32) &&& 31)) % (3 : Int32)).toInt64) - (1 : Int64)))))]))
          refine own_of (fun _ k => XS.iconst X70.here hx rfl (hb hby at_125) k) ?_
          show own_Out p e below _ (T70.setTop (mkF m 126 #[.val (.long q0), .second, .val (.long q1), .second, .val (.int p2), .val (.long q0), .second, .val (.long (q0 + ((((p2 >>> ((1 : Int32) &&& 31)) % (3 : Int32)).toInt64) - (1 : Int64)))), .second, .val (.int (1 : Int32)), .val (.int (1 : Int32)), .val (.int (1 : Int32)), .val (.int (1 : Int32)), .unset, .unset, .unset, .unset, .unset] [(.int (0 : Int32)), (.int (f3e1 q0 (q0 + ((((p2 >>> ((1 : Int32) &&& 31)) % (3 : Int32)).toInt64) - (1 : Int64)))))]))
          by_cases hc126_71 : (f3e1 q0 (q0 + ((((p2 >>> ((1 : Int32) &&& 31)) % (3 : Int32)).toInt64) - (1 : Int64)))) = (0 : Int32)
          · skip
            refine own_of (fun _ k => XS.icmpNo X70.here hx rfl (hb hby at_126) rfl (teq hc126_71).2 k) ?_
            show own_Out p e below _ (T70.setTop (mkF m 129 #[.val (.long q0), .second, .val (.long q1), .second, .val (.int p2), .val (.long q0), .second, .val (.long (q0 + ((((p2 >>> ((1 : Int32) &&& 31)) % (3 : Int32)).toInt64) - (1 : Int64)))), .second, .val (.int (1 : Int32)), .val (.int (1 : Int32)), .val (.int (1 : Int32)), .val (.int (1 : Int32)), .unset, .unset, .unset, .unset, .unset] []))
            refine own_of (fun _ k => XS.iconst X70.here hx rfl (hb hby at_129) k) ?_
            show own_Out p e below _ (T70.setTop (mkF m 130 #[.val (.long q0), .second, .val (.long q1), .second, .val (.int p2), .val (.long q0), .second, .val (.long (q0 + ((((p2 >>> ((1 : Int32) &&& 31)) % (3 : Int32)).toInt64) - (1 : Int64)))), .second, .val (.int (1 : Int32)), .val (.int (1 : Int32)), .val (.int (1 : Int32)), .val (.int (1 : Int32)), .unset, .unset, .unset, .unset, .unset] [(.int (1 : Int32))]))
            refine own_of (fun _ k => XS.goto X70.here hx rfl (pc0 := 130) (pc' := 134) rfl (hb hby at_130) (by decide) (by decide) k) ?_
            show own_Out p e below _ (T70.setTop (mkF m 134 #[.val (.long q0), .second, .val (.long q1), .second, .val (.int p2), .val (.long q0), .second, .val (.long (q0 + ((((p2 >>> ((1 : Int32) &&& 31)) % (3 : Int32)).toInt64) - (1 : Int64)))), .second, .val (.int (1 : Int32)), .val (.int (1 : Int32)), .val (.int (1 : Int32)), .val (.int (1 : Int32)), .unset, .unset, .unset, .unset, .unset] [(.int (1 : Int32))]))
            refine own_of (fun _ k => XS.istore X70.here hx rfl (hb hby at_134) rfl (l' := #[.val (.long q0), .second, .val (.long q1), .second, .val (.int p2), .val (.long q0), .second, .val (.long (q0 + ((((p2 >>> ((1 : Int32) &&& 31)) % (3 : Int32)).toInt64) - (1 : Int64)))), .second, .val (.int (1 : Int32)), .val (.int (1 : Int32)), .val (.int (1 : Int32)), .val (.int (1 : Int32)), .val (.int (1 : Int32)), .unset, .unset, .unset, .unset]) rfl k) ?_
            show own_Out p e below _ (T70.setTop (mkF m 136 #[.val (.long q0), .second, .val (.long q1), .second, .val (.int p2), .val (.long q0), .second, .val (.long (q0 + ((((p2 >>> ((1 : Int32) &&& 31)) % (3 : Int32)).toInt64) - (1 : Int64)))), .second, .val (.int (1 : Int32)), .val (.int (1 : Int32)), .val (.int (1 : Int32)), .val (.int (1 : Int32)), .val (.int (1 : Int32)), .unset, .unset, .unset, .unset] []))
            obtain ⟨T72, X72, e72, st72⟩ := getS2 X70 hx hZ hown (host := "") (Or.inl (hw _ (List.mem_of_getElem? (i := 26) rfl))) Via.refl hh70 S_w_LESS (g := (mkF m 136 #[.val (.long q0), .second, .val (.long q1), .second, .val (.int p2), .val (.long q0), .second, .val (.long (q0 + ((((p2 >>> ((1 : Int32) &&& 31)) % (3 : Int32)).toInt64) - (1 : Int64)))), .second, .val (.int (1 : Int32)), .val (.int (1 : Int32)), .val (.int (1 : Int32)), .val (.int (1 : Int32)), .val (.int (1 : Int32)), .unset, .unset, .unset, .unset] [])) rfl (hb hby at_136)
            refine own_of st72 ?_
            show own_Out p e below _ (T72.setTop (mkF m 139 #[.val (.long q0), .second, .val (.long q1), .second, .val (.int p2), .val (.long q0), .second, .val (.long (q0 + ((((p2 >>> ((1 : Int32) &&& 31)) % (3 : Int32)).toInt64) - (1 : Int64)))), .second, .val (.int (1 : Int32)), .val (.int (1 : Int32)), .val (.int (1 : Int32)), .val (.int (1 : Int32)), .val (.int (1 : Int32)), .unset, .unset, .unset, .unset] [(.ref w_LESS)]))
            refine own_of (fun _ k => XS.lload X72.here hx rfl (hb hby at_139) rfl k) ?_
            show own_Out p e below _ (T72.setTop (mkF m 141 #[.val (.long q0), .second, .val (.long q1), .second, .val (.int p2), .val (.long q0), .second, .val (.long (q0 + ((((p2 >>> ((1 : Int32) &&& 31)) % (3 : Int32)).toInt64) - (1 : Int64)))), .second, .val (.int (1 : Int32)), .val (.int (1 : Int32)), .val (.int (1 : Int32)), .val (.int (1 : Int32)), .val (.int (1 : Int32)), .unset, .unset, .unset, .unset] [(.long q0), (.ref w_LESS)]))
            refine own_of (fun _ k => XS.lload X72.here hx rfl (hb hby at_141) rfl k) ?_
            show own_Out p e below _ (T72.setTop (mkF m 143 #[.val (.long q0), .second, .val (.long q1), .second, .val (.int p2), .val (.long q0), .second, .val (.long (q0 + ((((p2 >>> ((1 : Int32) &&& 31)) % (3 : Int32)).toInt64) - (1 : Int64)))), .second, .val (.int (1 : Int32)), .val (.int (1 : Int32)), .val (.int (1 : Int32)), .val (.int (1 : Int32)), .val (.int (1 : Int32)), .unset, .unset, .unset, .unset] [(.long (q0 + ((((p2 >>> ((1 : Int32) &&& 31)) % (3 : Int32)).toInt64) - (1 : Int64)))), (.long q0), (.ref w_LESS)]))
            obtain ⟨cq73, kq73, q73a, q73b, q73c⟩ := isOf hZ e72 E_w_LESS
            obtain ⟨_, _, ⟨T73, L73, k73, n73⟩, -, X73, ⟨Lc73, hQ73, l73, y73, z73⟩, st73⟩ := X72.virtualBack hx (y := (⟨"com/example/ringd/ringd/core/Comparison$Operator", "holds", "(JJ)Z"⟩ : MethodName)) (z := (⟨"com/example/ringd/ringd/core/Comparison$Operator", "holds", "(JJ)Z"⟩ : MethodName)) hown (mvT hZ (hw _ (List.mem_of_getElem? (i := 10) rfl))) (mvT hZ (hw _ (List.mem_of_getElem? (i := 11) rfl))) (notFace_of_selects (args := #[]) (mvT hZ (hw _ (List.mem_of_getElem? (i := 13) rfl)))) (mvT hZ (hw _ (List.mem_of_getElem? (i := 13) rfl))) (mvT hZ (hw _ (List.mem_of_getElem? (i := 12) rfl))) (by decide) (backOf (W := 0) (rm3e2 l Z a0 hw [] w_LESS q0 (q0 + ((((p2 >>> ((1 : Int32) &&& 31)) % (3 : Int32)).toInt64) - (1 : Int64))) h0 n0 Z0 E_w_LESS F_w_LESS) hZ (hw _ (List.mem_of_getElem? (i := 14) rfl)) (hw _ (List.mem_of_getElem? (i := 8) rfl)) (by decide) (by decide)) q73a q73c (g := (mkF m 143 #[.val (.long q0), .second, .val (.long q1), .second, .val (.int p2), .val (.long q0), .second, .val (.long (q0 + ((((p2 >>> ((1 : Int32) &&& 31)) % (3 : Int32)).toInt64) - (1 : Int64)))), .second, .val (.int (1 : Int32)), .val (.int (1 : Int32)), .val (.int (1 : Int32)), .val (.int (1 : Int32)), .val (.int (1 : Int32)), .unset, .unset, .unset, .unset] [(.long (q0 + ((((p2 >>> ((1 : Int32) &&& 31)) % (3 : Int32)).toInt64) - (1 : Int64)))), (.long q0), (.ref w_LESS)])) rfl (by rw [hml]; rfl) (Steps.refl _) (argsL := [(.long q0), (.long (q0 + ((((p2 >>> ((1 : Int32) &&& 31)) % (3 : Int32)).toInt64) - (1 : Int64))))]) (rest := []) (lenOf pd_2 rfl) rfl (by show 2 * 0 + _ ≤ _; exact Nat.le_of_eq rfl) (hb hby at_143) (fun _ _ => ⟨rfl, e72, (by decide : 0 + 0 ≤ _), (by decide : 0 + 0 ≤ _)⟩)
            dsimp only [Pt.U, Pt.locs, Pt.cells, Pt.slots] at X73 l73 y73 z73 st73 hQ73
            subst l73 y73 z73
            obtain ⟨rfl, N73q, hh73⟩ := hQ73
            have N73 := Fr.app N70 N73q
            refine own_of (fun _ k => st73.trans k) ?_
            show own_Out p e below _ (T73.setTop (mkF m 146 #[.val (.long q0), .second, .val (.long q1), .second, .val (.int p2), .val (.long q0), .second, .val (.long (q0 + ((((p2 >>> ((1 : Int32) &&& 31)) % (3 : Int32)).toInt64) - (1 : Int64)))), .second, .val (.int (1 : Int32)), .val (.int (1 : Int32)), .val (.int (1 : Int32)), .val (.int (1 : Int32)), .val (.int (1 : Int32)), .unset, .unset, .unset, .unset] [(.int (f3e2 q0 (q0 + ((((p2 >>> ((1 : Int32) &&& 31)) % (3 : Int32)).toInt64) - (1 : Int64)))))]))
            refine own_of (fun _ k => XS.iload X73.here hx rfl (hb hby at_146) rfl k) ?_
            show own_Out p e below _ (T73.setTop (mkF m 148 #[.val (.long q0), .second, .val (.long q1), .second, .val (.int p2), .val (.long q0), .second, .val (.long (q0 + ((((p2 >>> ((1 : Int32) &&& 31)) % (3 : Int32)).toInt64) - (1 : Int64)))), .second, .val (.int (1 : Int32)), .val (.int (1 : Int32)), .val (.int (1 : Int32)), .val (.int (1 : Int32)), .val (.int (1 : Int32)), .unset, .unset, .unset, .unset] [(.int (1 : Int32)), (.int (f3e2 q0 (q0 + ((((p2 >>> ((1 : Int32) &&& 31)) % (3 : Int32)).toInt64) - (1 : Int64)))))]))
            refine own_of (fun _ k => XS.ifNo X73.here hx rfl (hb hby at_148) rfl ((if0 _ _).trans (feq (by decide : ¬ ((1 : Int32) = (0 : Int32)))).1) k) ?_
            show own_Out p e below _ (T73.setTop (mkF m 151 #[.val (.long q0), .second, .val (.long q1), .second, .val (.int p2), .val (.long q0), .second, .val (.long (q0 + ((((p2 >>> ((1 : Int32) &&& 31)) % (3 : Int32)).toInt64) - (1 : Int64)))), .second, .val (.int (1 : Int32)), .val (.int (1 : Int32)), .val (.int (1 : Int32)), .val (.int (1 : Int32)), .val (.int (1 : Int32)), .unset, .unset, .unset, .unset] [(.int (f3e2 q0 (q0 + ((((p2 >>> ((1 : Int32) &&& 31)) % (3 : Int32)).toInt64) - (1 : Int64)))))]))
            refine own_of (fun _ k => XS.iload X73.here hx rfl (hb hby at_151) rfl k) ?_
            show own_Out p e below _ (T73.setTop (mkF m 153 #[.val (.long q0), .second, .val (.long q1), .second, .val (.int p2), .val (.long q0), .second, .val (.long (q0 + ((((p2 >>> ((1 : Int32) &&& 31)) % (3 : Int32)).toInt64) - (1 : Int64)))), .second, .val (.int (1 : Int32)), .val (.int (1 : Int32)), .val (.int (1 : Int32)), .val (.int (1 : Int32)), .val (.int (1 : Int32)), .unset, .unset, .unset, .unset] [(.int (1 : Int32)), (.int (f3e2 q0 (q0 + ((((p2 >>> ((1 : Int32) &&& 31)) % (3 : Int32)).toInt64) - (1 : Int64)))))]))
            refine own_of (fun _ k => XS.ifYes X73.here hx rfl (pc0 := 153) (pc' := 160) rfl (hb hby at_153) rfl ((if0 _ _).trans (feq (by decide : ¬ ((1 : Int32) = (0 : Int32)))).2) (by decide) (by decide) k) ?_
            show own_Out p e below _ (T73.setTop (mkF m 160 #[.val (.long q0), .second, .val (.long q1), .second, .val (.int p2), .val (.long q0), .second, .val (.long (q0 + ((((p2 >>> ((1 : Int32) &&& 31)) % (3 : Int32)).toInt64) - (1 : Int64)))), .second, .val (.int (1 : Int32)), .val (.int (1 : Int32)), .val (.int (1 : Int32)), .val (.int (1 : Int32)), .val (.int (1 : Int32)), .unset, .unset, .unset, .unset] [(.int (f3e2 q0 (q0 + ((((p2 >>> ((1 : Int32) &&& 31)) % (3 : Int32)).toInt64) - (1 : Int64)))))]))
            refine own_of (fun _ k => XS.iconst X73.here hx rfl (hb hby at_160) k) ?_
            show own_Out p e below _ (T73.setTop (mkF m 161 #[.val (.long q0), .second, .val (.long q1), .second, .val (.int p2), .val (.long q0), .second, .val (.long (q0 + ((((p2 >>> ((1 : Int32) &&& 31)) % (3 : Int32)).toInt64) - (1 : Int64)))), .second, .val (.int (1 : Int32)), .val (.int (1 : Int32)), .val (.int (1 : Int32)), .val (.int (1 : Int32)), .val (.int (1 : Int32)), .unset, .unset, .unset, .unset] [(.int (0 : Int32)), (.int (f3e2 q0 (q0 + ((((p2 >>> ((1 : Int32) &&& 31)) % (3 : Int32)).toInt64) - (1 : Int64)))))]))
            by_cases hc161_74 : (f3e2 q0 (q0 + ((((p2 >>> ((1 : Int32) &&& 31)) % (3 : Int32)).toInt64) - (1 : Int64)))) = (0 : Int32)
            · skip
              refine own_of (fun _ k => XS.icmpNo X73.here hx rfl (hb hby at_161) rfl (teq hc161_74).2 k) ?_
              show own_Out p e below _ (T73.setTop (mkF m 164 #[.val (.long q0), .second, .val (.long q1), .second, .val (.int p2), .val (.long q0), .second, .val (.long (q0 + ((((p2 >>> ((1 : Int32) &&& 31)) % (3 : Int32)).toInt64) - (1 : Int64)))), .second, .val (.int (1 : Int32)), .val (.int (1 : Int32)), .val (.int (1 : Int32)), .val (.int (1 : Int32)), .val (.int (1 : Int32)), .unset, .unset, .unset, .unset] []))
              refine own_of (fun _ k => XS.iconst X73.here hx rfl (hb hby at_164) k) ?_
              show own_Out p e below _ (T73.setTop (mkF m 165 #[.val (.long q0), .second, .val (.long q1), .second, .val (.int p2), .val (.long q0), .second, .val (.long (q0 + ((((p2 >>> ((1 : Int32) &&& 31)) % (3 : Int32)).toInt64) - (1 : Int64)))), .second, .val (.int (1 : Int32)), .val (.int (1 : Int32)), .val (.int (1 : Int32)), .val (.int (1 : Int32)), .val (.int (1 : Int32)), .unset, .unset, .unset, .unset] [(.int (1 : Int32))]))
              refine own_of (fun _ k => XS.goto X73.here hx rfl (pc0 := 165) (pc' := 169) rfl (hb hby at_165) (by decide) (by decide) k) ?_
              show own_Out p e below _ (T73.setTop (mkF m 169 #[.val (.long q0), .second, .val (.long q1), .second, .val (.int p2), .val (.long q0), .second, .val (.long (q0 + ((((p2 >>> ((1 : Int32) &&& 31)) % (3 : Int32)).toInt64) - (1 : Int64)))), .second, .val (.int (1 : Int32)), .val (.int (1 : Int32)), .val (.int (1 : Int32)), .val (.int (1 : Int32)), .val (.int (1 : Int32)), .unset, .unset, .unset, .unset] [(.int (1 : Int32))]))
              refine own_of (fun _ k => XS.istore X73.here hx rfl (hb hby at_169) rfl (l' := #[.val (.long q0), .second, .val (.long q1), .second, .val (.int p2), .val (.long q0), .second, .val (.long (q0 + ((((p2 >>> ((1 : Int32) &&& 31)) % (3 : Int32)).toInt64) - (1 : Int64)))), .second, .val (.int (1 : Int32)), .val (.int (1 : Int32)), .val (.int (1 : Int32)), .val (.int (1 : Int32)), .val (.int (1 : Int32)), .val (.int (1 : Int32)), .unset, .unset, .unset]) rfl k) ?_
              show own_Out p e below _ (T73.setTop (mkF m 171 #[.val (.long q0), .second, .val (.long q1), .second, .val (.int p2), .val (.long q0), .second, .val (.long (q0 + ((((p2 >>> ((1 : Int32) &&& 31)) % (3 : Int32)).toInt64) - (1 : Int64)))), .second, .val (.int (1 : Int32)), .val (.int (1 : Int32)), .val (.int (1 : Int32)), .val (.int (1 : Int32)), .val (.int (1 : Int32)), .val (.int (1 : Int32)), .unset, .unset, .unset] []))
              obtain ⟨T75, X75, e75, st75⟩ := getS2 X73 hx hZ hown (host := "") (Or.inl (hw _ (List.mem_of_getElem? (i := 28) rfl))) Via.refl hh73 S_w_AT_MOST (g := (mkF m 171 #[.val (.long q0), .second, .val (.long q1), .second, .val (.int p2), .val (.long q0), .second, .val (.long (q0 + ((((p2 >>> ((1 : Int32) &&& 31)) % (3 : Int32)).toInt64) - (1 : Int64)))), .second, .val (.int (1 : Int32)), .val (.int (1 : Int32)), .val (.int (1 : Int32)), .val (.int (1 : Int32)), .val (.int (1 : Int32)), .val (.int (1 : Int32)), .unset, .unset, .unset] [])) rfl (hb hby at_171)
              refine own_of st75 ?_
              show own_Out p e below _ (T75.setTop (mkF m 174 #[.val (.long q0), .second, .val (.long q1), .second, .val (.int p2), .val (.long q0), .second, .val (.long (q0 + ((((p2 >>> ((1 : Int32) &&& 31)) % (3 : Int32)).toInt64) - (1 : Int64)))), .second, .val (.int (1 : Int32)), .val (.int (1 : Int32)), .val (.int (1 : Int32)), .val (.int (1 : Int32)), .val (.int (1 : Int32)), .val (.int (1 : Int32)), .unset, .unset, .unset] [(.ref w_AT_MOST)]))
              refine own_of (fun _ k => XS.lload X75.here hx rfl (hb hby at_174) rfl k) ?_
              show own_Out p e below _ (T75.setTop (mkF m 176 #[.val (.long q0), .second, .val (.long q1), .second, .val (.int p2), .val (.long q0), .second, .val (.long (q0 + ((((p2 >>> ((1 : Int32) &&& 31)) % (3 : Int32)).toInt64) - (1 : Int64)))), .second, .val (.int (1 : Int32)), .val (.int (1 : Int32)), .val (.int (1 : Int32)), .val (.int (1 : Int32)), .val (.int (1 : Int32)), .val (.int (1 : Int32)), .unset, .unset, .unset] [(.long q0), (.ref w_AT_MOST)]))
              refine own_of (fun _ k => XS.lload X75.here hx rfl (hb hby at_176) rfl k) ?_
              show own_Out p e below _ (T75.setTop (mkF m 178 #[.val (.long q0), .second, .val (.long q1), .second, .val (.int p2), .val (.long q0), .second, .val (.long (q0 + ((((p2 >>> ((1 : Int32) &&& 31)) % (3 : Int32)).toInt64) - (1 : Int64)))), .second, .val (.int (1 : Int32)), .val (.int (1 : Int32)), .val (.int (1 : Int32)), .val (.int (1 : Int32)), .val (.int (1 : Int32)), .val (.int (1 : Int32)), .unset, .unset, .unset] [(.long (q0 + ((((p2 >>> ((1 : Int32) &&& 31)) % (3 : Int32)).toInt64) - (1 : Int64)))), (.long q0), (.ref w_AT_MOST)]))
              obtain ⟨cq76, kq76, q76a, q76b, q76c⟩ := isOf hZ e75 E_w_AT_MOST
              obtain ⟨_, _, ⟨T76, L76, k76, n76⟩, -, X76, ⟨Lc76, hQ76, l76, y76, z76⟩, st76⟩ := X75.virtualBack hx (y := (⟨"com/example/ringd/ringd/core/Comparison$Operator", "holds", "(JJ)Z"⟩ : MethodName)) (z := (⟨"com/example/ringd/ringd/core/Comparison$Operator", "holds", "(JJ)Z"⟩ : MethodName)) hown (mvT hZ (hw _ (List.mem_of_getElem? (i := 10) rfl))) (mvT hZ (hw _ (List.mem_of_getElem? (i := 11) rfl))) (notFace_of_selects (args := #[]) (mvT hZ (hw _ (List.mem_of_getElem? (i := 13) rfl)))) (mvT hZ (hw _ (List.mem_of_getElem? (i := 13) rfl))) (mvT hZ (hw _ (List.mem_of_getElem? (i := 12) rfl))) (by decide) (backOf (W := 0) (rm3e3 l Z a0 hw [] w_AT_MOST q0 (q0 + ((((p2 >>> ((1 : Int32) &&& 31)) % (3 : Int32)).toInt64) - (1 : Int64))) h0 n0 Z0 E_w_AT_MOST F_w_AT_MOST) hZ (hw _ (List.mem_of_getElem? (i := 14) rfl)) (hw _ (List.mem_of_getElem? (i := 8) rfl)) (by decide) (by decide)) q76a q76c (g := (mkF m 178 #[.val (.long q0), .second, .val (.long q1), .second, .val (.int p2), .val (.long q0), .second, .val (.long (q0 + ((((p2 >>> ((1 : Int32) &&& 31)) % (3 : Int32)).toInt64) - (1 : Int64)))), .second, .val (.int (1 : Int32)), .val (.int (1 : Int32)), .val (.int (1 : Int32)), .val (.int (1 : Int32)), .val (.int (1 : Int32)), .val (.int (1 : Int32)), .unset, .unset, .unset] [(.long (q0 + ((((p2 >>> ((1 : Int32) &&& 31)) % (3 : Int32)).toInt64) - (1 : Int64)))), (.long q0), (.ref w_AT_MOST)])) rfl (by rw [hml]; rfl) (Steps.refl _) (argsL := [(.long q0), (.long (q0 + ((((p2 >>> ((1 : Int32) &&& 31)) % (3 : Int32)).toInt64) - (1 : Int64))))]) (rest := []) (lenOf pd_2 rfl) rfl (by show 2 * 0 + _ ≤ _; exact Nat.le_of_eq rfl) (hb hby at_178) (fun _ _ => ⟨rfl, e75, (by decide : 0 + 0 ≤ _), (by decide : 0 + 0 ≤ _)⟩)
              dsimp only [Pt.U, Pt.locs, Pt.cells, Pt.slots] at X76 l76 y76 z76 st76 hQ76
              subst l76 y76 z76
              obtain ⟨rfl, N76q, hh76⟩ := hQ76
              have N76 := Fr.app N73 N76q
              refine own_of (fun _ k => st76.trans k) ?_
              show own_Out p e below _ (T76.setTop (mkF m 181 #[.val (.long q0), .second, .val (.long q1), .second, .val (.int p2), .val (.long q0), .second, .val (.long (q0 + ((((p2 >>> ((1 : Int32) &&& 31)) % (3 : Int32)).toInt64) - (1 : Int64)))), .second, .val (.int (1 : Int32)), .val (.int (1 : Int32)), .val (.int (1 : Int32)), .val (.int (1 : Int32)), .val (.int (1 : Int32)), .val (.int (1 : Int32)), .unset, .unset, .unset] [(.int (f3e3 q0 (q0 + ((((p2 >>> ((1 : Int32) &&& 31)) % (3 : Int32)).toInt64) - (1 : Int64)))))]))
              refine own_of (fun _ k => XS.iload X76.here hx rfl (hb hby at_181) rfl k) ?_
              show own_Out p e below _ (T76.setTop (mkF m 183 #[.val (.long q0), .second, .val (.long q1), .second, .val (.int p2), .val (.long q0), .second, .val (.long (q0 + ((((p2 >>> ((1 : Int32) &&& 31)) % (3 : Int32)).toInt64) - (1 : Int64)))), .second, .val (.int (1 : Int32)), .val (.int (1 : Int32)), .val (.int (1 : Int32)), .val (.int (1 : Int32)), .val (.int (1 : Int32)), .val (.int (1 : Int32)), .unset, .unset, .unset] [(.int (1 : Int32)), (.int (f3e3 q0 (q0 + ((((p2 >>> ((1 : Int32) &&& 31)) % (3 : Int32)).toInt64) - (1 : Int64)))))]))
              by_cases hc183_77 : (f3e3 q0 (q0 + ((((p2 >>> ((1 : Int32) &&& 31)) % (3 : Int32)).toInt64) - (1 : Int64)))) = (1 : Int32)
              · skip
                refine own_of (fun _ k => XS.icmpNo X76.here hx rfl (hb hby at_183) rfl (teq hc183_77).2 k) ?_
                show own_Out p e below _ (T76.setTop (mkF m 186 #[.val (.long q0), .second, .val (.long q1), .second, .val (.int p2), .val (.long q0), .second, .val (.long (q0 + ((((p2 >>> ((1 : Int32) &&& 31)) % (3 : Int32)).toInt64) - (1 : Int64)))), .second, .val (.int (1 : Int32)), .val (.int (1 : Int32)), .val (.int (1 : Int32)), .val (.int (1 : Int32)), .val (.int (1 : Int32)), .val (.int (1 : Int32)), .unset, .unset, .unset] []))
                refine own_of (fun _ k => XS.iconst X76.here hx rfl (hb hby at_186) k) ?_
                show own_Out p e below _ (T76.setTop (mkF m 187 #[.val (.long q0), .second, .val (.long q1), .second, .val (.int p2), .val (.long q0), .second, .val (.long (q0 + ((((p2 >>> ((1 : Int32) &&& 31)) % (3 : Int32)).toInt64) - (1 : Int64)))), .second, .val (.int (1 : Int32)), .val (.int (1 : Int32)), .val (.int (1 : Int32)), .val (.int (1 : Int32)), .val (.int (1 : Int32)), .val (.int (1 : Int32)), .unset, .unset, .unset] [(.int (1 : Int32))]))
                refine own_of (fun _ k => XS.goto X76.here hx rfl (pc0 := 187) (pc' := 191) rfl (hb hby at_187) (by decide) (by decide) k) ?_
                show own_Out p e below _ (T76.setTop (mkF m 191 #[.val (.long q0), .second, .val (.long q1), .second, .val (.int p2), .val (.long q0), .second, .val (.long (q0 + ((((p2 >>> ((1 : Int32) &&& 31)) % (3 : Int32)).toInt64) - (1 : Int64)))), .second, .val (.int (1 : Int32)), .val (.int (1 : Int32)), .val (.int (1 : Int32)), .val (.int (1 : Int32)), .val (.int (1 : Int32)), .val (.int (1 : Int32)), .unset, .unset, .unset] [(.int (1 : Int32))]))
                refine own_of (fun _ k => XS.istore X76.here hx rfl (hb hby at_191) rfl (l' := #[.val (.long q0), .second, .val (.long q1), .second, .val (.int p2), .val (.long q0), .second, .val (.long (q0 + ((((p2 >>> ((1 : Int32) &&& 31)) % (3 : Int32)).toInt64) - (1 : Int64)))), .second, .val (.int (1 : Int32)), .val (.int (1 : Int32)), .val (.int (1 : Int32)), .val (.int (1 : Int32)), .val (.int (1 : Int32)), .val (.int (1 : Int32)), .val (.int (1 : Int32)), .unset, .unset]) rfl k) ?_
                show own_Out p e below _ (T76.setTop (mkF m 193 #[.val (.long q0), .second, .val (.long q1), .second, .val (.int p2), .val (.long q0), .second, .val (.long (q0 + ((((p2 >>> ((1 : Int32) &&& 31)) % (3 : Int32)).toInt64) - (1 : Int64)))), .second, .val (.int (1 : Int32)), .val (.int (1 : Int32)), .val (.int (1 : Int32)), .val (.int (1 : Int32)), .val (.int (1 : Int32)), .val (.int (1 : Int32)), .val (.int (1 : Int32)), .unset, .unset] []))
                obtain ⟨T78, X78, e78, st78⟩ := getS2 X76 hx hZ hown (host := "") (Or.inl (hw _ (List.mem_of_getElem? (i := 30) rfl))) Via.refl hh76 S_w_GREATER (g := (mkF m 193 #[.val (.long q0), .second, .val (.long q1), .second, .val (.int p2), .val (.long q0), .second, .val (.long (q0 + ((((p2 >>> ((1 : Int32) &&& 31)) % (3 : Int32)).toInt64) - (1 : Int64)))), .second, .val (.int (1 : Int32)), .val (.int (1 : Int32)), .val (.int (1 : Int32)), .val (.int (1 : Int32)), .val (.int (1 : Int32)), .val (.int (1 : Int32)), .val (.int (1 : Int32)), .unset, .unset] [])) rfl (hb hby at_193)
                refine own_of st78 ?_
                show own_Out p e below _ (T78.setTop (mkF m 196 #[.val (.long q0), .second, .val (.long q1), .second, .val (.int p2), .val (.long q0), .second, .val (.long (q0 + ((((p2 >>> ((1 : Int32) &&& 31)) % (3 : Int32)).toInt64) - (1 : Int64)))), .second, .val (.int (1 : Int32)), .val (.int (1 : Int32)), .val (.int (1 : Int32)), .val (.int (1 : Int32)), .val (.int (1 : Int32)), .val (.int (1 : Int32)), .val (.int (1 : Int32)), .unset, .unset] [(.ref w_GREATER)]))
                refine own_of (fun _ k => XS.lload X78.here hx rfl (hb hby at_196) rfl k) ?_
                show own_Out p e below _ (T78.setTop (mkF m 198 #[.val (.long q0), .second, .val (.long q1), .second, .val (.int p2), .val (.long q0), .second, .val (.long (q0 + ((((p2 >>> ((1 : Int32) &&& 31)) % (3 : Int32)).toInt64) - (1 : Int64)))), .second, .val (.int (1 : Int32)), .val (.int (1 : Int32)), .val (.int (1 : Int32)), .val (.int (1 : Int32)), .val (.int (1 : Int32)), .val (.int (1 : Int32)), .val (.int (1 : Int32)), .unset, .unset] [(.long q0), (.ref w_GREATER)]))
                refine own_of (fun _ k => XS.lload X78.here hx rfl (hb hby at_198) rfl k) ?_
                show own_Out p e below _ (T78.setTop (mkF m 200 #[.val (.long q0), .second, .val (.long q1), .second, .val (.int p2), .val (.long q0), .second, .val (.long (q0 + ((((p2 >>> ((1 : Int32) &&& 31)) % (3 : Int32)).toInt64) - (1 : Int64)))), .second, .val (.int (1 : Int32)), .val (.int (1 : Int32)), .val (.int (1 : Int32)), .val (.int (1 : Int32)), .val (.int (1 : Int32)), .val (.int (1 : Int32)), .val (.int (1 : Int32)), .unset, .unset] [(.long (q0 + ((((p2 >>> ((1 : Int32) &&& 31)) % (3 : Int32)).toInt64) - (1 : Int64)))), (.long q0), (.ref w_GREATER)]))
                obtain ⟨cq79, kq79, q79a, q79b, q79c⟩ := isOf hZ e78 E_w_GREATER
                obtain ⟨_, _, ⟨T79, L79, k79, n79⟩, -, X79, ⟨Lc79, hQ79, l79, y79, z79⟩, st79⟩ := X78.virtualBack hx (y := (⟨"com/example/ringd/ringd/core/Comparison$Operator", "holds", "(JJ)Z"⟩ : MethodName)) (z := (⟨"com/example/ringd/ringd/core/Comparison$Operator", "holds", "(JJ)Z"⟩ : MethodName)) hown (mvT hZ (hw _ (List.mem_of_getElem? (i := 10) rfl))) (mvT hZ (hw _ (List.mem_of_getElem? (i := 11) rfl))) (notFace_of_selects (args := #[]) (mvT hZ (hw _ (List.mem_of_getElem? (i := 13) rfl)))) (mvT hZ (hw _ (List.mem_of_getElem? (i := 13) rfl))) (mvT hZ (hw _ (List.mem_of_getElem? (i := 12) rfl))) (by decide) (backOf (W := 0) (rm3e4 l Z a0 hw [] w_GREATER q0 (q0 + ((((p2 >>> ((1 : Int32) &&& 31)) % (3 : Int32)).toInt64) - (1 : Int64))) h0 n0 Z0 E_w_GREATER F_w_GREATER) hZ (hw _ (List.mem_of_getElem? (i := 14) rfl)) (hw _ (List.mem_of_getElem? (i := 8) rfl)) (by decide) (by decide)) q79a q79c (g := (mkF m 200 #[.val (.long q0), .second, .val (.long q1), .second, .val (.int p2), .val (.long q0), .second, .val (.long (q0 + ((((p2 >>> ((1 : Int32) &&& 31)) % (3 : Int32)).toInt64) - (1 : Int64)))), .second, .val (.int (1 : Int32)), .val (.int (1 : Int32)), .val (.int (1 : Int32)), .val (.int (1 : Int32)), .val (.int (1 : Int32)), .val (.int (1 : Int32)), .val (.int (1 : Int32)), .unset, .unset] [(.long (q0 + ((((p2 >>> ((1 : Int32) &&& 31)) % (3 : Int32)).toInt64) - (1 : Int64)))), (.long q0), (.ref w_GREATER)])) rfl (by rw [hml]; rfl) (Steps.refl _) (argsL := [(.long q0), (.long (q0 + ((((p2 >>> ((1 : Int32) &&& 31)) % (3 : Int32)).toInt64) - (1 : Int64))))]) (rest := []) (lenOf pd_2 rfl) rfl (by show 2 * 0 + _ ≤ _; exact Nat.le_of_eq rfl) (hb hby at_200) (fun _ _ => ⟨rfl, e78, (by decide : 0 + 0 ≤ _), (by decide : 0 + 0 ≤ _)⟩)
                dsimp only [Pt.U, Pt.locs, Pt.cells, Pt.slots] at X79 l79 y79 z79 st79 hQ79
                subst l79 y79 z79
                obtain ⟨rfl, N79q, hh79⟩ := hQ79
                have N79 := Fr.app N76 N79q
                refine own_of (fun _ k => st79.trans k) ?_
                show own_Out p e below _ (T79.setTop (mkF m 203 #[.val (.long q0), .second, .val (.long q1), .second, .val (.int p2), .val (.long q0), .second, .val (.long (q0 + ((((p2 >>> ((1 : Int32) &&& 31)) % (3 : Int32)).toInt64) - (1 : Int64)))), .second, .val (.int (1 : Int32)), .val (.int (1 : Int32)), .val (.int (1 : Int32)), .val (.int (1 : Int32)), .val (.int (1 : Int32)), .val (.int (1 : Int32)), .val (.int (1 : Int32)), .unset, .unset] [(.int (f3e4 q0 (q0 + ((((p2 >>> ((1 : Int32) &&& 31)) % (3 : Int32)).toInt64) - (1 : Int64)))))]))
                refine own_of (fun _ k => XS.iload X79.here hx rfl (hb hby at_203) rfl k) ?_
                show own_Out p e below _ (T79.setTop (mkF m 205 #[.val (.long q0), .second, .val (.long q1), .second, .val (.int p2), .val (.long q0), .second, .val (.long (q0 + ((((p2 >>> ((1 : Int32) &&& 31)) % (3 : Int32)).toInt64) - (1 : Int64)))), .second, .val (.int (1 : Int32)), .val (.int (1 : Int32)), .val (.int (1 : Int32)), .val (.int (1 : Int32)), .val (.int (1 : Int32)), .val (.int (1 : Int32)), .val (.int (1 : Int32)), .unset, .unset] [(.int (1 : Int32)), (.int (f3e4 q0 (q0 + ((((p2 >>> ((1 : Int32) &&& 31)) % (3 : Int32)).toInt64) - (1 : Int64)))))]))
                refine own_of (fun _ k => XS.ifNo X79.here hx rfl (hb hby at_205) rfl ((if0 _ _).trans (feq (by decide : ¬ ((1 : Int32) = (0 : Int32)))).1) k) ?_
                show own_Out p e below _ (T79.setTop (mkF m 208 #[.val (.long q0), .second, .val (.long q1), .second, .val (.int p2), .val (.long q0), .second, .val (.long (q0 + ((((p2 >>> ((1 : Int32) &&& 31)) % (3 : Int32)).toInt64) - (1 : Int64)))), .second, .val (.int (1 : Int32)), .val (.int (1 : Int32)), .val (.int (1 : Int32)), .val (.int (1 : Int32)), .val (.int (1 : Int32)), .val (.int (1 : Int32)), .val (.int (1 : Int32)), .unset, .unset] [(.int (f3e4 q0 (q0 + ((((p2 >>> ((1 : Int32) &&& 31)) % (3 : Int32)).toInt64) - (1 : Int64)))))]))
                refine own_of (fun _ k => XS.iload X79.here hx rfl (hb hby at_208) rfl k) ?_
                show own_Out p e below _ (T79.setTop (mkF m 210 #[.val (.long q0), .second, .val (.long q1), .second, .val (.int p2), .val (.long q0), .second, .val (.long (q0 + ((((p2 >>> ((1 : Int32) &&& 31)) % (3 : Int32)).toInt64) - (1 : Int64)))), .second, .val (.int (1 : Int32)), .val (.int (1 : Int32)), .val (.int (1 : Int32)), .val (.int (1 : Int32)), .val (.int (1 : Int32)), .val (.int (1 : Int32)), .val (.int (1 : Int32)), .unset, .unset] [(.int (1 : Int32)), (.int (f3e4 q0 (q0 + ((((p2 >>> ((1 : Int32) &&& 31)) % (3 : Int32)).toInt64) - (1 : Int64)))))]))
                refine own_of (fun _ k => XS.ifYes X79.here hx rfl (pc0 := 210) (pc' := 217) rfl (hb hby at_210) rfl ((if0 _ _).trans (feq (by decide : ¬ ((1 : Int32) = (0 : Int32)))).2) (by decide) (by decide) k) ?_
                show own_Out p e below _ (T79.setTop (mkF m 217 #[.val (.long q0), .second, .val (.long q1), .second, .val (.int p2), .val (.long q0), .second, .val (.long (q0 + ((((p2 >>> ((1 : Int32) &&& 31)) % (3 : Int32)).toInt64) - (1 : Int64)))), .second, .val (.int (1 : Int32)), .val (.int (1 : Int32)), .val (.int (1 : Int32)), .val (.int (1 : Int32)), .val (.int (1 : Int32)), .val (.int (1 : Int32)), .val (.int (1 : Int32)), .unset, .unset] [(.int (f3e4 q0 (q0 + ((((p2 >>> ((1 : Int32) &&& 31)) % (3 : Int32)).toInt64) - (1 : Int64)))))]))
                refine own_of (fun _ k => XS.iconst X79.here hx rfl (hb hby at_217) k) ?_
                show own_Out p e below _ (T79.setTop (mkF m 218 #[.val (.long q0), .second, .val (.long q1), .second, .val (.int p2), .val (.long q0), .second, .val (.long (q0 + ((((p2 >>> ((1 : Int32) &&& 31)) % (3 : Int32)).toInt64) - (1 : Int64)))), .second, .val (.int (1 : Int32)), .val (.int (1 : Int32)), .val (.int (1 : Int32)), .val (.int (1 : Int32)), .val (.int (1 : Int32)), .val (.int (1 : Int32)), .val (.int (1 : Int32)), .unset, .unset] [(.int (0 : Int32)), (.int (f3e4 q0 (q0 + ((((p2 >>> ((1 : Int32) &&& 31)) % (3 : Int32)).toInt64) - (1 : Int64)))))]))
                by_cases hc218_80 : (f3e4 q0 (q0 + ((((p2 >>> ((1 : Int32) &&& 31)) % (3 : Int32)).toInt64) - (1 : Int64)))) = (0 : Int32)
                · skip
                  refine own_of (fun _ k => XS.icmpNo X79.here hx rfl (hb hby at_218) rfl (teq hc218_80).2 k) ?_
                  show own_Out p e below _ (T79.setTop (mkF m 221 #[.val (.long q0), .second, .val (.long q1), .second, .val (.int p2), .val (.long q0), .second, .val (.long (q0 + ((((p2 >>> ((1 : Int32) &&& 31)) % (3 : Int32)).toInt64) - (1 : Int64)))), .second, .val (.int (1 : Int32)), .val (.int (1 : Int32)), .val (.int (1 : Int32)), .val (.int (1 : Int32)), .val (.int (1 : Int32)), .val (.int (1 : Int32)), .val (.int (1 : Int32)), .unset, .unset] []))
                  refine own_of (fun _ k => XS.iconst X79.here hx rfl (hb hby at_221) k) ?_
                  show own_Out p e below _ (T79.setTop (mkF m 222 #[.val (.long q0), .second, .val (.long q1), .second, .val (.int p2), .val (.long q0), .second, .val (.long (q0 + ((((p2 >>> ((1 : Int32) &&& 31)) % (3 : Int32)).toInt64) - (1 : Int64)))), .second, .val (.int (1 : Int32)), .val (.int (1 : Int32)), .val (.int (1 : Int32)), .val (.int (1 : Int32)), .val (.int (1 : Int32)), .val (.int (1 : Int32)), .val (.int (1 : Int32)), .unset, .unset] [(.int (1 : Int32))]))
                  refine own_of (fun _ k => XS.goto X79.here hx rfl (pc0 := 222) (pc' := 226) rfl (hb hby at_222) (by decide) (by decide) k) ?_
                  show own_Out p e below _ (T79.setTop (mkF m 226 #[.val (.long q0), .second, .val (.long q1), .second, .val (.int p2), .val (.long q0), .second, .val (.long (q0 + ((((p2 >>> ((1 : Int32) &&& 31)) % (3 : Int32)).toInt64) - (1 : Int64)))), .second, .val (.int (1 : Int32)), .val (.int (1 : Int32)), .val (.int (1 : Int32)), .val (.int (1 : Int32)), .val (.int (1 : Int32)), .val (.int (1 : Int32)), .val (.int (1 : Int32)), .unset, .unset] [(.int (1 : Int32))]))
                  refine own_of (fun _ k => XS.istore X79.here hx rfl (hb hby at_226) rfl (l' := #[.val (.long q0), .second, .val (.long q1), .second, .val (.int p2), .val (.long q0), .second, .val (.long (q0 + ((((p2 >>> ((1 : Int32) &&& 31)) % (3 : Int32)).toInt64) - (1 : Int64)))), .second, .val (.int (1 : Int32)), .val (.int (1 : Int32)), .val (.int (1 : Int32)), .val (.int (1 : Int32)), .val (.int (1 : Int32)), .val (.int (1 : Int32)), .val (.int (1 : Int32)), .val (.int (1 : Int32)), .unset]) rfl k) ?_
                  show own_Out p e below _ (T79.setTop (mkF m 228 #[.val (.long q0), .second, .val (.long q1), .second, .val (.int p2), .val (.long q0), .second, .val (.long (q0 + ((((p2 >>> ((1 : Int32) &&& 31)) % (3 : Int32)).toInt64) - (1 : Int64)))), .second, .val (.int (1 : Int32)), .val (.int (1 : Int32)), .val (.int (1 : Int32)), .val (.int (1 : Int32)), .val (.int (1 : Int32)), .val (.int (1 : Int32)), .val (.int (1 : Int32)), .val (.int (1 : Int32)), .unset] []))
                  obtain ⟨T81, X81, e81, st81⟩ := getS2 X79 hx hZ hown (host := "") (Or.inl (hw _ (List.mem_of_getElem? (i := 32) rfl))) Via.refl hh79 S_w_AT_LEAST (g := (mkF m 228 #[.val (.long q0), .second, .val (.long q1), .second, .val (.int p2), .val (.long q0), .second, .val (.long (q0 + ((((p2 >>> ((1 : Int32) &&& 31)) % (3 : Int32)).toInt64) - (1 : Int64)))), .second, .val (.int (1 : Int32)), .val (.int (1 : Int32)), .val (.int (1 : Int32)), .val (.int (1 : Int32)), .val (.int (1 : Int32)), .val (.int (1 : Int32)), .val (.int (1 : Int32)), .val (.int (1 : Int32)), .unset] [])) rfl (hb hby at_228)
                  refine own_of st81 ?_
                  show own_Out p e below _ (T81.setTop (mkF m 231 #[.val (.long q0), .second, .val (.long q1), .second, .val (.int p2), .val (.long q0), .second, .val (.long (q0 + ((((p2 >>> ((1 : Int32) &&& 31)) % (3 : Int32)).toInt64) - (1 : Int64)))), .second, .val (.int (1 : Int32)), .val (.int (1 : Int32)), .val (.int (1 : Int32)), .val (.int (1 : Int32)), .val (.int (1 : Int32)), .val (.int (1 : Int32)), .val (.int (1 : Int32)), .val (.int (1 : Int32)), .unset] [(.ref w_AT_LEAST)]))
                  refine own_of (fun _ k => XS.lload X81.here hx rfl (hb hby at_231) rfl k) ?_
                  show own_Out p e below _ (T81.setTop (mkF m 233 #[.val (.long q0), .second, .val (.long q1), .second, .val (.int p2), .val (.long q0), .second, .val (.long (q0 + ((((p2 >>> ((1 : Int32) &&& 31)) % (3 : Int32)).toInt64) - (1 : Int64)))), .second, .val (.int (1 : Int32)), .val (.int (1 : Int32)), .val (.int (1 : Int32)), .val (.int (1 : Int32)), .val (.int (1 : Int32)), .val (.int (1 : Int32)), .val (.int (1 : Int32)), .val (.int (1 : Int32)), .unset] [(.long q0), (.ref w_AT_LEAST)]))
                  refine own_of (fun _ k => XS.lload X81.here hx rfl (hb hby at_233) rfl k) ?_
                  show own_Out p e below _ (T81.setTop (mkF m 235 #[.val (.long q0), .second, .val (.long q1), .second, .val (.int p2), .val (.long q0), .second, .val (.long (q0 + ((((p2 >>> ((1 : Int32) &&& 31)) % (3 : Int32)).toInt64) - (1 : Int64)))), .second, .val (.int (1 : Int32)), .val (.int (1 : Int32)), .val (.int (1 : Int32)), .val (.int (1 : Int32)), .val (.int (1 : Int32)), .val (.int (1 : Int32)), .val (.int (1 : Int32)), .val (.int (1 : Int32)), .unset] [(.long (q0 + ((((p2 >>> ((1 : Int32) &&& 31)) % (3 : Int32)).toInt64) - (1 : Int64)))), (.long q0), (.ref w_AT_LEAST)]))
                  obtain ⟨cq82, kq82, q82a, q82b, q82c⟩ := isOf hZ e81 E_w_AT_LEAST
                  obtain ⟨_, _, ⟨T82, L82, k82, n82⟩, -, X82, ⟨Lc82, hQ82, l82, y82, z82⟩, st82⟩ := X81.virtualBack hx (y := (⟨"com/example/ringd/ringd/core/Comparison$Operator", "holds", "(JJ)Z"⟩ : MethodName)) (z := (⟨"com/example/ringd/ringd/core/Comparison$Operator", "holds", "(JJ)Z"⟩ : MethodName)) hown (mvT hZ (hw _ (List.mem_of_getElem? (i := 10) rfl))) (mvT hZ (hw _ (List.mem_of_getElem? (i := 11) rfl))) (notFace_of_selects (args := #[]) (mvT hZ (hw _ (List.mem_of_getElem? (i := 13) rfl)))) (mvT hZ (hw _ (List.mem_of_getElem? (i := 13) rfl))) (mvT hZ (hw _ (List.mem_of_getElem? (i := 12) rfl))) (by decide) (backOf (W := 0) (rm3e5 l Z a0 hw [] w_AT_LEAST q0 (q0 + ((((p2 >>> ((1 : Int32) &&& 31)) % (3 : Int32)).toInt64) - (1 : Int64))) h0 n0 Z0 E_w_AT_LEAST F_w_AT_LEAST) hZ (hw _ (List.mem_of_getElem? (i := 14) rfl)) (hw _ (List.mem_of_getElem? (i := 8) rfl)) (by decide) (by decide)) q82a q82c (g := (mkF m 235 #[.val (.long q0), .second, .val (.long q1), .second, .val (.int p2), .val (.long q0), .second, .val (.long (q0 + ((((p2 >>> ((1 : Int32) &&& 31)) % (3 : Int32)).toInt64) - (1 : Int64)))), .second, .val (.int (1 : Int32)), .val (.int (1 : Int32)), .val (.int (1 : Int32)), .val (.int (1 : Int32)), .val (.int (1 : Int32)), .val (.int (1 : Int32)), .val (.int (1 : Int32)), .val (.int (1 : Int32)), .unset] [(.long (q0 + ((((p2 >>> ((1 : Int32) &&& 31)) % (3 : Int32)).toInt64) - (1 : Int64)))), (.long q0), (.ref w_AT_LEAST)])) rfl (by rw [hml]; rfl) (Steps.refl _) (argsL := [(.long q0), (.long (q0 + ((((p2 >>> ((1 : Int32) &&& 31)) % (3 : Int32)).toInt64) - (1 : Int64))))]) (rest := []) (lenOf pd_2 rfl) rfl (by show 2 * 0 + _ ≤ _; exact Nat.le_of_eq rfl) (hb hby at_235) (fun _ _ => ⟨rfl, e81, (by decide : 0 + 0 ≤ _), (by decide : 0 + 0 ≤ _)⟩)
                  dsimp only [Pt.U, Pt.locs, Pt.cells, Pt.slots] at X82 l82 y82 z82 st82 hQ82
                  subst l82 y82 z82
                  obtain ⟨rfl, N82q, hh82⟩ := hQ82
                  have N82 := Fr.app N79 N82q
                  refine own_of (fun _ k => st82.trans k) ?_
                  show own_Out p e below _ (T82.setTop (mkF m 238 #[.val (.long q0), .second, .val (.long q1), .second, .val (.int p2), .val (.long q0), .second, .val (.long (q0 + ((((p2 >>> ((1 : Int32) &&& 31)) % (3 : Int32)).toInt64) - (1 : Int64)))), .second, .val (.int (1 : Int32)), .val (.int (1 : Int32)), .val (.int (1 : Int32)), .val (.int (1 : Int32)), .val (.int (1 : Int32)), .val (.int (1 : Int32)), .val (.int (1 : Int32)), .val (.int (1 : Int32)), .unset] [(.int (f3e5 q0 (q0 + ((((p2 >>> ((1 : Int32) &&& 31)) % (3 : Int32)).toInt64) - (1 : Int64)))))]))
                  refine own_of (fun _ k => XS.iload X82.here hx rfl (hb hby at_238) rfl k) ?_
                  show own_Out p e below _ (T82.setTop (mkF m 240 #[.val (.long q0), .second, .val (.long q1), .second, .val (.int p2), .val (.long q0), .second, .val (.long (q0 + ((((p2 >>> ((1 : Int32) &&& 31)) % (3 : Int32)).toInt64) - (1 : Int64)))), .second, .val (.int (1 : Int32)), .val (.int (1 : Int32)), .val (.int (1 : Int32)), .val (.int (1 : Int32)), .val (.int (1 : Int32)), .val (.int (1 : Int32)), .val (.int (1 : Int32)), .val (.int (1 : Int32)), .unset] [(.int (1 : Int32)), (.int (f3e5 q0 (q0 + ((((p2 >>> ((1 : Int32) &&& 31)) % (3 : Int32)).toInt64) - (1 : Int64)))))]))
                  by_cases hc240_83 : (f3e5 q0 (q0 + ((((p2 >>> ((1 : Int32) &&& 31)) % (3 : Int32)).toInt64) - (1 : Int64)))) = (1 : Int32)
                  · skip
                    refine own_of (fun _ k => XS.icmpNo X82.here hx rfl (hb hby at_240) rfl (teq hc240_83).2 k) ?_
                    show own_Out p e below _ (T82.setTop (mkF m 243 #[.val (.long q0), .second, .val (.long q1), .second, .val (.int p2), .val (.long q0), .second, .val (.long (q0 + ((((p2 >>> ((1 : Int32) &&& 31)) % (3 : Int32)).toInt64) - (1 : Int64)))), .second, .val (.int (1 : Int32)), .val (.int (1 : Int32)), .val (.int (1 : Int32)), .val (.int (1 : Int32)), .val (.int (1 : Int32)), .val (.int (1 : Int32)), .val (.int (1 : Int32)), .val (.int (1 : Int32)), .unset] []))
                    refine own_of (fun _ k => XS.iconst X82.here hx rfl (hb hby at_243) k) ?_
                    show own_Out p e below _ (T82.setTop (mkF m 244 #[.val (.long q0), .second, .val (.long q1), .second, .val (.int p2), .val (.long q0), .second, .val (.long (q0 + ((((p2 >>> ((1 : Int32) &&& 31)) % (3 : Int32)).toInt64) - (1 : Int64)))), .second, .val (.int (1 : Int32)), .val (.int (1 : Int32)), .val (.int (1 : Int32)), .val (.int (1 : Int32)), .val (.int (1 : Int32)), .val (.int (1 : Int32)), .val (.int (1 : Int32)), .val (.int (1 : Int32)), .unset] [(.int (1 : Int32))]))
                    refine own_of (fun _ k => XS.goto X82.here hx rfl (pc0 := 244) (pc' := 248) rfl (hb hby at_244) (by decide) (by decide) k) ?_
                    show own_Out p e below _ (T82.setTop (mkF m 248 #[.val (.long q0), .second, .val (.long q1), .second, .val (.int p2), .val (.long q0), .second, .val (.long (q0 + ((((p2 >>> ((1 : Int32) &&& 31)) % (3 : Int32)).toInt64) - (1 : Int64)))), .second, .val (.int (1 : Int32)), .val (.int (1 : Int32)), .val (.int (1 : Int32)), .val (.int (1 : Int32)), .val (.int (1 : Int32)), .val (.int (1 : Int32)), .val (.int (1 : Int32)), .val (.int (1 : Int32)), .unset] [(.int (1 : Int32))]))
                    refine own_of (fun _ k => XS.istore X82.here hx rfl (hb hby at_248) rfl (l' := #[.val (.long q0), .second, .val (.long q1), .second, .val (.int p2), .val (.long q0), .second, .val (.long (q0 + ((((p2 >>> ((1 : Int32) &&& 31)) % (3 : Int32)).toInt64) - (1 : Int64)))), .second, .val (.int (1 : Int32)), .val (.int (1 : Int32)), .val (.int (1 : Int32)), .val (.int (1 : Int32)), .val (.int (1 : Int32)), .val (.int (1 : Int32)), .val (.int (1 : Int32)), .val (.int (1 : Int32)), .val (.int (1 : Int32))]) rfl k) ?_
                    show own_Out p e below _ (T82.setTop (mkF m 250 #[.val (.long q0), .second, .val (.long q1), .second, .val (.int p2), .val (.long q0), .second, .val (.long (q0 + ((((p2 >>> ((1 : Int32) &&& 31)) % (3 : Int32)).toInt64) - (1 : Int64)))), .second, .val (.int (1 : Int32)), .val (.int (1 : Int32)), .val (.int (1 : Int32)), .val (.int (1 : Int32)), .val (.int (1 : Int32)), .val (.int (1 : Int32)), .val (.int (1 : Int32)), .val (.int (1 : Int32)), .val (.int (1 : Int32))] []))
                    refine own_of (fun _ k => XS.iload X82.here hx rfl (hb hby at_250) rfl k) ?_
                    show own_Out p e below _ (T82.setTop (mkF m 252 #[.val (.long q0), .second, .val (.long q1), .second, .val (.int p2), .val (.long q0), .second, .val (.long (q0 + ((((p2 >>> ((1 : Int32) &&& 31)) % (3 : Int32)).toInt64) - (1 : Int64)))), .second, .val (.int (1 : Int32)), .val (.int (1 : Int32)), .val (.int (1 : Int32)), .val (.int (1 : Int32)), .val (.int (1 : Int32)), .val (.int (1 : Int32)), .val (.int (1 : Int32)), .val (.int (1 : Int32)), .val (.int (1 : Int32))] [(.int (1 : Int32))]))
                    refine own_of (fun _ k => XS.ifNo X82.here hx rfl (hb hby at_252) rfl ((if0 _ _).trans (feq (by decide : ¬ ((1 : Int32) = (0 : Int32)))).1) k) ?_
                    show own_Out p e below _ (T82.setTop (mkF m 255 #[.val (.long q0), .second, .val (.long q1), .second, .val (.int p2), .val (.long q0), .second, .val (.long (q0 + ((((p2 >>> ((1 : Int32) &&& 31)) % (3 : Int32)).toInt64) - (1 : Int64)))), .second, .val (.int (1 : Int32)), .val (.int (1 : Int32)), .val (.int (1 : Int32)), .val (.int (1 : Int32)), .val (.int (1 : Int32)), .val (.int (1 : Int32)), .val (.int (1 : Int32)), .val (.int (1 : Int32)), .val (.int (1 : Int32))] []))
                    refine own_of (fun _ k => XS.iload X82.here hx rfl (hb hby at_255) rfl k) ?_
                    show own_Out p e below _ (T82.setTop (mkF m 257 #[.val (.long q0), .second, .val (.long q1), .second, .val (.int p2), .val (.long q0), .second, .val (.long (q0 + ((((p2 >>> ((1 : Int32) &&& 31)) % (3 : Int32)).toInt64) - (1 : Int64)))), .second, .val (.int (1 : Int32)), .val (.int (1 : Int32)), .val (.int (1 : Int32)), .val (.int (1 : Int32)), .val (.int (1 : Int32)), .val (.int (1 : Int32)), .val (.int (1 : Int32)), .val (.int (1 : Int32)), .val (.int (1 : Int32))] [(.int (1 : Int32))]))
                    refine own_of (fun _ k => XS.ifNo X82.here hx rfl (hb hby at_257) rfl ((if0 _ _).trans (feq (by decide : ¬ ((1 : Int32) = (0 : Int32)))).1) k) ?_
                    show own_Out p e below _ (T82.setTop (mkF m 260 #[.val (.long q0), .second, .val (.long q1), .second, .val (.int p2), .val (.long q0), .second, .val (.long (q0 + ((((p2 >>> ((1 : Int32) &&& 31)) % (3 : Int32)).toInt64) - (1 : Int64)))), .second, .val (.int (1 : Int32)), .val (.int (1 : Int32)), .val (.int (1 : Int32)), .val (.int (1 : Int32)), .val (.int (1 : Int32)), .val (.int (1 : Int32)), .val (.int (1 : Int32)), .val (.int (1 : Int32)), .val (.int (1 : Int32))] []))
                    refine own_of (fun _ k => XS.iload X82.here hx rfl (hb hby at_260) rfl k) ?_
                    show own_Out p e below _ (T82.setTop (mkF m 262 #[.val (.long q0), .second, .val (.long q1), .second, .val (.int p2), .val (.long q0), .second, .val (.long (q0 + ((((p2 >>> ((1 : Int32) &&& 31)) % (3 : Int32)).toInt64) - (1 : Int64)))), .second, .val (.int (1 : Int32)), .val (.int (1 : Int32)), .val (.int (1 : Int32)), .val (.int (1 : Int32)), .val (.int (1 : Int32)), .val (.int (1 : Int32)), .val (.int (1 : Int32)), .val (.int (1 : Int32)), .val (.int (1 : Int32))] [(.int (1 : Int32))]))
                    refine own_of (fun _ k => XS.ifNo X82.here hx rfl (hb hby at_262) rfl ((if0 _ _).trans (feq (by decide : ¬ ((1 : Int32) = (0 : Int32)))).1) k) ?_
                    show own_Out p e below _ (T82.setTop (mkF m 265 #[.val (.long q0), .second, .val (.long q1), .second, .val (.int p2), .val (.long q0), .second, .val (.long (q0 + ((((p2 >>> ((1 : Int32) &&& 31)) % (3 : Int32)).toInt64) - (1 : Int64)))), .second, .val (.int (1 : Int32)), .val (.int (1 : Int32)), .val (.int (1 : Int32)), .val (.int (1 : Int32)), .val (.int (1 : Int32)), .val (.int (1 : Int32)), .val (.int (1 : Int32)), .val (.int (1 : Int32)), .val (.int (1 : Int32))] []))
                    refine own_of (fun _ k => XS.iload X82.here hx rfl (hb hby at_265) rfl k) ?_
                    show own_Out p e below _ (T82.setTop (mkF m 267 #[.val (.long q0), .second, .val (.long q1), .second, .val (.int p2), .val (.long q0), .second, .val (.long (q0 + ((((p2 >>> ((1 : Int32) &&& 31)) % (3 : Int32)).toInt64) - (1 : Int64)))), .second, .val (.int (1 : Int32)), .val (.int (1 : Int32)), .val (.int (1 : Int32)), .val (.int (1 : Int32)), .val (.int (1 : Int32)), .val (.int (1 : Int32)), .val (.int (1 : Int32)), .val (.int (1 : Int32)), .val (.int (1 : Int32))] [(.int (1 : Int32))]))
                    refine own_of (fun _ k => XS.ifNo X82.here hx rfl (hb hby at_267) rfl ((if0 _ _).trans (feq (by decide : ¬ ((1 : Int32) = (0 : Int32)))).1) k) ?_
                    show own_Out p e below _ (T82.setTop (mkF m 270 #[.val (.long q0), .second, .val (.long q1), .second, .val (.int p2), .val (.long q0), .second, .val (.long (q0 + ((((p2 >>> ((1 : Int32) &&& 31)) % (3 : Int32)).toInt64) - (1 : Int64)))), .second, .val (.int (1 : Int32)), .val (.int (1 : Int32)), .val (.int (1 : Int32)), .val (.int (1 : Int32)), .val (.int (1 : Int32)), .val (.int (1 : Int32)), .val (.int (1 : Int32)), .val (.int (1 : Int32)), .val (.int (1 : Int32))] []))
                    refine own_of (fun _ k => XS.iload X82.here hx rfl (hb hby at_270) rfl k) ?_
                    show own_Out p e below _ (T82.setTop (mkF m 272 #[.val (.long q0), .second, .val (.long q1), .second, .val (.int p2), .val (.long q0), .second, .val (.long (q0 + ((((p2 >>> ((1 : Int32) &&& 31)) % (3 : Int32)).toInt64) - (1 : Int64)))), .second, .val (.int (1 : Int32)), .val (.int (1 : Int32)), .val (.int (1 : Int32)), .val (.int (1 : Int32)), .val (.int (1 : Int32)), .val (.int (1 : Int32)), .val (.int (1 : Int32)), .val (.int (1 : Int32)), .val (.int (1 : Int32))] [(.int (1 : Int32))]))
                    refine own_of (fun _ k => XS.ifNo X82.here hx rfl (hb hby at_272) rfl ((if0 _ _).trans (feq (by decide : ¬ ((1 : Int32) = (0 : Int32)))).1) k) ?_
                    show own_Out p e below _ (T82.setTop (mkF m 275 #[.val (.long q0), .second, .val (.long q1), .second, .val (.int p2), .val (.long q0), .second, .val (.long (q0 + ((((p2 >>> ((1 : Int32) &&& 31)) % (3 : Int32)).toInt64) - (1 : Int64)))), .second, .val (.int (1 : Int32)), .val (.int (1 : Int32)), .val (.int (1 : Int32)), .val (.int (1 : Int32)), .val (.int (1 : Int32)), .val (.int (1 : Int32)), .val (.int (1 : Int32)), .val (.int (1 : Int32)), .val (.int (1 : Int32))] []))
                    refine own_of (fun _ k => XS.iload X82.here hx rfl (hb hby at_275) rfl k) ?_
                    show own_Out p e below _ (T82.setTop (mkF m 277 #[.val (.long q0), .second, .val (.long q1), .second, .val (.int p2), .val (.long q0), .second, .val (.long (q0 + ((((p2 >>> ((1 : Int32) &&& 31)) % (3 : Int32)).toInt64) - (1 : Int64)))), .second, .val (.int (1 : Int32)), .val (.int (1 : Int32)), .val (.int (1 : Int32)), .val (.int (1 : Int32)), .val (.int (1 : Int32)), .val (.int (1 : Int32)), .val (.int (1 : Int32)), .val (.int (1 : Int32)), .val (.int (1 : Int32))] [(.int (1 : Int32))]))
                    refine own_of (fun _ k => XS.ifNo X82.here hx rfl (hb hby at_277) rfl ((if0 _ _).trans (feq (by decide : ¬ ((1 : Int32) = (0 : Int32)))).1) k) ?_
                    show own_Out p e below _ (T82.setTop (mkF m 280 #[.val (.long q0), .second, .val (.long q1), .second, .val (.int p2), .val (.long q0), .second, .val (.long (q0 + ((((p2 >>> ((1 : Int32) &&& 31)) % (3 : Int32)).toInt64) - (1 : Int64)))), .second, .val (.int (1 : Int32)), .val (.int (1 : Int32)), .val (.int (1 : Int32)), .val (.int (1 : Int32)), .val (.int (1 : Int32)), .val (.int (1 : Int32)), .val (.int (1 : Int32)), .val (.int (1 : Int32)), .val (.int (1 : Int32))] []))
                    refine own_of (fun _ k => XS.iconst X82.here hx rfl (hb hby at_280) k) ?_
                    show own_Out p e below _ (T82.setTop (mkF m 281 #[.val (.long q0), .second, .val (.long q1), .second, .val (.int p2), .val (.long q0), .second, .val (.long (q0 + ((((p2 >>> ((1 : Int32) &&& 31)) % (3 : Int32)).toInt64) - (1 : Int64)))), .second, .val (.int (1 : Int32)), .val (.int (1 : Int32)), .val (.int (1 : Int32)), .val (.int (1 : Int32)), .val (.int (1 : Int32)), .val (.int (1 : Int32)), .val (.int (1 : Int32)), .val (.int (1 : Int32)), .val (.int (1 : Int32))] [(.int (1 : Int32))]))
                    refine own_of (fun _ k => XS.goto X82.here hx rfl (pc0 := 281) (pc' := 285) rfl (hb hby at_281) (by decide) (by decide) k) ?_
                    show own_Out p e below _ (T82.setTop (mkF m 285 #[.val (.long q0), .second, .val (.long q1), .second, .val (.int p2), .val (.long q0), .second, .val (.long (q0 + ((((p2 >>> ((1 : Int32) &&& 31)) % (3 : Int32)).toInt64) - (1 : Int64)))), .second, .val (.int (1 : Int32)), .val (.int (1 : Int32)), .val (.int (1 : Int32)), .val (.int (1 : Int32)), .val (.int (1 : Int32)), .val (.int (1 : Int32)), .val (.int (1 : Int32)), .val (.int (1 : Int32)), .val (.int (1 : Int32))] [(.int (1 : Int32))]))
                    exact own_outN X82 hx hlk (t := .boolean) hret (by simp) (hb hby at_285) (z' := (1 : Int32)) rfl (Q := Q0 Z q0 q1 p2 w_EQUAL w_NOT_EQUAL w_LESS w_AT_MOST w_GREATER w_AT_LEAST h0 n0) ⟨rfl, N82⟩ (by decide) (by decide)
                  · skip
                    exact (dead0_19 q0 q1 p2 hc7_1 hc37_63 hc57_65 hc96_68 hc126_71 hc161_74 hc183_77 hc218_80 hc240_83).elim
                · skip
                  exact (dead0_20 q0 q1 p2 hc7_1 hc37_63 hc57_65 hc96_68 hc126_71 hc161_74 hc183_77 hc218_80).elim
              · skip
                exact (dead0_21 q0 q1 p2 hc7_1 hc37_63 hc57_65 hc96_68 hc126_71 hc161_74 hc183_77).elim
            · skip
              exact (dead0_22 q0 q1 p2 hc7_1 hc37_63 hc57_65 hc96_68 hc126_71 hc161_74).elim
          · skip
            exact (dead0_23 q0 q1 p2 hc7_1 hc37_63 hc57_65 hc96_68 hc126_71).elim
        · skip
          exact (dead0_24 q0 q1 p2 hc7_1 hc37_63 hc57_65 hc96_68).elim
      · skip
        refine own_of (fun _ k => XS.ifYes X64.here hx rfl (pc0 := 57) (pc' := 64) rfl (hb hby at_57) rfl (own_lfeq hc57_65).2 (by decide) (by decide) k) ?_
        show own_Out p e below _ (T64.setTop (mkF m 64 #[.val (.long q0), .second, .val (.long q1), .second, .val (.int p2), .val (.long q0), .second, .val (.long (q0 + ((((p2 >>> ((1 : Int32) &&& 31)) % (3 : Int32)).toInt64) - (1 : Int64)))), .second, .val (.int (1 : Int32)), .unset, .unset, .unset, .unset, .unset, .unset, .unset, .unset] []))
        refine own_of (fun _ k => XS.iconst X64.here hx rfl (hb hby at_64) k) ?_
        show own_Out p e below _ (T64.setTop (mkF m 65 #[.val (.long q0), .second, .val (.long q1), .second, .val (.int p2), .val (.long q0), .second, .val (.long (q0 + ((((p2 >>> ((1 : Int32) &&& 31)) % (3 : Int32)).toInt64) - (1 : Int64)))), .second, .val (.int (1 : Int32)), .unset, .unset, .unset, .unset, .unset, .unset, .unset, .unset] [(.int (0 : Int32))]))
        refine own_of (fun _ k => XS.istore X64.here hx rfl (hb hby at_65) rfl (l' := #[.val (.long q0), .second, .val (.long q1), .second, .val (.int p2), .val (.long q0), .second, .val (.long (q0 + ((((p2 >>> ((1 : Int32) &&& 31)) % (3 : Int32)).toInt64) - (1 : Int64)))), .second, .val (.int (1 : Int32)), .val (.int (0 : Int32)), .unset, .unset, .unset, .unset, .unset, .unset, .unset]) rfl k) ?_
        show own_Out p e below _ (T64.setTop (mkF m 67 #[.val (.long q0), .second, .val (.long q1), .second, .val (.int p2), .val (.long q0), .second, .val (.long (q0 + ((((p2 >>> ((1 : Int32) &&& 31)) % (3 : Int32)).toInt64) - (1 : Int64)))), .second, .val (.int (1 : Int32)), .val (.int (0 : Int32)), .unset, .unset, .unset, .unset, .unset, .unset, .unset] []))
        refine own_of (fun _ k => XS.iload X64.here hx rfl (hb hby at_67) rfl k) ?_
        show own_Out p e below _ (T64.setTop (mkF m 69 #[.val (.long q0), .second, .val (.long q1), .second, .val (.int p2), .val (.long q0), .second, .val (.long (q0 + ((((p2 >>> ((1 : Int32) &&& 31)) % (3 : Int32)).toInt64) - (1 : Int64)))), .second, .val (.int (1 : Int32)), .val (.int (0 : Int32)), .unset, .unset, .unset, .unset, .unset, .unset, .unset] [(.int (1 : Int32))]))
        refine own_of (fun _ k => XS.ifNo X64.here hx rfl (hb hby at_69) rfl ((if0 _ _).trans (feq (by decide : ¬ ((1 : Int32) = (0 : Int32)))).1) k) ?_
        show own_Out p e below _ (T64.setTop (mkF m 72 #[.val (.long q0), .second, .val (.long q1), .second, .val (.int p2), .val (.long q0), .second, .val (.long (q0 + ((((p2 >>> ((1 : Int32) &&& 31)) % (3 : Int32)).toInt64) - (1 : Int64)))), .second, .val (.int (1 : Int32)), .val (.int (0 : Int32)), .unset, .unset, .unset, .unset, .unset, .unset, .unset] []))
        refine own_of (fun _ k => XS.iload X64.here hx rfl (hb hby at_72) rfl k) ?_
        show own_Out p e below _ (T64.setTop (mkF m 74 #[.val (.long q0), .second, .val (.long q1), .second, .val (.int p2), .val (.long q0), .second, .val (.long (q0 + ((((p2 >>> ((1 : Int32) &&& 31)) % (3 : Int32)).toInt64) - (1 : Int64)))), .second, .val (.int (1 : Int32)), .val (.int (0 : Int32)), .unset, .unset, .unset, .unset, .unset, .unset, .unset] [(.int (0 : Int32))]))
        refine own_of (fun _ k => XS.ifYes X64.here hx rfl (pc0 := 74) (pc' := 81) rfl (hb hby at_74) rfl ((if0 _ _).trans (teq (by decide : (0 : Int32) = (0 : Int32))).1) (by decide) (by decide) k) ?_
        show own_Out p e below _ (T64.setTop (mkF m 81 #[.val (.long q0), .second, .val (.long q1), .second, .val (.int p2), .val (.long q0), .second, .val (.long (q0 + ((((p2 >>> ((1 : Int32) &&& 31)) % (3 : Int32)).toInt64) - (1 : Int64)))), .second, .val (.int (1 : Int32)), .val (.int (0 : Int32)), .unset, .unset, .unset, .unset, .unset, .unset, .unset] []))
        refine own_of (fun _ k => XS.iconst X64.here hx rfl (hb hby at_81) k) ?_
        show own_Out p e below _ (T64.setTop (mkF m 82 #[.val (.long q0), .second, .val (.long q1), .second, .val (.int p2), .val (.long q0), .second, .val (.long (q0 + ((((p2 >>> ((1 : Int32) &&& 31)) % (3 : Int32)).toInt64) - (1 : Int64)))), .second, .val (.int (1 : Int32)), .val (.int (0 : Int32)), .unset, .unset, .unset, .unset, .unset, .unset, .unset] [(.int (0 : Int32))]))
        refine own_of (fun _ k => XS.istore X64.here hx rfl (hb hby at_82) rfl (l' := #[.val (.long q0), .second, .val (.long q1), .second, .val (.int p2), .val (.long q0), .second, .val (.long (q0 + ((((p2 >>> ((1 : Int32) &&& 31)) % (3 : Int32)).toInt64) - (1 : Int64)))), .second, .val (.int (1 : Int32)), .val (.int (0 : Int32)), .val (.int (0 : Int32)), .unset, .unset, .unset, .unset, .unset, .unset]) rfl k) ?_
        show own_Out p e below _ (T64.setTop (mkF m 84 #[.val (.long q0), .second, .val (.long q1), .second, .val (.int p2), .val (.long q0), .second, .val (.long (q0 + ((((p2 >>> ((1 : Int32) &&& 31)) % (3 : Int32)).toInt64) - (1 : Int64)))), .second, .val (.int (1 : Int32)), .val (.int (0 : Int32)), .val (.int (0 : Int32)), .unset, .unset, .unset, .unset, .unset, .unset] []))
        obtain ⟨T84, X84, e84, st84⟩ := getS2 X64 hx hZ hown (host := "") (Or.inl (hw _ (List.mem_of_getElem? (i := 7) rfl))) Via.refl hh64 S_w_EQUAL (g := (mkF m 84 #[.val (.long q0), .second, .val (.long q1), .second, .val (.int p2), .val (.long q0), .second, .val (.long (q0 + ((((p2 >>> ((1 : Int32) &&& 31)) % (3 : Int32)).toInt64) - (1 : Int64)))), .second, .val (.int (1 : Int32)), .val (.int (0 : Int32)), .val (.int (0 : Int32)), .unset, .unset, .unset, .unset, .unset, .unset] [])) rfl (hb hby at_84)
        refine own_of st84 ?_
        show own_Out p e below _ (T84.setTop (mkF m 87 #[.val (.long q0), .second, .val (.long q1), .second, .val (.int p2), .val (.long q0), .second, .val (.long (q0 + ((((p2 >>> ((1 : Int32) &&& 31)) % (3 : Int32)).toInt64) - (1 : Int64)))), .second, .val (.int (1 : Int32)), .val (.int (0 : Int32)), .val (.int (0 : Int32)), .unset, .unset, .unset, .unset, .unset, .unset] [(.ref w_EQUAL)]))
        refine own_of (fun _ k => XS.lload X84.here hx rfl (hb hby at_87) rfl k) ?_
        show own_Out p e below _ (T84.setTop (mkF m 89 #[.val (.long q0), .second, .val (.long q1), .second, .val (.int p2), .val (.long q0), .second, .val (.long (q0 + ((((p2 >>> ((1 : Int32) &&& 31)) % (3 : Int32)).toInt64) - (1 : Int64)))), .second, .val (.int (1 : Int32)), .val (.int (0 : Int32)), .val (.int (0 : Int32)), .unset, .unset, .unset, .unset, .unset, .unset] [(.long q0), (.ref w_EQUAL)]))
        refine own_of (fun _ k => XS.lload X84.here hx rfl (hb hby at_89) rfl k) ?_
        show own_Out p e below _ (T84.setTop (mkF m 91 #[.val (.long q0), .second, .val (.long q1), .second, .val (.int p2), .val (.long q0), .second, .val (.long (q0 + ((((p2 >>> ((1 : Int32) &&& 31)) % (3 : Int32)).toInt64) - (1 : Int64)))), .second, .val (.int (1 : Int32)), .val (.int (0 : Int32)), .val (.int (0 : Int32)), .unset, .unset, .unset, .unset, .unset, .unset] [(.long (q0 + ((((p2 >>> ((1 : Int32) &&& 31)) % (3 : Int32)).toInt64) - (1 : Int64)))), (.long q0), (.ref w_EQUAL)]))
        obtain ⟨cq85, kq85, q85a, q85b, q85c⟩ := isOf hZ e84 E_w_EQUAL
        obtain ⟨_, _, ⟨T85, L85, k85, n85⟩, -, X85, ⟨Lc85, hQ85, l85, y85, z85⟩, st85⟩ := X84.virtualBack hx (y := (⟨"com/example/ringd/ringd/core/Comparison$Operator", "holds", "(JJ)Z"⟩ : MethodName)) (z := (⟨"com/example/ringd/ringd/core/Comparison$Operator", "holds", "(JJ)Z"⟩ : MethodName)) hown (mvT hZ (hw _ (List.mem_of_getElem? (i := 10) rfl))) (mvT hZ (hw _ (List.mem_of_getElem? (i := 11) rfl))) (notFace_of_selects (args := #[]) (mvT hZ (hw _ (List.mem_of_getElem? (i := 13) rfl)))) (mvT hZ (hw _ (List.mem_of_getElem? (i := 13) rfl))) (mvT hZ (hw _ (List.mem_of_getElem? (i := 12) rfl))) (by decide) (backOf (W := 0) (rm3e0 l Z a0 hw [] w_EQUAL q0 (q0 + ((((p2 >>> ((1 : Int32) &&& 31)) % (3 : Int32)).toInt64) - (1 : Int64))) h0 n0 Z0 E_w_EQUAL F_w_EQUAL) hZ (hw _ (List.mem_of_getElem? (i := 14) rfl)) (hw _ (List.mem_of_getElem? (i := 8) rfl)) (by decide) (by decide)) q85a q85c (g := (mkF m 91 #[.val (.long q0), .second, .val (.long q1), .second, .val (.int p2), .val (.long q0), .second, .val (.long (q0 + ((((p2 >>> ((1 : Int32) &&& 31)) % (3 : Int32)).toInt64) - (1 : Int64)))), .second, .val (.int (1 : Int32)), .val (.int (0 : Int32)), .val (.int (0 : Int32)), .unset, .unset, .unset, .unset, .unset, .unset] [(.long (q0 + ((((p2 >>> ((1 : Int32) &&& 31)) % (3 : Int32)).toInt64) - (1 : Int64)))), (.long q0), (.ref w_EQUAL)])) rfl (by rw [hml]; rfl) (Steps.refl _) (argsL := [(.long q0), (.long (q0 + ((((p2 >>> ((1 : Int32) &&& 31)) % (3 : Int32)).toInt64) - (1 : Int64))))]) (rest := []) (lenOf pd_2 rfl) rfl (by show 2 * 0 + _ ≤ _; exact Nat.le_of_eq rfl) (hb hby at_91) (fun _ _ => ⟨rfl, e84, (by decide : 0 + 0 ≤ _), (by decide : 0 + 0 ≤ _)⟩)
        dsimp only [Pt.U, Pt.locs, Pt.cells, Pt.slots] at X85 l85 y85 z85 st85 hQ85
        subst l85 y85 z85
        obtain ⟨rfl, N85q, hh85⟩ := hQ85
        have N85 := Fr.app N64 N85q
        refine own_of (fun _ k => st85.trans k) ?_
        show own_Out p e below _ (T85.setTop (mkF m 94 #[.val (.long q0), .second, .val (.long q1), .second, .val (.int p2), .val (.long q0), .second, .val (.long (q0 + ((((p2 >>> ((1 : Int32) &&& 31)) % (3 : Int32)).toInt64) - (1 : Int64)))), .second, .val (.int (1 : Int32)), .val (.int (0 : Int32)), .val (.int (0 : Int32)), .unset, .unset, .unset, .unset, .unset, .unset] [(.int (f3e0 q0 (q0 + ((((p2 >>> ((1 : Int32) &&& 31)) % (3 : Int32)).toInt64) - (1 : Int64)))))]))
        refine own_of (fun _ k => XS.iload X85.here hx rfl (hb hby at_94) rfl k) ?_
        show own_Out p e below _ (T85.setTop (mkF m 96 #[.val (.long q0), .second, .val (.long q1), .second, .val (.int p2), .val (.long q0), .second, .val (.long (q0 + ((((p2 >>> ((1 : Int32) &&& 31)) % (3 : Int32)).toInt64) - (1 : Int64)))), .second, .val (.int (1 : Int32)), .val (.int (0 : Int32)), .val (.int (0 : Int32)), .unset, .unset, .unset, .unset, .unset, .unset] [(.int (0 : Int32)), (.int (f3e0 q0 (q0 + ((((p2 >>> ((1 : Int32) &&& 31)) % (3 : Int32)).toInt64) - (1 : Int64)))))]))
        by_cases hc96_86 : (f3e0 q0 (q0 + ((((p2 >>> ((1 : Int32) &&& 31)) % (3 : Int32)).toInt64) - (1 : Int64)))) = (0 : Int32)
        · skip
          refine own_of (fun _ k => XS.icmpNo X85.here hx rfl (hb hby at_96) rfl (teq hc96_86).2 k) ?_
          show own_Out p e below _ (T85.setTop (mkF m 99 #[.val (.long q0), .second, .val (.long q1), .second, .val (.int p2), .val (.long q0), .second, .val (.long (q0 + ((((p2 >>> ((1 : Int32) &&& 31)) % (3 : Int32)).toInt64) - (1 : Int64)))), .second, .val (.int (1 : Int32)), .val (.int (0 : Int32)), .val (.int (0 : Int32)), .unset, .unset, .unset, .unset, .unset, .unset] []))
          refine own_of (fun _ k => XS.iconst X85.here hx rfl (hb hby at_99) k) ?_
          show own_Out p e below _ (T85.setTop (mkF m 100 #[.val (.long q0), .second, .val (.long q1), .second, .val (.int p2), .val (.long q0), .second, .val (.long (q0 + ((((p2 >>> ((1 : Int32) &&& 31)) % (3 : Int32)).toInt64) - (1 : Int64)))), .second, .val (.int (1 : Int32)), .val (.int (0 : Int32)), .val (.int (0 : Int32)), .unset, .unset, .unset, .unset, .unset, .unset] [(.int (1 : Int32))]))
          refine own_of (fun _ k => XS.goto X85.here hx rfl (pc0 := 100) (pc' := 104) rfl (hb hby at_100) (by decide) (by decide) k) ?_
          show own_Out p e below _ (T85.setTop (mkF m 104 #[.val (.long q0), .second, .val (.long q1), .second, .val (.int p2), .val (.long q0), .second, .val (.long (q0 + ((((p2 >>> ((1 : Int32) &&& 31)) % (3 : Int32)).toInt64) - (1 : Int64)))), .second, .val (.int (1 : Int32)), .val (.int (0 : Int32)), .val (.int (0 : Int32)), .unset, .unset, .unset, .unset, .unset, .unset] [(.int (1 : Int32))]))
          refine own_of (fun _ k => XS.istore X85.here hx rfl (hb hby at_104) rfl (l' := #[.val (.long q0), .second, .val (.long q1), .second, .val (.int p2), .val (.long q0), .second, .val (.long (q0 + ((((p2 >>> ((1 : Int32) &&& 31)) % (3 : Int32)).toInt64) - (1 : Int64)))), .second, .val (.int (1 : Int32)), .val (.int (0 : Int32)), .val (.int (0 : Int32)), .val (.int (1 : Int32)), .unset, .unset, .unset, .unset, .unset]) rfl k) ?_
          show own_Out p e below _ (T85.setTop (mkF m 106 #[.val (.long q0), .second, .val (.long q1), .second, .val (.int p2), .val (.long q0), .second, .val (.long (q0 + ((((p2 >>> ((1 : Int32) &&& 31)) % (3 : Int32)).toInt64) - (1 : Int64)))), .second, .val (.int (1 : Int32)), .val (.int (0 : Int32)), .val (.int (0 : Int32)), .val (.int (1 : Int32)), .unset, .unset, .unset, .unset, .unset] []))
          obtain ⟨T87, X87, e87, st87⟩ := getS2 X85 hx hZ hown (host := "") (Or.inl (hw _ (List.mem_of_getElem? (i := 24) rfl))) Via.refl hh85 S_w_NOT_EQUAL (g := (mkF m 106 #[.val (.long q0), .second, .val (.long q1), .second, .val (.int p2), .val (.long q0), .second, .val (.long (q0 + ((((p2 >>> ((1 : Int32) &&& 31)) % (3 : Int32)).toInt64) - (1 : Int64)))), .second, .val (.int (1 : Int32)), .val (.int (0 : Int32)), .val (.int (0 : Int32)), .val (.int (1 : Int32)), .unset, .unset, .unset, .unset, .unset] [])) rfl (hb hby at_106)
          refine own_of st87 ?_
          show own_Out p e below _ (T87.setTop (mkF m 109 #[.val (.long q0), .second, .val (.long q1), .second, .val (.int p2), .val (.long q0), .second, .val (.long (q0 + ((((p2 >>> ((1 : Int32) &&& 31)) % (3 : Int32)).toInt64) - (1 : Int64)))), .second, .val (.int (1 : Int32)), .val (.int (0 : Int32)), .val (.int (0 : Int32)), .val (.int (1 : Int32)), .unset, .unset, .unset, .unset, .unset] [(.ref w_NOT_EQUAL)]))
          refine own_of (fun _ k => XS.lload X87.here hx rfl (hb hby at_109) rfl k) ?_
          show own_Out p e below _ (T87.setTop (mkF m 111 #[.val (.long q0), .second, .val (.long q1), .second, .val (.int p2), .val (.long q0), .second, .val (.long (q0 + ((((p2 >>> ((1 : Int32) &&& 31)) % (3 : Int32)).toInt64) - (1 : Int64)))), .second, .val (.int (1 : Int32)), .val (.int (0 : Int32)), .val (.int (0 : Int32)), .val (.int (1 : Int32)), .unset, .unset, .unset, .unset, .unset] [(.long q0), (.ref w_NOT_EQUAL)]))
          refine own_of (fun _ k => XS.lload X87.here hx rfl (hb hby at_111) rfl k) ?_
          show own_Out p e below _ (T87.setTop (mkF m 113 #[.val (.long q0), .second, .val (.long q1), .second, .val (.int p2), .val (.long q0), .second, .val (.long (q0 + ((((p2 >>> ((1 : Int32) &&& 31)) % (3 : Int32)).toInt64) - (1 : Int64)))), .second, .val (.int (1 : Int32)), .val (.int (0 : Int32)), .val (.int (0 : Int32)), .val (.int (1 : Int32)), .unset, .unset, .unset, .unset, .unset] [(.long (q0 + ((((p2 >>> ((1 : Int32) &&& 31)) % (3 : Int32)).toInt64) - (1 : Int64)))), (.long q0), (.ref w_NOT_EQUAL)]))
          obtain ⟨cq88, kq88, q88a, q88b, q88c⟩ := isOf hZ e87 E_w_NOT_EQUAL
          obtain ⟨_, _, ⟨T88, L88, k88, n88⟩, -, X88, ⟨Lc88, hQ88, l88, y88, z88⟩, st88⟩ := X87.virtualBack hx (y := (⟨"com/example/ringd/ringd/core/Comparison$Operator", "holds", "(JJ)Z"⟩ : MethodName)) (z := (⟨"com/example/ringd/ringd/core/Comparison$Operator", "holds", "(JJ)Z"⟩ : MethodName)) hown (mvT hZ (hw _ (List.mem_of_getElem? (i := 10) rfl))) (mvT hZ (hw _ (List.mem_of_getElem? (i := 11) rfl))) (notFace_of_selects (args := #[]) (mvT hZ (hw _ (List.mem_of_getElem? (i := 13) rfl)))) (mvT hZ (hw _ (List.mem_of_getElem? (i := 13) rfl))) (mvT hZ (hw _ (List.mem_of_getElem? (i := 12) rfl))) (by decide) (backOf (W := 0) (rm3e1 l Z a0 hw [] w_NOT_EQUAL q0 (q0 + ((((p2 >>> ((1 : Int32) &&& 31)) % (3 : Int32)).toInt64) - (1 : Int64))) h0 n0 Z0 E_w_NOT_EQUAL F_w_NOT_EQUAL) hZ (hw _ (List.mem_of_getElem? (i := 14) rfl)) (hw _ (List.mem_of_getElem? (i := 8) rfl)) (by decide) (by decide)) q88a q88c (g := (mkF m 113 #[.val (.long q0), .second, .val (.long q1), .second, .val (.int p2), .val (.long q0), .second, .val (.long (q0 + ((((p2 >>> ((1 : Int32) &&& 31)) % (3 : Int32)).toInt64) - (1 : Int64)))), .second, .val (.int (1 : Int32)), .val (.int (0 : Int32)), .val (.int (0 : Int32)), .val (.int (1 : Int32)), .unset, .unset, .unset, .unset, .unset] [(.long (q0 + ((((p2 >>> ((1 : Int32) &&& 31)) % (3 : Int32)).toInt64) - (1 : Int64)))), (.long q0), (.ref w_NOT_EQUAL)])) rfl (by rw [hml]; rfl) (Steps.refl _) (argsL := [(.long q0), (.long (q0 + ((((p2 >>> ((1 : Int32) &&& 31)) % (3 : Int32)).toInt64) - (1 : Int64))))]) (rest := []) (lenOf pd_2 rfl) rfl (by show 2 * 0 + _ ≤ _; exact Nat.le_of_eq rfl) (hb hby at_113) (fun _ _ => ⟨rfl, e87, (by decide : 0 + 0 ≤ _), (by decide : 0 + 0 ≤ _)⟩)
          dsimp only [Pt.U, Pt.locs, Pt.cells, Pt.slots] at X88 l88 y88 z88 st88 hQ88
          subst l88 y88 z88
          obtain ⟨rfl, N88q, hh88⟩ := hQ88
          have N88 := Fr.app N85 N88q
          refine own_of (fun _ k => st88.trans k) ?_
          show own_Out p e below _ (T88.setTop (mkF m 116 #[.val (.long q0), .second, .val (.long q1), .second, .val (.int p2), .val (.long q0), .second, .val (.long (q0 + ((((p2 >>> ((1 : Int32) &&& 31)) % (3 : Int32)).toInt64) - (1 : Int64)))), .second, .val (.int (1 : Int32)), .val (.int (0 : Int32)), .val (.int (0 : Int32)), .val (.int (1 : Int32)), .unset, .unset, .unset, .unset, .unset] [(.int (f3e1 q0 (q0 + ((((p2 >>> ((1 : Int32) &&& 31)) % (3 : Int32)).toInt64) - (1 : Int64)))))]))
          refine own_of (fun _ k => XS.iload X88.here hx rfl (hb hby at_116) rfl k) ?_
          show own_Out p e below _ (T88.setTop (mkF m 118 #[.val (.long q0), .second, .val (.long q1), .second, .val (.int p2), .val (.long q0), .second, .val (.long (q0 + ((((p2 >>> ((1 : Int32) &&& 31)) % (3 : Int32)).toInt64) - (1 : Int64)))), .second, .val (.int (1 : Int32)), .val (.int (0 : Int32)), .val (.int (0 : Int32)), .val (.int (1 : Int32)), .unset, .unset, .unset, .unset, .unset] [(.int (0 : Int32)), (.int (f3e1 q0 (q0 + ((((p2 >>> ((1 : Int32) &&& 31)) % (3 : Int32)).toInt64) - (1 : Int64)))))]))
          refine own_of (fun _ k => XS.ifNo X88.here hx rfl (hb hby at_118) rfl ((if0 _ _).trans (teq (by decide : (0 : Int32) = (0 : Int32))).2) k) ?_
          show own_Out p e below _ (T88.setTop (mkF m 121 #[.val (.long q0), .second, .val (.long q1), .second, .val (.int p2), .val (.long q0), .second, .val (.long (q0 + ((((p2 >>> ((1 : Int32) &&& 31)) % (3 : Int32)).toInt64) - (1 : Int64)))), .second, .val (.int (1 : Int32)), .val (.int (0 : Int32)), .val (.int (0 : Int32)), .val (.int (1 : Int32)), .unset, .unset, .unset, .unset, .unset] [(.int (f3e1 q0 (q0 + ((((p2 >>> ((1 : Int32) &&& 31)) % (3 : Int32)).toInt64) - (1 : Int64)))))]))
          refine own_of (fun _ k => XS.iconst X88.here hx rfl (hb hby at_121) k) ?_
          show own_Out p e below _ (T88.setTop (mkF m 122 #[.val (.long q0), .second, .val (.long q1), .second, .val (.int p2), .val (.long q0), .second, .val (.long (q0 + ((((p2 >>> ((1 : Int32) &&& 31)) % (3 : Int32)).toInt64) - (1 : Int64)))), .second, .val (.int (1 : Int32)), .val (.int (0 : Int32)), .val (.int (0 : Int32)), .val (.int (1 : Int32)), .unset, .unset, .unset, .unset, .unset] [(.int (1 : Int32)), (.int (f3e1 q0 (q0 + ((((p2 >>> ((1 : Int32) &&& 31)) % (3 : Int32)).toInt64) - (1 : Int64)))))]))
          refine own_of (fun _ k => XS.goto X88.here hx rfl (pc0 := 122) (pc' := 126) rfl (hb hby at_122) (by decide) (by decide) k) ?_
          show own_Out p e below _ (T88.setTop (mkF m 126 #[.val (.long q0), .second, .val (.long q1), .second, .val (.int p2), .val (.long q0), .second, .val (.long (q0 + ((((p2 >>> ((1 : Int32) &&& 31)) % (3 : Int32)).toInt64) - (1 : Int64)))), .second, .val (.int (1 : Int32)), .val (.int (0 : Int32)), .val (.int (0 : Int32)), .val (.int (1 : Int32)), .unset, .unset, .unset, .unset, .unset] [(.int (1 : Int32)), (.int (f3e1 q0 (q0 + ((((p2 >>> ((1 : Int32) &&& 31)) % (3 : Int32)).toInt64) - (1 : Int64)))))]))
          by_cases hc126_89 : (f3e1 q0 (q0 + ((((p2 >>> ((1 : Int32) &&& 31)) % (3 : Int32)).toInt64) - (1 : Int64)))) = (1 : Int32)
          · skip
            refine own_of (fun _ k => XS.icmpNo X88.here hx rfl (hb hby at_126) rfl (teq hc126_89).2 k) ?_
            show own_Out p e below _ (T88.setTop (mkF m 129 #[.val (.long q0), .second, .val (.long q1), .second, .val (.int p2), .val (.long q0), .second, .val (.long (q0 + ((((p2 >>> ((1 : Int32) &&& 31)) % (3 : Int32)).toInt64) - (1 : Int64)))), .second, .val (.int (1 : Int32)), .val (.int (0 : Int32)), .val (.int (0 : Int32)), .val (.int (1 : Int32)), .unset, .unset, .unset, .unset, .unset] []))
            refine own_of (fun _ k => XS.iconst X88.here hx rfl (hb hby at_129) k) ?_
            show own_Out p e below _ (T88.setTop (mkF m 130 #[.val (.long q0), .second, .val (.long q1), .second, .val (.int p2), .val (.long q0), .second, .val (.long (q0 + ((((p2 >>> ((1 : Int32) &&& 31)) % (3 : Int32)).toInt64) - (1 : Int64)))), .second, .val (.int (1 : Int32)), .val (.int (0 : Int32)), .val (.int (0 : Int32)), .val (.int (1 : Int32)), .unset, .unset, .unset, .unset, .unset] [(.int (1 : Int32))]))
            refine own_of (fun _ k => XS.goto X88.here hx rfl (pc0 := 130) (pc' := 134) rfl (hb hby at_130) (by decide) (by decide) k) ?_
            show own_Out p e below _ (T88.setTop (mkF m 134 #[.val (.long q0), .second, .val (.long q1), .second, .val (.int p2), .val (.long q0), .second, .val (.long (q0 + ((((p2 >>> ((1 : Int32) &&& 31)) % (3 : Int32)).toInt64) - (1 : Int64)))), .second, .val (.int (1 : Int32)), .val (.int (0 : Int32)), .val (.int (0 : Int32)), .val (.int (1 : Int32)), .unset, .unset, .unset, .unset, .unset] [(.int (1 : Int32))]))
            refine own_of (fun _ k => XS.istore X88.here hx rfl (hb hby at_134) rfl (l' := #[.val (.long q0), .second, .val (.long q1), .second, .val (.int p2), .val (.long q0), .second, .val (.long (q0 + ((((p2 >>> ((1 : Int32) &&& 31)) % (3 : Int32)).toInt64) - (1 : Int64)))), .second, .val (.int (1 : Int32)), .val (.int (0 : Int32)), .val (.int (0 : Int32)), .val (.int (1 : Int32)), .val (.int (1 : Int32)), .unset, .unset, .unset, .unset]) rfl k) ?_
            show own_Out p e below _ (T88.setTop (mkF m 136 #[.val (.long q0), .second, .val (.long q1), .second, .val (.int p2), .val (.long q0), .second, .val (.long (q0 + ((((p2 >>> ((1 : Int32) &&& 31)) % (3 : Int32)).toInt64) - (1 : Int64)))), .second, .val (.int (1 : Int32)), .val (.int (0 : Int32)), .val (.int (0 : Int32)), .val (.int (1 : Int32)), .val (.int (1 : Int32)), .unset, .unset, .unset, .unset] []))
            obtain ⟨T90, X90, e90, st90⟩ := getS2 X88 hx hZ hown (host := "") (Or.inl (hw _ (List.mem_of_getElem? (i := 26) rfl))) Via.refl hh88 S_w_LESS (g := (mkF m 136 #[.val (.long q0), .second, .val (.long q1), .second, .val (.int p2), .val (.long q0), .second, .val (.long (q0 + ((((p2 >>> ((1 : Int32) &&& 31)) % (3 : Int32)).toInt64) - (1 : Int64)))), .second, .val (.int (1 : Int32)), .val (.int (0 : Int32)), .val (.int (0 : Int32)), .val (.int (1 : Int32)), .val (.int (1 : Int32)), .unset, .unset, .unset, .unset] [])) rfl (hb hby at_136)
            refine own_of st90 ?_
            show own_Out p e below _ (T90.setTop (mkF m 139 #[.val (.long q0), .second, .val (.long q1), .second, .val (.int p2), .val (.long q0), .second, .val (.long (q0 + ((((p2 >>> ((1 : Int32) &&& 31)) % (3 : Int32)).toInt64) - (1 : Int64)))), .second, .val (.int (1 : Int32)), .val (.int (0 : Int32)), .val (.int (0 : Int32)), .val (.int (1 : Int32)), .val (.int (1 : Int32)), .unset, .unset, .unset, .unset] [(.ref w_LESS)]))
            refine own_of (fun _ k => XS.lload X90.here hx rfl (hb hby at_139) rfl k) ?_
            show own_Out p e below _ (T90.setTop (mkF m 141 #[.val (.long q0), .second, .val (.long q1), .second, .val (.int p2), .val (.long q0), .second, .val (.long (q0 + ((((p2 >>> ((1 : Int32) &&& 31)) % (3 : Int32)).toInt64) - (1 : Int64)))), .second, .val (.int (1 : Int32)), .val (.int (0 : Int32)), .val (.int (0 : Int32)), .val (.int (1 : Int32)), .val (.int (1 : Int32)), .unset, .unset, .unset, .unset] [(.long q0), (.ref w_LESS)]))
            refine own_of (fun _ k => XS.lload X90.here hx rfl (hb hby at_141) rfl k) ?_
            show own_Out p e below _ (T90.setTop (mkF m 143 #[.val (.long q0), .second, .val (.long q1), .second, .val (.int p2), .val (.long q0), .second, .val (.long (q0 + ((((p2 >>> ((1 : Int32) &&& 31)) % (3 : Int32)).toInt64) - (1 : Int64)))), .second, .val (.int (1 : Int32)), .val (.int (0 : Int32)), .val (.int (0 : Int32)), .val (.int (1 : Int32)), .val (.int (1 : Int32)), .unset, .unset, .unset, .unset] [(.long (q0 + ((((p2 >>> ((1 : Int32) &&& 31)) % (3 : Int32)).toInt64) - (1 : Int64)))), (.long q0), (.ref w_LESS)]))
            obtain ⟨cq91, kq91, q91a, q91b, q91c⟩ := isOf hZ e90 E_w_LESS
            obtain ⟨_, _, ⟨T91, L91, k91, n91⟩, -, X91, ⟨Lc91, hQ91, l91, y91, z91⟩, st91⟩ := X90.virtualBack hx (y := (⟨"com/example/ringd/ringd/core/Comparison$Operator", "holds", "(JJ)Z"⟩ : MethodName)) (z := (⟨"com/example/ringd/ringd/core/Comparison$Operator", "holds", "(JJ)Z"⟩ : MethodName)) hown (mvT hZ (hw _ (List.mem_of_getElem? (i := 10) rfl))) (mvT hZ (hw _ (List.mem_of_getElem? (i := 11) rfl))) (notFace_of_selects (args := #[]) (mvT hZ (hw _ (List.mem_of_getElem? (i := 13) rfl)))) (mvT hZ (hw _ (List.mem_of_getElem? (i := 13) rfl))) (mvT hZ (hw _ (List.mem_of_getElem? (i := 12) rfl))) (by decide) (backOf (W := 0) (rm3e2 l Z a0 hw [] w_LESS q0 (q0 + ((((p2 >>> ((1 : Int32) &&& 31)) % (3 : Int32)).toInt64) - (1 : Int64))) h0 n0 Z0 E_w_LESS F_w_LESS) hZ (hw _ (List.mem_of_getElem? (i := 14) rfl)) (hw _ (List.mem_of_getElem? (i := 8) rfl)) (by decide) (by decide)) q91a q91c (g := (mkF m 143 #[.val (.long q0), .second, .val (.long q1), .second, .val (.int p2), .val (.long q0), .second, .val (.long (q0 + ((((p2 >>> ((1 : Int32) &&& 31)) % (3 : Int32)).toInt64) - (1 : Int64)))), .second, .val (.int (1 : Int32)), .val (.int (0 : Int32)), .val (.int (0 : Int32)), .val (.int (1 : Int32)), .val (.int (1 : Int32)), .unset, .unset, .unset, .unset] [(.long (q0 + ((((p2 >>> ((1 : Int32) &&& 31)) % (3 : Int32)).toInt64) - (1 : Int64)))), (.long q0), (.ref w_LESS)])) rfl (by rw [hml]; rfl) (Steps.refl _) (argsL := [(.long q0), (.long (q0 + ((((p2 >>> ((1 : Int32) &&& 31)) % (3 : Int32)).toInt64) - (1 : Int64))))]) (rest := []) (lenOf pd_2 rfl) rfl (by show 2 * 0 + _ ≤ _; exact Nat.le_of_eq rfl) (hb hby at_143) (fun _ _ => ⟨rfl, e90, (by decide : 0 + 0 ≤ _), (by decide : 0 + 0 ≤ _)⟩)
            dsimp only [Pt.U, Pt.locs, Pt.cells, Pt.slots] at X91 l91 y91 z91 st91 hQ91
            subst l91 y91 z91
            obtain ⟨rfl, N91q, hh91⟩ := hQ91
            have N91 := Fr.app N88 N91q
            refine own_of (fun _ k => st91.trans k) ?_
            show own_Out p e below _ (T91.setTop (mkF m 146 #[.val (.long q0), .second, .val (.long q1), .second, .val (.int p2), .val (.long q0), .second, .val (.long (q0 + ((((p2 >>> ((1 : Int32) &&& 31)) % (3 : Int32)).toInt64) - (1 : Int64)))), .second, .val (.int (1 : Int32)), .val (.int (0 : Int32)), .val (.int (0 : Int32)), .val (.int (1 : Int32)), .val (.int (1 : Int32)), .unset, .unset, .unset, .unset] [(.int (f3e2 q0 (q0 + ((((p2 >>> ((1 : Int32) &&& 31)) % (3 : Int32)).toInt64) - (1 : Int64)))))]))
            refine own_of (fun _ k => XS.iload X91.here hx rfl (hb hby at_146) rfl k) ?_
            show own_Out p e below _ (T91.setTop (mkF m 148 #[.val (.long q0), .second, .val (.long q1), .second, .val (.int p2), .val (.long q0), .second, .val (.long (q0 + ((((p2 >>> ((1 : Int32) &&& 31)) % (3 : Int32)).toInt64) - (1 : Int64)))), .second, .val (.int (1 : Int32)), .val (.int (0 : Int32)), .val (.int (0 : Int32)), .val (.int (1 : Int32)), .val (.int (1 : Int32)), .unset, .unset, .unset, .unset] [(.int (1 : Int32)), (.int (f3e2 q0 (q0 + ((((p2 >>> ((1 : Int32) &&& 31)) % (3 : Int32)).toInt64) - (1 : Int64)))))]))
            refine own_of (fun _ k => XS.ifNo X91.here hx rfl (hb hby at_148) rfl ((if0 _ _).trans (feq (by decide : ¬ ((1 : Int32) = (0 : Int32)))).1) k) ?_
            show own_Out p e below _ (T91.setTop (mkF m 151 #[.val (.long q0), .second, .val (.long q1), .second, .val (.int p2), .val (.long q0), .second, .val (.long (q0 + ((((p2 >>> ((1 : Int32) &&& 31)) % (3 : Int32)).toInt64) - (1 : Int64)))), .second, .val (.int (1 : Int32)), .val (.int (0 : Int32)), .val (.int (0 : Int32)), .val (.int (1 : Int32)), .val (.int (1 : Int32)), .unset, .unset, .unset, .unset] [(.int (f3e2 q0 (q0 + ((((p2 >>> ((1 : Int32) &&& 31)) % (3 : Int32)).toInt64) - (1 : Int64)))))]))
            refine own_of (fun _ k => XS.iload X91.here hx rfl (hb hby at_151) rfl k) ?_
            show own_Out p e below _ (T91.setTop (mkF m 153 #[.val (.long q0), .second, .val (.long q1), .second, .val (.int p2), .val (.long q0), .second, .val (.long (q0 + ((((p2 >>> ((1 : Int32) &&& 31)) % (3 : Int32)).toInt64) - (1 : Int64)))), .second, .val (.int (1 : Int32)), .val (.int (0 : Int32)), .val (.int (0 : Int32)), .val (.int (1 : Int32)), .val (.int (1 : Int32)), .unset, .unset, .unset, .unset] [(.int (0 : Int32)), (.int (f3e2 q0 (q0 + ((((p2 >>> ((1 : Int32) &&& 31)) % (3 : Int32)).toInt64) - (1 : Int64)))))]))
            refine own_of (fun _ k => XS.ifNo X91.here hx rfl (hb hby at_153) rfl ((if0 _ _).trans (teq (by decide : (0 : Int32) = (0 : Int32))).2) k) ?_
            show own_Out p e below _ (T91.setTop (mkF m 156 #[.val (.long q0), .second, .val (.long q1), .second, .val (.int p2), .val (.long q0), .second, .val (.long (q0 + ((((p2 >>> ((1 : Int32) &&& 31)) % (3 : Int32)).toInt64) - (1 : Int64)))), .second, .val (.int (1 : Int32)), .val (.int (0 : Int32)), .val (.int (0 : Int32)), .val (.int (1 : Int32)), .val (.int (1 : Int32)), .unset, .unset, .unset, .unset] [(.int (f3e2 q0 (q0 + ((((p2 >>> ((1 : Int32) &&& 31)) % (3 : Int32)).toInt64) - (1 : Int64)))))]))
            refine own_of (fun _ k => XS.iconst X91.here hx rfl (hb hby at_156) k) ?_
            show own_Out p e below _ (T91.setTop (mkF m 157 #[.val (.long q0), .second, .val (.long q1), .second, .val (.int p2), .val (.long q0), .second, .val (.long (q0 + ((((p2 >>> ((1 : Int32) &&& 31)) % (3 : Int32)).toInt64) - (1 : Int64)))), .second, .val (.int (1 : Int32)), .val (.int (0 : Int32)), .val (.int (0 : Int32)), .val (.int (1 : Int32)), .val (.int (1 : Int32)), .unset, .unset, .unset, .unset] [(.int (1 : Int32)), (.int (f3e2 q0 (q0 + ((((p2 >>> ((1 : Int32) &&& 31)) % (3 : Int32)).toInt64) - (1 : Int64)))))]))
            refine own_of (fun _ k => XS.goto X91.here hx rfl (pc0 := 157) (pc' := 161) rfl (hb hby at_157) (by decide) (by decide) k) ?_
            show own_Out p e below _ (T91.setTop (mkF m 161 #[.val (.long q0), .second, .val (.long q1), .second, .val (.int p2), .val (.long q0), .second, .val (.long (q0 + ((((p2 >>> ((1 : Int32) &&& 31)) % (3 : Int32)).toInt64) - (1 : Int64)))), .second, .val (.int (1 : Int32)), .val (.int (0 : Int32)), .val (.int (0 : Int32)), .val (.int (1 : Int32)), .val (.int (1 : Int32)), .unset, .unset, .unset, .unset] [(.int (1 : Int32)), (.int (f3e2 q0 (q0 + ((((p2 >>> ((1 : Int32) &&& 31)) % (3 : Int32)).toInt64) - (1 : Int64)))))]))
            by_cases hc161_92 : (f3e2 q0 (q0 + ((((p2 >>> ((1 : Int32) &&& 31)) % (3 : Int32)).toInt64) - (1 : Int64)))) = (1 : Int32)
            · skip
              refine own_of (fun _ k => XS.icmpNo X91.here hx rfl (hb hby at_161) rfl (teq hc161_92).2 k) ?_
              show own_Out p e below _ (T91.setTop (mkF m 164 #[.val (.long q0), .second, .val (.long q1), .second, .val (.int p2), .val (.long q0), .second, .val (.long (q0 + ((((p2 >>> ((1 : Int32) &&& 31)) % (3 : Int32)).toInt64) - (1 : Int64)))), .second, .val (.int (1 : Int32)), .val (.int (0 : Int32)), .val (.int (0 : Int32)), .val (.int (1 : Int32)), .val (.int (1 : Int32)), .unset, .unset, .unset, .unset] []))
              refine own_of (fun _ k => XS.iconst X91.here hx rfl (hb hby at_164) k) ?_
              show own_Out p e below _ (T91.setTop (mkF m 165 #[.val (.long q0), .second, .val (.long q1), .second, .val (.int p2), .val (.long q0), .second, .val (.long (q0 + ((((p2 >>> ((1 : Int32) &&& 31)) % (3 : Int32)).toInt64) - (1 : Int64)))), .second, .val (.int (1 : Int32)), .val (.int (0 : Int32)), .val (.int (0 : Int32)), .val (.int (1 : Int32)), .val (.int (1 : Int32)), .unset, .unset, .unset, .unset] [(.int (1 : Int32))]))
              refine own_of (fun _ k => XS.goto X91.here hx rfl (pc0 := 165) (pc' := 169) rfl (hb hby at_165) (by decide) (by decide) k) ?_
              show own_Out p e below _ (T91.setTop (mkF m 169 #[.val (.long q0), .second, .val (.long q1), .second, .val (.int p2), .val (.long q0), .second, .val (.long (q0 + ((((p2 >>> ((1 : Int32) &&& 31)) % (3 : Int32)).toInt64) - (1 : Int64)))), .second, .val (.int (1 : Int32)), .val (.int (0 : Int32)), .val (.int (0 : Int32)), .val (.int (1 : Int32)), .val (.int (1 : Int32)), .unset, .unset, .unset, .unset] [(.int (1 : Int32))]))
              refine own_of (fun _ k => XS.istore X91.here hx rfl (hb hby at_169) rfl (l' := #[.val (.long q0), .second, .val (.long q1), .second, .val (.int p2), .val (.long q0), .second, .val (.long (q0 + ((((p2 >>> ((1 : Int32) &&& 31)) % (3 : Int32)).toInt64) - (1 : Int64)))), .second, .val (.int (1 : Int32)), .val (.int (0 : Int32)), .val (.int (0 : Int32)), .val (.int (1 : Int32)), .val (.int (1 : Int32)), .val (.int (1 : Int32)), .unset, .unset, .unset]) rfl k) ?_
              show own_Out p e below _ (T91.setTop (mkF m 171 #[.val (.long q0), .second, .val (.long q1), .second, .val (.int p2), .val (.long q0), .second, .val (.long (q0 + ((((p2 >>> ((1 : Int32) &&& 31)) % (3 : Int32)).toInt64) - (1 : Int64)))), .second, .val (.int (1 : Int32)), .val (.int (0 : Int32)), .val (.int (0 : Int32)), .val (.int (1 : Int32)), .val (.int (1 : Int32)), .val (.int (1 : Int32)), .unset, .unset, .unset] []))
              obtain ⟨T93, X93, e93, st93⟩ := getS2 X91 hx hZ hown (host := "") (Or.inl (hw _ (List.mem_of_getElem? (i := 28) rfl))) Via.refl hh91 S_w_AT_MOST (g := (mkF m 171 #[.val (.long q0), .second, .val (.long q1), .second, .val (.int p2), .val (.long q0), .second, .val (.long (q0 + ((((p2 >>> ((1 : Int32) &&& 31)) % (3 : Int32)).toInt64) - (1 : Int64)))), .second, .val (.int (1 : Int32)), .val (.int (0 : Int32)), .val (.int (0 : Int32)), .val (.int (1 : Int32)), .val (.int (1 : Int32)), .val (.int (1 : Int32)), .unset, .unset, .unset] [])) rfl (hb hby at_171)
              refine own_of st93 ?_
              show own_Out p e below _ (T93.setTop (mkF m 174 #[.val (.long q0), .second, .val (.long q1), .second, .val (.int p2), .val (.long q0), .second, .val (.long (q0 + ((((p2 >>> ((1 : Int32) &&& 31)) % (3 : Int32)).toInt64) - (1 : Int64)))), .second, .val (.int (1 : Int32)), .val (.int (0 : Int32)), .val (.int (0 : Int32)), .val (.int (1 : Int32)), .val (.int (1 : Int32)), .val (.int (1 : Int32)), .unset, .unset, .unset] [(.ref w_AT_MOST)]))
              refine own_of (fun _ k => XS.lload X93.here hx rfl (hb hby at_174) rfl k) ?_
              show own_Out p e below _ (T93.setTop (mkF m 176 #[.val (.long q0), .second, .val (.long q1), .second, .val (.int p2), .val (.long q0), .second, .val (.long (q0 + ((((p2 >>> ((1 : Int32) &&& 31)) % (3 : Int32)).toInt64) - (1 : Int64)))), .second, .val (.int (1 : Int32)), .val (.int (0 : Int32)), .val (.int (0 : Int32)), .val (.int (1 : Int32)), .val (.int (1 : Int32)), .val (.int (1 : Int32)), .unset, .unset, .unset] [(.long q0), (.ref w_AT_MOST)]))
              refine own_of (fun _ k => XS.lload X93.here hx rfl (hb hby at_176) rfl k) ?_
              show own_Out p e below _ (T93.setTop (mkF m 178 #[.val (.long q0), .second, .val (.long q1), .second, .val (.int p2), .val (.long q0), .second, .val (.long (q0 + ((((p2 >>> ((1 : Int32) &&& 31)) % (3 : Int32)).toInt64) - (1 : Int64)))), .second, .val (.int (1 : Int32)), .val (.int (0 : Int32)), .val (.int (0 : Int32)), .val (.int (1 : Int32)), .val (.int (1 : Int32)), .val (.int (1 : Int32)), .unset, .unset, .unset] [(.long (q0 + ((((p2 >>> ((1 : Int32) &&& 31)) % (3 : Int32)).toInt64) - (1 : Int64)))), (.long q0), (.ref w_AT_MOST)]))
              obtain ⟨cq94, kq94, q94a, q94b, q94c⟩ := isOf hZ e93 E_w_AT_MOST
              obtain ⟨_, _, ⟨T94, L94, k94, n94⟩, -, X94, ⟨Lc94, hQ94, l94, y94, z94⟩, st94⟩ := X93.virtualBack hx (y := (⟨"com/example/ringd/ringd/core/Comparison$Operator", "holds", "(JJ)Z"⟩ : MethodName)) (z := (⟨"com/example/ringd/ringd/core/Comparison$Operator", "holds", "(JJ)Z"⟩ : MethodName)) hown (mvT hZ (hw _ (List.mem_of_getElem? (i := 10) rfl))) (mvT hZ (hw _ (List.mem_of_getElem? (i := 11) rfl))) (notFace_of_selects (args := #[]) (mvT hZ (hw _ (List.mem_of_getElem? (i := 13) rfl)))) (mvT hZ (hw _ (List.mem_of_getElem? (i := 13) rfl))) (mvT hZ (hw _ (List.mem_of_getElem? (i := 12) rfl))) (by decide) (backOf (W := 0) (rm3e3 l Z a0 hw [] w_AT_MOST q0 (q0 + ((((p2 >>> ((1 : Int32) &&& 31)) % (3 : Int32)).toInt64) - (1 : Int64))) h0 n0 Z0 E_w_AT_MOST F_w_AT_MOST) hZ (hw _ (List.mem_of_getElem? (i := 14) rfl)) (hw _ (List.mem_of_getElem? (i := 8) rfl)) (by decide) (by decide)) q94a q94c (g := (mkF m 178 #[.val (.long q0), .second, .val (.long q1), .second, .val (.int p2), .val (.long q0), .second, .val (.long (q0 + ((((p2 >>> ((1 : Int32) &&& 31)) % (3 : Int32)).toInt64) - (1 : Int64)))), .second, .val (.int (1 : Int32)), .val (.int (0 : Int32)), .val (.int (0 : Int32)), .val (.int (1 : Int32)), .val (.int (1 : Int32)), .val (.int (1 : Int32)), .unset, .unset, .unset] [(.long (q0 + ((((p2 >>> ((1 : Int32) &&& 31)) % (3 : Int32)).toInt64) - (1 : Int64)))), (.long q0), (.ref w_AT_MOST)])) rfl (by rw [hml]; rfl) (Steps.refl _) (argsL := [(.long q0), (.long (q0 + ((((p2 >>> ((1 : Int32) &&& 31)) % (3 : Int32)).toInt64) - (1 : Int64))))]) (rest := []) (lenOf pd_2 rfl) rfl (by show 2 * 0 + _ ≤ _; exact Nat.le_of_eq rfl) (hb hby at_178) (fun _ _ => ⟨rfl, e93, (by decide : 0 + 0 ≤ _), (by decide : 0 + 0 ≤ _)⟩)
              dsimp only [Pt.U, Pt.locs, Pt.cells, Pt.slots] at X94 l94 y94 z94 st94 hQ94
              subst l94 y94 z94
              obtain ⟨rfl, N94q, hh94⟩ := hQ94
              have N94 := Fr.app N91 N94q
              refine own_of (fun _ k => st94.trans k) ?_
              show own_Out p e below _ (T94.setTop (mkF m 181 #[.val (.long q0), .second, .val (.long q1), .second, .val (.int p2), .val (.long q0), .second, .val (.long (q0 + ((((p2 >>> ((1 : Int32) &&& 31)) % (3 : Int32)).toInt64) - (1 : Int64)))), .second, .val (.int (1 : Int32)), .val (.int (0 : Int32)), .val (.int (0 : Int32)), .val (.int (1 : Int32)), .val (.int (1 : Int32)), .val (.int (1 : Int32)), .unset, .unset, .unset] [(.int (f3e3 q0 (q0 + ((((p2 >>> ((1 : Int32) &&& 31)) % (3 : Int32)).toInt64) - (1 : Int64)))))]))
              refine own_of (fun _ k => XS.iload X94.here hx rfl (hb hby at_181) rfl k) ?_
              show own_Out p e below _ (T94.setTop (mkF m 183 #[.val (.long q0), .second, .val (.long q1), .second, .val (.int p2), .val (.long q0), .second, .val (.long (q0 + ((((p2 >>> ((1 : Int32) &&& 31)) % (3 : Int32)).toInt64) - (1 : Int64)))), .second, .val (.int (1 : Int32)), .val (.int (0 : Int32)), .val (.int (0 : Int32)), .val (.int (1 : Int32)), .val (.int (1 : Int32)), .val (.int (1 : Int32)), .unset, .unset, .unset] [(.int (1 : Int32)), (.int (f3e3 q0 (q0 + ((((p2 >>> ((1 : Int32) &&& 31)) % (3 : Int32)).toInt64) - (1 : Int64)))))]))
              by_cases hc183_95 : (f3e3 q0 (q0 + ((((p2 >>> ((1 : Int32) &&& 31)) % (3 : Int32)).toInt64) - (1 : Int64)))) = (1 : Int32)
              · skip
                refine own_of (fun _ k => XS.icmpNo X94.here hx rfl (hb hby at_183) rfl (teq hc183_95).2 k) ?_
                show own_Out p e below _ (T94.setTop (mkF m 186 #[.val (.long q0), .second, .val (.long q1), .second, .val (.int p2), .val (.long q0), .second, .val (.long (q0 + ((((p2 >>> ((1 : Int32) &&& 31)) % (3 : Int32)).toInt64) - (1 : Int64)))), .second, .val (.int (1 : Int32)), .val (.int (0 : Int32)), .val (.int (0 : Int32)), .val (.int (1 : Int32)), .val (.int (1 : Int32)), .val (.int (1 : Int32)), .unset, .unset, .unset] []))
                refine own_of (fun _ k => XS.iconst X94.here hx rfl (hb hby at_186) k) ?_
                show own_Out p e below _ (T94.setTop (mkF m 187 #[.val (.long q0), .second, .val (.long q1), .second, .val (.int p2), .val (.long q0), .second, .val (.long (q0 + ((((p2 >>> ((1 : Int32) &&& 31)) % (3 : Int32)).toInt64) - (1 : Int64)))), .second, .val (.int (1 : Int32)), .val (.int (0 : Int32)), .val (.int (0 : Int32)), .val (.int (1 : Int32)), .val (.int (1 : Int32)), .val (.int (1 : Int32)), .unset, .unset, .unset] [(.int (1 : Int32))]))
                refine own_of (fun _ k => XS.goto X94.here hx rfl (pc0 := 187) (pc' := 191) rfl (hb hby at_187) (by decide) (by decide) k) ?_
                show own_Out p e below _ (T94.setTop (mkF m 191 #[.val (.long q0), .second, .val (.long q1), .second, .val (.int p2), .val (.long q0), .second, .val (.long (q0 + ((((p2 >>> ((1 : Int32) &&& 31)) % (3 : Int32)).toInt64) - (1 : Int64)))), .second, .val (.int (1 : Int32)), .val (.int (0 : Int32)), .val (.int (0 : Int32)), .val (.int (1 : Int32)), .val (.int (1 : Int32)), .val (.int (1 : Int32)), .unset, .unset, .unset] [(.int (1 : Int32))]))
                refine own_of (fun _ k => XS.istore X94.here hx rfl (hb hby at_191) rfl (l' := #[.val (.long q0), .second, .val (.long q1), .second, .val (.int p2), .val (.long q0), .second, .val (.long (q0 + ((((p2 >>> ((1 : Int32) &&& 31)) % (3 : Int32)).toInt64) - (1 : Int64)))), .second, .val (.int (1 : Int32)), .val (.int (0 : Int32)), .val (.int (0 : Int32)), .val (.int (1 : Int32)), .val (.int (1 : Int32)), .val (.int (1 : Int32)), .val (.int (1 : Int32)), .unset, .unset]) rfl k) ?_
                show own_Out p e below _ (T94.setTop (mkF m 193 #[.val (.long q0), .second, .val (.long q1), .second, .val (.int p2), .val (.long q0), .second, .val (.long (q0 + ((((p2 >>> ((1 : Int32) &&& 31)) % (3 : Int32)).toInt64) - (1 : Int64)))), .second, .val (.int (1 : Int32)), .val (.int (0 : Int32)), .val (.int (0 : Int32)), .val (.int (1 : Int32)), .val (.int (1 : Int32)), .val (.int (1 : Int32)), .val (.int (1 : Int32)), .unset, .unset] []))
                obtain ⟨T96, X96, e96, st96⟩ := getS2 X94 hx hZ hown (host := "") (Or.inl (hw _ (List.mem_of_getElem? (i := 30) rfl))) Via.refl hh94 S_w_GREATER (g := (mkF m 193 #[.val (.long q0), .second, .val (.long q1), .second, .val (.int p2), .val (.long q0), .second, .val (.long (q0 + ((((p2 >>> ((1 : Int32) &&& 31)) % (3 : Int32)).toInt64) - (1 : Int64)))), .second, .val (.int (1 : Int32)), .val (.int (0 : Int32)), .val (.int (0 : Int32)), .val (.int (1 : Int32)), .val (.int (1 : Int32)), .val (.int (1 : Int32)), .val (.int (1 : Int32)), .unset, .unset] [])) rfl (hb hby at_193)
                refine own_of st96 ?_
                show own_Out p e below _ (T96.setTop (mkF m 196 #[.val (.long q0), .second, .val (.long q1), .second, .val (.int p2), .val (.long q0), .second, .val (.long (q0 + ((((p2 >>> ((1 : Int32) &&& 31)) % (3 : Int32)).toInt64) - (1 : Int64)))), .second, .val (.int (1 : Int32)), .val (.int (0 : Int32)), .val (.int (0 : Int32)), .val (.int (1 : Int32)), .val (.int (1 : Int32)), .val (.int (1 : Int32)), .val (.int (1 : Int32)), .unset, .unset] [(.ref w_GREATER)]))
                refine own_of (fun _ k => XS.lload X96.here hx rfl (hb hby at_196) rfl k) ?_
                show own_Out p e below _ (T96.setTop (mkF m 198 #[.val (.long q0), .second, .val (.long q1), .second, .val (.int p2), .val (.long q0), .second, .val (.long (q0 + ((((p2 >>> ((1 : Int32) &&& 31)) % (3 : Int32)).toInt64) - (1 : Int64)))), .second, .val (.int (1 : Int32)), .val (.int (0 : Int32)), .val (.int (0 : Int32)), .val (.int (1 : Int32)), .val (.int (1 : Int32)), .val (.int (1 : Int32)), .val (.int (1 : Int32)), .unset, .unset] [(.long q0), (.ref w_GREATER)]))
                refine own_of (fun _ k => XS.lload X96.here hx rfl (hb hby at_198) rfl k) ?_
                show own_Out p e below _ (T96.setTop (mkF m 200 #[.val (.long q0), .second, .val (.long q1), .second, .val (.int p2), .val (.long q0), .second, .val (.long (q0 + ((((p2 >>> ((1 : Int32) &&& 31)) % (3 : Int32)).toInt64) - (1 : Int64)))), .second, .val (.int (1 : Int32)), .val (.int (0 : Int32)), .val (.int (0 : Int32)), .val (.int (1 : Int32)), .val (.int (1 : Int32)), .val (.int (1 : Int32)), .val (.int (1 : Int32)), .unset, .unset] [(.long (q0 + ((((p2 >>> ((1 : Int32) &&& 31)) % (3 : Int32)).toInt64) - (1 : Int64)))), (.long q0), (.ref w_GREATER)]))
                obtain ⟨cq97, kq97, q97a, q97b, q97c⟩ := isOf hZ e96 E_w_GREATER
                obtain ⟨_, _, ⟨T97, L97, k97, n97⟩, -, X97, ⟨Lc97, hQ97, l97, y97, z97⟩, st97⟩ := X96.virtualBack hx (y := (⟨"com/example/ringd/ringd/core/Comparison$Operator", "holds", "(JJ)Z"⟩ : MethodName)) (z := (⟨"com/example/ringd/ringd/core/Comparison$Operator", "holds", "(JJ)Z"⟩ : MethodName)) hown (mvT hZ (hw _ (List.mem_of_getElem? (i := 10) rfl))) (mvT hZ (hw _ (List.mem_of_getElem? (i := 11) rfl))) (notFace_of_selects (args := #[]) (mvT hZ (hw _ (List.mem_of_getElem? (i := 13) rfl)))) (mvT hZ (hw _ (List.mem_of_getElem? (i := 13) rfl))) (mvT hZ (hw _ (List.mem_of_getElem? (i := 12) rfl))) (by decide) (backOf (W := 0) (rm3e4 l Z a0 hw [] w_GREATER q0 (q0 + ((((p2 >>> ((1 : Int32) &&& 31)) % (3 : Int32)).toInt64) - (1 : Int64))) h0 n0 Z0 E_w_GREATER F_w_GREATER) hZ (hw _ (List.mem_of_getElem? (i := 14) rfl)) (hw _ (List.mem_of_getElem? (i := 8) rfl)) (by decide) (by decide)) q97a q97c (g := (mkF m 200 #[.val (.long q0), .second, .val (.long q1), .second, .val (.int p2), .val (.long q0), .second, .val (.long (q0 + ((((p2 >>> ((1 : Int32) &&& 31)) % (3 : Int32)).toInt64) - (1 : Int64)))), .second, .val (.int (1 : Int32)), .val (.int (0 : Int32)), .val (.int (0 : Int32)), .val (.int (1 : Int32)), .val (.int (1 : Int32)), .val (.int (1 : Int32)), .val (.int (1 : Int32)), .unset, .unset] [(.long (q0 + ((((p2 >>> ((1 : Int32) &&& 31)) % (3 : Int32)).toInt64) - (1 : Int64)))), (.long q0), (.ref w_GREATER)])) rfl (by rw [hml]; rfl) (Steps.refl _) (argsL := [(.long q0), (.long (q0 + ((((p2 >>> ((1 : Int32) &&& 31)) % (3 : Int32)).toInt64) - (1 : Int64))))]) (rest := []) (lenOf pd_2 rfl) rfl (by show 2 * 0 + _ ≤ _; exact Nat.le_of_eq rfl) (hb hby at_200) (fun _ _ => ⟨rfl, e96, (by decide : 0 + 0 ≤ _), (by decide : 0 + 0 ≤ _)⟩)
                dsimp only [Pt.U, Pt.locs, Pt.cells, Pt.slots] at X97 l97 y97 z97 st97 hQ97
                subst l97 y97 z97
                obtain ⟨rfl, N97q, hh97⟩ := hQ97
                have N97 := Fr.app N94 N97q
                refine own_of (fun _ k => st97.trans k) ?_
                show own_Out p e below _ (T97.setTop (mkF m 203 #[.val (.long q0), .second, .val (.long q1), .second, .val (.int p2), .val (.long q0), .second, .val (.long (q0 + ((((p2 >>> ((1 : Int32) &&& 31)) % (3 : Int32)).toInt64) - (1 : Int64)))), .second, .val (.int (1 : Int32)), .val (.int (0 : Int32)), .val (.int (0 : Int32)), .val (.int (1 : Int32)), .val (.int (1 : Int32)), .val (.int (1 : Int32)), .val (.int (1 : Int32)), .unset, .unset] [(.int (f3e4 q0 (q0 + ((((p2 >>> ((1 : Int32) &&& 31)) % (3 : Int32)).toInt64) - (1 : Int64)))))]))
                refine own_of (fun _ k => XS.iload X97.here hx rfl (hb hby at_203) rfl k) ?_
                show own_Out p e below _ (T97.setTop (mkF m 205 #[.val (.long q0), .second, .val (.long q1), .second, .val (.int p2), .val (.long q0), .second, .val (.long (q0 + ((((p2 >>> ((1 : Int32) &&& 31)) % (3 : Int32)).toInt64) - (1 : Int64)))), .second, .val (.int (1 : Int32)), .val (.int (0 : Int32)), .val (.int (0 : Int32)), .val (.int (1 : Int32)), .val (.int (1 : Int32)), .val (.int (1 : Int32)), .val (.int (1 : Int32)), .unset, .unset] [(.int (0 : Int32)), (.int (f3e4 q0 (q0 + ((((p2 >>> ((1 : Int32) &&& 31)) % (3 : Int32)).toInt64) - (1 : Int64)))))]))
                refine own_of (fun _ k => XS.ifYes X97.here hx rfl (pc0 := 205) (pc' := 217) rfl (hb hby at_205) rfl ((if0 _ _).trans (teq (by decide : (0 : Int32) = (0 : Int32))).1) (by decide) (by decide) k) ?_
                show own_Out p e below _ (T97.setTop (mkF m 217 #[.val (.long q0), .second, .val (.long q1), .second, .val (.int p2), .val (.long q0), .second, .val (.long (q0 + ((((p2 >>> ((1 : Int32) &&& 31)) % (3 : Int32)).toInt64) - (1 : Int64)))), .second, .val (.int (1 : Int32)), .val (.int (0 : Int32)), .val (.int (0 : Int32)), .val (.int (1 : Int32)), .val (.int (1 : Int32)), .val (.int (1 : Int32)), .val (.int (1 : Int32)), .unset, .unset] [(.int (f3e4 q0 (q0 + ((((p2 >>> ((1 : Int32) &&& 31)) % (3 : Int32)).toInt64) - (1 : Int64)))))]))
                refine own_of (fun _ k => XS.iconst X97.here hx rfl (hb hby at_217) k) ?_
                show own_Out p e below _ (T97.setTop (mkF m 218 #[.val (.long q0), .second, .val (.long q1), .second, .val (.int p2), .val (.long q0), .second, .val (.long (q0 + ((((p2 >>> ((1 : Int32) &&& 31)) % (3 : Int32)).toInt64) - (1 : Int64)))), .second, .val (.int (1 : Int32)), .val (.int (0 : Int32)), .val (.int (0 : Int32)), .val (.int (1 : Int32)), .val (.int (1 : Int32)), .val (.int (1 : Int32)), .val (.int (1 : Int32)), .unset, .unset] [(.int (0 : Int32)), (.int (f3e4 q0 (q0 + ((((p2 >>> ((1 : Int32) &&& 31)) % (3 : Int32)).toInt64) - (1 : Int64)))))]))
                by_cases hc218_98 : (f3e4 q0 (q0 + ((((p2 >>> ((1 : Int32) &&& 31)) % (3 : Int32)).toInt64) - (1 : Int64)))) = (0 : Int32)
                · skip
                  refine own_of (fun _ k => XS.icmpNo X97.here hx rfl (hb hby at_218) rfl (teq hc218_98).2 k) ?_
                  show own_Out p e below _ (T97.setTop (mkF m 221 #[.val (.long q0), .second, .val (.long q1), .second, .val (.int p2), .val (.long q0), .second, .val (.long (q0 + ((((p2 >>> ((1 : Int32) &&& 31)) % (3 : Int32)).toInt64) - (1 : Int64)))), .second, .val (.int (1 : Int32)), .val (.int (0 : Int32)), .val (.int (0 : Int32)), .val (.int (1 : Int32)), .val (.int (1 : Int32)), .val (.int (1 : Int32)), .val (.int (1 : Int32)), .unset, .unset] []))
                  refine own_of (fun _ k => XS.iconst X97.here hx rfl (hb hby at_221) k) ?_
                  show own_Out p e below _ (T97.setTop (mkF m 222 #[.val (.long q0), .second, .val (.long q1), .second, .val (.int p2), .val (.long q0), .second, .val (.long (q0 + ((((p2 >>> ((1 : Int32) &&& 31)) % (3 : Int32)).toInt64) - (1 : Int64)))), .second, .val (.int (1 : Int32)), .val (.int (0 : Int32)), .val (.int (0 : Int32)), .val (.int (1 : Int32)), .val (.int (1 : Int32)), .val (.int (1 : Int32)), .val (.int (1 : Int32)), .unset, .unset] [(.int (1 : Int32))]))
                  refine own_of (fun _ k => XS.goto X97.here hx rfl (pc0 := 222) (pc' := 226) rfl (hb hby at_222) (by decide) (by decide) k) ?_
                  show own_Out p e below _ (T97.setTop (mkF m 226 #[.val (.long q0), .second, .val (.long q1), .second, .val (.int p2), .val (.long q0), .second, .val (.long (q0 + ((((p2 >>> ((1 : Int32) &&& 31)) % (3 : Int32)).toInt64) - (1 : Int64)))), .second, .val (.int (1 : Int32)), .val (.int (0 : Int32)), .val (.int (0 : Int32)), .val (.int (1 : Int32)), .val (.int (1 : Int32)), .val (.int (1 : Int32)), .val (.int (1 : Int32)), .unset, .unset] [(.int (1 : Int32))]))
                  refine own_of (fun _ k => XS.istore X97.here hx rfl (hb hby at_226) rfl (l' := #[.val (.long q0), .second, .val (.long q1), .second, .val (.int p2), .val (.long q0), .second, .val (.long (q0 + ((((p2 >>> ((1 : Int32) &&& 31)) % (3 : Int32)).toInt64) - (1 : Int64)))), .second, .val (.int (1 : Int32)), .val (.int (0 : Int32)), .val (.int (0 : Int32)), .val (.int (1 : Int32)), .val (.int (1 : Int32)), .val (.int (1 : Int32)), .val (.int (1 : Int32)), .val (.int (1 : Int32)), .unset]) rfl k) ?_
                  show own_Out p e below _ (T97.setTop (mkF m 228 #[.val (.long q0), .second, .val (.long q1), .second, .val (.int p2), .val (.long q0), .second, .val (.long (q0 + ((((p2 >>> ((1 : Int32) &&& 31)) % (3 : Int32)).toInt64) - (1 : Int64)))), .second, .val (.int (1 : Int32)), .val (.int (0 : Int32)), .val (.int (0 : Int32)), .val (.int (1 : Int32)), .val (.int (1 : Int32)), .val (.int (1 : Int32)), .val (.int (1 : Int32)), .val (.int (1 : Int32)), .unset] []))
                  obtain ⟨T99, X99, e99, st99⟩ := getS2 X97 hx hZ hown (host := "") (Or.inl (hw _ (List.mem_of_getElem? (i := 32) rfl))) Via.refl hh97 S_w_AT_LEAST (g := (mkF m 228 #[.val (.long q0), .second, .val (.long q1), .second, .val (.int p2), .val (.long q0), .second, .val (.long (q0 + ((((p2 >>> ((1 : Int32) &&& 31)) % (3 : Int32)).toInt64) - (1 : Int64)))), .second, .val (.int (1 : Int32)), .val (.int (0 : Int32)), .val (.int (0 : Int32)), .val (.int (1 : Int32)), .val (.int (1 : Int32)), .val (.int (1 : Int32)), .val (.int (1 : Int32)), .val (.int (1 : Int32)), .unset] [])) rfl (hb hby at_228)
                  refine own_of st99 ?_
                  show own_Out p e below _ (T99.setTop (mkF m 231 #[.val (.long q0), .second, .val (.long q1), .second, .val (.int p2), .val (.long q0), .second, .val (.long (q0 + ((((p2 >>> ((1 : Int32) &&& 31)) % (3 : Int32)).toInt64) - (1 : Int64)))), .second, .val (.int (1 : Int32)), .val (.int (0 : Int32)), .val (.int (0 : Int32)), .val (.int (1 : Int32)), .val (.int (1 : Int32)), .val (.int (1 : Int32)), .val (.int (1 : Int32)), .val (.int (1 : Int32)), .unset] [(.ref w_AT_LEAST)]))
                  refine own_of (fun _ k => XS.lload X99.here hx rfl (hb hby at_231) rfl k) ?_
                  show own_Out p e below _ (T99.setTop (mkF m 233 #[.val (.long q0), .second, .val (.long q1), .second, .val (.int p2), .val (.long q0), .second, .val (.long (q0 + ((((p2 >>> ((1 : Int32) &&& 31)) % (3 : Int32)).toInt64) - (1 : Int64)))), .second, .val (.int (1 : Int32)), .val (.int (0 : Int32)), .val (.int (0 : Int32)), .val (.int (1 : Int32)), .val (.int (1 : Int32)), .val (.int (1 : Int32)), .val (.int (1 : Int32)), .val (.int (1 : Int32)), .unset] [(.long q0), (.ref w_AT_LEAST)]))
                  refine own_of (fun _ k => XS.lload X99.here hx rfl (hb hby at_233) rfl k) ?_
                  show own_Out p e below _ (T99.setTop (mkF m 235 #[.val (.long q0), .second, .val (.long q1), .second, .val (.int p2), .val (.long q0), .second, .val (.long (q0 + ((((p2 >>> ((1 : Int32) &&& 31)) % (3 : Int32)).toInt64) - (1 : Int64)))), .second, .val (.int (1 : Int32)), .val (.int (0 : Int32)), .val (.int (0 : Int32)), .val (.int (1 : Int32)), .val (.int (1 : Int32)), .val (.int (1 : Int32)), .val (.int (1 : Int32)), .val (.int (1 : Int32)), .unset] [(.long (q0 + ((((p2 >>> ((1 : Int32) &&& 31)) % (3 : Int32)).toInt64) - (1 : Int64)))), (.long q0), (.ref w_AT_LEAST)]))
                  obtain ⟨cq100, kq100, q100a, q100b, q100c⟩ := isOf hZ e99 E_w_AT_LEAST
                  obtain ⟨_, _, ⟨T100, L100, k100, n100⟩, -, X100, ⟨Lc100, hQ100, l100, y100, z100⟩, st100⟩ := X99.virtualBack hx (y := (⟨"com/example/ringd/ringd/core/Comparison$Operator", "holds", "(JJ)Z"⟩ : MethodName)) (z := (⟨"com/example/ringd/ringd/core/Comparison$Operator", "holds", "(JJ)Z"⟩ : MethodName)) hown (mvT hZ (hw _ (List.mem_of_getElem? (i := 10) rfl))) (mvT hZ (hw _ (List.mem_of_getElem? (i := 11) rfl))) (notFace_of_selects (args := #[]) (mvT hZ (hw _ (List.mem_of_getElem? (i := 13) rfl)))) (mvT hZ (hw _ (List.mem_of_getElem? (i := 13) rfl))) (mvT hZ (hw _ (List.mem_of_getElem? (i := 12) rfl))) (by decide) (backOf (W := 0) (rm3e5 l Z a0 hw [] w_AT_LEAST q0 (q0 + ((((p2 >>> ((1 : Int32) &&& 31)) % (3 : Int32)).toInt64) - (1 : Int64))) h0 n0 Z0 E_w_AT_LEAST F_w_AT_LEAST) hZ (hw _ (List.mem_of_getElem? (i := 14) rfl)) (hw _ (List.mem_of_getElem? (i := 8) rfl)) (by decide) (by decide)) q100a q100c (g := (mkF m 235 #[.val (.long q0), .second, .val (.long q1), .second, .val (.int p2), .val (.long q0), .second, .val (.long (q0 + ((((p2 >>> ((1 : Int32) &&& 31)) % (3 : Int32)).toInt64) - (1 : Int64)))), .second, .val (.int (1 : Int32)), .val (.int (0 : Int32)), .val (.int (0 : Int32)), .val (.int (1 : Int32)), .val (.int (1 : Int32)), .val (.int (1 : Int32)), .val (.int (1 : Int32)), .val (.int (1 : Int32)), .unset] [(.long (q0 + ((((p2 >>> ((1 : Int32) &&& 31)) % (3 : Int32)).toInt64) - (1 : Int64)))), (.long q0), (.ref w_AT_LEAST)])) rfl (by rw [hml]; rfl) (Steps.refl _) (argsL := [(.long q0), (.long (q0 + ((((p2 >>> ((1 : Int32) &&& 31)) % (3 : Int32)).toInt64) - (1 : Int64))))]) (rest := []) (lenOf pd_2 rfl) rfl (by show 2 * 0 + _ ≤ _; exact Nat.le_of_eq rfl) (hb hby at_235) (fun _ _ => ⟨rfl, e99, (by decide : 0 + 0 ≤ _), (by decide : 0 + 0 ≤ _)⟩)
                  dsimp only [Pt.U, Pt.locs, Pt.cells, Pt.slots] at X100 l100 y100 z100 st100 hQ100
                  subst l100 y100 z100
                  obtain ⟨rfl, N100q, hh100⟩ := hQ100
                  have N100 := Fr.app N97 N100q
                  refine own_of (fun _ k => st100.trans k) ?_
                  show own_Out p e below _ (T100.setTop (mkF m 238 #[.val (.long q0), .second, .val (.long q1), .second, .val (.int p2), .val (.long q0), .second, .val (.long (q0 + ((((p2 >>> ((1 : Int32) &&& 31)) % (3 : Int32)).toInt64) - (1 : Int64)))), .second, .val (.int (1 : Int32)), .val (.int (0 : Int32)), .val (.int (0 : Int32)), .val (.int (1 : Int32)), .val (.int (1 : Int32)), .val (.int (1 : Int32)), .val (.int (1 : Int32)), .val (.int (1 : Int32)), .unset] [(.int (f3e5 q0 (q0 + ((((p2 >>> ((1 : Int32) &&& 31)) % (3 : Int32)).toInt64) - (1 : Int64)))))]))
                  refine own_of (fun _ k => XS.iload X100.here hx rfl (hb hby at_238) rfl k) ?_
                  show own_Out p e below _ (T100.setTop (mkF m 240 #[.val (.long q0), .second, .val (.long q1), .second, .val (.int p2), .val (.long q0), .second, .val (.long (q0 + ((((p2 >>> ((1 : Int32) &&& 31)) % (3 : Int32)).toInt64) - (1 : Int64)))), .second, .val (.int (1 : Int32)), .val (.int (0 : Int32)), .val (.int (0 : Int32)), .val (.int (1 : Int32)), .val (.int (1 : Int32)), .val (.int (1 : Int32)), .val (.int (1 : Int32)), .val (.int (1 : Int32)), .unset] [(.int (0 : Int32)), (.int (f3e5 q0 (q0 + ((((p2 >>> ((1 : Int32) &&& 31)) % (3 : Int32)).toInt64) - (1 : Int64)))))]))
                  by_cases hc240_101 : (f3e5 q0 (q0 + ((((p2 >>> ((1 : Int32) &&& 31)) % (3 : Int32)).toInt64) - (1 : Int64)))) = (0 : Int32)
                  · skip
                    refine own_of (fun _ k => XS.icmpNo X100.here hx rfl (hb hby at_240) rfl (teq hc240_101).2 k) ?_
                    show own_Out p e below _ (T100.setTop (mkF m 243 #[.val (.long q0), .second, .val (.long q1), .second, .val (.int p2), .val (.long q0), .second, .val (.long (q0 + ((((p2 >>> ((1 : Int32) &&& 31)) % (3 : Int32)).toInt64) - (1 : Int64)))), .second, .val (.int (1 : Int32)), .val (.int (0 : Int32)), .val (.int (0 : Int32)), .val (.int (1 : Int32)), .val (.int (1 : Int32)), .val (.int (1 : Int32)), .val (.int (1 : Int32)), .val (.int (1 : Int32)), .unset] []))
                    refine own_of (fun _ k => XS.iconst X100.here hx rfl (hb hby at_243) k) ?_
                    show own_Out p e below _ (T100.setTop (mkF m 244 #[.val (.long q0), .second, .val (.long q1), .second, .val (.int p2), .val (.long q0), .second, .val (.long (q0 + ((((p2 >>> ((1 : Int32) &&& 31)) % (3 : Int32)).toInt64) - (1 : Int64)))), .second, .val (.int (1 : Int32)), .val (.int (0 : Int32)), .val (.int (0 : Int32)), .val (.int (1 : Int32)), .val (.int (1 : Int32)), .val (.int (1 : Int32)), .val (.int (1 : Int32)), .val (.int (1 : Int32)), .unset] [(.int (1 : Int32))]))
                    refine own_of (fun _ k => XS.goto X100.here hx rfl (pc0 := 244) (pc' := 248) rfl (hb hby at_244) (by decide) (by decide) k) ?_
                    show own_Out p e below _ (T100.setTop (mkF m 248 #[.val (.long q0), .second, .val (.long q1), .second, .val (.int p2), .val (.long q0), .second, .val (.long (q0 + ((((p2 >>> ((1 : Int32) &&& 31)) % (3 : Int32)).toInt64) - (1 : Int64)))), .second, .val (.int (1 : Int32)), .val (.int (0 : Int32)), .val (.int (0 : Int32)), .val (.int (1 : Int32)), .val (.int (1 : Int32)), .val (.int (1 : Int32)), .val (.int (1 : Int32)), .val (.int (1 : Int32)), .unset] [(.int (1 : Int32))]))
                    refine own_of (fun _ k => XS.istore X100.here hx rfl (hb hby at_248) rfl (l' := #[.val (.long q0), .second, .val (.long q1), .second, .val (.int p2), .val (.long q0), .second, .val (.long (q0 + ((((p2 >>> ((1 : Int32) &&& 31)) % (3 : Int32)).toInt64) - (1 : Int64)))), .second, .val (.int (1 : Int32)), .val (.int (0 : Int32)), .val (.int (0 : Int32)), .val (.int (1 : Int32)), .val (.int (1 : Int32)), .val (.int (1 : Int32)), .val (.int (1 : Int32)), .val (.int (1 : Int32)), .val (.int (1 : Int32))]) rfl k) ?_
                    show own_Out p e below _ (T100.setTop (mkF m 250 #[.val (.long q0), .second, .val (.long q1), .second, .val (.int p2), .val (.long q0), .second, .val (.long (q0 + ((((p2 >>> ((1 : Int32) &&& 31)) % (3 : Int32)).toInt64) - (1 : Int64)))), .second, .val (.int (1 : Int32)), .val (.int (0 : Int32)), .val (.int (0 : Int32)), .val (.int (1 : Int32)), .val (.int (1 : Int32)), .val (.int (1 : Int32)), .val (.int (1 : Int32)), .val (.int (1 : Int32)), .val (.int (1 : Int32))] []))
                    refine own_of (fun _ k => XS.iload X100.here hx rfl (hb hby at_250) rfl k) ?_
                    show own_Out p e below _ (T100.setTop (mkF m 252 #[.val (.long q0), .second, .val (.long q1), .second, .val (.int p2), .val (.long q0), .second, .val (.long (q0 + ((((p2 >>> ((1 : Int32) &&& 31)) % (3 : Int32)).toInt64) - (1 : Int64)))), .second, .val (.int (1 : Int32)), .val (.int (0 : Int32)), .val (.int (0 : Int32)), .val (.int (1 : Int32)), .val (.int (1 : Int32)), .val (.int (1 : Int32)), .val (.int (1 : Int32)), .val (.int (1 : Int32)), .val (.int (1 : Int32))] [(.int (1 : Int32))]))
                    refine own_of (fun _ k => XS.ifNo X100.here hx rfl (hb hby at_252) rfl ((if0 _ _).trans (feq (by decide : ¬ ((1 : Int32) = (0 : Int32)))).1) k) ?_
                    show own_Out p e below _ (T100.setTop (mkF m 255 #[.val (.long q0), .second, .val (.long q1), .second, .val (.int p2), .val (.long q0), .second, .val (.long (q0 + ((((p2 >>> ((1 : Int32) &&& 31)) % (3 : Int32)).toInt64) - (1 : Int64)))), .second, .val (.int (1 : Int32)), .val (.int (0 : Int32)), .val (.int (0 : Int32)), .val (.int (1 : Int32)), .val (.int (1 : Int32)), .val (.int (1 : Int32)), .val (.int (1 : Int32)), .val (.int (1 : Int32)), .val (.int (1 : Int32))] []))
                    refine own_of (fun _ k => XS.iload X100.here hx rfl (hb hby at_255) rfl k) ?_
                    show own_Out p e below _ (T100.setTop (mkF m 257 #[.val (.long q0), .second, .val (.long q1), .second, .val (.int p2), .val (.long q0), .second, .val (.long (q0 + ((((p2 >>> ((1 : Int32) &&& 31)) % (3 : Int32)).toInt64) - (1 : Int64)))), .second, .val (.int (1 : Int32)), .val (.int (0 : Int32)), .val (.int (0 : Int32)), .val (.int (1 : Int32)), .val (.int (1 : Int32)), .val (.int (1 : Int32)), .val (.int (1 : Int32)), .val (.int (1 : Int32)), .val (.int (1 : Int32))] [(.int (1 : Int32))]))
                    refine own_of (fun _ k => XS.ifNo X100.here hx rfl (hb hby at_257) rfl ((if0 _ _).trans (feq (by decide : ¬ ((1 : Int32) = (0 : Int32)))).1) k) ?_
                    show own_Out p e below _ (T100.setTop (mkF m 260 #[.val (.long q0), .second, .val (.long q1), .second, .val (.int p2), .val (.long q0), .second, .val (.long (q0 + ((((p2 >>> ((1 : Int32) &&& 31)) % (3 : Int32)).toInt64) - (1 : Int64)))), .second, .val (.int (1 : Int32)), .val (.int (0 : Int32)), .val (.int (0 : Int32)), .val (.int (1 : Int32)), .val (.int (1 : Int32)), .val (.int (1 : Int32)), .val (.int (1 : Int32)), .val (.int (1 : Int32)), .val (.int (1 : Int32))] []))
                    refine own_of (fun _ k => XS.iload X100.here hx rfl (hb hby at_260) rfl k) ?_
                    show own_Out p e below _ (T100.setTop (mkF m 262 #[.val (.long q0), .second, .val (.long q1), .second, .val (.int p2), .val (.long q0), .second, .val (.long (q0 + ((((p2 >>> ((1 : Int32) &&& 31)) % (3 : Int32)).toInt64) - (1 : Int64)))), .second, .val (.int (1 : Int32)), .val (.int (0 : Int32)), .val (.int (0 : Int32)), .val (.int (1 : Int32)), .val (.int (1 : Int32)), .val (.int (1 : Int32)), .val (.int (1 : Int32)), .val (.int (1 : Int32)), .val (.int (1 : Int32))] [(.int (1 : Int32))]))
                    refine own_of (fun _ k => XS.ifNo X100.here hx rfl (hb hby at_262) rfl ((if0 _ _).trans (feq (by decide : ¬ ((1 : Int32) = (0 : Int32)))).1) k) ?_
                    show own_Out p e below _ (T100.setTop (mkF m 265 #[.val (.long q0), .second, .val (.long q1), .second, .val (.int p2), .val (.long q0), .second, .val (.long (q0 + ((((p2 >>> ((1 : Int32) &&& 31)) % (3 : Int32)).toInt64) - (1 : Int64)))), .second, .val (.int (1 : Int32)), .val (.int (0 : Int32)), .val (.int (0 : Int32)), .val (.int (1 : Int32)), .val (.int (1 : Int32)), .val (.int (1 : Int32)), .val (.int (1 : Int32)), .val (.int (1 : Int32)), .val (.int (1 : Int32))] []))
                    refine own_of (fun _ k => XS.iload X100.here hx rfl (hb hby at_265) rfl k) ?_
                    show own_Out p e below _ (T100.setTop (mkF m 267 #[.val (.long q0), .second, .val (.long q1), .second, .val (.int p2), .val (.long q0), .second, .val (.long (q0 + ((((p2 >>> ((1 : Int32) &&& 31)) % (3 : Int32)).toInt64) - (1 : Int64)))), .second, .val (.int (1 : Int32)), .val (.int (0 : Int32)), .val (.int (0 : Int32)), .val (.int (1 : Int32)), .val (.int (1 : Int32)), .val (.int (1 : Int32)), .val (.int (1 : Int32)), .val (.int (1 : Int32)), .val (.int (1 : Int32))] [(.int (1 : Int32))]))
                    refine own_of (fun _ k => XS.ifNo X100.here hx rfl (hb hby at_267) rfl ((if0 _ _).trans (feq (by decide : ¬ ((1 : Int32) = (0 : Int32)))).1) k) ?_
                    show own_Out p e below _ (T100.setTop (mkF m 270 #[.val (.long q0), .second, .val (.long q1), .second, .val (.int p2), .val (.long q0), .second, .val (.long (q0 + ((((p2 >>> ((1 : Int32) &&& 31)) % (3 : Int32)).toInt64) - (1 : Int64)))), .second, .val (.int (1 : Int32)), .val (.int (0 : Int32)), .val (.int (0 : Int32)), .val (.int (1 : Int32)), .val (.int (1 : Int32)), .val (.int (1 : Int32)), .val (.int (1 : Int32)), .val (.int (1 : Int32)), .val (.int (1 : Int32))] []))
                    refine own_of (fun _ k => XS.iload X100.here hx rfl (hb hby at_270) rfl k) ?_
                    show own_Out p e below _ (T100.setTop (mkF m 272 #[.val (.long q0), .second, .val (.long q1), .second, .val (.int p2), .val (.long q0), .second, .val (.long (q0 + ((((p2 >>> ((1 : Int32) &&& 31)) % (3 : Int32)).toInt64) - (1 : Int64)))), .second, .val (.int (1 : Int32)), .val (.int (0 : Int32)), .val (.int (0 : Int32)), .val (.int (1 : Int32)), .val (.int (1 : Int32)), .val (.int (1 : Int32)), .val (.int (1 : Int32)), .val (.int (1 : Int32)), .val (.int (1 : Int32))] [(.int (1 : Int32))]))
                    refine own_of (fun _ k => XS.ifNo X100.here hx rfl (hb hby at_272) rfl ((if0 _ _).trans (feq (by decide : ¬ ((1 : Int32) = (0 : Int32)))).1) k) ?_
                    show own_Out p e below _ (T100.setTop (mkF m 275 #[.val (.long q0), .second, .val (.long q1), .second, .val (.int p2), .val (.long q0), .second, .val (.long (q0 + ((((p2 >>> ((1 : Int32) &&& 31)) % (3 : Int32)).toInt64) - (1 : Int64)))), .second, .val (.int (1 : Int32)), .val (.int (0 : Int32)), .val (.int (0 : Int32)), .val (.int (1 : Int32)), .val (.int (1 : Int32)), .val (.int (1 : Int32)), .val (.int (1 : Int32)), .val (.int (1 : Int32)), .val (.int (1 : Int32))] []))
                    refine own_of (fun _ k => XS.iload X100.here hx rfl (hb hby at_275) rfl k) ?_
                    show own_Out p e below _ (T100.setTop (mkF m 277 #[.val (.long q0), .second, .val (.long q1), .second, .val (.int p2), .val (.long q0), .second, .val (.long (q0 + ((((p2 >>> ((1 : Int32) &&& 31)) % (3 : Int32)).toInt64) - (1 : Int64)))), .second, .val (.int (1 : Int32)), .val (.int (0 : Int32)), .val (.int (0 : Int32)), .val (.int (1 : Int32)), .val (.int (1 : Int32)), .val (.int (1 : Int32)), .val (.int (1 : Int32)), .val (.int (1 : Int32)), .val (.int (1 : Int32))] [(.int (1 : Int32))]))
                    refine own_of (fun _ k => XS.ifNo X100.here hx rfl (hb hby at_277) rfl ((if0 _ _).trans (feq (by decide : ¬ ((1 : Int32) = (0 : Int32)))).1) k) ?_
                    show own_Out p e below _ (T100.setTop (mkF m 280 #[.val (.long q0), .second, .val (.long q1), .second, .val (.int p2), .val (.long q0), .second, .val (.long (q0 + ((((p2 >>> ((1 : Int32) &&& 31)) % (3 : Int32)).toInt64) - (1 : Int64)))), .second, .val (.int (1 : Int32)), .val (.int (0 : Int32)), .val (.int (0 : Int32)), .val (.int (1 : Int32)), .val (.int (1 : Int32)), .val (.int (1 : Int32)), .val (.int (1 : Int32)), .val (.int (1 : Int32)), .val (.int (1 : Int32))] []))
                    refine own_of (fun _ k => XS.iconst X100.here hx rfl (hb hby at_280) k) ?_
                    show own_Out p e below _ (T100.setTop (mkF m 281 #[.val (.long q0), .second, .val (.long q1), .second, .val (.int p2), .val (.long q0), .second, .val (.long (q0 + ((((p2 >>> ((1 : Int32) &&& 31)) % (3 : Int32)).toInt64) - (1 : Int64)))), .second, .val (.int (1 : Int32)), .val (.int (0 : Int32)), .val (.int (0 : Int32)), .val (.int (1 : Int32)), .val (.int (1 : Int32)), .val (.int (1 : Int32)), .val (.int (1 : Int32)), .val (.int (1 : Int32)), .val (.int (1 : Int32))] [(.int (1 : Int32))]))
                    refine own_of (fun _ k => XS.goto X100.here hx rfl (pc0 := 281) (pc' := 285) rfl (hb hby at_281) (by decide) (by decide) k) ?_
                    show own_Out p e below _ (T100.setTop (mkF m 285 #[.val (.long q0), .second, .val (.long q1), .second, .val (.int p2), .val (.long q0), .second, .val (.long (q0 + ((((p2 >>> ((1 : Int32) &&& 31)) % (3 : Int32)).toInt64) - (1 : Int64)))), .second, .val (.int (1 : Int32)), .val (.int (0 : Int32)), .val (.int (0 : Int32)), .val (.int (1 : Int32)), .val (.int (1 : Int32)), .val (.int (1 : Int32)), .val (.int (1 : Int32)), .val (.int (1 : Int32)), .val (.int (1 : Int32))] [(.int (1 : Int32))]))
                    exact own_outN X100 hx hlk (t := .boolean) hret (by simp) (hb hby at_285) (z' := (1 : Int32)) rfl (Q := Q0 Z q0 q1 p2 w_EQUAL w_NOT_EQUAL w_LESS w_AT_MOST w_GREATER w_AT_LEAST h0 n0) ⟨rfl, N100⟩ (by decide) (by decide)
                  · skip
                    exact (dead0_25 q0 q1 p2 hc7_1 hc37_63 hc57_65 hc96_86 hc126_89 hc161_92 hc183_95 hc218_98 hc240_101).elim
                · skip
                  exact (dead0_26 q0 q1 p2 hc7_1 hc37_63 hc57_65 hc96_86 hc126_89 hc161_92 hc183_95 hc218_98).elim
              · skip
                exact (dead0_27 q0 q1 p2 hc7_1 hc37_63 hc57_65 hc96_86 hc126_89 hc161_92 hc183_95).elim
            · skip
              exact (dead0_28 q0 q1 p2 hc7_1 hc37_63 hc57_65 hc96_86 hc126_89 hc161_92).elim
          · skip
            exact (dead0_29 q0 q1 p2 hc7_1 hc37_63 hc57_65 hc96_86 hc126_89).elim
        · skip
          exact (dead0_30 q0 q1 p2 hc7_1 hc37_63 hc57_65 hc96_86).elim
    · skip
      refine own_of (fun _ k => XS.ifYes X62.here hx rfl (pc0 := 37) (pc' := 44) rfl (hb hby at_37) rfl (own_lfeq hc37_63).2 (by decide) (by decide) k) ?_
      show own_Out p e below _ (T62.setTop (mkF m 44 #[.val (.long q0), .second, .val (.long q1), .second, .val (.int p2), .val (.long q0), .second, .val (.long (q0 + ((((p2 >>> ((1 : Int32) &&& 31)) % (3 : Int32)).toInt64) - (1 : Int64)))), .second, .unset, .unset, .unset, .unset, .unset, .unset, .unset, .unset, .unset] []))
      refine own_of (fun _ k => XS.iconst X62.here hx rfl (hb hby at_44) k) ?_
      show own_Out p e below _ (T62.setTop (mkF m 45 #[.val (.long q0), .second, .val (.long q1), .second, .val (.int p2), .val (.long q0), .second, .val (.long (q0 + ((((p2 >>> ((1 : Int32) &&& 31)) % (3 : Int32)).toInt64) - (1 : Int64)))), .second, .unset, .unset, .unset, .unset, .unset, .unset, .unset, .unset, .unset] [(.int (0 : Int32))]))
      refine own_of (fun _ k => XS.istore X62.here hx rfl (hb hby at_45) rfl (l' := #[.val (.long q0), .second, .val (.long q1), .second, .val (.int p2), .val (.long q0), .second, .val (.long (q0 + ((((p2 >>> ((1 : Int32) &&& 31)) % (3 : Int32)).toInt64) - (1 : Int64)))), .second, .val (.int (0 : Int32)), .unset, .unset, .unset, .unset, .unset, .unset, .unset, .unset]) rfl k) ?_
      show own_Out p e below _ (T62.setTop (mkF m 47 #[.val (.long q0), .second, .val (.long q1), .second, .val (.int p2), .val (.long q0), .second, .val (.long (q0 + ((((p2 >>> ((1 : Int32) &&& 31)) % (3 : Int32)).toInt64) - (1 : Int64)))), .second, .val (.int (0 : Int32)), .unset, .unset, .unset, .unset, .unset, .unset, .unset, .unset] []))
      refine own_of (fun _ k => XS.lload X62.here hx rfl (hb hby at_47) rfl k) ?_
      show own_Out p e below _ (T62.setTop (mkF m 49 #[.val (.long q0), .second, .val (.long q1), .second, .val (.int p2), .val (.long q0), .second, .val (.long (q0 + ((((p2 >>> ((1 : Int32) &&& 31)) % (3 : Int32)).toInt64) - (1 : Int64)))), .second, .val (.int (0 : Int32)), .unset, .unset, .unset, .unset, .unset, .unset, .unset, .unset] [(.long q0)]))
      refine own_of (fun _ k => XS.lload X62.here hx rfl (hb hby at_49) rfl k) ?_
      show own_Out p e below _ (T62.setTop (mkF m 51 #[.val (.long q0), .second, .val (.long q1), .second, .val (.int p2), .val (.long q0), .second, .val (.long (q0 + ((((p2 >>> ((1 : Int32) &&& 31)) % (3 : Int32)).toInt64) - (1 : Int64)))), .second, .val (.int (0 : Int32)), .unset, .unset, .unset, .unset, .unset, .unset, .unset, .unset] [(.long (q0 + ((((p2 >>> ((1 : Int32) &&& 31)) % (3 : Int32)).toInt64) - (1 : Int64)))), (.long q0)]))
      obtain ⟨_, _, ⟨T102, L102, k102, n102⟩, -, X102, ⟨Lc102, hQ102, l102, y102, z102⟩, st102⟩ := Jvm.LawKit.callS X62 hx (y := (⟨"java/lang/Math", "max", "(JJ)J"⟩ : MethodName)) hown (mvT hZ (hw _ (List.mem_of_getElem? (i := 4) rfl))) (mvT hZ (hw _ (List.mem_of_getElem? (i := 5) rfl))) (mvT hZ (hw _ (List.mem_of_getElem? (i := 2) rfl))) (mvT hZ (hw _ (List.mem_of_getElem? (i := 6) rfl))) (by decide) (backOf (W := 0) (rm2 l Z a0 hw [] q0 (q0 + ((((p2 >>> ((1 : Int32) &&& 31)) % (3 : Int32)).toInt64) - (1 : Int64))) h0 n0 Z0 ) hZ (hw _ (List.mem_of_getElem? (i := 6) rfl)) (hw _ (List.mem_of_getElem? (i := 2) rfl)) (by decide) (by decide)) (g := (mkF m 51 #[.val (.long q0), .second, .val (.long q1), .second, .val (.int p2), .val (.long q0), .second, .val (.long (q0 + ((((p2 >>> ((1 : Int32) &&& 31)) % (3 : Int32)).toInt64) - (1 : Int64)))), .second, .val (.int (0 : Int32)), .unset, .unset, .unset, .unset, .unset, .unset, .unset, .unset] [(.long (q0 + ((((p2 >>> ((1 : Int32) &&& 31)) % (3 : Int32)).toInt64) - (1 : Int64)))), (.long q0)])) rfl (by rw [hml]; rfl) (argsL := [(.long q0), (.long (q0 + ((((p2 >>> ((1 : Int32) &&& 31)) % (3 : Int32)).toInt64) - (1 : Int64))))]) (rest := []) (lenOf pd_1 rfl) rfl (by show 2 * 0 + _ ≤ _; exact Nat.le_of_eq rfl) (hb hby at_51) (fun _ _ => ⟨rfl, hh62, (by decide : 0 + 0 ≤ _), (by decide : 0 + 0 ≤ _)⟩)
      dsimp only [Pt.U, Pt.locs, Pt.cells, Pt.slots] at X102 l102 y102 z102 st102 hQ102
      subst l102 y102 z102
      obtain ⟨rfl, N102q, hh102⟩ := hQ102
      have N102 := Fr.app N62 N102q
      refine own_of st102 ?_
      show own_Out p e below _ (T102.setTop (mkF m 54 #[.val (.long q0), .second, .val (.long q1), .second, .val (.int p2), .val (.long q0), .second, .val (.long (q0 + ((((p2 >>> ((1 : Int32) &&& 31)) % (3 : Int32)).toInt64) - (1 : Int64)))), .second, .val (.int (0 : Int32)), .unset, .unset, .unset, .unset, .unset, .unset, .unset, .unset] [(.long (f2 q0 (q0 + ((((p2 >>> ((1 : Int32) &&& 31)) % (3 : Int32)).toInt64) - (1 : Int64)))))]))
      refine own_of (fun _ k => XS.lload X102.here hx rfl (hb hby at_54) rfl k) ?_
      show own_Out p e below _ (T102.setTop (mkF m 56 #[.val (.long q0), .second, .val (.long q1), .second, .val (.int p2), .val (.long q0), .second, .val (.long (q0 + ((((p2 >>> ((1 : Int32) &&& 31)) % (3 : Int32)).toInt64) - (1 : Int64)))), .second, .val (.int (0 : Int32)), .unset, .unset, .unset, .unset, .unset, .unset, .unset, .unset] [(.long q0), (.long (f2 q0 (q0 + ((((p2 >>> ((1 : Int32) &&& 31)) % (3 : Int32)).toInt64) - (1 : Int64)))))]))
      refine own_of (fun _ k => XS.lcmp X102.here hx rfl (hb hby at_56) rfl k) ?_
      show own_Out p e below _ (T102.setTop (mkF m 57 #[.val (.long q0), .second, .val (.long q1), .second, .val (.int p2), .val (.long q0), .second, .val (.long (q0 + ((((p2 >>> ((1 : Int32) &&& 31)) % (3 : Int32)).toInt64) - (1 : Int64)))), .second, .val (.int (0 : Int32)), .unset, .unset, .unset, .unset, .unset, .unset, .unset, .unset] [(.int (lcmpW (f2 q0 (q0 + ((((p2 >>> ((1 : Int32) &&& 31)) % (3 : Int32)).toInt64) - (1 : Int64)))) q0))]))
      by_cases hc57_103 : (f2 q0 (q0 + ((((p2 >>> ((1 : Int32) &&& 31)) % (3 : Int32)).toInt64) - (1 : Int64)))) = q0
      · skip
        refine own_of (fun _ k => XS.ifNo X102.here hx rfl (hb hby at_57) rfl (own_leq hc57_103).2 k) ?_
        show own_Out p e below _ (T102.setTop (mkF m 60 #[.val (.long q0), .second, .val (.long q1), .second, .val (.int p2), .val (.long q0), .second, .val (.long (q0 + ((((p2 >>> ((1 : Int32) &&& 31)) % (3 : Int32)).toInt64) - (1 : Int64)))), .second, .val (.int (0 : Int32)), .unset, .unset, .unset, .unset, .unset, .unset, .unset, .unset] []))
        refine own_of (fun _ k => XS.iconst X102.here hx rfl (hb hby at_60) k) ?_
        show own_Out p e below _ (T102.setTop (mkF m 61 #[.val (.long q0), .second, .val (.long q1), .second, .val (.int p2), .val (.long q0), .second, .val (.long (q0 + ((((p2 >>> ((1 : Int32) &&& 31)) % (3 : Int32)).toInt64) - (1 : Int64)))), .second, .val (.int (0 : Int32)), .unset, .unset, .unset, .unset, .unset, .unset, .unset, .unset] [(.int (1 : Int32))]))
        refine own_of (fun _ k => XS.goto X102.here hx rfl (pc0 := 61) (pc' := 65) rfl (hb hby at_61) (by decide) (by decide) k) ?_
        show own_Out p e below _ (T102.setTop (mkF m 65 #[.val (.long q0), .second, .val (.long q1), .second, .val (.int p2), .val (.long q0), .second, .val (.long (q0 + ((((p2 >>> ((1 : Int32) &&& 31)) % (3 : Int32)).toInt64) - (1 : Int64)))), .second, .val (.int (0 : Int32)), .unset, .unset, .unset, .unset, .unset, .unset, .unset, .unset] [(.int (1 : Int32))]))
        refine own_of (fun _ k => XS.istore X102.here hx rfl (hb hby at_65) rfl (l' := #[.val (.long q0), .second, .val (.long q1), .second, .val (.int p2), .val (.long q0), .second, .val (.long (q0 + ((((p2 >>> ((1 : Int32) &&& 31)) % (3 : Int32)).toInt64) - (1 : Int64)))), .second, .val (.int (0 : Int32)), .val (.int (1 : Int32)), .unset, .unset, .unset, .unset, .unset, .unset, .unset]) rfl k) ?_
        show own_Out p e below _ (T102.setTop (mkF m 67 #[.val (.long q0), .second, .val (.long q1), .second, .val (.int p2), .val (.long q0), .second, .val (.long (q0 + ((((p2 >>> ((1 : Int32) &&& 31)) % (3 : Int32)).toInt64) - (1 : Int64)))), .second, .val (.int (0 : Int32)), .val (.int (1 : Int32)), .unset, .unset, .unset, .unset, .unset, .unset, .unset] []))
        refine own_of (fun _ k => XS.iload X102.here hx rfl (hb hby at_67) rfl k) ?_
        show own_Out p e below _ (T102.setTop (mkF m 69 #[.val (.long q0), .second, .val (.long q1), .second, .val (.int p2), .val (.long q0), .second, .val (.long (q0 + ((((p2 >>> ((1 : Int32) &&& 31)) % (3 : Int32)).toInt64) - (1 : Int64)))), .second, .val (.int (0 : Int32)), .val (.int (1 : Int32)), .unset, .unset, .unset, .unset, .unset, .unset, .unset] [(.int (0 : Int32))]))
        refine own_of (fun _ k => XS.ifYes X102.here hx rfl (pc0 := 69) (pc' := 81) rfl (hb hby at_69) rfl ((if0 _ _).trans (teq (by decide : (0 : Int32) = (0 : Int32))).1) (by decide) (by decide) k) ?_
        show own_Out p e below _ (T102.setTop (mkF m 81 #[.val (.long q0), .second, .val (.long q1), .second, .val (.int p2), .val (.long q0), .second, .val (.long (q0 + ((((p2 >>> ((1 : Int32) &&& 31)) % (3 : Int32)).toInt64) - (1 : Int64)))), .second, .val (.int (0 : Int32)), .val (.int (1 : Int32)), .unset, .unset, .unset, .unset, .unset, .unset, .unset] []))
        refine own_of (fun _ k => XS.iconst X102.here hx rfl (hb hby at_81) k) ?_
        show own_Out p e below _ (T102.setTop (mkF m 82 #[.val (.long q0), .second, .val (.long q1), .second, .val (.int p2), .val (.long q0), .second, .val (.long (q0 + ((((p2 >>> ((1 : Int32) &&& 31)) % (3 : Int32)).toInt64) - (1 : Int64)))), .second, .val (.int (0 : Int32)), .val (.int (1 : Int32)), .unset, .unset, .unset, .unset, .unset, .unset, .unset] [(.int (0 : Int32))]))
        refine own_of (fun _ k => XS.istore X102.here hx rfl (hb hby at_82) rfl (l' := #[.val (.long q0), .second, .val (.long q1), .second, .val (.int p2), .val (.long q0), .second, .val (.long (q0 + ((((p2 >>> ((1 : Int32) &&& 31)) % (3 : Int32)).toInt64) - (1 : Int64)))), .second, .val (.int (0 : Int32)), .val (.int (1 : Int32)), .val (.int (0 : Int32)), .unset, .unset, .unset, .unset, .unset, .unset]) rfl k) ?_
        show own_Out p e below _ (T102.setTop (mkF m 84 #[.val (.long q0), .second, .val (.long q1), .second, .val (.int p2), .val (.long q0), .second, .val (.long (q0 + ((((p2 >>> ((1 : Int32) &&& 31)) % (3 : Int32)).toInt64) - (1 : Int64)))), .second, .val (.int (0 : Int32)), .val (.int (1 : Int32)), .val (.int (0 : Int32)), .unset, .unset, .unset, .unset, .unset, .unset] []))
        obtain ⟨T104, X104, e104, st104⟩ := getS2 X102 hx hZ hown (host := "") (Or.inl (hw _ (List.mem_of_getElem? (i := 7) rfl))) Via.refl hh102 S_w_EQUAL (g := (mkF m 84 #[.val (.long q0), .second, .val (.long q1), .second, .val (.int p2), .val (.long q0), .second, .val (.long (q0 + ((((p2 >>> ((1 : Int32) &&& 31)) % (3 : Int32)).toInt64) - (1 : Int64)))), .second, .val (.int (0 : Int32)), .val (.int (1 : Int32)), .val (.int (0 : Int32)), .unset, .unset, .unset, .unset, .unset, .unset] [])) rfl (hb hby at_84)
        refine own_of st104 ?_
        show own_Out p e below _ (T104.setTop (mkF m 87 #[.val (.long q0), .second, .val (.long q1), .second, .val (.int p2), .val (.long q0), .second, .val (.long (q0 + ((((p2 >>> ((1 : Int32) &&& 31)) % (3 : Int32)).toInt64) - (1 : Int64)))), .second, .val (.int (0 : Int32)), .val (.int (1 : Int32)), .val (.int (0 : Int32)), .unset, .unset, .unset, .unset, .unset, .unset] [(.ref w_EQUAL)]))
        refine own_of (fun _ k => XS.lload X104.here hx rfl (hb hby at_87) rfl k) ?_
        show own_Out p e below _ (T104.setTop (mkF m 89 #[.val (.long q0), .second, .val (.long q1), .second, .val (.int p2), .val (.long q0), .second, .val (.long (q0 + ((((p2 >>> ((1 : Int32) &&& 31)) % (3 : Int32)).toInt64) - (1 : Int64)))), .second, .val (.int (0 : Int32)), .val (.int (1 : Int32)), .val (.int (0 : Int32)), .unset, .unset, .unset, .unset, .unset, .unset] [(.long q0), (.ref w_EQUAL)]))
        refine own_of (fun _ k => XS.lload X104.here hx rfl (hb hby at_89) rfl k) ?_
        show own_Out p e below _ (T104.setTop (mkF m 91 #[.val (.long q0), .second, .val (.long q1), .second, .val (.int p2), .val (.long q0), .second, .val (.long (q0 + ((((p2 >>> ((1 : Int32) &&& 31)) % (3 : Int32)).toInt64) - (1 : Int64)))), .second, .val (.int (0 : Int32)), .val (.int (1 : Int32)), .val (.int (0 : Int32)), .unset, .unset, .unset, .unset, .unset, .unset] [(.long (q0 + ((((p2 >>> ((1 : Int32) &&& 31)) % (3 : Int32)).toInt64) - (1 : Int64)))), (.long q0), (.ref w_EQUAL)]))
        obtain ⟨cq105, kq105, q105a, q105b, q105c⟩ := isOf hZ e104 E_w_EQUAL
        obtain ⟨_, _, ⟨T105, L105, k105, n105⟩, -, X105, ⟨Lc105, hQ105, l105, y105, z105⟩, st105⟩ := X104.virtualBack hx (y := (⟨"com/example/ringd/ringd/core/Comparison$Operator", "holds", "(JJ)Z"⟩ : MethodName)) (z := (⟨"com/example/ringd/ringd/core/Comparison$Operator", "holds", "(JJ)Z"⟩ : MethodName)) hown (mvT hZ (hw _ (List.mem_of_getElem? (i := 10) rfl))) (mvT hZ (hw _ (List.mem_of_getElem? (i := 11) rfl))) (notFace_of_selects (args := #[]) (mvT hZ (hw _ (List.mem_of_getElem? (i := 13) rfl)))) (mvT hZ (hw _ (List.mem_of_getElem? (i := 13) rfl))) (mvT hZ (hw _ (List.mem_of_getElem? (i := 12) rfl))) (by decide) (backOf (W := 0) (rm3e0 l Z a0 hw [] w_EQUAL q0 (q0 + ((((p2 >>> ((1 : Int32) &&& 31)) % (3 : Int32)).toInt64) - (1 : Int64))) h0 n0 Z0 E_w_EQUAL F_w_EQUAL) hZ (hw _ (List.mem_of_getElem? (i := 14) rfl)) (hw _ (List.mem_of_getElem? (i := 8) rfl)) (by decide) (by decide)) q105a q105c (g := (mkF m 91 #[.val (.long q0), .second, .val (.long q1), .second, .val (.int p2), .val (.long q0), .second, .val (.long (q0 + ((((p2 >>> ((1 : Int32) &&& 31)) % (3 : Int32)).toInt64) - (1 : Int64)))), .second, .val (.int (0 : Int32)), .val (.int (1 : Int32)), .val (.int (0 : Int32)), .unset, .unset, .unset, .unset, .unset, .unset] [(.long (q0 + ((((p2 >>> ((1 : Int32) &&& 31)) % (3 : Int32)).toInt64) - (1 : Int64)))), (.long q0), (.ref w_EQUAL)])) rfl (by rw [hml]; rfl) (Steps.refl _) (argsL := [(.long q0), (.long (q0 + ((((p2 >>> ((1 : Int32) &&& 31)) % (3 : Int32)).toInt64) - (1 : Int64))))]) (rest := []) (lenOf pd_2 rfl) rfl (by show 2 * 0 + _ ≤ _; exact Nat.le_of_eq rfl) (hb hby at_91) (fun _ _ => ⟨rfl, e104, (by decide : 0 + 0 ≤ _), (by decide : 0 + 0 ≤ _)⟩)
        dsimp only [Pt.U, Pt.locs, Pt.cells, Pt.slots] at X105 l105 y105 z105 st105 hQ105
        subst l105 y105 z105
        obtain ⟨rfl, N105q, hh105⟩ := hQ105
        have N105 := Fr.app N102 N105q
        refine own_of (fun _ k => st105.trans k) ?_
        show own_Out p e below _ (T105.setTop (mkF m 94 #[.val (.long q0), .second, .val (.long q1), .second, .val (.int p2), .val (.long q0), .second, .val (.long (q0 + ((((p2 >>> ((1 : Int32) &&& 31)) % (3 : Int32)).toInt64) - (1 : Int64)))), .second, .val (.int (0 : Int32)), .val (.int (1 : Int32)), .val (.int (0 : Int32)), .unset, .unset, .unset, .unset, .unset, .unset] [(.int (f3e0 q0 (q0 + ((((p2 >>> ((1 : Int32) &&& 31)) % (3 : Int32)).toInt64) - (1 : Int64)))))]))
        refine own_of (fun _ k => XS.iload X105.here hx rfl (hb hby at_94) rfl k) ?_
        show own_Out p e below _ (T105.setTop (mkF m 96 #[.val (.long q0), .second, .val (.long q1), .second, .val (.int p2), .val (.long q0), .second, .val (.long (q0 + ((((p2 >>> ((1 : Int32) &&& 31)) % (3 : Int32)).toInt64) - (1 : Int64)))), .second, .val (.int (0 : Int32)), .val (.int (1 : Int32)), .val (.int (0 : Int32)), .unset, .unset, .unset, .unset, .unset, .unset] [(.int (0 : Int32)), (.int (f3e0 q0 (q0 + ((((p2 >>> ((1 : Int32) &&& 31)) % (3 : Int32)).toInt64) - (1 : Int64)))))]))
        by_cases hc96_106 : (f3e0 q0 (q0 + ((((p2 >>> ((1 : Int32) &&& 31)) % (3 : Int32)).toInt64) - (1 : Int64)))) = (0 : Int32)
        · skip
          refine own_of (fun _ k => XS.icmpNo X105.here hx rfl (hb hby at_96) rfl (teq hc96_106).2 k) ?_
          show own_Out p e below _ (T105.setTop (mkF m 99 #[.val (.long q0), .second, .val (.long q1), .second, .val (.int p2), .val (.long q0), .second, .val (.long (q0 + ((((p2 >>> ((1 : Int32) &&& 31)) % (3 : Int32)).toInt64) - (1 : Int64)))), .second, .val (.int (0 : Int32)), .val (.int (1 : Int32)), .val (.int (0 : Int32)), .unset, .unset, .unset, .unset, .unset, .unset] []))
          refine own_of (fun _ k => XS.iconst X105.here hx rfl (hb hby at_99) k) ?_
          show own_Out p e below _ (T105.setTop (mkF m 100 #[.val (.long q0), .second, .val (.long q1), .second, .val (.int p2), .val (.long q0), .second, .val (.long (q0 + ((((p2 >>> ((1 : Int32) &&& 31)) % (3 : Int32)).toInt64) - (1 : Int64)))), .second, .val (.int (0 : Int32)), .val (.int (1 : Int32)), .val (.int (0 : Int32)), .unset, .unset, .unset, .unset, .unset, .unset] [(.int (1 : Int32))]))
          refine own_of (fun _ k => XS.goto X105.here hx rfl (pc0 := 100) (pc' := 104) rfl (hb hby at_100) (by decide) (by decide) k) ?_
          show own_Out p e below _ (T105.setTop (mkF m 104 #[.val (.long q0), .second, .val (.long q1), .second, .val (.int p2), .val (.long q0), .second, .val (.long (q0 + ((((p2 >>> ((1 : Int32) &&& 31)) % (3 : Int32)).toInt64) - (1 : Int64)))), .second, .val (.int (0 : Int32)), .val (.int (1 : Int32)), .val (.int (0 : Int32)), .unset, .unset, .unset, .unset, .unset, .unset] [(.int (1 : Int32))]))
          refine own_of (fun _ k => XS.istore X105.here hx rfl (hb hby at_104) rfl (l' := #[.val (.long q0), .second, .val (.long q1), .second, .val (.int p2), .val (.long q0), .second, .val (.long (q0 + ((((p2 >>> ((1 : Int32) &&& 31)) % (3 : Int32)).toInt64) - (1 : Int64)))), .second, .val (.int (0 : Int32)), .val (.int (1 : Int32)), .val (.int (0 : Int32)), .val (.int (1 : Int32)), .unset, .unset, .unset, .unset, .unset]) rfl k) ?_
          show own_Out p e below _ (T105.setTop (mkF m 106 #[.val (.long q0), .second, .val (.long q1), .second, .val (.int p2), .val (.long q0), .second, .val (.long (q0 + ((((p2 >>> ((1 : Int32) &&& 31)) % (3 : Int32)).toInt64) - (1 : Int64)))), .second, .val (.int (0 : Int32)), .val (.int (1 : Int32)), .val (.int (0 : Int32)), .val (.int (1 : Int32)), .unset, .unset, .unset, .unset, .unset] []))
          obtain ⟨T107, X107, e107, st107⟩ := getS2 X105 hx hZ hown (host := "") (Or.inl (hw _ (List.mem_of_getElem? (i := 24) rfl))) Via.refl hh105 S_w_NOT_EQUAL (g := (mkF m 106 #[.val (.long q0), .second, .val (.long q1), .second, .val (.int p2), .val (.long q0), .second, .val (.long (q0 + ((((p2 >>> ((1 : Int32) &&& 31)) % (3 : Int32)).toInt64) - (1 : Int64)))), .second, .val (.int (0 : Int32)), .val (.int (1 : Int32)), .val (.int (0 : Int32)), .val (.int (1 : Int32)), .unset, .unset, .unset, .unset, .unset] [])) rfl (hb hby at_106)
          refine own_of st107 ?_
          show own_Out p e below _ (T107.setTop (mkF m 109 #[.val (.long q0), .second, .val (.long q1), .second, .val (.int p2), .val (.long q0), .second, .val (.long (q0 + ((((p2 >>> ((1 : Int32) &&& 31)) % (3 : Int32)).toInt64) - (1 : Int64)))), .second, .val (.int (0 : Int32)), .val (.int (1 : Int32)), .val (.int (0 : Int32)), .val (.int (1 : Int32)), .unset, .unset, .unset, .unset, .unset] [(.ref w_NOT_EQUAL)]))
          refine own_of (fun _ k => XS.lload X107.here hx rfl (hb hby at_109) rfl k) ?_
          show own_Out p e below _ (T107.setTop (mkF m 111 #[.val (.long q0), .second, .val (.long q1), .second, .val (.int p2), .val (.long q0), .second, .val (.long (q0 + ((((p2 >>> ((1 : Int32) &&& 31)) % (3 : Int32)).toInt64) - (1 : Int64)))), .second, .val (.int (0 : Int32)), .val (.int (1 : Int32)), .val (.int (0 : Int32)), .val (.int (1 : Int32)), .unset, .unset, .unset, .unset, .unset] [(.long q0), (.ref w_NOT_EQUAL)]))
          refine own_of (fun _ k => XS.lload X107.here hx rfl (hb hby at_111) rfl k) ?_
          show own_Out p e below _ (T107.setTop (mkF m 113 #[.val (.long q0), .second, .val (.long q1), .second, .val (.int p2), .val (.long q0), .second, .val (.long (q0 + ((((p2 >>> ((1 : Int32) &&& 31)) % (3 : Int32)).toInt64) - (1 : Int64)))), .second, .val (.int (0 : Int32)), .val (.int (1 : Int32)), .val (.int (0 : Int32)), .val (.int (1 : Int32)), .unset, .unset, .unset, .unset, .unset] [(.long (q0 + ((((p2 >>> ((1 : Int32) &&& 31)) % (3 : Int32)).toInt64) - (1 : Int64)))), (.long q0), (.ref w_NOT_EQUAL)]))
          obtain ⟨cq108, kq108, q108a, q108b, q108c⟩ := isOf hZ e107 E_w_NOT_EQUAL
          obtain ⟨_, _, ⟨T108, L108, k108, n108⟩, -, X108, ⟨Lc108, hQ108, l108, y108, z108⟩, st108⟩ := X107.virtualBack hx (y := (⟨"com/example/ringd/ringd/core/Comparison$Operator", "holds", "(JJ)Z"⟩ : MethodName)) (z := (⟨"com/example/ringd/ringd/core/Comparison$Operator", "holds", "(JJ)Z"⟩ : MethodName)) hown (mvT hZ (hw _ (List.mem_of_getElem? (i := 10) rfl))) (mvT hZ (hw _ (List.mem_of_getElem? (i := 11) rfl))) (notFace_of_selects (args := #[]) (mvT hZ (hw _ (List.mem_of_getElem? (i := 13) rfl)))) (mvT hZ (hw _ (List.mem_of_getElem? (i := 13) rfl))) (mvT hZ (hw _ (List.mem_of_getElem? (i := 12) rfl))) (by decide) (backOf (W := 0) (rm3e1 l Z a0 hw [] w_NOT_EQUAL q0 (q0 + ((((p2 >>> ((1 : Int32) &&& 31)) % (3 : Int32)).toInt64) - (1 : Int64))) h0 n0 Z0 E_w_NOT_EQUAL F_w_NOT_EQUAL) hZ (hw _ (List.mem_of_getElem? (i := 14) rfl)) (hw _ (List.mem_of_getElem? (i := 8) rfl)) (by decide) (by decide)) q108a q108c (g := (mkF m 113 #[.val (.long q0), .second, .val (.long q1), .second, .val (.int p2), .val (.long q0), .second, .val (.long (q0 + ((((p2 >>> ((1 : Int32) &&& 31)) % (3 : Int32)).toInt64) - (1 : Int64)))), .second, .val (.int (0 : Int32)), .val (.int (1 : Int32)), .val (.int (0 : Int32)), .val (.int (1 : Int32)), .unset, .unset, .unset, .unset, .unset] [(.long (q0 + ((((p2 >>> ((1 : Int32) &&& 31)) % (3 : Int32)).toInt64) - (1 : Int64)))), (.long q0), (.ref w_NOT_EQUAL)])) rfl (by rw [hml]; rfl) (Steps.refl _) (argsL := [(.long q0), (.long (q0 + ((((p2 >>> ((1 : Int32) &&& 31)) % (3 : Int32)).toInt64) - (1 : Int64))))]) (rest := []) (lenOf pd_2 rfl) rfl (by show 2 * 0 + _ ≤ _; exact Nat.le_of_eq rfl) (hb hby at_113) (fun _ _ => ⟨rfl, e107, (by decide : 0 + 0 ≤ _), (by decide : 0 + 0 ≤ _)⟩)
          dsimp only [Pt.U, Pt.locs, Pt.cells, Pt.slots] at X108 l108 y108 z108 st108 hQ108
          subst l108 y108 z108
          obtain ⟨rfl, N108q, hh108⟩ := hQ108
          have N108 := Fr.app N105 N108q
          refine own_of (fun _ k => st108.trans k) ?_
          show own_Out p e below _ (T108.setTop (mkF m 116 #[.val (.long q0), .second, .val (.long q1), .second, .val (.int p2), .val (.long q0), .second, .val (.long (q0 + ((((p2 >>> ((1 : Int32) &&& 31)) % (3 : Int32)).toInt64) - (1 : Int64)))), .second, .val (.int (0 : Int32)), .val (.int (1 : Int32)), .val (.int (0 : Int32)), .val (.int (1 : Int32)), .unset, .unset, .unset, .unset, .unset] [(.int (f3e1 q0 (q0 + ((((p2 >>> ((1 : Int32) &&& 31)) % (3 : Int32)).toInt64) - (1 : Int64)))))]))
          refine own_of (fun _ k => XS.iload X108.here hx rfl (hb hby at_116) rfl k) ?_
          show own_Out p e below _ (T108.setTop (mkF m 118 #[.val (.long q0), .second, .val (.long q1), .second, .val (.int p2), .val (.long q0), .second, .val (.long (q0 + ((((p2 >>> ((1 : Int32) &&& 31)) % (3 : Int32)).toInt64) - (1 : Int64)))), .second, .val (.int (0 : Int32)), .val (.int (1 : Int32)), .val (.int (0 : Int32)), .val (.int (1 : Int32)), .unset, .unset, .unset, .unset, .unset] [(.int (0 : Int32)), (.int (f3e1 q0 (q0 + ((((p2 >>> ((1 : Int32) &&& 31)) % (3 : Int32)).toInt64) - (1 : Int64)))))]))
          refine own_of (fun _ k => XS.ifNo X108.here hx rfl (hb hby at_118) rfl ((if0 _ _).trans (teq (by decide : (0 : Int32) = (0 : Int32))).2) k) ?_
          show own_Out p e below _ (T108.setTop (mkF m 121 #[.val (.long q0), .second, .val (.long q1), .second, .val (.int p2), .val (.long q0), .second, .val (.long (q0 + ((((p2 >>> ((1 : Int32) &&& 31)) % (3 : Int32)).toInt64) - (1 : Int64)))), .second, .val (.int (0 : Int32)), .val (.int (1 : Int32)), .val (.int (0 : Int32)), .val (.int (1 : Int32)), .unset, .unset, .unset, .unset, .unset] [(.int (f3e1 q0 (q0 + ((((p2 >>> ((1 : Int32) &&& 31)) % (3 : Int32)).toInt64) - (1 : Int64)))))]))
          refine own_of (fun _ k => XS.iconst X108.here hx rfl (hb hby at_121) k) ?_
          show own_Out p e below _ (T108.setTop (mkF m 122 #[.val (.long q0), .second, .val (.long q1), .second, .val (.int p2), .val (.long q0), .second, .val (.long (q0 + ((((p2 >>> ((1 : Int32) &&& 31)) % (3 : Int32)).toInt64) - (1 : Int64)))), .second, .val (.int (0 : Int32)), .val (.int (1 : Int32)), .val (.int (0 : Int32)), .val (.int (1 : Int32)), .unset, .unset, .unset, .unset, .unset] [(.int (1 : Int32)), (.int (f3e1 q0 (q0 + ((((p2 >>> ((1 : Int32) &&& 31)) % (3 : Int32)).toInt64) - (1 : Int64)))))]))
          refine own_of (fun _ k => XS.goto X108.here hx rfl (pc0 := 122) (pc' := 126) rfl (hb hby at_122) (by decide) (by decide) k) ?_
          show own_Out p e below _ (T108.setTop (mkF m 126 #[.val (.long q0), .second, .val (.long q1), .second, .val (.int p2), .val (.long q0), .second, .val (.long (q0 + ((((p2 >>> ((1 : Int32) &&& 31)) % (3 : Int32)).toInt64) - (1 : Int64)))), .second, .val (.int (0 : Int32)), .val (.int (1 : Int32)), .val (.int (0 : Int32)), .val (.int (1 : Int32)), .unset, .unset, .unset, .unset, .unset] [(.int (1 : Int32)), (.int (f3e1 q0 (q0 + ((((p2 >>> ((1 : Int32) &&& 31)) % (3 : Int32)).toInt64) - (1 : Int64)))))]))
          by_cases hc126_109 : (f3e1 q0 (q0 + ((((p2 >>> ((1 : Int32) &&& 31)) % (3 : Int32)).toInt64) - (1 : Int64)))) = (1 : Int32)
          · skip
            refine own_of (fun _ k => XS.icmpNo X108.here hx rfl (hb hby at_126) rfl (teq hc126_109).2 k) ?_
            show own_Out p e below _ (T108.setTop (mkF m 129 #[.val (.long q0), .second, .val (.long q1), .second, .val (.int p2), .val (.long q0), .second, .val (.long (q0 + ((((p2 >>> ((1 : Int32) &&& 31)) % (3 : Int32)).toInt64) - (1 : Int64)))), .second, .val (.int (0 : Int32)), .val (.int (1 : Int32)), .val (.int (0 : Int32)), .val (.int (1 : Int32)), .unset, .unset, .unset, .unset, .unset] []))
            refine own_of (fun _ k => XS.iconst X108.here hx rfl (hb hby at_129) k) ?_
            show own_Out p e below _ (T108.setTop (mkF m 130 #[.val (.long q0), .second, .val (.long q1), .second, .val (.int p2), .val (.long q0), .second, .val (.long (q0 + ((((p2 >>> ((1 : Int32) &&& 31)) % (3 : Int32)).toInt64) - (1 : Int64)))), .second, .val (.int (0 : Int32)), .val (.int (1 : Int32)), .val (.int (0 : Int32)), .val (.int (1 : Int32)), .unset, .unset, .unset, .unset, .unset] [(.int (1 : Int32))]))
            refine own_of (fun _ k => XS.goto X108.here hx rfl (pc0 := 130) (pc' := 134) rfl (hb hby at_130) (by decide) (by decide) k) ?_
            show own_Out p e below _ (T108.setTop (mkF m 134 #[.val (.long q0), .second, .val (.long q1), .second, .val (.int p2), .val (.long q0), .second, .val (.long (q0 + ((((p2 >>> ((1 : Int32) &&& 31)) % (3 : Int32)).toInt64) - (1 : Int64)))), .second, .val (.int (0 : Int32)), .val (.int (1 : Int32)), .val (.int (0 : Int32)), .val (.int (1 : Int32)), .unset, .unset, .unset, .unset, .unset] [(.int (1 : Int32))]))
            refine own_of (fun _ k => XS.istore X108.here hx rfl (hb hby at_134) rfl (l' := #[.val (.long q0), .second, .val (.long q1), .second, .val (.int p2), .val (.long q0), .second, .val (.long (q0 + ((((p2 >>> ((1 : Int32) &&& 31)) % (3 : Int32)).toInt64) - (1 : Int64)))), .second, .val (.int (0 : Int32)), .val (.int (1 : Int32)), .val (.int (0 : Int32)), .val (.int (1 : Int32)), .val (.int (1 : Int32)), .unset, .unset, .unset, .unset]) rfl k) ?_
            show own_Out p e below _ (T108.setTop (mkF m 136 #[.val (.long q0), .second, .val (.long q1), .second, .val (.int p2), .val (.long q0), .second, .val (.long (q0 + ((((p2 >>> ((1 : Int32) &&& 31)) % (3 : Int32)).toInt64) - (1 : Int64)))), .second, .val (.int (0 : Int32)), .val (.int (1 : Int32)), .val (.int (0 : Int32)), .val (.int (1 : Int32)), .val (.int (1 : Int32)), .unset, .unset, .unset, .unset] []))
            obtain ⟨T110, X110, e110, st110⟩ := getS2 X108 hx hZ hown (host := "") (Or.inl (hw _ (List.mem_of_getElem? (i := 26) rfl))) Via.refl hh108 S_w_LESS (g := (mkF m 136 #[.val (.long q0), .second, .val (.long q1), .second, .val (.int p2), .val (.long q0), .second, .val (.long (q0 + ((((p2 >>> ((1 : Int32) &&& 31)) % (3 : Int32)).toInt64) - (1 : Int64)))), .second, .val (.int (0 : Int32)), .val (.int (1 : Int32)), .val (.int (0 : Int32)), .val (.int (1 : Int32)), .val (.int (1 : Int32)), .unset, .unset, .unset, .unset] [])) rfl (hb hby at_136)
            refine own_of st110 ?_
            show own_Out p e below _ (T110.setTop (mkF m 139 #[.val (.long q0), .second, .val (.long q1), .second, .val (.int p2), .val (.long q0), .second, .val (.long (q0 + ((((p2 >>> ((1 : Int32) &&& 31)) % (3 : Int32)).toInt64) - (1 : Int64)))), .second, .val (.int (0 : Int32)), .val (.int (1 : Int32)), .val (.int (0 : Int32)), .val (.int (1 : Int32)), .val (.int (1 : Int32)), .unset, .unset, .unset, .unset] [(.ref w_LESS)]))
            refine own_of (fun _ k => XS.lload X110.here hx rfl (hb hby at_139) rfl k) ?_
            show own_Out p e below _ (T110.setTop (mkF m 141 #[.val (.long q0), .second, .val (.long q1), .second, .val (.int p2), .val (.long q0), .second, .val (.long (q0 + ((((p2 >>> ((1 : Int32) &&& 31)) % (3 : Int32)).toInt64) - (1 : Int64)))), .second, .val (.int (0 : Int32)), .val (.int (1 : Int32)), .val (.int (0 : Int32)), .val (.int (1 : Int32)), .val (.int (1 : Int32)), .unset, .unset, .unset, .unset] [(.long q0), (.ref w_LESS)]))
            refine own_of (fun _ k => XS.lload X110.here hx rfl (hb hby at_141) rfl k) ?_
            show own_Out p e below _ (T110.setTop (mkF m 143 #[.val (.long q0), .second, .val (.long q1), .second, .val (.int p2), .val (.long q0), .second, .val (.long (q0 + ((((p2 >>> ((1 : Int32) &&& 31)) % (3 : Int32)).toInt64) - (1 : Int64)))), .second, .val (.int (0 : Int32)), .val (.int (1 : Int32)), .val (.int (0 : Int32)), .val (.int (1 : Int32)), .val (.int (1 : Int32)), .unset, .unset, .unset, .unset] [(.long (q0 + ((((p2 >>> ((1 : Int32) &&& 31)) % (3 : Int32)).toInt64) - (1 : Int64)))), (.long q0), (.ref w_LESS)]))
            obtain ⟨cq111, kq111, q111a, q111b, q111c⟩ := isOf hZ e110 E_w_LESS
            obtain ⟨_, _, ⟨T111, L111, k111, n111⟩, -, X111, ⟨Lc111, hQ111, l111, y111, z111⟩, st111⟩ := X110.virtualBack hx (y := (⟨"com/example/ringd/ringd/core/Comparison$Operator", "holds", "(JJ)Z"⟩ : MethodName)) (z := (⟨"com/example/ringd/ringd/core/Comparison$Operator", "holds", "(JJ)Z"⟩ : MethodName)) hown (mvT hZ (hw _ (List.mem_of_getElem? (i := 10) rfl))) (mvT hZ (hw _ (List.mem_of_getElem? (i := 11) rfl))) (notFace_of_selects (args := #[]) (mvT hZ (hw _ (List.mem_of_getElem? (i := 13) rfl)))) (mvT hZ (hw _ (List.mem_of_getElem? (i := 13) rfl))) (mvT hZ (hw _ (List.mem_of_getElem? (i := 12) rfl))) (by decide) (backOf (W := 0) (rm3e2 l Z a0 hw [] w_LESS q0 (q0 + ((((p2 >>> ((1 : Int32) &&& 31)) % (3 : Int32)).toInt64) - (1 : Int64))) h0 n0 Z0 E_w_LESS F_w_LESS) hZ (hw _ (List.mem_of_getElem? (i := 14) rfl)) (hw _ (List.mem_of_getElem? (i := 8) rfl)) (by decide) (by decide)) q111a q111c (g := (mkF m 143 #[.val (.long q0), .second, .val (.long q1), .second, .val (.int p2), .val (.long q0), .second, .val (.long (q0 + ((((p2 >>> ((1 : Int32) &&& 31)) % (3 : Int32)).toInt64) - (1 : Int64)))), .second, .val (.int (0 : Int32)), .val (.int (1 : Int32)), .val (.int (0 : Int32)), .val (.int (1 : Int32)), .val (.int (1 : Int32)), .unset, .unset, .unset, .unset] [(.long (q0 + ((((p2 >>> ((1 : Int32) &&& 31)) % (3 : Int32)).toInt64) - (1 : Int64)))), (.long q0), (.ref w_LESS)])) rfl (by rw [hml]; rfl) (Steps.refl _) (argsL := [(.long q0), (.long (q0 + ((((p2 >>> ((1 : Int32) &&& 31)) % (3 : Int32)).toInt64) - (1 : Int64))))]) (rest := []) (lenOf pd_2 rfl) rfl (by show 2 * 0 + _ ≤ _; exact Nat.le_of_eq rfl) (hb hby at_143) (fun _ _ => ⟨rfl, e110, (by decide : 0 + 0 ≤ _), (by decide : 0 + 0 ≤ _)⟩)
            dsimp only [Pt.U, Pt.locs, Pt.cells, Pt.slots] at X111 l111 y111 z111 st111 hQ111
            subst l111 y111 z111
            obtain ⟨rfl, N111q, hh111⟩ := hQ111
            have N111 := Fr.app N108 N111q
            refine own_of (fun _ k => st111.trans k) ?_
            show own_Out p e below _ (T111.setTop (mkF m 146 #[.val (.long q0), .second, .val (.long q1), .second, .val (.int p2), .val (.long q0), .second, .val (.long (q0 + ((((p2 >>> ((1 : Int32) &&& 31)) % (3 : Int32)).toInt64) - (1 : Int64)))), .second, .val (.int (0 : Int32)), .val (.int (1 : Int32)), .val (.int (0 : Int32)), .val (.int (1 : Int32)), .val (.int (1 : Int32)), .unset, .unset, .unset, .unset] [(.int (f3e2 q0 (q0 + ((((p2 >>> ((1 : Int32) &&& 31)) % (3 : Int32)).toInt64) - (1 : Int64)))))]))
            refine own_of (fun _ k => XS.iload X111.here hx rfl (hb hby at_146) rfl k) ?_
            show own_Out p e below _ (T111.setTop (mkF m 148 #[.val (.long q0), .second, .val (.long q1), .second, .val (.int p2), .val (.long q0), .second, .val (.long (q0 + ((((p2 >>> ((1 : Int32) &&& 31)) % (3 : Int32)).toInt64) - (1 : Int64)))), .second, .val (.int (0 : Int32)), .val (.int (1 : Int32)), .val (.int (0 : Int32)), .val (.int (1 : Int32)), .val (.int (1 : Int32)), .unset, .unset, .unset, .unset] [(.int (0 : Int32)), (.int (f3e2 q0 (q0 + ((((p2 >>> ((1 : Int32) &&& 31)) % (3 : Int32)).toInt64) - (1 : Int64)))))]))
            refine own_of (fun _ k => XS.ifYes X111.here hx rfl (pc0 := 148) (pc' := 160) rfl (hb hby at_148) rfl ((if0 _ _).trans (teq (by decide : (0 : Int32) = (0 : Int32))).1) (by decide) (by decide) k) ?_
            show own_Out p e below _ (T111.setTop (mkF m 160 #[.val (.long q0), .second, .val (.long q1), .second, .val (.int p2), .val (.long q0), .second, .val (.long (q0 + ((((p2 >>> ((1 : Int32) &&& 31)) % (3 : Int32)).toInt64) - (1 : Int64)))), .second, .val (.int (0 : Int32)), .val (.int (1 : Int32)), .val (.int (0 : Int32)), .val (.int (1 : Int32)), .val (.int (1 : Int32)), .unset, .unset, .unset, .unset] [(.int (f3e2 q0 (q0 + ((((p2 >>> ((1 : Int32) &&& 31)) % (3 : Int32)).toInt64) - (1 : Int64)))))]))
            refine own_of (fun _ k => XS.iconst X111.here hx rfl (hb hby at_160) k) ?_
            show own_Out p e below _ (T111.setTop (mkF m 161 #[.val (.long q0), .second, .val (.long q1), .second, .val (.int p2), .val (.long q0), .second, .val (.long (q0 + ((((p2 >>> ((1 : Int32) &&& 31)) % (3 : Int32)).toInt64) - (1 : Int64)))), .second, .val (.int (0 : Int32)), .val (.int (1 : Int32)), .val (.int (0 : Int32)), .val (.int (1 : Int32)), .val (.int (1 : Int32)), .unset, .unset, .unset, .unset] [(.int (0 : Int32)), (.int (f3e2 q0 (q0 + ((((p2 >>> ((1 : Int32) &&& 31)) % (3 : Int32)).toInt64) - (1 : Int64)))))]))
            by_cases hc161_112 : (f3e2 q0 (q0 + ((((p2 >>> ((1 : Int32) &&& 31)) % (3 : Int32)).toInt64) - (1 : Int64)))) = (0 : Int32)
            · skip
              refine own_of (fun _ k => XS.icmpNo X111.here hx rfl (hb hby at_161) rfl (teq hc161_112).2 k) ?_
              show own_Out p e below _ (T111.setTop (mkF m 164 #[.val (.long q0), .second, .val (.long q1), .second, .val (.int p2), .val (.long q0), .second, .val (.long (q0 + ((((p2 >>> ((1 : Int32) &&& 31)) % (3 : Int32)).toInt64) - (1 : Int64)))), .second, .val (.int (0 : Int32)), .val (.int (1 : Int32)), .val (.int (0 : Int32)), .val (.int (1 : Int32)), .val (.int (1 : Int32)), .unset, .unset, .unset, .unset] []))
              refine own_of (fun _ k => XS.iconst X111.here hx rfl (hb hby at_164) k) ?_
              show own_Out p e below _ (T111.setTop (mkF m 165 #[.val (.long q0), .second, .val (.long q1), .second, .val (.int p2), .val (.long q0), .second, .val (.long (q0 + ((((p2 >>> ((1 : Int32) &&& 31)) % (3 : Int32)).toInt64) - (1 : Int64)))), .second, .val (.int (0 : Int32)), .val (.int (1 : Int32)), .val (.int (0 : Int32)), .val (.int (1 : Int32)), .val (.int (1 : Int32)), .unset, .unset, .unset, .unset] [(.int (1 : Int32))]))
              refine own_of (fun _ k => XS.goto X111.here hx rfl (pc0 := 165) (pc' := 169) rfl (hb hby at_165) (by decide) (by decide) k) ?_
              show own_Out p e below _ (T111.setTop (mkF m 169 #[.val (.long q0), .second, .val (.long q1), .second, .val (.int p2), .val (.long q0), .second, .val (.long (q0 + ((((p2 >>> ((1 : Int32) &&& 31)) % (3 : Int32)).toInt64) - (1 : Int64)))), .second, .val (.int (0 : Int32)), .val (.int (1 : Int32)), .val (.int (0 : Int32)), .val (.int (1 : Int32)), .val (.int (1 : Int32)), .unset, .unset, .unset, .unset] [(.int (1 : Int32))]))
              refine own_of (fun _ k => XS.istore X111.here hx rfl (hb hby at_169) rfl (l' := #[.val (.long q0), .second, .val (.long q1), .second, .val (.int p2), .val (.long q0), .second, .val (.long (q0 + ((((p2 >>> ((1 : Int32) &&& 31)) % (3 : Int32)).toInt64) - (1 : Int64)))), .second, .val (.int (0 : Int32)), .val (.int (1 : Int32)), .val (.int (0 : Int32)), .val (.int (1 : Int32)), .val (.int (1 : Int32)), .val (.int (1 : Int32)), .unset, .unset, .unset]) rfl k) ?_
              show own_Out p e below _ (T111.setTop (mkF m 171 #[.val (.long q0), .second, .val (.long q1), .second, .val (.int p2), .val (.long q0), .second, .val (.long (q0 + ((((p2 >>> ((1 : Int32) &&& 31)) % (3 : Int32)).toInt64) - (1 : Int64)))), .second, .val (.int (0 : Int32)), .val (.int (1 : Int32)), .val (.int (0 : Int32)), .val (.int (1 : Int32)), .val (.int (1 : Int32)), .val (.int (1 : Int32)), .unset, .unset, .unset] []))
              obtain ⟨T113, X113, e113, st113⟩ := getS2 X111 hx hZ hown (host := "") (Or.inl (hw _ (List.mem_of_getElem? (i := 28) rfl))) Via.refl hh111 S_w_AT_MOST (g := (mkF m 171 #[.val (.long q0), .second, .val (.long q1), .second, .val (.int p2), .val (.long q0), .second, .val (.long (q0 + ((((p2 >>> ((1 : Int32) &&& 31)) % (3 : Int32)).toInt64) - (1 : Int64)))), .second, .val (.int (0 : Int32)), .val (.int (1 : Int32)), .val (.int (0 : Int32)), .val (.int (1 : Int32)), .val (.int (1 : Int32)), .val (.int (1 : Int32)), .unset, .unset, .unset] [])) rfl (hb hby at_171)
              refine own_of st113 ?_
              show own_Out p e below _ (T113.setTop (mkF m 174 #[.val (.long q0), .second, .val (.long q1), .second, .val (.int p2), .val (.long q0), .second, .val (.long (q0 + ((((p2 >>> ((1 : Int32) &&& 31)) % (3 : Int32)).toInt64) - (1 : Int64)))), .second, .val (.int (0 : Int32)), .val (.int (1 : Int32)), .val (.int (0 : Int32)), .val (.int (1 : Int32)), .val (.int (1 : Int32)), .val (.int (1 : Int32)), .unset, .unset, .unset] [(.ref w_AT_MOST)]))
              refine own_of (fun _ k => XS.lload X113.here hx rfl (hb hby at_174) rfl k) ?_
              show own_Out p e below _ (T113.setTop (mkF m 176 #[.val (.long q0), .second, .val (.long q1), .second, .val (.int p2), .val (.long q0), .second, .val (.long (q0 + ((((p2 >>> ((1 : Int32) &&& 31)) % (3 : Int32)).toInt64) - (1 : Int64)))), .second, .val (.int (0 : Int32)), .val (.int (1 : Int32)), .val (.int (0 : Int32)), .val (.int (1 : Int32)), .val (.int (1 : Int32)), .val (.int (1 : Int32)), .unset, .unset, .unset] [(.long q0), (.ref w_AT_MOST)]))
              refine own_of (fun _ k => XS.lload X113.here hx rfl (hb hby at_176) rfl k) ?_
              show own_Out p e below _ (T113.setTop (mkF m 178 #[.val (.long q0), .second, .val (.long q1), .second, .val (.int p2), .val (.long q0), .second, .val (.long (q0 + ((((p2 >>> ((1 : Int32) &&& 31)) % (3 : Int32)).toInt64) - (1 : Int64)))), .second, .val (.int (0 : Int32)), .val (.int (1 : Int32)), .val (.int (0 : Int32)), .val (.int (1 : Int32)), .val (.int (1 : Int32)), .val (.int (1 : Int32)), .unset, .unset, .unset] [(.long (q0 + ((((p2 >>> ((1 : Int32) &&& 31)) % (3 : Int32)).toInt64) - (1 : Int64)))), (.long q0), (.ref w_AT_MOST)]))
              obtain ⟨cq114, kq114, q114a, q114b, q114c⟩ := isOf hZ e113 E_w_AT_MOST
              obtain ⟨_, _, ⟨T114, L114, k114, n114⟩, -, X114, ⟨Lc114, hQ114, l114, y114, z114⟩, st114⟩ := X113.virtualBack hx (y := (⟨"com/example/ringd/ringd/core/Comparison$Operator", "holds", "(JJ)Z"⟩ : MethodName)) (z := (⟨"com/example/ringd/ringd/core/Comparison$Operator", "holds", "(JJ)Z"⟩ : MethodName)) hown (mvT hZ (hw _ (List.mem_of_getElem? (i := 10) rfl))) (mvT hZ (hw _ (List.mem_of_getElem? (i := 11) rfl))) (notFace_of_selects (args := #[]) (mvT hZ (hw _ (List.mem_of_getElem? (i := 13) rfl)))) (mvT hZ (hw _ (List.mem_of_getElem? (i := 13) rfl))) (mvT hZ (hw _ (List.mem_of_getElem? (i := 12) rfl))) (by decide) (backOf (W := 0) (rm3e3 l Z a0 hw [] w_AT_MOST q0 (q0 + ((((p2 >>> ((1 : Int32) &&& 31)) % (3 : Int32)).toInt64) - (1 : Int64))) h0 n0 Z0 E_w_AT_MOST F_w_AT_MOST) hZ (hw _ (List.mem_of_getElem? (i := 14) rfl)) (hw _ (List.mem_of_getElem? (i := 8) rfl)) (by decide) (by decide)) q114a q114c (g := (mkF m 178 #[.val (.long q0), .second, .val (.long q1), .second, .val (.int p2), .val (.long q0), .second, .val (.long (q0 + ((((p2 >>> ((1 : Int32) &&& 31)) % (3 : Int32)).toInt64) - (1 : Int64)))), .second, .val (.int (0 : Int32)), .val (.int (1 : Int32)), .val (.int (0 : Int32)), .val (.int (1 : Int32)), .val (.int (1 : Int32)), .val (.int (1 : Int32)), .unset, .unset, .unset] [(.long (q0 + ((((p2 >>> ((1 : Int32) &&& 31)) % (3 : Int32)).toInt64) - (1 : Int64)))), (.long q0), (.ref w_AT_MOST)])) rfl (by rw [hml]; rfl) (Steps.refl _) (argsL := [(.long q0), (.long (q0 + ((((p2 >>> ((1 : Int32) &&& 31)) % (3 : Int32)).toInt64) - (1 : Int64))))]) (rest := []) (lenOf pd_2 rfl) rfl (by show 2 * 0 + _ ≤ _; exact Nat.le_of_eq rfl) (hb hby at_178) (fun _ _ => ⟨rfl, e113, (by decide : 0 + 0 ≤ _), (by decide : 0 + 0 ≤ _)⟩)
              dsimp only [Pt.U, Pt.locs, Pt.cells, Pt.slots] at X114 l114 y114 z114 st114 hQ114
              subst l114 y114 z114
              obtain ⟨rfl, N114q, hh114⟩ := hQ114
              have N114 := Fr.app N111 N114q
              refine own_of (fun _ k => st114.trans k) ?_
              show own_Out p e below _ (T114.setTop (mkF m 181 #[.val (.long q0), .second, .val (.long q1), .second, .val (.int p2), .val (.long q0), .second, .val (.long (q0 + ((((p2 >>> ((1 : Int32) &&& 31)) % (3 : Int32)).toInt64) - (1 : Int64)))), .second, .val (.int (0 : Int32)), .val (.int (1 : Int32)), .val (.int (0 : Int32)), .val (.int (1 : Int32)), .val (.int (1 : Int32)), .val (.int (1 : Int32)), .unset, .unset, .unset] [(.int (f3e3 q0 (q0 + ((((p2 >>> ((1 : Int32) &&& 31)) % (3 : Int32)).toInt64) - (1 : Int64)))))]))
              refine own_of (fun _ k => XS.iload X114.here hx rfl (hb hby at_181) rfl k) ?_
              show own_Out p e below _ (T114.setTop (mkF m 183 #[.val (.long q0), .second, .val (.long q1), .second, .val (.int p2), .val (.long q0), .second, .val (.long (q0 + ((((p2 >>> ((1 : Int32) &&& 31)) % (3 : Int32)).toInt64) - (1 : Int64)))), .second, .val (.int (0 : Int32)), .val (.int (1 : Int32)), .val (.int (0 : Int32)), .val (.int (1 : Int32)), .val (.int (1 : Int32)), .val (.int (1 : Int32)), .unset, .unset, .unset] [(.int (0 : Int32)), (.int (f3e3 q0 (q0 + ((((p2 >>> ((1 : Int32) &&& 31)) % (3 : Int32)).toInt64) - (1 : Int64)))))]))
              by_cases hc183_115 : (f3e3 q0 (q0 + ((((p2 >>> ((1 : Int32) &&& 31)) % (3 : Int32)).toInt64) - (1 : Int64)))) = (0 : Int32)
              · skip
                refine own_of (fun _ k => XS.icmpNo X114.here hx rfl (hb hby at_183) rfl (teq hc183_115).2 k) ?_
                show own_Out p e below _ (T114.setTop (mkF m 186 #[.val (.long q0), .second, .val (.long q1), .second, .val (.int p2), .val (.long q0), .second, .val (.long (q0 + ((((p2 >>> ((1 : Int32) &&& 31)) % (3 : Int32)).toInt64) - (1 : Int64)))), .second, .val (.int (0 : Int32)), .val (.int (1 : Int32)), .val (.int (0 : Int32)), .val (.int (1 : Int32)), .val (.int (1 : Int32)), .val (.int (1 : Int32)), .unset, .unset, .unset] []))
                refine own_of (fun _ k => XS.iconst X114.here hx rfl (hb hby at_186) k) ?_
                show own_Out p e below _ (T114.setTop (mkF m 187 #[.val (.long q0), .second, .val (.long q1), .second, .val (.int p2), .val (.long q0), .second, .val (.long (q0 + ((((p2 >>> ((1 : Int32) &&& 31)) % (3 : Int32)).toInt64) - (1 : Int64)))), .second, .val (.int (0 : Int32)), .val (.int (1 : Int32)), .val (.int (0 : Int32)), .val (.int (1 : Int32)), .val (.int (1 : Int32)), .val (.int (1 : Int32)), .unset, .unset, .unset] [(.int (1 : Int32))]))
                refine own_of (fun _ k => XS.goto X114.here hx rfl (pc0 := 187) (pc' := 191) rfl (hb hby at_187) (by decide) (by decide) k) ?_
                show own_Out p e below _ (T114.setTop (mkF m 191 #[.val (.long q0), .second, .val (.long q1), .second, .val (.int p2), .val (.long q0), .second, .val (.long (q0 + ((((p2 >>> ((1 : Int32) &&& 31)) % (3 : Int32)).toInt64) - (1 : Int64)))), .second, .val (.int (0 : Int32)), .val (.int (1 : Int32)), .val (.int (0 : Int32)), .val (.int (1 : Int32)), .val (.int (1 : Int32)), .val (.int (1 : Int32)), .unset, .unset, .unset] [(.int (1 : Int32))]))
                refine own_of (fun _ k => XS.istore X114.here hx rfl (hb hby at_191) rfl (l' := #[.val (.long q0), .second, .val (.long q1), .second, .val (.int p2), .val (.long q0), .second, .val (.long (q0 + ((((p2 >>> ((1 : Int32) &&& 31)) % (3 : Int32)).toInt64) - (1 : Int64)))), .second, .val (.int (0 : Int32)), .val (.int (1 : Int32)), .val (.int (0 : Int32)), .val (.int (1 : Int32)), .val (.int (1 : Int32)), .val (.int (1 : Int32)), .val (.int (1 : Int32)), .unset, .unset]) rfl k) ?_
                show own_Out p e below _ (T114.setTop (mkF m 193 #[.val (.long q0), .second, .val (.long q1), .second, .val (.int p2), .val (.long q0), .second, .val (.long (q0 + ((((p2 >>> ((1 : Int32) &&& 31)) % (3 : Int32)).toInt64) - (1 : Int64)))), .second, .val (.int (0 : Int32)), .val (.int (1 : Int32)), .val (.int (0 : Int32)), .val (.int (1 : Int32)), .val (.int (1 : Int32)), .val (.int (1 : Int32)), .val (.int (1 : Int32)), .unset, .unset] []))
                obtain ⟨T116, X116, e116, st116⟩ := getS2 X114 hx hZ hown (host := "") (Or.inl (hw _ (List.mem_of_getElem? (i := 30) rfl))) Via.refl hh114 S_w_GREATER (g := (mkF m 193 #[.val (.long q0), .second, .val (.long q1), .second, .val (.int p2), .val (.long q0), .second, .val (.long (q0 + ((((p2 >>> ((1 : Int32) &&& 31)) % (3 : Int32)).toInt64) - (1 : Int64)))), .second, .val (.int (0 : Int32)), .val (.int (1 : Int32)), .val (.int (0 : Int32)), .val (.int (1 : Int32)), .val (.int (1 : Int32)), .val (.int (1 : Int32)), .val (.int (1 : Int32)), .unset, .unset] [])) rfl (hb hby at_193)
                refine own_of st116 ?_
                show own_Out p e below _ (T116.setTop (mkF m 196 #[.val (.long q0), .second, .val (.long q1), .second, .val (.int p2), .val (.long q0), .second, .val (.long (q0 + ((((p2 >>> ((1 : Int32) &&& 31)) % (3 : Int32)).toInt64) - (1 : Int64)))), .second, .val (.int (0 : Int32)), .val (.int (1 : Int32)), .val (.int (0 : Int32)), .val (.int (1 : Int32)), .val (.int (1 : Int32)), .val (.int (1 : Int32)), .val (.int (1 : Int32)), .unset, .unset] [(.ref w_GREATER)]))
                refine own_of (fun _ k => XS.lload X116.here hx rfl (hb hby at_196) rfl k) ?_
                show own_Out p e below _ (T116.setTop (mkF m 198 #[.val (.long q0), .second, .val (.long q1), .second, .val (.int p2), .val (.long q0), .second, .val (.long (q0 + ((((p2 >>> ((1 : Int32) &&& 31)) % (3 : Int32)).toInt64) - (1 : Int64)))), .second, .val (.int (0 : Int32)), .val (.int (1 : Int32)), .val (.int (0 : Int32)), .val (.int (1 : Int32)), .val (.int (1 : Int32)), .val (.int (1 : Int32)), .val (.int (1 : Int32)), .unset, .unset] [(.long q0), (.ref w_GREATER)]))
                refine own_of (fun _ k => XS.lload X116.here hx rfl (hb hby at_198) rfl k) ?_
                show own_Out p e below _ (T116.setTop (mkF m 200 #[.val (.long q0), .second, .val (.long q1), .second, .val (.int p2), .val (.long q0), .second, .val (.long (q0 + ((((p2 >>> ((1 : Int32) &&& 31)) % (3 : Int32)).toInt64) - (1 : Int64)))), .second, .val (.int (0 : Int32)), .val (.int (1 : Int32)), .val (.int (0 : Int32)), .val (.int (1 : Int32)), .val (.int (1 : Int32)), .val (.int (1 : Int32)), .val (.int (1 : Int32)), .unset, .unset] [(.long (q0 + ((((p2 >>> ((1 : Int32) &&& 31)) % (3 : Int32)).toInt64) - (1 : Int64)))), (.long q0), (.ref w_GREATER)]))
                obtain ⟨cq117, kq117, q117a, q117b, q117c⟩ := isOf hZ e116 E_w_GREATER
                obtain ⟨_, _, ⟨T117, L117, k117, n117⟩, -, X117, ⟨Lc117, hQ117, l117, y117, z117⟩, st117⟩ := X116.virtualBack hx (y := (⟨"com/example/ringd/ringd/core/Comparison$Operator", "holds", "(JJ)Z"⟩ : MethodName)) (z := (⟨"com/example/ringd/ringd/core/Comparison$Operator", "holds", "(JJ)Z"⟩ : MethodName)) hown (mvT hZ (hw _ (List.mem_of_getElem? (i := 10) rfl))) (mvT hZ (hw _ (List.mem_of_getElem? (i := 11) rfl))) (notFace_of_selects (args := #[]) (mvT hZ (hw _ (List.mem_of_getElem? (i := 13) rfl)))) (mvT hZ (hw _ (List.mem_of_getElem? (i := 13) rfl))) (mvT hZ (hw _ (List.mem_of_getElem? (i := 12) rfl))) (by decide) (backOf (W := 0) (rm3e4 l Z a0 hw [] w_GREATER q0 (q0 + ((((p2 >>> ((1 : Int32) &&& 31)) % (3 : Int32)).toInt64) - (1 : Int64))) h0 n0 Z0 E_w_GREATER F_w_GREATER) hZ (hw _ (List.mem_of_getElem? (i := 14) rfl)) (hw _ (List.mem_of_getElem? (i := 8) rfl)) (by decide) (by decide)) q117a q117c (g := (mkF m 200 #[.val (.long q0), .second, .val (.long q1), .second, .val (.int p2), .val (.long q0), .second, .val (.long (q0 + ((((p2 >>> ((1 : Int32) &&& 31)) % (3 : Int32)).toInt64) - (1 : Int64)))), .second, .val (.int (0 : Int32)), .val (.int (1 : Int32)), .val (.int (0 : Int32)), .val (.int (1 : Int32)), .val (.int (1 : Int32)), .val (.int (1 : Int32)), .val (.int (1 : Int32)), .unset, .unset] [(.long (q0 + ((((p2 >>> ((1 : Int32) &&& 31)) % (3 : Int32)).toInt64) - (1 : Int64)))), (.long q0), (.ref w_GREATER)])) rfl (by rw [hml]; rfl) (Steps.refl _) (argsL := [(.long q0), (.long (q0 + ((((p2 >>> ((1 : Int32) &&& 31)) % (3 : Int32)).toInt64) - (1 : Int64))))]) (rest := []) (lenOf pd_2 rfl) rfl (by show 2 * 0 + _ ≤ _; exact Nat.le_of_eq rfl) (hb hby at_200) (fun _ _ => ⟨rfl, e116, (by decide : 0 + 0 ≤ _), (by decide : 0 + 0 ≤ _)⟩)
                dsimp only [Pt.U, Pt.locs, Pt.cells, Pt.slots] at X117 l117 y117 z117 st117 hQ117
                subst l117 y117 z117
                obtain ⟨rfl, N117q, hh117⟩ := hQ117
                have N117 := Fr.app N114 N117q
                refine own_of (fun _ k => st117.trans k) ?_
                show own_Out p e below _ (T117.setTop (mkF m 203 #[.val (.long q0), .second, .val (.long q1), .second, .val (.int p2), .val (.long q0), .second, .val (.long (q0 + ((((p2 >>> ((1 : Int32) &&& 31)) % (3 : Int32)).toInt64) - (1 : Int64)))), .second, .val (.int (0 : Int32)), .val (.int (1 : Int32)), .val (.int (0 : Int32)), .val (.int (1 : Int32)), .val (.int (1 : Int32)), .val (.int (1 : Int32)), .val (.int (1 : Int32)), .unset, .unset] [(.int (f3e4 q0 (q0 + ((((p2 >>> ((1 : Int32) &&& 31)) % (3 : Int32)).toInt64) - (1 : Int64)))))]))
                refine own_of (fun _ k => XS.iload X117.here hx rfl (hb hby at_203) rfl k) ?_
                show own_Out p e below _ (T117.setTop (mkF m 205 #[.val (.long q0), .second, .val (.long q1), .second, .val (.int p2), .val (.long q0), .second, .val (.long (q0 + ((((p2 >>> ((1 : Int32) &&& 31)) % (3 : Int32)).toInt64) - (1 : Int64)))), .second, .val (.int (0 : Int32)), .val (.int (1 : Int32)), .val (.int (0 : Int32)), .val (.int (1 : Int32)), .val (.int (1 : Int32)), .val (.int (1 : Int32)), .val (.int (1 : Int32)), .unset, .unset] [(.int (1 : Int32)), (.int (f3e4 q0 (q0 + ((((p2 >>> ((1 : Int32) &&& 31)) % (3 : Int32)).toInt64) - (1 : Int64)))))]))
                refine own_of (fun _ k => XS.ifNo X117.here hx rfl (hb hby at_205) rfl ((if0 _ _).trans (feq (by decide : ¬ ((1 : Int32) = (0 : Int32)))).1) k) ?_
                show own_Out p e below _ (T117.setTop (mkF m 208 #[.val (.long q0), .second, .val (.long q1), .second, .val (.int p2), .val (.long q0), .second, .val (.long (q0 + ((((p2 >>> ((1 : Int32) &&& 31)) % (3 : Int32)).toInt64) - (1 : Int64)))), .second, .val (.int (0 : Int32)), .val (.int (1 : Int32)), .val (.int (0 : Int32)), .val (.int (1 : Int32)), .val (.int (1 : Int32)), .val (.int (1 : Int32)), .val (.int (1 : Int32)), .unset, .unset] [(.int (f3e4 q0 (q0 + ((((p2 >>> ((1 : Int32) &&& 31)) % (3 : Int32)).toInt64) - (1 : Int64)))))]))
                refine own_of (fun _ k => XS.iload X117.here hx rfl (hb hby at_208) rfl k) ?_
                show own_Out p e below _ (T117.setTop (mkF m 210 #[.val (.long q0), .second, .val (.long q1), .second, .val (.int p2), .val (.long q0), .second, .val (.long (q0 + ((((p2 >>> ((1 : Int32) &&& 31)) % (3 : Int32)).toInt64) - (1 : Int64)))), .second, .val (.int (0 : Int32)), .val (.int (1 : Int32)), .val (.int (0 : Int32)), .val (.int (1 : Int32)), .val (.int (1 : Int32)), .val (.int (1 : Int32)), .val (.int (1 : Int32)), .unset, .unset] [(.int (0 : Int32)), (.int (f3e4 q0 (q0 + ((((p2 >>> ((1 : Int32) &&& 31)) % (3 : Int32)).toInt64) - (1 : Int64)))))]))
                refine own_of (fun _ k => XS.ifNo X117.here hx rfl (hb hby at_210) rfl ((if0 _ _).trans (teq (by decide : (0 : Int32) = (0 : Int32))).2) k) ?_
                show own_Out p e below _ (T117.setTop (mkF m 213 #[.val (.long q0), .second, .val (.long q1), .second, .val (.int p2), .val (.long q0), .second, .val (.long (q0 + ((((p2 >>> ((1 : Int32) &&& 31)) % (3 : Int32)).toInt64) - (1 : Int64)))), .second, .val (.int (0 : Int32)), .val (.int (1 : Int32)), .val (.int (0 : Int32)), .val (.int (1 : Int32)), .val (.int (1 : Int32)), .val (.int (1 : Int32)), .val (.int (1 : Int32)), .unset, .unset] [(.int (f3e4 q0 (q0 + ((((p2 >>> ((1 : Int32) &&& 31)) % (3 : Int32)).toInt64) - (1 : Int64)))))]))
                refine own_of (fun _ k => XS.iconst X117.here hx rfl (hb hby at_213) k) ?_
                show own_Out p e below _ (T117.setTop (mkF m 214 #[.val (.long q0), .second, .val (.long q1), .second, .val (.int p2), .val (.long q0), .second, .val (.long (q0 + ((((p2 >>> ((1 : Int32) &&& 31)) % (3 : Int32)).toInt64) - (1 : Int64)))), .second, .val (.int (0 : Int32)), .val (.int (1 : Int32)), .val (.int (0 : Int32)), .val (.int (1 : Int32)), .val (.int (1 : Int32)), .val (.int (1 : Int32)), .val (.int (1 : Int32)), .unset, .unset] [(.int (1 : Int32)), (.int (f3e4 q0 (q0 + ((((p2 >>> ((1 : Int32) &&& 31)) % (3 : Int32)).toInt64) - (1 : Int64)))))]))
                refine own_of (fun _ k => XS.goto X117.here hx rfl (pc0 := 214) (pc' := 218) rfl (hb hby at_214) (by decide) (by decide) k) ?_
                show own_Out p e below _ (T117.setTop (mkF m 218 #[.val (.long q0), .second, .val (.long q1), .second, .val (.int p2), .val (.long q0), .second, .val (.long (q0 + ((((p2 >>> ((1 : Int32) &&& 31)) % (3 : Int32)).toInt64) - (1 : Int64)))), .second, .val (.int (0 : Int32)), .val (.int (1 : Int32)), .val (.int (0 : Int32)), .val (.int (1 : Int32)), .val (.int (1 : Int32)), .val (.int (1 : Int32)), .val (.int (1 : Int32)), .unset, .unset] [(.int (1 : Int32)), (.int (f3e4 q0 (q0 + ((((p2 >>> ((1 : Int32) &&& 31)) % (3 : Int32)).toInt64) - (1 : Int64)))))]))
                by_cases hc218_118 : (f3e4 q0 (q0 + ((((p2 >>> ((1 : Int32) &&& 31)) % (3 : Int32)).toInt64) - (1 : Int64)))) = (1 : Int32)
                · skip
                  refine own_of (fun _ k => XS.icmpNo X117.here hx rfl (hb hby at_218) rfl (teq hc218_118).2 k) ?_
                  show own_Out p e below _ (T117.setTop (mkF m 221 #[.val (.long q0), .second, .val (.long q1), .second, .val (.int p2), .val (.long q0), .second, .val (.long (q0 + ((((p2 >>> ((1 : Int32) &&& 31)) % (3 : Int32)).toInt64) - (1 : Int64)))), .second, .val (.int (0 : Int32)), .val (.int (1 : Int32)), .val (.int (0 : Int32)), .val (.int (1 : Int32)), .val (.int (1 : Int32)), .val (.int (1 : Int32)), .val (.int (1 : Int32)), .unset, .unset] []))
                  refine own_of (fun _ k => XS.iconst X117.here hx rfl (hb hby at_221) k) ?_
                  show own_Out p e below _ (T117.setTop (mkF m 222 #[.val (.long q0), .second, .val (.long q1), .second, .val (.int p2), .val (.long q0), .second, .val (.long (q0 + ((((p2 >>> ((1 : Int32) &&& 31)) % (3 : Int32)).toInt64) - (1 : Int64)))), .second, .val (.int (0 : Int32)), .val (.int (1 : Int32)), .val (.int (0 : Int32)), .val (.int (1 : Int32)), .val (.int (1 : Int32)), .val (.int (1 : Int32)), .val (.int (1 : Int32)), .unset, .unset] [(.int (1 : Int32))]))
                  refine own_of (fun _ k => XS.goto X117.here hx rfl (pc0 := 222) (pc' := 226) rfl (hb hby at_222) (by decide) (by decide) k) ?_
                  show own_Out p e below _ (T117.setTop (mkF m 226 #[.val (.long q0), .second, .val (.long q1), .second, .val (.int p2), .val (.long q0), .second, .val (.long (q0 + ((((p2 >>> ((1 : Int32) &&& 31)) % (3 : Int32)).toInt64) - (1 : Int64)))), .second, .val (.int (0 : Int32)), .val (.int (1 : Int32)), .val (.int (0 : Int32)), .val (.int (1 : Int32)), .val (.int (1 : Int32)), .val (.int (1 : Int32)), .val (.int (1 : Int32)), .unset, .unset] [(.int (1 : Int32))]))
                  refine own_of (fun _ k => XS.istore X117.here hx rfl (hb hby at_226) rfl (l' := #[.val (.long q0), .second, .val (.long q1), .second, .val (.int p2), .val (.long q0), .second, .val (.long (q0 + ((((p2 >>> ((1 : Int32) &&& 31)) % (3 : Int32)).toInt64) - (1 : Int64)))), .second, .val (.int (0 : Int32)), .val (.int (1 : Int32)), .val (.int (0 : Int32)), .val (.int (1 : Int32)), .val (.int (1 : Int32)), .val (.int (1 : Int32)), .val (.int (1 : Int32)), .val (.int (1 : Int32)), .unset]) rfl k) ?_
                  show own_Out p e below _ (T117.setTop (mkF m 228 #[.val (.long q0), .second, .val (.long q1), .second, .val (.int p2), .val (.long q0), .second, .val (.long (q0 + ((((p2 >>> ((1 : Int32) &&& 31)) % (3 : Int32)).toInt64) - (1 : Int64)))), .second, .val (.int (0 : Int32)), .val (.int (1 : Int32)), .val (.int (0 : Int32)), .val (.int (1 : Int32)), .val (.int (1 : Int32)), .val (.int (1 : Int32)), .val (.int (1 : Int32)), .val (.int (1 : Int32)), .unset] []))
                  obtain ⟨T119, X119, e119, st119⟩ := getS2 X117 hx hZ hown (host := "") (Or.inl (hw _ (List.mem_of_getElem? (i := 32) rfl))) Via.refl hh117 S_w_AT_LEAST (g := (mkF m 228 #[.val (.long q0), .second, .val (.long q1), .second, .val (.int p2), .val (.long q0), .second, .val (.long (q0 + ((((p2 >>> ((1 : Int32) &&& 31)) % (3 : Int32)).toInt64) - (1 : Int64)))), .second, .val (.int (0 : Int32)), .val (.int (1 : Int32)), .val (.int (0 : Int32)), .val (.int (1 : Int32)), .val (.int (1 : Int32)), .val (.int (1 : Int32)), .val (.int (1 : Int32)), .val (.int (1 : Int32)), .unset] [])) rfl (hb hby at_228)
                  refine own_of st119 ?_
                  show own_Out p e below _ (T119.setTop (mkF m 231 #[.val (.long q0), .second, .val (.long q1), .second, .val (.int p2), .val (.long q0), .second, .val (.long (q0 + ((((p2 >>> ((1 : Int32) &&& 31)) % (3 : Int32)).toInt64) - (1 : Int64)))), .second, .val (.int (0 : Int32)), .val (.int (1 : Int32)), .val (.int (0 : Int32)), .val (.int (1 : Int32)), .val (.int (1 : Int32)), .val (.int (1 : Int32)), .val (.int (1 : Int32)), .val (.int (1 : Int32)), .unset] [(.ref w_AT_LEAST)]))
                  refine own_of (fun _ k => XS.lload X119.here hx rfl (hb hby at_231) rfl k) ?_
                  show own_Out p e below _ (T119.setTop (mkF m 233 #[.val (.long q0), .second, .val (.long q1), .second, .val (.int p2), .val (.long q0), .second, .val (.long (q0 + ((((p2 >>> ((1 : Int32) &&& 31)) % (3 : Int32)).toInt64) - (1 : Int64)))), .second, .val (.int (0 : Int32)), .val (.int (1 : Int32)), .val (.int (0 : Int32)), .val (.int (1 : Int32)), .val (.int (1 : Int32)), .val (.int (1 : Int32)), .val (.int (1 : Int32)), .val (.int (1 : Int32)), .unset] [(.long q0), (.ref w_AT_LEAST)]))
                  refine own_of (fun _ k => XS.lload X119.here hx rfl (hb hby at_233) rfl k) ?_
                  show own_Out p e below _ (T119.setTop (mkF m 235 #[.val (.long q0), .second, .val (.long q1), .second, .val (.int p2), .val (.long q0), .second, .val (.long (q0 + ((((p2 >>> ((1 : Int32) &&& 31)) % (3 : Int32)).toInt64) - (1 : Int64)))), .second, .val (.int (0 : Int32)), .val (.int (1 : Int32)), .val (.int (0 : Int32)), .val (.int (1 : Int32)), .val (.int (1 : Int32)), .val (.int (1 : Int32)), .val (.int (1 : Int32)), .val (.int (1 : Int32)), .unset] [(.long (q0 + ((((p2 >>> ((1 : Int32) &&& 31)) % (3 : Int32)).toInt64) - (1 : Int64)))), (.long q0), (.ref w_AT_LEAST)]))
                  obtain ⟨cq120, kq120, q120a, q120b, q120c⟩ := isOf hZ e119 E_w_AT_LEAST
                  obtain ⟨_, _, ⟨T120, L120, k120, n120⟩, -, X120, ⟨Lc120, hQ120, l120, y120, z120⟩, st120⟩ := X119.virtualBack hx (y := (⟨"com/example/ringd/ringd/core/Comparison$Operator", "holds", "(JJ)Z"⟩ : MethodName)) (z := (⟨"com/example/ringd/ringd/core/Comparison$Operator", "holds", "(JJ)Z"⟩ : MethodName)) hown (mvT hZ (hw _ (List.mem_of_getElem? (i := 10) rfl))) (mvT hZ (hw _ (List.mem_of_getElem? (i := 11) rfl))) (notFace_of_selects (args := #[]) (mvT hZ (hw _ (List.mem_of_getElem? (i := 13) rfl)))) (mvT hZ (hw _ (List.mem_of_getElem? (i := 13) rfl))) (mvT hZ (hw _ (List.mem_of_getElem? (i := 12) rfl))) (by decide) (backOf (W := 0) (rm3e5 l Z a0 hw [] w_AT_LEAST q0 (q0 + ((((p2 >>> ((1 : Int32) &&& 31)) % (3 : Int32)).toInt64) - (1 : Int64))) h0 n0 Z0 E_w_AT_LEAST F_w_AT_LEAST) hZ (hw _ (List.mem_of_getElem? (i := 14) rfl)) (hw _ (List.mem_of_getElem? (i := 8) rfl)) (by decide) (by decide)) q120a q120c (g := (mkF m 235 #[.val (.long q0), .second, .val (.long q1), .second, .val (.int p2), .val (.long q0), .second, .val (.long (q0 + ((((p2 >>> ((1 : Int32) &&& 31)) % (3 : Int32)).toInt64) - (1 : Int64)))), .second, .val (.int (0 : Int32)), .val (.int (1 : Int32)), .val (.int (0 : Int32)), .val (.int (1 : Int32)), .val (.int (1 : Int32)), .val (.int (1 : Int32)), .val (.int (1 : Int32)), .val (.int (1 : Int32)), .unset] [(.long (q0 + ((((p2 >>> ((1 : Int32) &&& 31)) % (3 : Int32)).toInt64) - (1 : Int64)))), (.long q0), (.ref w_AT_LEAST)])) rfl (by rw [hml]; rfl) (Steps.refl _) (argsL := [(.long q0), (.long (q0 + ((((p2 >>> ((1 : Int32) &&& 31)) % (3 : Int32)).toInt64) - (1 : Int64))))]) (rest := []) (lenOf pd_2 rfl) rfl (by show 2 * 0 + _ ≤ _; exact Nat.le_of_eq rfl) (hb hby at_235) (fun _ _ => ⟨rfl, e119, (by decide : 0 + 0 ≤ _), (by decide : 0 + 0 ≤ _)⟩)
                  dsimp only [Pt.U, Pt.locs, Pt.cells, Pt.slots] at X120 l120 y120 z120 st120 hQ120
                  subst l120 y120 z120
                  obtain ⟨rfl, N120q, hh120⟩ := hQ120
                  have N120 := Fr.app N117 N120q
                  refine own_of (fun _ k => st120.trans k) ?_
                  show own_Out p e below _ (T120.setTop (mkF m 238 #[.val (.long q0), .second, .val (.long q1), .second, .val (.int p2), .val (.long q0), .second, .val (.long (q0 + ((((p2 >>> ((1 : Int32) &&& 31)) % (3 : Int32)).toInt64) - (1 : Int64)))), .second, .val (.int (0 : Int32)), .val (.int (1 : Int32)), .val (.int (0 : Int32)), .val (.int (1 : Int32)), .val (.int (1 : Int32)), .val (.int (1 : Int32)), .val (.int (1 : Int32)), .val (.int (1 : Int32)), .unset] [(.int (f3e5 q0 (q0 + ((((p2 >>> ((1 : Int32) &&& 31)) % (3 : Int32)).toInt64) - (1 : Int64)))))]))
                  refine own_of (fun _ k => XS.iload X120.here hx rfl (hb hby at_238) rfl k) ?_
                  show own_Out p e below _ (T120.setTop (mkF m 240 #[.val (.long q0), .second, .val (.long q1), .second, .val (.int p2), .val (.long q0), .second, .val (.long (q0 + ((((p2 >>> ((1 : Int32) &&& 31)) % (3 : Int32)).toInt64) - (1 : Int64)))), .second, .val (.int (0 : Int32)), .val (.int (1 : Int32)), .val (.int (0 : Int32)), .val (.int (1 : Int32)), .val (.int (1 : Int32)), .val (.int (1 : Int32)), .val (.int (1 : Int32)), .val (.int (1 : Int32)), .unset] [(.int (1 : Int32)), (.int (f3e5 q0 (q0 + ((((p2 >>> ((1 : Int32) &&& 31)) % (3 : Int32)).toInt64) - (1 : Int64)))))]))
                  by_cases hc240_121 : (f3e5 q0 (q0 + ((((p2 >>> ((1 : Int32) &&& 31)) % (3 : Int32)).toInt64) - (1 : Int64)))) = (1 : Int32)
                  · skip
                    refine own_of (fun _ k => XS.icmpNo X120.here hx rfl (hb hby at_240) rfl (teq hc240_121).2 k) ?_
                    show own_Out p e below _ (T120.setTop (mkF m 243 #[.val (.long q0), .second, .val (.long q1), .second, .val (.int p2), .val (.long q0), .second, .val (.long (q0 + ((((p2 >>> ((1 : Int32) &&& 31)) % (3 : Int32)).toInt64) - (1 : Int64)))), .second, .val (.int (0 : Int32)), .val (.int (1 : Int32)), .val (.int (0 : Int32)), .val (.int (1 : Int32)), .val (.int (1 : Int32)), .val (.int (1 : Int32)), .val (.int (1 : Int32)), .val (.int (1 : Int32)), .unset] []))
                    refine own_of (fun _ k => XS.iconst X120.here hx rfl (hb hby at_243) k) ?_
                    show own_Out p e below _ (T120.setTop (mkF m 244 #[.val (.long q0), .second, .val (.long q1), .second, .val (.int p2), .val (.long q0), .second, .val (.long (q0 + ((((p2 >>> ((1 : Int32) &&& 31)) % (3 : Int32)).toInt64) - (1 : Int64)))), .second, .val (.int (0 : Int32)), .val (.int (1 : Int32)), .val (.int (0 : Int32)), .val (.int (1 : Int32)), .val (.int (1 : Int32)), .val (.int (1 : Int32)), .val (.int (1 : Int32)), .val (.int (1 : Int32)), .unset] [(.int (1 : Int32))]))
                    refine own_of (fun _ k => XS.goto X120.here hx rfl (pc0 := 244) (pc' := 248) rfl (hb hby at_244) (by decide) (by decide) k) ?_
                    show own_Out p e below _ (T120.setTop (mkF m 248 #[.val (.long q0), .second, .val (.long q1), .second, .val (.int p2), .val (.long q0), .second, .val (.long (q0 + ((((p2 >>> ((1 : Int32) &&& 31)) % (3 : Int32)).toInt64) - (1 : Int64)))), .second, .val (.int (0 : Int32)), .val (.int (1 : Int32)), .val (.int (0 : Int32)), .val (.int (1 : Int32)), .val (.int (1 : Int32)), .val (.int (1 : Int32)), .val (.int (1 : Int32)), .val (.int (1 : Int32)), .unset] [(.int (1 : Int32))]))
                    refine own_of (fun _ k => XS.istore X120.here hx rfl (hb hby at_248) rfl (l' := #[.val (.long q0), .second, .val (.long q1), .second, .val (.int p2), .val (.long q0), .second, .val (.long (q0 + ((((p2 >>> ((1 : Int32) &&& 31)) % (3 : Int32)).toInt64) - (1 : Int64)))), .second, .val (.int (0 : Int32)), .val (.int (1 : Int32)), .val (.int (0 : Int32)), .val (.int (1 : Int32)), .val (.int (1 : Int32)), .val (.int (1 : Int32)), .val (.int (1 : Int32)), .val (.int (1 : Int32)), .val (.int (1 : Int32))]) rfl k) ?_
                    show own_Out p e below _ (T120.setTop (mkF m 250 #[.val (.long q0), .second, .val (.long q1), .second, .val (.int p2), .val (.long q0), .second, .val (.long (q0 + ((((p2 >>> ((1 : Int32) &&& 31)) % (3 : Int32)).toInt64) - (1 : Int64)))), .second, .val (.int (0 : Int32)), .val (.int (1 : Int32)), .val (.int (0 : Int32)), .val (.int (1 : Int32)), .val (.int (1 : Int32)), .val (.int (1 : Int32)), .val (.int (1 : Int32)), .val (.int (1 : Int32)), .val (.int (1 : Int32))] []))
                    refine own_of (fun _ k => XS.iload X120.here hx rfl (hb hby at_250) rfl k) ?_
                    show own_Out p e below _ (T120.setTop (mkF m 252 #[.val (.long q0), .second, .val (.long q1), .second, .val (.int p2), .val (.long q0), .second, .val (.long (q0 + ((((p2 >>> ((1 : Int32) &&& 31)) % (3 : Int32)).toInt64) - (1 : Int64)))), .second, .val (.int (0 : Int32)), .val (.int (1 : Int32)), .val (.int (0 : Int32)), .val (.int (1 : Int32)), .val (.int (1 : Int32)), .val (.int (1 : Int32)), .val (.int (1 : Int32)), .val (.int (1 : Int32)), .val (.int (1 : Int32))] [(.int (1 : Int32))]))
                    refine own_of (fun _ k => XS.ifNo X120.here hx rfl (hb hby at_252) rfl ((if0 _ _).trans (feq (by decide : ¬ ((1 : Int32) = (0 : Int32)))).1) k) ?_
                    show own_Out p e below _ (T120.setTop (mkF m 255 #[.val (.long q0), .second, .val (.long q1), .second, .val (.int p2), .val (.long q0), .second, .val (.long (q0 + ((((p2 >>> ((1 : Int32) &&& 31)) % (3 : Int32)).toInt64) - (1 : Int64)))), .second, .val (.int (0 : Int32)), .val (.int (1 : Int32)), .val (.int (0 : Int32)), .val (.int (1 : Int32)), .val (.int (1 : Int32)), .val (.int (1 : Int32)), .val (.int (1 : Int32)), .val (.int (1 : Int32)), .val (.int (1 : Int32))] []))
                    refine own_of (fun _ k => XS.iload X120.here hx rfl (hb hby at_255) rfl k) ?_
                    show own_Out p e below _ (T120.setTop (mkF m 257 #[.val (.long q0), .second, .val (.long q1), .second, .val (.int p2), .val (.long q0), .second, .val (.long (q0 + ((((p2 >>> ((1 : Int32) &&& 31)) % (3 : Int32)).toInt64) - (1 : Int64)))), .second, .val (.int (0 : Int32)), .val (.int (1 : Int32)), .val (.int (0 : Int32)), .val (.int (1 : Int32)), .val (.int (1 : Int32)), .val (.int (1 : Int32)), .val (.int (1 : Int32)), .val (.int (1 : Int32)), .val (.int (1 : Int32))] [(.int (1 : Int32))]))
                    refine own_of (fun _ k => XS.ifNo X120.here hx rfl (hb hby at_257) rfl ((if0 _ _).trans (feq (by decide : ¬ ((1 : Int32) = (0 : Int32)))).1) k) ?_
                    show own_Out p e below _ (T120.setTop (mkF m 260 #[.val (.long q0), .second, .val (.long q1), .second, .val (.int p2), .val (.long q0), .second, .val (.long (q0 + ((((p2 >>> ((1 : Int32) &&& 31)) % (3 : Int32)).toInt64) - (1 : Int64)))), .second, .val (.int (0 : Int32)), .val (.int (1 : Int32)), .val (.int (0 : Int32)), .val (.int (1 : Int32)), .val (.int (1 : Int32)), .val (.int (1 : Int32)), .val (.int (1 : Int32)), .val (.int (1 : Int32)), .val (.int (1 : Int32))] []))
                    refine own_of (fun _ k => XS.iload X120.here hx rfl (hb hby at_260) rfl k) ?_
                    show own_Out p e below _ (T120.setTop (mkF m 262 #[.val (.long q0), .second, .val (.long q1), .second, .val (.int p2), .val (.long q0), .second, .val (.long (q0 + ((((p2 >>> ((1 : Int32) &&& 31)) % (3 : Int32)).toInt64) - (1 : Int64)))), .second, .val (.int (0 : Int32)), .val (.int (1 : Int32)), .val (.int (0 : Int32)), .val (.int (1 : Int32)), .val (.int (1 : Int32)), .val (.int (1 : Int32)), .val (.int (1 : Int32)), .val (.int (1 : Int32)), .val (.int (1 : Int32))] [(.int (1 : Int32))]))
                    refine own_of (fun _ k => XS.ifNo X120.here hx rfl (hb hby at_262) rfl ((if0 _ _).trans (feq (by decide : ¬ ((1 : Int32) = (0 : Int32)))).1) k) ?_
                    show own_Out p e below _ (T120.setTop (mkF m 265 #[.val (.long q0), .second, .val (.long q1), .second, .val (.int p2), .val (.long q0), .second, .val (.long (q0 + ((((p2 >>> ((1 : Int32) &&& 31)) % (3 : Int32)).toInt64) - (1 : Int64)))), .second, .val (.int (0 : Int32)), .val (.int (1 : Int32)), .val (.int (0 : Int32)), .val (.int (1 : Int32)), .val (.int (1 : Int32)), .val (.int (1 : Int32)), .val (.int (1 : Int32)), .val (.int (1 : Int32)), .val (.int (1 : Int32))] []))
                    refine own_of (fun _ k => XS.iload X120.here hx rfl (hb hby at_265) rfl k) ?_
                    show own_Out p e below _ (T120.setTop (mkF m 267 #[.val (.long q0), .second, .val (.long q1), .second, .val (.int p2), .val (.long q0), .second, .val (.long (q0 + ((((p2 >>> ((1 : Int32) &&& 31)) % (3 : Int32)).toInt64) - (1 : Int64)))), .second, .val (.int (0 : Int32)), .val (.int (1 : Int32)), .val (.int (0 : Int32)), .val (.int (1 : Int32)), .val (.int (1 : Int32)), .val (.int (1 : Int32)), .val (.int (1 : Int32)), .val (.int (1 : Int32)), .val (.int (1 : Int32))] [(.int (1 : Int32))]))
                    refine own_of (fun _ k => XS.ifNo X120.here hx rfl (hb hby at_267) rfl ((if0 _ _).trans (feq (by decide : ¬ ((1 : Int32) = (0 : Int32)))).1) k) ?_
                    show own_Out p e below _ (T120.setTop (mkF m 270 #[.val (.long q0), .second, .val (.long q1), .second, .val (.int p2), .val (.long q0), .second, .val (.long (q0 + ((((p2 >>> ((1 : Int32) &&& 31)) % (3 : Int32)).toInt64) - (1 : Int64)))), .second, .val (.int (0 : Int32)), .val (.int (1 : Int32)), .val (.int (0 : Int32)), .val (.int (1 : Int32)), .val (.int (1 : Int32)), .val (.int (1 : Int32)), .val (.int (1 : Int32)), .val (.int (1 : Int32)), .val (.int (1 : Int32))] []))
                    refine own_of (fun _ k => XS.iload X120.here hx rfl (hb hby at_270) rfl k) ?_
                    show own_Out p e below _ (T120.setTop (mkF m 272 #[.val (.long q0), .second, .val (.long q1), .second, .val (.int p2), .val (.long q0), .second, .val (.long (q0 + ((((p2 >>> ((1 : Int32) &&& 31)) % (3 : Int32)).toInt64) - (1 : Int64)))), .second, .val (.int (0 : Int32)), .val (.int (1 : Int32)), .val (.int (0 : Int32)), .val (.int (1 : Int32)), .val (.int (1 : Int32)), .val (.int (1 : Int32)), .val (.int (1 : Int32)), .val (.int (1 : Int32)), .val (.int (1 : Int32))] [(.int (1 : Int32))]))
                    refine own_of (fun _ k => XS.ifNo X120.here hx rfl (hb hby at_272) rfl ((if0 _ _).trans (feq (by decide : ¬ ((1 : Int32) = (0 : Int32)))).1) k) ?_
                    show own_Out p e below _ (T120.setTop (mkF m 275 #[.val (.long q0), .second, .val (.long q1), .second, .val (.int p2), .val (.long q0), .second, .val (.long (q0 + ((((p2 >>> ((1 : Int32) &&& 31)) % (3 : Int32)).toInt64) - (1 : Int64)))), .second, .val (.int (0 : Int32)), .val (.int (1 : Int32)), .val (.int (0 : Int32)), .val (.int (1 : Int32)), .val (.int (1 : Int32)), .val (.int (1 : Int32)), .val (.int (1 : Int32)), .val (.int (1 : Int32)), .val (.int (1 : Int32))] []))
                    refine own_of (fun _ k => XS.iload X120.here hx rfl (hb hby at_275) rfl k) ?_
                    show own_Out p e below _ (T120.setTop (mkF m 277 #[.val (.long q0), .second, .val (.long q1), .second, .val (.int p2), .val (.long q0), .second, .val (.long (q0 + ((((p2 >>> ((1 : Int32) &&& 31)) % (3 : Int32)).toInt64) - (1 : Int64)))), .second, .val (.int (0 : Int32)), .val (.int (1 : Int32)), .val (.int (0 : Int32)), .val (.int (1 : Int32)), .val (.int (1 : Int32)), .val (.int (1 : Int32)), .val (.int (1 : Int32)), .val (.int (1 : Int32)), .val (.int (1 : Int32))] [(.int (1 : Int32))]))
                    refine own_of (fun _ k => XS.ifNo X120.here hx rfl (hb hby at_277) rfl ((if0 _ _).trans (feq (by decide : ¬ ((1 : Int32) = (0 : Int32)))).1) k) ?_
                    show own_Out p e below _ (T120.setTop (mkF m 280 #[.val (.long q0), .second, .val (.long q1), .second, .val (.int p2), .val (.long q0), .second, .val (.long (q0 + ((((p2 >>> ((1 : Int32) &&& 31)) % (3 : Int32)).toInt64) - (1 : Int64)))), .second, .val (.int (0 : Int32)), .val (.int (1 : Int32)), .val (.int (0 : Int32)), .val (.int (1 : Int32)), .val (.int (1 : Int32)), .val (.int (1 : Int32)), .val (.int (1 : Int32)), .val (.int (1 : Int32)), .val (.int (1 : Int32))] []))
                    refine own_of (fun _ k => XS.iconst X120.here hx rfl (hb hby at_280) k) ?_
                    show own_Out p e below _ (T120.setTop (mkF m 281 #[.val (.long q0), .second, .val (.long q1), .second, .val (.int p2), .val (.long q0), .second, .val (.long (q0 + ((((p2 >>> ((1 : Int32) &&& 31)) % (3 : Int32)).toInt64) - (1 : Int64)))), .second, .val (.int (0 : Int32)), .val (.int (1 : Int32)), .val (.int (0 : Int32)), .val (.int (1 : Int32)), .val (.int (1 : Int32)), .val (.int (1 : Int32)), .val (.int (1 : Int32)), .val (.int (1 : Int32)), .val (.int (1 : Int32))] [(.int (1 : Int32))]))
                    refine own_of (fun _ k => XS.goto X120.here hx rfl (pc0 := 281) (pc' := 285) rfl (hb hby at_281) (by decide) (by decide) k) ?_
                    show own_Out p e below _ (T120.setTop (mkF m 285 #[.val (.long q0), .second, .val (.long q1), .second, .val (.int p2), .val (.long q0), .second, .val (.long (q0 + ((((p2 >>> ((1 : Int32) &&& 31)) % (3 : Int32)).toInt64) - (1 : Int64)))), .second, .val (.int (0 : Int32)), .val (.int (1 : Int32)), .val (.int (0 : Int32)), .val (.int (1 : Int32)), .val (.int (1 : Int32)), .val (.int (1 : Int32)), .val (.int (1 : Int32)), .val (.int (1 : Int32)), .val (.int (1 : Int32))] [(.int (1 : Int32))]))
                    exact own_outN X120 hx hlk (t := .boolean) hret (by simp) (hb hby at_285) (z' := (1 : Int32)) rfl (Q := Q0 Z q0 q1 p2 w_EQUAL w_NOT_EQUAL w_LESS w_AT_MOST w_GREATER w_AT_LEAST h0 n0) ⟨rfl, N120⟩ (by decide) (by decide)
                  · skip
                    exact (dead0_31 q0 q1 p2 hc7_1 hc37_63 hc57_103 hc96_106 hc126_109 hc161_112 hc183_115 hc218_118 hc240_121).elim
                · skip
                  exact (dead0_32 q0 q1 p2 hc7_1 hc37_63 hc57_103 hc96_106 hc126_109 hc161_112 hc183_115 hc218_118).elim
              · skip
                exact (dead0_33 q0 q1 p2 hc7_1 hc37_63 hc57_103 hc96_106 hc126_109 hc161_112 hc183_115).elim
            · skip
              exact (dead0_34 q0 q1 p2 hc7_1 hc37_63 hc57_103 hc96_106 hc126_109 hc161_112).elim
          · skip
            exact (dead0_35 q0 q1 p2 hc7_1 hc37_63 hc57_103 hc96_106 hc126_109).elim
        · skip
          exact (dead0_36 q0 q1 p2 hc7_1 hc37_63 hc57_103 hc96_106).elim
      · skip
        exact (dead0_37 q0 q1 p2 hc7_1 hc37_63 hc57_103).elim
set_option maxRecDepth 65536 in
set_option maxHeartbeats 40000000 in
theorem comes_1 {Post : Tables → Env → Array Value → State → Outcome → State → Prop} (hpost : ∀ tb e args s v u, (limb_1_1.after args s (.returned v) u = true ∧ limb_1_2.after args s (.returned v) u = true ∧ True) → FrameEnd s (.returned v) u (Jvm.fieldLocs frame_1_writes args s ++ Jvm.arrayLocs frame_1_arrays args s ++ Jvm.staticLocs frame_1_statics s) 0 0 → Post tb e args s (.returned v) u) :
    ArmFor flags0 classFile x code maxLocals ret World_1 tables_1 room_1 Calls_1 rest_1 Pre_1 Post := by
  intro l hfl _ _ p e ha hc hk s m args below hf hA hF happ hP
  obtain ⟨hcalls, hrest, hpre⟩ := hP
  obtain ⟨-, -, -, hnamed, -, -, -, hat⟩ := (Spec.applies_iff hf).mp happ
  obtain ⟨hg, hn⟩ := and_e (Cond.before_iff.mp (show (Jvm.Cond.and given_1 narrow_1).before args s = true from hpre))
  obtain ⟨g1, g2⟩ := and_e hg
  obtain ⟨g3, g4⟩ := and_e g2
  obtain ⟨g5, g6⟩ := and_e g4
  obtain ⟨w0, w1, w2, rfl⟩ : ∃ w0 w1 w2 : Value, args = #[w0, w1, w2] := by
    have hs : args.size = 3 := by simpa [Cond.value, given_1] using g1
    obtain ⟨L⟩ := args
    match L, hs with
    | [w0, w1, w2], _ => exact ⟨w0, w1, w2, rfl⟩
  have hw := fun d (hd : d ∈ tables_1) => atoms_spec (ws := Jvm.Cond.code x code maxLocals ret :: tables_1) hat d (List.mem_cons_of_mem _ hd)
  have hfit : Fit s := fun {y c} hc i hi => by
    obtain ⟨ha, rfl⟩ := Array.getElem?_eq_some_iff.mp hc
    have q := List.all_eq_true.mp ((Array.all_eq_true_iff_forall_mem.mp hF) _ (Array.getElem_mem ha)) i (List.mem_range.mpr hi)
    simpa [Array.getElem?_eq_getElem hi] using q
  obtain ⟨i0, ei0⟩ := isL_v g3
  obtain rfl : w0 = (.long i0) := Option.some.inj ei0
  obtain ⟨i1, ei1⟩ := isL_v g5
  obtain rfl : w1 = (.long i1) := Option.some.inj ei1
  obtain ⟨i2, ei2⟩ := is_v g6
  obtain rfl : w2 = (.int i2) := Option.some.inj ei2
  have hn0 : narrow_1.value _ s none s [] = some true := hn
  obtain ⟨hn_0, hr_0⟩ := and_e hn0
  obtain ⟨hn_1, hr_1⟩ := and_e hr_0
  obtain ⟨hn_2, hr_2⟩ := and_e hr_1
  obtain ⟨hn_3, hr_3⟩ := and_e hr_2
  obtain ⟨hn_4, hr_4⟩ := and_e hr_3
  obtain ⟨hn_5, hr_5⟩ := and_e hr_4
  obtain ⟨hn_6, hr_6⟩ := and_e hr_5
  obtain ⟨hn_7, hr_7⟩ := and_e hr_6
  obtain ⟨hn_8, hr_8⟩ := and_e hr_7
  obtain ⟨hn_9, hr_9⟩ := and_e hr_8
  obtain ⟨hn_10, hr_10⟩ := and_e hr_9
  obtain ⟨w_EQUAL, ev_w_EQUAL⟩ := exa_v hn_0
  have S_w_EQUAL : Sta s s.heap "com/example/ringd/ringd/core/Comparison$Operator" "EQUAL" "Lcom/example/ringd/ringd/core/Comparison$Operator;" (.ref w_EQUAL) := Sta.start ev_w_EQUAL (Or.inr ⟨(hw _ (List.mem_of_getElem? (i := 8) rfl)), (hw _ (List.mem_of_getElem? (i := 9) rfl))⟩)
  have E_w_EQUAL := Exa.start ev_w_EQUAL hn_0
  have F_w_EQUAL_ordinal := Fld.start ((fld_at ev_w_EQUAL).symm.trans (eqv_i (Term.int_eval (0)) hn_1))
  obtain ⟨w_NOT_EQUAL, ev_w_NOT_EQUAL⟩ := exa_v hn_2
  have S_w_NOT_EQUAL : Sta s s.heap "com/example/ringd/ringd/core/Comparison$Operator" "NOT_EQUAL" "Lcom/example/ringd/ringd/core/Comparison$Operator;" (.ref w_NOT_EQUAL) := Sta.start ev_w_NOT_EQUAL (Or.inr ⟨(hw _ (List.mem_of_getElem? (i := 8) rfl)), (hw _ (List.mem_of_getElem? (i := 25) rfl))⟩)
  have E_w_NOT_EQUAL := Exa.start ev_w_NOT_EQUAL hn_2
  have F_w_NOT_EQUAL_ordinal := Fld.start ((fld_at ev_w_NOT_EQUAL).symm.trans (eqv_i (Term.int_eval (1)) hn_3))
  obtain ⟨w_LESS, ev_w_LESS⟩ := exa_v hn_4
  have S_w_LESS : Sta s s.heap "com/example/ringd/ringd/core/Comparison$Operator" "LESS" "Lcom/example/ringd/ringd/core/Comparison$Operator;" (.ref w_LESS) := Sta.start ev_w_LESS (Or.inr ⟨(hw _ (List.mem_of_getElem? (i := 8) rfl)), (hw _ (List.mem_of_getElem? (i := 27) rfl))⟩)
  have E_w_LESS := Exa.start ev_w_LESS hn_4
  have F_w_LESS_ordinal := Fld.start ((fld_at ev_w_LESS).symm.trans (eqv_i (Term.int_eval (2)) hn_5))
  obtain ⟨w_AT_MOST, ev_w_AT_MOST⟩ := exa_v hn_6
  have S_w_AT_MOST : Sta s s.heap "com/example/ringd/ringd/core/Comparison$Operator" "AT_MOST" "Lcom/example/ringd/ringd/core/Comparison$Operator;" (.ref w_AT_MOST) := Sta.start ev_w_AT_MOST (Or.inr ⟨(hw _ (List.mem_of_getElem? (i := 8) rfl)), (hw _ (List.mem_of_getElem? (i := 29) rfl))⟩)
  have E_w_AT_MOST := Exa.start ev_w_AT_MOST hn_6
  have F_w_AT_MOST_ordinal := Fld.start ((fld_at ev_w_AT_MOST).symm.trans (eqv_i (Term.int_eval (3)) hn_7))
  obtain ⟨w_GREATER, ev_w_GREATER⟩ := exa_v hn_8
  have S_w_GREATER : Sta s s.heap "com/example/ringd/ringd/core/Comparison$Operator" "GREATER" "Lcom/example/ringd/ringd/core/Comparison$Operator;" (.ref w_GREATER) := Sta.start ev_w_GREATER (Or.inr ⟨(hw _ (List.mem_of_getElem? (i := 8) rfl)), (hw _ (List.mem_of_getElem? (i := 31) rfl))⟩)
  have E_w_GREATER := Exa.start ev_w_GREATER hn_8
  have F_w_GREATER_ordinal := Fld.start ((fld_at ev_w_GREATER).symm.trans (eqv_i (Term.int_eval (4)) hn_9))
  obtain ⟨w_AT_LEAST, ev_w_AT_LEAST⟩ := exa_v hn_10
  have S_w_AT_LEAST : Sta s s.heap "com/example/ringd/ringd/core/Comparison$Operator" "AT_LEAST" "Lcom/example/ringd/ringd/core/Comparison$Operator;" (.ref w_AT_LEAST) := Sta.start ev_w_AT_LEAST (Or.inr ⟨(hw _ (List.mem_of_getElem? (i := 8) rfl)), (hw _ (List.mem_of_getElem? (i := 33) rfl))⟩)
  have E_w_AT_LEAST := Exa.start ev_w_AT_LEAST hn_10
  have F_w_AT_LEAST_ordinal := Fld.start ((fld_at ev_w_AT_LEAST).symm.trans (eqv_i (Term.int_eval (5)) hr_10))
  obtain ⟨n, o, h1, h2, h3, _, L, rfl, ⟨rfl, N⟩, hq⟩ := rm0 l s _ hw tables_1 i0 i1 i2 w_EQUAL w_NOT_EQUAL w_LESS w_AT_MOST w_GREATER w_AT_LEAST s.heap s.heap.size (Nat.le_refl _) S_w_EQUAL E_w_EQUAL F_w_EQUAL_ordinal S_w_NOT_EQUAL E_w_NOT_EQUAL F_w_NOT_EQUAL_ordinal S_w_LESS E_w_LESS F_w_LESS_ordinal S_w_AT_MOST E_w_AT_MOST F_w_AT_MOST_ordinal S_w_GREATER E_w_GREATER F_w_GREATER_ordinal S_w_AT_LEAST E_w_AT_LEAST F_w_AT_LEAST_ordinal p e ha hc hk s m _ below hf ((Spec.applies_iff_loose hf).mp happ).1 ⟨rfl, State.Warmed39.refl s, rfl⟩ trivial
  refine ⟨n, _, h1, h2, h3, hpost _ _ _ _ _ _ ⟨Cond.after_iff.mpr rfl, Cond.after_iff.mpr (eq_i res_at (Term.int_eval (1)) rfl), trivial⟩ ⟨hq.1, hq.2.1, (hq.2.2.sift fun y hy => Or.inr (N y hy)).mono (by decide) (by decide)⟩⟩
theorem main_1_1 : Claimed_1_1 := comes_1 fun _ _ _ _ _ _ h hF => ⟨h.1, hF⟩
theorem main_1_2 : Claimed_1_2 := comes_1 fun _ _ _ _ _ _ h hF => ⟨h.2.1, hF⟩
end Jvm.Pilot.@@N@@
namespace Jvm.Pilot.@@N@@
open Jvm Jvm.ClassFile Sem Op Lib Jvm.Free Jvm.Stand Jvm.Pilot.@@N@@.Jvm.D
/-! MADE BY PROGRAM (witnessworld.py) out of the Statement's table words and the real class files: 13 classes; the members and pool entries that the words name. The judged class is class 1, her method 1. -/
namespace start1
open Jvm.ClassFile
def u (s : String) : CpInfo := .utf8 (stringToUtf16 s)
/-- a pool by its gaps: so many unusable entries, then the entry; so many at the end -/
def gap : Nat → List CpInfo → List CpInfo
  | 0, r => r
  | n + 1, r => .unusable :: gap n r
def poolList (es : List (Nat × CpInfo)) (last : Nat) : List CpInfo := es.foldr (fun e r => gap e.1 (e.2 :: r)) (gap last [])
def pool (es : List (Nat × CpInfo)) (last : Nat) : Array CpInfo := ⟨poolList es last⟩
def fileOf (pool : Array CpInfo) (this : Nat) (attrs : Array Attribute := #[]) (ms : Array MethodInfo := #[]) (fl : Nat := 33) (sup : Nat := 0) (ifs : Array Nat := #[]) (fds : Array FieldInfo := #[]) : ClassFile where
  minorVersion := 0
  majorVersion := 65
  constantPool := pool
  accessFlags := fl
  thisClass := this
  superClass := sup
  interfaces := ifs
  fields := fds
  methods := ms
  attributes := attrs
def plain (name : String) (sup : Option ClassId) : Class where
  name := name
  kind := .ordinary
  loader := none
  accessFlags := 33
  super := sup
  interfaces := #[]
  cf := none
  fields := #[]
  methods := #[]
  instanceTypes := #[]
  staticTypes := #[]
  resolved := #[]
  callSites := []
  init := .initialized
  statics := none
  mirror := none

def pool0 : Array CpInfo := pool [(5, u "<init>"), (0, u "()V"), (1, .class_ 10), (1, u "java/lang/Object")] 113

def k0m0 : Method := { name := "<init>", desc := "()V", sig := { parameters := [], returnType := none }, accessFlags := 1, code := none }
/-- java/lang/Object -/
def k0 : Class := { plain "java/lang/Object" none with
  accessFlags := 33
  interfaces := #[]
  cf := some (fileOf pool0 8 #[] #[{ accessFlags := 1, nameIndex := 5, descriptorIndex := 6, attributes := #[] }] 33 0 #[] #[])
  fields := #[]
  methods := #[k0m0]
  instanceTypes := #[]
  staticTypes := #[]
  resolved := Array.replicate 124 none
  statics := none }

def pool1 : Array CpInfo := pool [(2, .class_ 4), (1, u "java/lang/Object"), (0, u "<init>"), (0, u "()V"), (0, .methodref 8 9), (0, .class_ 10), (0, .nameAndType 11 12), (0, u "java/lang/Math"), (0, u "min"), (0, u "(JJ)J"), (0, .methodref 8 14), (0, .nameAndType 15 12), (0, u "max"), (0, .fieldref 17 18), (0, .class_ 19), (0, .nameAndType 20 21), (0, u "com/example/ringd/ringd/core/Comparison$Operator"), (0, u "EQUAL"), (0, u "Lcom/example/ringd/ringd/core/Comparison$Operator;"), (0, .methodref 17 23), (0, .nameAndType 24 25), (0, u "holds"), (0, u "(JJ)Z"), (0, .fieldref 17 27), (0, .nameAndType 28 21), (0, u "NOT_EQUAL"), (0, .fieldref 17 30), (0, .nameAndType 31 21), (0, u "LESS"), (0, .fieldref 17 33), (0, .nameAndType 34 21), (0, u "AT_MOST"), (0, .fieldref 17 36), (0, .nameAndType 37 21), (0, u "GREATER"), (0, .fieldref 17 39), (0, .nameAndType 40 21), (0, u "AT_LEAST"), (0, .class_ 42), (0, u "com/example/ringd/ringd/core/OperatorHoldsPinLaw"), (2, u "law"), (0, u "(JJI)Z")] 7

def k1m0 : Method := { name := "<init>", desc := "()V", sig := { parameters := [], returnType := none }, accessFlags := 1, code := none }
def k1c1 : Code := { maxStack := 6, maxLocals := 18, code := code, exceptionTable := #[], attributes := #[] }
def k1m1 : Method := { name := "law", desc := "(JJI)Z", sig := { parameters := [.long, .long, .int], returnType := some .boolean }, accessFlags := 9, code := some k1c1 }
/-- com/example/ringd/ringd/core/OperatorHoldsPinLaw -/
def k1 : Class := { plain "com/example/ringd/ringd/core/OperatorHoldsPinLaw" (some 0) with
  accessFlags := 49
  interfaces := #[]
  cf := some (fileOf pool1 41 #[] #[{ accessFlags := 1, nameIndex := 5, descriptorIndex := 6, attributes := #[] }, { accessFlags := 9, nameIndex := 45, descriptorIndex := 46, attributes := #[] }] 49 2 #[] #[])
  fields := #[]
  methods := #[k1m0, k1m1]
  instanceTypes := #[]
  staticTypes := #[]
  resolved := Array.replicate 54 none
  statics := none }

def pool2 : Array CpInfo := pool [(1, .class_ 2), (0, u "java/lang/Math"), (1, .class_ 6), (1, u "java/lang/Object"), (0, u "<init>"), (0, u "()V"), (89, .class_ 100), (1, u "java/lang/Math$RandomNumberGeneratorHolder"), (20, u "(JJ)J"), (50, u "negativeZeroFloatBits"), (0, u "J"), (2, u "negativeZeroDoubleBits"), (21, u "max"), (2, u "min"), (43, u "$assertionsDisabled"), (0, u "Z"), (91, u "twoToTheDoubleScaleDown"), (0, u "D"), (4, u "twoToTheDoubleScaleUp"), (9, u "E"), (3, u "PI"), (2, u "TAU"), (2, u "DEGREES_TO_RADIANS"), (0, u "RADIANS_TO_DEGREES")] 94

def k2m0 : Method := { name := "<init>", desc := "()V", sig := { parameters := [], returnType := none }, accessFlags := 2, code := none }
def k2c1 : Code := { maxStack := 4, maxLocals := 4, code := jdk_29_method_66_code, exceptionTable := #[], attributes := #[] }
def k2m1 : Method := { name := "max", desc := "(JJ)J", sig := { parameters := [.long, .long], returnType := some .long }, accessFlags := 9, code := some k2c1 }
def k2c2 : Code := { maxStack := 4, maxLocals := 4, code := jdk_29_method_70_code, exceptionTable := #[], attributes := #[] }
def k2m2 : Method := { name := "min", desc := "(JJ)J", sig := { parameters := [.long, .long], returnType := some .long }, accessFlags := 9, code := some k2c2 }
/-- java/lang/Math -/
def k2 : Class := { plain "java/lang/Math" (some 0) with
  accessFlags := 49
  interfaces := #[]
  cf := some (fileOf pool2 1 #[.nestMembers #[98]] #[{ accessFlags := 2, nameIndex := 7, descriptorIndex := 8, attributes := #[] }, { accessFlags := 9, nameIndex := 198, descriptorIndex := 121, attributes := #[] }, { accessFlags := 9, nameIndex := 201, descriptorIndex := 121, attributes := #[] }] 49 4 #[] #[{ accessFlags := 25, nameIndex := 354, descriptorIndex := 339, attributes := #[] }, { accessFlags := 25, nameIndex := 358, descriptorIndex := 339, attributes := #[] }, { accessFlags := 25, nameIndex := 361, descriptorIndex := 339, attributes := #[] }, { accessFlags := 26, nameIndex := 364, descriptorIndex := 339, attributes := #[] }, { accessFlags := 26, nameIndex := 365, descriptorIndex := 339, attributes := #[] }, { accessFlags := 26, nameIndex := 172, descriptorIndex := 173, attributes := #[] }, { accessFlags := 26, nameIndex := 176, descriptorIndex := 173, attributes := #[] }, { accessFlags := 8, nameIndex := 344, descriptorIndex := 339, attributes := #[] }, { accessFlags := 8, nameIndex := 338, descriptorIndex := 339, attributes := #[] }, { accessFlags := 4120, nameIndex := 245, descriptorIndex := 246, attributes := #[] }])
  fields := #[{ name := "E", type := .double, accessFlags := 25, slot := 0, constantValue := 0 }, { name := "PI", type := .double, accessFlags := 25, slot := 1, constantValue := 0 }, { name := "TAU", type := .double, accessFlags := 25, slot := 2, constantValue := 0 }, { name := "DEGREES_TO_RADIANS", type := .double, accessFlags := 26, slot := 3, constantValue := 0 }, { name := "RADIANS_TO_DEGREES", type := .double, accessFlags := 26, slot := 4, constantValue := 0 }, { name := "negativeZeroFloatBits", type := .long, accessFlags := 26, slot := 5, constantValue := 0 }, { name := "negativeZeroDoubleBits", type := .long, accessFlags := 26, slot := 6, constantValue := 0 }, { name := "twoToTheDoubleScaleUp", type := .double, accessFlags := 8, slot := 7, constantValue := 0 }, { name := "twoToTheDoubleScaleDown", type := .double, accessFlags := 8, slot := 8, constantValue := 0 }, { name := "$assertionsDisabled", type := .boolean, accessFlags := 4120, slot := 9, constantValue := 0 }]
  methods := #[k2m0, k2m1, k2m2]
  instanceTypes := #[]
  staticTypes := #[.double, .double, .double, .double, .double, .long, .long, .double, .double, .boolean]
  resolved := Array.replicate 460 none
  statics := none }

def pool3 : Array CpInfo := pool [(1, .class_ 2), (0, u "java/lang/constant/Constable"), (0, .class_ 4), (0, u "java/lang/Object")] 6

/-- java/lang/constant/Constable -/
def k3 : Class := { plain "java/lang/constant/Constable" (some 0) with
  accessFlags := 1537
  interfaces := #[]
  cf := some (fileOf pool3 1 #[] #[] 1537 3 #[] #[])
  fields := #[]
  methods := #[]
  instanceTypes := #[]
  staticTypes := #[]
  resolved := Array.replicate 11 none
  statics := none }

def pool4 : Array CpInfo := pool [(1, .class_ 2), (0, u "java/lang/Comparable"), (0, .class_ 4), (0, u "java/lang/Object")] 7

/-- java/lang/Comparable -/
def k4 : Class := { plain "java/lang/Comparable" (some 0) with
  accessFlags := 1537
  interfaces := #[]
  cf := some (fileOf pool4 1 #[] #[] 1537 3 #[] #[])
  fields := #[]
  methods := #[]
  instanceTypes := #[]
  staticTypes := #[]
  resolved := Array.replicate 12 none
  statics := none }

def pool5 : Array CpInfo := pool [(1, .class_ 2), (0, u "java/io/Serializable"), (0, .class_ 4), (0, u "java/lang/Object")] 2

/-- java/io/Serializable -/
def k5 : Class := { plain "java/io/Serializable" (some 0) with
  accessFlags := 1537
  interfaces := #[]
  cf := some (fileOf pool5 1 #[] #[] 1537 3 #[] #[])
  fields := #[]
  methods := #[]
  instanceTypes := #[]
  staticTypes := #[]
  resolved := Array.replicate 7 none
  statics := none }

def pool6 : Array CpInfo := pool [(2, .class_ 4), (1, u "java/lang/Enum"), (0, u "name"), (0, u "Ljava/lang/String;"), (0, .fieldref 2 8), (0, .nameAndType 9 10), (0, u "ordinal"), (0, u "I"), (1, .class_ 14), (1, u "java/lang/Object"), (4, u "hash"), (86, .class_ 108), (1, u "java/lang/Enum$EnumDesc"), (2, .class_ 112), (0, u "java/lang/constant/Constable"), (0, .class_ 114), (0, u "java/lang/Comparable"), (0, .class_ 116), (0, u "java/io/Serializable"), (9, u "()I")] 77

def k6c0 : Code := { maxStack := 1, maxLocals := 1, code := jdk_37_method_2_code, exceptionTable := #[], attributes := #[] }
def k6m0 : Method := { name := "ordinal", desc := "()I", sig := { parameters := [], returnType := some .int }, accessFlags := 17, code := some k6c0 }
/-- java/lang/Enum -/
def k6 : Class := { plain "java/lang/Enum" (some 0) with
  accessFlags := 1057
  interfaces := #[3, 4, 5]
  cf := some (fileOf pool6 2 #[.nestMembers #[106]] #[{ accessFlags := 17, nameIndex := 9, descriptorIndex := 126, attributes := #[] }] 1057 12 #[111, 113, 115] #[{ accessFlags := 18, nameIndex := 5, descriptorIndex := 6, attributes := #[] }, { accessFlags := 18, nameIndex := 9, descriptorIndex := 10, attributes := #[] }, { accessFlags := 2, nameIndex := 19, descriptorIndex := 10, attributes := #[] }])
  fields := #[{ name := "name", type := (.object "java/lang/String"), accessFlags := 18, slot := 0, constantValue := 0 }, { name := "ordinal", type := .int, accessFlags := 18, slot := 1, constantValue := 0 }, { name := "hash", type := .int, accessFlags := 2, slot := 2, constantValue := 0 }]
  methods := #[k6m0]
  instanceTypes := #[(.object "java/lang/String"), .int, .int]
  staticTypes := #[]
  resolved := Array.replicate 204 none
  statics := none }

def pool7 : Array CpInfo := pool [(1, .class_ 2), (0, u "com/example/ringd/ringd/core/Comparison$Operator"), (2, u "EQUAL"), (0, u "Lcom/example/ringd/ringd/core/Comparison$Operator;"), (2, u "NOT_EQUAL"), (2, u "LESS"), (2, u "AT_MOST"), (2, u "GREATER"), (2, u "AT_LEAST"), (2, u "$VALUES"), (0, u "[Lcom/example/ringd/ringd/core/Comparison$Operator;"), (6, .class_ 34), (1, u "java/lang/Enum"), (8, u "symbol"), (0, u "Ljava/lang/String;"), (10, .methodref 1 56), (0, .nameAndType 57 58), (0, u "ordinal"), (0, u "()I"), (38, u "holds"), (0, u "(JJ)Z"), (6, .class_ 106), (0, u "com/example/ringd/ringd/core/Comparison")] 2

def k7c0 : Code := { maxStack := 4, maxLocals := 5, code := prog_18_method_6_code, exceptionTable := #[], attributes := #[] }
def k7m0 : Method := { name := "holds", desc := "(JJ)Z", sig := { parameters := [.long, .long], returnType := some .boolean }, accessFlags := 0, code := some k7c0 }
/-- com/example/ringd/ringd/core/Comparison$Operator -/
def k7 : Class := { plain "com/example/ringd/ringd/core/Comparison$Operator" (some 6) with
  accessFlags := 16433
  interfaces := #[]
  cf := some (fileOf pool7 1 #[.nestHost 105] #[{ accessFlags := 0, nameIndex := 97, descriptorIndex := 98, attributes := #[] }] 16433 32 #[] #[{ accessFlags := 16409, nameIndex := 5, descriptorIndex := 6, attributes := #[] }, { accessFlags := 16409, nameIndex := 9, descriptorIndex := 6, attributes := #[] }, { accessFlags := 16409, nameIndex := 12, descriptorIndex := 6, attributes := #[] }, { accessFlags := 16409, nameIndex := 15, descriptorIndex := 6, attributes := #[] }, { accessFlags := 16409, nameIndex := 18, descriptorIndex := 6, attributes := #[] }, { accessFlags := 16409, nameIndex := 21, descriptorIndex := 6, attributes := #[] }, { accessFlags := 18, nameIndex := 43, descriptorIndex := 44, attributes := #[] }, { accessFlags := 4122, nameIndex := 24, descriptorIndex := 25, attributes := #[] }])
  fields := #[{ name := "EQUAL", type := (.object "com/example/ringd/ringd/core/Comparison$Operator"), accessFlags := 16409, slot := 0, constantValue := 0 }, { name := "NOT_EQUAL", type := (.object "com/example/ringd/ringd/core/Comparison$Operator"), accessFlags := 16409, slot := 1, constantValue := 0 }, { name := "LESS", type := (.object "com/example/ringd/ringd/core/Comparison$Operator"), accessFlags := 16409, slot := 2, constantValue := 0 }, { name := "AT_MOST", type := (.object "com/example/ringd/ringd/core/Comparison$Operator"), accessFlags := 16409, slot := 3, constantValue := 0 }, { name := "GREATER", type := (.object "com/example/ringd/ringd/core/Comparison$Operator"), accessFlags := 16409, slot := 4, constantValue := 0 }, { name := "AT_LEAST", type := (.object "com/example/ringd/ringd/core/Comparison$Operator"), accessFlags := 16409, slot := 5, constantValue := 0 }, { name := "symbol", type := (.object "java/lang/String"), accessFlags := 18, slot := 3, constantValue := 0 }, { name := "$VALUES", type := (.array (.object "com/example/ringd/ringd/core/Comparison$Operator")), accessFlags := 4122, slot := 6, constantValue := 0 }]
  methods := #[k7m0]
  instanceTypes := #[(.object "java/lang/String"), .int, .int, (.object "java/lang/String")]
  staticTypes := #[(.object "com/example/ringd/ringd/core/Comparison$Operator"), (.object "com/example/ringd/ringd/core/Comparison$Operator"), (.object "com/example/ringd/ringd/core/Comparison$Operator"), (.object "com/example/ringd/ringd/core/Comparison$Operator"), (.object "com/example/ringd/ringd/core/Comparison$Operator"), (.object "com/example/ringd/ringd/core/Comparison$Operator"), (.array (.object "com/example/ringd/ringd/core/Comparison$Operator"))]
  resolved := Array.replicate 109 none
  statics := some 0 }

def pool8 : Array CpInfo := pool [(1, u "java/lang/Cloneable"), (0, .class_ 1), (0, u "java/lang/Object"), (0, .class_ 3)] 3

/-- java/lang/Cloneable -/
def k8 : Class := { plain "java/lang/Cloneable" (some 0) with
  accessFlags := 1537
  interfaces := #[]
  cf := some (fileOf pool8 2 #[] #[] 1537 4 #[] #[])
  fields := #[]
  methods := #[]
  instanceTypes := #[]
  staticTypes := #[]
  resolved := Array.replicate 8 none
  statics := none }

/-- the primitive byte -/
def k9 : Class := { plain "byte" none with kind := .primitive 'B', accessFlags := 0x411 }
/-- [B -/
def k10 : Class := { plain "[B" (some 0) with kind := .array 9 .byte, interfaces := #[8, 5], accessFlags := 1041 }

/-- the primitive int -/
def k11 : Class := { plain "int" none with kind := .primitive 'I', accessFlags := 0x411 }
/-- [I -/
def k12 : Class := { plain "[I" (some 0) with kind := .array 11 .int, interfaces := #[8, 5], accessFlags := 1041 }

def heap : Heap := #[{ cls := 7, slots := #[.ref 1, .ref 2, .ref 3, .ref 4, .ref 5, .ref 6, .null], vm := .statics 7 },
  { cls := 7, slots := #[.null, .int 0, .int 0, .null], vm := .none },
  { cls := 7, slots := #[.null, .int 1, .int 0, .null], vm := .none },
  { cls := 7, slots := #[.null, .int 2, .int 0, .null], vm := .none },
  { cls := 7, slots := #[.null, .int 3, .int 0, .null], vm := .none },
  { cls := 7, slots := #[.null, .int 4, .int 0, .null], vm := .none },
  { cls := 7, slots := #[.null, .int 5, .int 0, .null], vm := .none }]
def classes : Array Class := #[k0, k1, k2, k3, k4, k5, k6, k7, k8, k9, k10, k11, k12]
def interned : List (Array UInt16 × Addr) := []
def slotsUsed : Nat := 31
def theMethod : MethodId := ⟨1, 1⟩
def args0 : Array Value := #[.long 3, .long 9, .int 5]
def aboutOver (below : List Frame) : State where
  vm := { classes := classes, interned := interned.toArray }
  heap := heap
  slotsUsed := slotsUsed
  threads := #[{ frames := .invoking theMethod args0 :: below }]
def below0 : List Frame := [.native { method := ⟨0, 0⟩, args := #[] }]
def about1 : State := aboutOver below0
def p0 : Program := .bare "" "" ""
def e0 : Env := launch0.env 0 0 0
theorem w_frames : about1.frames = Frame.invoking theMethod args0 :: below0 := rfl
set_option maxRecDepth 65536 in
theorem w_args : argsFit about1.vm theMethod args0 = true := by decide +kernel
set_option maxRecDepth 65536 in
theorem w_heap : heapFits about1 = true := by decide +kernel
set_option maxRecDepth 65536 in
theorem w_runnable : about1.curStatus? = some .runnable := by decide +kernel
set_option maxRecDepth 65536 in
theorem w_alone : about1.alone = true := by decide +kernel
set_option maxRecDepth 65536 in
theorem w_named : about1.methodNamed? x = some theMethod := by decide +kernel
set_option maxRecDepth 65536 in
theorem w_hears : about1.hears theMethod below0 = true := by decide +kernel
set_option maxRecDepth 65536 in
theorem w_ripe : about1.ripe theMethod args0 below0 = true := by decide +kernel
theorem w_running : about1.status = .running := rfl
set_option maxRecDepth 65536 in
theorem w_room : about1.hasRoom e0.platform room_1 = true :=
  launch0.hasRoom_least _ room_1 (by decide +kernel) (by decide +kernel) (by decide +kernel) (by decide +kernel) (by decide +kernel) (by decide +kernel)
theorem allAtoms_all (ts : List Jvm.Cond) (a : Array Jvm.Value) (st : Jvm.State) : (allAtoms ts).before a st = ts.all (fun c => c.before a st) := by
  induction ts with
  | nil => rfl
  | cons c t ih =>
    show (Jvm.Cond.and c (allAtoms t)).before a st = _
    rw [Jvm.Cond.before_and, ih, List.all_cons]
def words1 : List Jvm.Cond := Jvm.Cond.code x code maxLocals ret :: tables_1
/-- a 'code' word, met by the world's own term for the bytes: nothing is compared byte by byte -/
theorem code_word {y : MethodName} {bytes : ByteArray} {mx : Nat} {rt : Option FieldType} {a : Array Value} {s : State} {m : MethodId} {meth : Method} {c : Code} (h1 : s.methodNamed? y = some m) (h2 : s.vm.method? m = some meth) (h3 : meth.code = some c) (h4 : c.code = bytes)
    (h5 : (c.maxLocals == mx && c.exceptionTable.isEmpty && decide (c.maxStack ≤ mostOperands) && decide (meth.sig.returnType = rt) && !meth.locks && decide (parseMethodDescriptor y.desc = some meth.sig)) = true) : (Jvm.Cond.code y bytes mx rt).before a s = true := by
  simp only [Bool.and_eq_true, beq_iff_eq, Bool.not_eq_true', decide_eq_true_eq] at h5
  obtain ⟨⟨⟨⟨⟨g1, g2⟩, g3⟩, g4⟩, g5⟩, g6⟩ := h5
  simp [Cond.before, Cond.holds, Cond.value, h1, h2, h3, h4, g1, g2, g3, g4, g5, g6]
def isCode : Jvm.Cond → Bool
  | .code _ _ _ _ => true
  | _ => false
theorem all_split {L : List Jvm.Cond} {P : Jvm.Cond → Bool} (h1 : L.all (fun c => isCode c || P c) = true) (h2 : ∀ c ∈ L.filter isCode, P c = true) : L.all P = true := by
  refine List.all_eq_true.mpr fun c hc => ?_
  have h := List.all_eq_true.mp h1 c hc
  rcases Bool.eq_false_or_eq_true (isCode c) with hi | hi
  · exact h2 c (List.mem_filter.mpr ⟨hc, hi⟩)
  · simpa [hi] using h
set_option maxRecDepth 65536 in
theorem w_c0 : (Jvm.Cond.code x code maxLocals ret).before args0 about1 = true := code_word (m := ⟨1, 1⟩) (meth := k1m1) (c := k1c1) (by decide +kernel) rfl rfl rfl (by decide +kernel)
set_option maxRecDepth 65536 in
theorem w_c1 : (Jvm.Cond.code ({ cls := "java/lang/Math", name := "min", desc := "(JJ)J" } : Jvm.MethodName) jdk_29_method_70_code (4 : Nat) (Option.some Jvm.ClassFile.FieldType.long)).before args0 about1 = true := code_word (m := ⟨2, 2⟩) (meth := k2m2) (c := k2c2) (by decide +kernel) rfl rfl rfl (by decide +kernel)
set_option maxRecDepth 65536 in
theorem w_c2 : (Jvm.Cond.code ({ cls := "java/lang/Math", name := "max", desc := "(JJ)J" } : Jvm.MethodName) jdk_29_method_66_code (4 : Nat) (Option.some Jvm.ClassFile.FieldType.long)).before args0 about1 = true := code_word (m := ⟨2, 1⟩) (meth := k2m1) (c := k2c1) (by decide +kernel) rfl rfl rfl (by decide +kernel)
set_option maxRecDepth 65536 in
theorem w_c3 : (Jvm.Cond.code ({ cls := "com/example/ringd/ringd/core/Comparison$Operator", name := "holds", desc := "(JJ)Z" } : Jvm.MethodName) prog_18_method_6_code (5 : Nat) (Option.some Jvm.ClassFile.FieldType.boolean)).before args0 about1 = true := code_word (m := ⟨7, 0⟩) (meth := k7m0) (c := k7c0) (by decide +kernel) rfl rfl rfl (by decide +kernel)
set_option maxRecDepth 65536 in
theorem w_c4 : (Jvm.Cond.code ({ cls := "java/lang/Enum", name := "ordinal", desc := "()I" } : Jvm.MethodName) jdk_37_method_2_code (1 : Nat) (Option.some Jvm.ClassFile.FieldType.int)).before args0 about1 = true := code_word (m := ⟨6, 0⟩) (meth := k6m0) (c := k6c0) (by decide +kernel) rfl rfl rfl (by decide +kernel)
def codes1 : List Jvm.Cond := [Jvm.Cond.code x code maxLocals ret, Jvm.Cond.code ({ cls := "java/lang/Math", name := "min", desc := "(JJ)J" } : Jvm.MethodName) jdk_29_method_70_code (4 : Nat) (Option.some Jvm.ClassFile.FieldType.long), Jvm.Cond.code ({ cls := "java/lang/Math", name := "max", desc := "(JJ)J" } : Jvm.MethodName) jdk_29_method_66_code (4 : Nat) (Option.some Jvm.ClassFile.FieldType.long), Jvm.Cond.code ({ cls := "com/example/ringd/ringd/core/Comparison$Operator", name := "holds", desc := "(JJ)Z" } : Jvm.MethodName) prog_18_method_6_code (5 : Nat) (Option.some Jvm.ClassFile.FieldType.boolean), Jvm.Cond.code ({ cls := "java/lang/Enum", name := "ordinal", desc := "()I" } : Jvm.MethodName) jdk_37_method_2_code (1 : Nat) (Option.some Jvm.ClassFile.FieldType.int)]
set_option maxRecDepth 65536 in
theorem codes_eq : words1.filter isCode = codes1 := rfl
theorem w_codes : ∀ c ∈ words1.filter isCode, c.before args0 about1 = true := by
  rw [codes_eq]
  intro c hc
  simp only [codes1, List.mem_cons, List.not_mem_nil, or_false] at hc
  rcases hc with rfl | rfl | rfl | rfl | rfl
  · exact w_c0
  · exact w_c1
  · exact w_c2
  · exact w_c3
  · exact w_c4
set_option maxRecDepth 65536 in
theorem w_t1 : (words1.take 24).all (fun c => isCode c || c.before args0 about1) = true := by decide +kernel
set_option maxRecDepth 65536 in
theorem w_t2 : (words1.drop 24).all (fun c => isCode c || c.before args0 about1) = true := by decide +kernel
theorem w_tables : (allAtoms (Jvm.Cond.code x code maxLocals ret :: tables_1)).before args0 about1 = true := by
  rw [allAtoms_all]
  show words1.all (fun c => c.before args0 about1) = true
  refine all_split ?_ w_codes
  rw [← List.take_append_drop 24 words1, List.all_append, w_t1, w_t2]
  rfl
set_option maxRecDepth 65536 in
theorem w_case : (Jvm.Cond.and given_1 narrow_1).before args0 about1 = true := by decide +kernel
theorem w_applies : (headSpec (Jvm.Cond.code x code maxLocals ret :: tables_1) room_1).applies x e0.platform about1 = true :=
  (Spec.applies_iff w_frames).mpr ⟨w_running, w_runnable, w_alone, w_named, w_hears, w_ripe, w_room, w_tables⟩
theorem atStart : AtStart classFile x code maxLocals ret World_1 tables_1 room_1 Calls_1 rest_1 Pre_1 launch0 p0 e0 about1 theMethod args0 below0 :=
  ⟨lists_1, trivial, launch0.admits_env _ _ _, launch0.least_env, fairChoices_fair.cas, fairChoices_fair.clock, w_frames, w_args, w_heap, w_applies, trivial, trivial, w_case⟩
end start1
theorem witness_1 : WitnessClaimed_1 := ⟨start1.p0, start1.e0, start1.about1, start1.theMethod, start1.args0, start1.below0, start1.atStart⟩
end Jvm.Pilot.@@N@@
