import JvmDerived
import JvmDerived.Pilot.@@N@@Statement
import JvmDerived.Pilot.@@N@@Code
set_option linter.unusedVariables false
set_option linter.unusedSimpArgs false
@@BLOCK:NumsL.lean.txt@@
namespace Jvm.RoadKit
open Sem ClassFile Op Lib Jvm.Stand Jvm.Free Jvm.LawKit
/-- from the state S the run comes to an end that P holds of -/
def own_Out (p : Program) (e : Env) (below : List Frame) (P : Outcome → State → Prop) (S : State) : Prop := ∃ s₂ o, Steps p.tables e below S s₂ ∧ s₂.status = .running ∧ Ended s₂ below o ∧ P o s₂
theorem own_of {p : Program} {e : Env} {below : List Frame} {P : Outcome → State → Prop} {S S' : State} (h : ∀ t, Steps p.tables e below S' t → Steps p.tables e below S t) (k : own_Out p e below P S') : own_Out p e below P S := by
  obtain ⟨a, b, c, d⟩ := k
  exact ⟨a, b, h a c, d⟩
section New
variable {p : Program} {l : Launch} {e : Env} {R : Room} {s : State} {m : MethodId} {args : Array Value} {below : List Frame} {meth : Method} {c : Code} {T : State} {locs : List Loc} {cells slots : Nat}
theorem own_retI (X : Stand p l e R s m args below meth c T locs cells slots) (hx : p.tables.exec = Jvm.exec) {pc : Nat} {Ls : Array Slot} {z : Int32} {rest : List Value} (hret : meth.sig.returnType = some .int) (hd : decode c.code pc = .ok (.ireturn, 1)) {fs : List Frame}
    (hl : ∀ (f : JFrame) (acts : List Action), f.method = m → f.locked = none → f.entered = [] → (doReturn e (T.setTop f) acts (some (.int z))).1 = T.setFrames fs) : Steps p.tables e below (T.setTop (mkF m pc Ls (.int z :: rest))) (T.setFrames fs) := retOut X hx hret rfl (Or.inl ⟨rfl, Or.inl rfl, z, rfl⟩) hd hl
theorem own_end (X : Stand p l e R s m args below meth c T locs cells slots) (hlk : meth.locks = false) {v : Option Value} (hv : meth.sig.returnType = none → v = none) {g : JFrame}
    (hs : ∀ fs, (∀ (f : JFrame) (acts : List Action), f.method = m → f.locked = none → f.entered = [] → (doReturn e (T.setTop f) acts v).1 = T.setFrames fs) → Steps p.tables e below (T.setTop g) (T.setFrames fs))
    {Q : Option Value → Heap → List Loc → Prop} (hQ : Q v T.heap locs) {C N : Nat} (hC : cells ≤ C) (hN : slots ≤ N) :
    own_Out p e below (fun o U' => ∃ v L, o = .returned v ∧ Q v U'.heap L ∧ FrameEnd s o U' L C N) (T.setTop g) := by
  obtain ⟨fs, hr, hrun, hended, hW, hsame⟩ := X.leave (v := v) hv hlk
  exact ⟨_, _, hs fs hr, hrun, hended, _, _, rfl, hQ, ⟨_, rfl⟩, hW, hsame.mono hC hN⟩
theorem own_outI (X : Stand p l e R s m args below meth c T locs cells slots) (hx : p.tables.exec = Jvm.exec) (hlk : meth.locks = false) {pc : Nat} {Ls : Array Slot} {z : Int32} {rest : List Value} (hret : meth.sig.returnType = some .int) (hd : decode c.code pc = .ok (.ireturn, 1))
    {Q : Option Value → Heap → List Loc → Prop} (hQ : Q (some (.int z)) T.heap locs) {C N : Nat} (hC : cells ≤ C) (hN : slots ≤ N) :
    own_Out p e below (fun o U' => ∃ v L, o = .returned v ∧ Q v U'.heap L ∧ FrameEnd s o U' L C N) (T.setTop (mkF m pc Ls (.int z :: rest))) :=
  own_end X hlk (fun h => by rw [hret] at h; cases h) (fun fs hr => own_retI X hx hret hd hr) hQ hC hN
theorem own_outN (X : Stand p l e R s m args below meth c T locs cells slots) (hx : p.tables.exec = Jvm.exec) (hlk : meth.locks = false) {pc : Nat} {Ls : Array Slot} {z z' : Int32} {t : FieldType} {rest : List Value} (hret : meth.sig.returnType = some t) (ht : t = .boolean ∨ t = .byte ∨ t = .char ∨ t = .short) (hd : decode c.code pc = .ok (.ireturn, 1)) (hz : nar t z = z')
    {Q : Option Value → Heap → List Loc → Prop} (hQ : Q (some (.int z')) T.heap locs) {C N : Nat} (hC : cells ≤ C) (hN : slots ≤ N) :
    own_Out p e below (fun o U' => ∃ v L, o = .returned v ∧ Q v U'.heap L ∧ FrameEnd s o U' L C N) (T.setTop (mkF m pc Ls (.int z :: rest))) :=
  own_end X hlk (fun h => by rw [hret] at h; cases h) (fun fs hr => retN X hx hret ht hd (by rw [hz]; exact hr)) hQ hC hN
theorem own_outL (X : Stand p l e R s m args below meth c T locs cells slots) (hx : p.tables.exec = Jvm.exec) (hlk : meth.locks = false) {pc : Nat} {Ls : Array Slot} {z : Int64} {rest : List Value} (hret : meth.sig.returnType = some .long) (hd : decode c.code pc = .ok (.lreturn, 1))
    {Q : Option Value → Heap → List Loc → Prop} (hQ : Q (some (.long z)) T.heap locs) {C N : Nat} (hC : cells ≤ C) (hN : slots ≤ N) :
    own_Out p e below (fun o U' => ∃ v L, o = .returned v ∧ Q v U'.heap L ∧ FrameEnd s o U' L C N) (T.setTop (mkF m pc Ls (.long z :: rest))) :=
  own_end X hlk (fun h => by rw [hret] at h; cases h) (fun fs hr => retOut X hx hret rfl (Or.inr (Or.inl ⟨rfl, rfl, z, rfl⟩)) hd hr) hQ hC hN
theorem own_outD (X : Stand p l e R s m args below meth c T locs cells slots) (hx : p.tables.exec = Jvm.exec) (hlk : meth.locks = false) {pc : Nat} {Ls : Array Slot} {z : UInt64} {rest : List Value} (hret : meth.sig.returnType = some .double) (hd : decode c.code pc = .ok (.dreturn, 1))
    {Q : Option Value → Heap → List Loc → Prop} (hQ : Q (some (.double z)) T.heap locs) {C N : Nat} (hC : cells ≤ C) (hN : slots ≤ N) :
    own_Out p e below (fun o U' => ∃ v L, o = .returned v ∧ Q v U'.heap L ∧ FrameEnd s o U' L C N) (T.setTop (mkF m pc Ls (.double z :: rest))) :=
  own_end X hlk (fun h => by rw [hret] at h; cases h) (fun fs hr => retOut X hx hret rfl (Or.inr (Or.inr (Or.inl ⟨rfl, rfl, z, rfl⟩))) hd hr) hQ hC hN
theorem own_outR (X : Stand p l e R s m args below meth c T locs cells slots) (hx : p.tables.exec = Jvm.exec) (hlk : meth.locks = false) {pc : Nat} {Ls : Array Slot} {w : Value} {t : FieldType} {rest : List Value} (hret : meth.sig.returnType = some t) (ht : t.isReference = true) (hw : w.isRef = true) (hn : narrow t w = w) (hd : decode c.code pc = .ok (.areturn, 1))
    {Q : Option Value → Heap → List Loc → Prop} (hQ : Q (some w) T.heap locs) {C N : Nat} (hC : cells ≤ C) (hN : slots ≤ N) :
    own_Out p e below (fun o U' => ∃ v L, o = .returned v ∧ Q v U'.heap L ∧ FrameEnd s o U' L C N) (T.setTop (mkF m pc Ls (w :: rest))) :=
  own_end X hlk (fun h => by rw [hret] at h; cases h) (fun fs hr => retOut X hx hret hn (Or.inr (Or.inr (Or.inr (Or.inr ⟨rfl, ht, hw⟩)))) hd hr) hQ hC hN
theorem own_outV (X : Stand p l e R s m args below meth c T locs cells slots) (hx : p.tables.exec = Jvm.exec) (hlk : meth.locks = false) {pc : Nat} {Ls : Array Slot} (hret : meth.sig.returnType = none) (hd : decode c.code pc = .ok (.return_, 1))
    {Q : Option Value → Heap → List Loc → Prop} (hQ : Q none T.heap locs) {C N : Nat} (hC : cells ≤ C) (hN : slots ≤ N) :
    own_Out p e below (fun o U' => ∃ v L, o = .returned v ∧ Q v U'.heap L ∧ FrameEnd s o U' L C N) (T.setTop (mkF m pc Ls [])) :=
  own_end X hlk (fun _ => rfl) (fun fs hr => X.returnOut hx hret hd hr) hQ hC hN
end New
theorem own_ltlt {x y : Int64} (h : x < y) : ifCond.holds .lt (lcmpW x y) = true ∧ ifCond.holds .ge (lcmpW x y) = false ∧ ifCond.holds .gt (lcmpW y x) = true ∧ ifCond.holds .le (lcmpW y x) = false := by
  have h1 : ¬ x > y := fun q => by rw [gt_iff_lt, Int64.lt_iff_toInt_lt] at q; rw [Int64.lt_iff_toInt_lt] at h; omega
  have h2 : ¬ x = y := fun q => by subst q; rw [Int64.lt_iff_toInt_lt] at h; omega
  have e1 : lcmpW x y = -1 := by simp only [lcmpW, if_neg h1, if_neg h2]
  have e2 : lcmpW y x = 1 := by simp only [lcmpW, if_pos (show y > x from h)]
  rw [e1, e2]; decide
theorem own_leq {x y : Int64} (h : x = y) : ifCond.holds .eq (lcmpW x y) = true ∧ ifCond.holds .ne (lcmpW x y) = false := by
  subst h
  have h1 : ¬ x > x := fun q => by rw [gt_iff_lt, Int64.lt_iff_toInt_lt] at q; omega
  have e1 : lcmpW x x = 0 := by simp only [lcmpW, if_neg h1, if_pos]
  rw [e1]; decide
theorem own_lfeq {x y : Int64} (h : ¬ x = y) : ifCond.holds .eq (lcmpW x y) = false ∧ ifCond.holds .ne (lcmpW x y) = true := by
  by_cases h1 : x > y
  · have e1 : lcmpW x y = 1 := by simp only [lcmpW, if_pos h1]
    rw [e1]; decide
  · have e1 : lcmpW x y = -1 := by simp only [lcmpW, if_neg h1, if_neg h]
    rw [e1]; decide
theorem own_lflt {x y : Int64} (h : ¬ x < y) : ifCond.holds .lt (lcmpW x y) = false ∧ ifCond.holds .ge (lcmpW x y) = true ∧ ifCond.holds .gt (lcmpW y x) = false ∧ ifCond.holds .le (lcmpW y x) = true := by
  by_cases h1 : x = y
  · subst h1
    have h1 : ¬ x > x := fun q => by rw [gt_iff_lt, Int64.lt_iff_toInt_lt] at q; omega
    have e1 : lcmpW x x = 0 := by simp only [lcmpW, if_neg h1, if_pos]
    rw [e1]; decide
  · have h2 : x > y := by
      rw [gt_iff_lt, Int64.lt_iff_toInt_lt]; rw [Int64.lt_iff_toInt_lt] at h
      have h3 : ¬ x.toInt = y.toInt := fun q => h1 (Int64.toInt_inj.mp q)
      omega
    have h3 : ¬ y > x := fun q => by rw [gt_iff_lt, Int64.lt_iff_toInt_lt] at q h2; omega
    have e1 : lcmpW x y = 1 := by simp only [lcmpW, if_pos h2]
    have e2 : lcmpW y x = -1 := by simp only [lcmpW, if_neg h3, if_neg (fun q => h1 (Eq.symm q))]
    rw [e1, e2]; decide
theorem own_staK0 {Z : State} {h h' : Heap} {C n d : String} {v : Value} (F : Sta Z h C n d v) (K : Keep h h' []) : Sta Z h' C n d v := by
  obtain ⟨cf, i, k, f, st, cell, h1, h2, h3, h4, h5, r⟩ := F
  exact ⟨cf, i, k, f, st, cell, h1, h2, h3, h4, K.2.1 st cell h5 nin0, r⟩
theorem own_staK1 {Z : State} {h h' : Heap} {C n d : String} {v : Value} {a : Addr} (F : Sta Z h C n d v) (K : Keep h h' [a]) (q : ∀ cell : Cell, h[a]? = some cell → cell.vm.isStatics = false) : Sta Z h' C n d v := by
  obtain ⟨cf, i, k, f, st, cell, h1, h2, h3, h4, h5, h6, h7⟩ := F
  have ne : st ≠ a := fun e => by subst e; rw [q _ h5] at h6; cases h6
  exact ⟨cf, i, k, f, st, cell, h1, h2, h3, h4, K.2.1 st cell h5 (ninS ne nin0), h6, h7⟩
theorem own_plainE {Z : State} {h : Heap} {a : Addr} {C : String} (E : Exa Z h a C) : ∀ cell : Cell, h[a]? = some cell → cell.vm.isStatics = false := fun cell hc => by
  obtain ⟨c, k, h1, -, -, h4, -⟩ := E; cases h1.symm.trans hc; exact h4
theorem own_plainV {Z : State} {h : Heap} {a : Addr} {k : ClassId} {ty : FieldType} {z : Int32} {vs : List Value} {dv : Value} (F : Arv Z h a k ty z vs dv) : ∀ cell : Cell, h[a]? = some cell → cell.vm.isStatics = false := fun cell hc => by
  obtain ⟨c, A, -⟩ := F; cases A.1.symm.trans hc; exact A.plain
section Bounds
variable {x a k : Int32} {u : Int}
theorem own_L1 (h : ¬ (x < a)) : a.toInt ≤ x.toInt := by rw [Int32.lt_iff_toInt_lt] at h; omega
theorem own_L2 (h : a < x) : a.toInt + 1 ≤ x.toInt := by rw [Int32.lt_iff_toInt_lt] at h; omega
theorem own_L3 (h : x = a) : a.toInt ≤ x.toInt := by subst h; omega
theorem own_U1 (h : x < a) : x.toInt ≤ a.toInt - 1 := by rw [Int32.lt_iff_toInt_lt] at h; omega
theorem own_U2 (h : ¬ (a < x)) : x.toInt ≤ a.toInt := by rw [Int32.lt_iff_toInt_lt] at h; omega
theorem own_U3 (h : x = a) : x.toInt ≤ a.toInt := by subst h; omega
theorem own_T1 (h : x.toInt ≤ u) (d : u < k.toInt) : x < k := by rw [Int32.lt_iff_toInt_lt]; omega
theorem own_T2 (h : u ≤ x.toInt) (d : k.toInt ≤ u) : ¬ (x < k) := by rw [Int32.lt_iff_toInt_lt]; omega
theorem own_T3 (h : u ≤ x.toInt) (d : k.toInt < u) : k < x := by rw [Int32.lt_iff_toInt_lt]; omega
theorem own_T4 (h : x.toInt ≤ u) (d : u ≤ k.toInt) : ¬ (k < x) := by rw [Int32.lt_iff_toInt_lt]; omega
theorem own_T5 (h : x.toInt ≤ u) (d : u < k.toInt) : ¬ (x = k) := fun q => by subst q; omega
theorem own_T6 (h : u ≤ x.toInt) (d : k.toInt < u) : ¬ (x = k) := fun q => by subst q; omega
theorem own_T7 {u' : Int} (h : u ≤ x.toInt) (h' : x.toInt ≤ u') (d : k.toInt ≤ u ∧ u' ≤ k.toInt) : x = k := Int32.toInt_inj.mp (by omega)
end Bounds
section Rel
theorem own_JR1 {a b : Int64} (h : a < b) : ¬ (b < a) := by rw [Int64.lt_iff_toInt_lt] at *; omega
theorem own_JR2 {a b : Int64} (h : a < b) : ¬ (a = b) := fun q => by subst q; rw [Int64.lt_iff_toInt_lt] at h; omega
theorem own_JR2' {a b : Int64} (h : a < b) : ¬ (b = a) := fun q => by subst q; rw [Int64.lt_iff_toInt_lt] at h; omega
theorem own_JR3 {a b : Int64} (h : a = b) : ¬ (a < b) := fun q => by subst h; rw [Int64.lt_iff_toInt_lt] at q; omega
theorem own_JR3' {a b : Int64} (h : a = b) : ¬ (b < a) := fun q => by subst h; rw [Int64.lt_iff_toInt_lt] at q; omega
theorem own_JR4 {a b : Int64} (h : ¬ (a < b)) (h' : ¬ (b < a)) : a = b := by rw [Int64.lt_iff_toInt_lt] at h h'; exact Int64.toInt_inj.mp (by omega)
theorem own_JR5 {a b : Int64} (h : ¬ (a < b)) (h' : ¬ (a = b)) : b < a := by rw [← Int64.toInt_inj] at h'; rw [Int64.lt_iff_toInt_lt] at *; omega
theorem own_JR5' {a b : Int64} (h : ¬ (a < b)) (h' : ¬ (b = a)) : b < a := by rw [← Int64.toInt_inj] at h'; rw [Int64.lt_iff_toInt_lt] at *; omega
theorem own_IR1 {a b : Int32} (h : a < b) : ¬ (b < a) := by rw [Int32.lt_iff_toInt_lt] at *; omega
theorem own_IR2 {a b : Int32} (h : a < b) : ¬ (a = b) := fun q => by subst q; rw [Int32.lt_iff_toInt_lt] at h; omega
theorem own_IR2' {a b : Int32} (h : a < b) : ¬ (b = a) := fun q => by subst q; rw [Int32.lt_iff_toInt_lt] at h; omega
theorem own_IR3 {a b : Int32} (h : a = b) : ¬ (a < b) := fun q => by subst h; rw [Int32.lt_iff_toInt_lt] at q; omega
theorem own_IR3' {a b : Int32} (h : a = b) : ¬ (b < a) := fun q => by subst h; rw [Int32.lt_iff_toInt_lt] at q; omega
theorem own_IR4 {a b : Int32} (h : ¬ (a < b)) (h' : ¬ (b < a)) : a = b := by rw [Int32.lt_iff_toInt_lt] at h h'; exact Int32.toInt_inj.mp (by omega)
theorem own_IR5 {a b : Int32} (h : ¬ (a < b)) (h' : ¬ (a = b)) : b < a := by rw [← Int32.toInt_inj] at h'; rw [Int32.lt_iff_toInt_lt] at *; omega
theorem own_IR5' {a b : Int32} (h : ¬ (a < b)) (h' : ¬ (b = a)) : b < a := by rw [← Int32.toInt_inj] at h'; rw [Int32.lt_iff_toInt_lt] at *; omega
end Rel
end Jvm.RoadKit
namespace Jvm.Pilot.@@N@@
open Jvm Jvm.ClassFile Sem Op Lib Jvm.Free Jvm.Stand Jvm.LawKit Jvm.RoadKit Bundle Jvm.Pilot.@@N@@.Jvm.D
theorem d1_0 : decode prog_75_method_5_code 0 = .ok (.aload_n 0, 1) := by decide +kernel
theorem d1_1 : decode prog_75_method_5_code 1 = .ok (.getstatic 18, 3) := by decide +kernel
theorem d1_4 : decode prog_75_method_5_code 4 = .ok (.if_acmp .ne 9, 3) := by decide +kernel
theorem d1_7 : decode prog_75_method_5_code 7 = .ok (.ldc2_w 49, 3) := by decide +kernel
theorem d1_10 : decode prog_75_method_5_code 10 = .ok (.goto 6, 3) := by decide +kernel
theorem d1_16 : decode prog_75_method_5_code 16 = .ok (.dreturn, 1) := by decide +kernel
theorem pn_0 : plainName "com/example/headway/headway/engine/Predicate$Relation" = true := by first | (simp [plainName, overriddenIn]; done) | decide +kernel
theorem ef_1e (m : MethodId) (x0 : Addr) : entryFrame m #[(.ref x0)] 1 = mkF m 0 #[.val (.ref x0)] [] := by first | (simp [entryFrame, mkF, argsToLocals, Value.category]; done) | rfl
def Q1e (Z : State) (o0 : Addr) (h0 : Heap) (n0 : Nat) (v : Option Value) (h : Heap) (L : List Loc) : Prop := v = some (.double (4606281698874543309 : UInt64)) ∧ Fr n0 L ∧ h = h0
set_option maxRecDepth 65536 in
set_option maxHeartbeats 40000000 in
theorem rm1e (l : Launch) (Z : State) (a0 : Array Value) (hw : ∀ d ∈ tables_1, d.before a0 Z = true) (ws : List Jvm.Cond) (o0 : Addr) (h0 : Heap) (n0 : Nat) (Z0 : n0 ≤ h0.size) (S : Sta Z h0 "com/example/headway/headway/engine/Predicate$Relation" "NOT_EQUAL" "Lcom/example/headway/headway/engine/Predicate$Relation;" (.ref o0)) :
    MetFree l (⟨"com/example/headway/headway/engine/Predicate$Relation", "guessedSelectivity", "()D"⟩ : MethodName) (head1 (Jvm.Cond.code (⟨"com/example/headway/headway/engine/Predicate$Relation", "guessedSelectivity", "()D"⟩ : MethodName) prog_75_method_5_code 1 (some .double) :: ws) ({ frames := 0, cells := 0, slots := 0, locals := 0 } : Room)) (fun a U => a = #[(.ref o0)] ∧ Z.Warmed39 U.vm ∧ U.heap = h0) (fun _ _ _ _ _ => True) (fun _ U o U' => ∃ v L, o = .returned v ∧ Q1e Z o0 h0 n0 v U'.heap L ∧ FrameEnd U o U' L ({ frames := 0, cells := 0, slots := 0, locals := 0 } : Room).cells ({ frames := 0, cells := 0, slots := 0, locals := 0 } : Room).slots) := by
  refine MetFree.of_bodySF (plainFor_of_name pn_0) hisR ?_
  intro p e s m args below meth c s₁ Bd hml0 hP hK
  obtain ⟨rfl, hZ, hh⟩ := hP
  have hx := Bd.exec
  have hby := Bd.bytes
  have hml : c.maxLocals = 1 := hml0
  have hown : s.vm.findClass "com/example/headway/headway/engine/Predicate$Relation" = some m.cls := findClass_of_methodNamed Bd.named
  have hnm := (name_of_methodNamed Bd.named Bd.method).1
  have X0 : Stand p l e ({ frames := 0, cells := 0, slots := 0, locals := 0 } : Room) s m #[(.ref o0)] below meth c s₁ [] 0 0 := Stand.of_body Bd
  have e0 : s₁.heap = h0 := by rw [← hh, Bd.state]; rfl
  have N0 := Fr.nil n0
  have hret := Bd.returns
  have hlk := BodyLoose.notSynchronized Bd
  show own_Out p e below (fun o U' => ∃ v L, o = .returned v ∧ Q1e Z o0 h0 n0 v U'.heap L ∧ FrameEnd s o U' L ({ frames := 0, cells := 0, slots := 0, locals := 0 } : Room).cells ({ frames := 0, cells := 0, slots := 0, locals := 0 } : Room).slots) (s₁.setTop (entryFrame m #[(.ref o0)] 1))
  refine own_of (fun t k => castTop (ef_1e m o0) k) ?_
  show own_Out p e below _ (s₁.setTop (mkF m 0 #[.val (.ref o0)] []))
  refine own_of (fun _ k => XS.aloadN X0.here hx rfl (hb hby d1_0) rfl rfl k) ?_
  show own_Out p e below _ (s₁.setTop (mkF m 1 #[.val (.ref o0)] [(.ref o0)]))
  obtain ⟨T1, X1, e1, st1⟩ := getS2 X0 hx hZ hown (host := "") (Or.inl (hw _ (List.mem_of_getElem? (i := 10) rfl))) Via.refl e0 S (g := (mkF m 1 #[.val (.ref o0)] [(.ref o0)])) rfl (hb hby d1_1)
  refine own_of st1 ?_
  show own_Out p e below _ (T1.setTop (mkF m 4 #[.val (.ref o0)] [(.ref o0), (.ref o0)]))
  refine own_of (fun _ k => Jvm.RoadKit.acmp (g := (mkF m 4 #[.val (.ref o0)] [(.ref o0), (.ref o0)])) X1 hx rfl rfl rfl (pc0 := 4) (pc' := 7) (same := true) rfl (hb hby d1_4) rfl (decide_eq_true rfl) (by decide) (by decide) k) ?_
  show own_Out p e below _ (T1.setTop (mkF m 7 #[.val (.ref o0)] []))
  refine own_of (X1.ldc2DoubleC hx hown (mvT hZ (hw _ (List.mem_of_getElem? (i := 19) rfl))) (g := (mkF m 7 #[.val (.ref o0)] [])) rfl (hb hby d1_7)) ?_
  show own_Out p e below _ (T1.setTop (mkF m 10 #[.val (.ref o0)] [(.double (4606281698874543309 : UInt64))]))
  refine own_of (fun _ k => XS.goto X1.here hx rfl (pc0 := 10) (pc' := 16) rfl (hb hby d1_10) (by decide) (by decide) k) ?_
  show own_Out p e below _ (T1.setTop (mkF m 16 #[.val (.ref o0)] [(.double (4606281698874543309 : UInt64))]))
  exact own_outD X1 hx hlk hret (hb hby d1_16) (Q := Q1e Z o0 h0 n0) ⟨rfl, N0, e1⟩ (by decide) (by decide)
theorem d1_13 : decode prog_75_method_5_code 13 = .ok (.ldc2_w 51, 3) := by decide +kernel
theorem ef_1n (m : MethodId) (x0 : Addr) : entryFrame m #[(.ref x0)] 1 = mkF m 0 #[.val (.ref x0)] [] := by first | (simp [entryFrame, mkF, argsToLocals, Value.category]; done) | rfl
def Q1n (Z : State) (o0 : Addr) (w : Addr) (h0 : Heap) (n0 : Nat) (v : Option Value) (h : Heap) (L : List Loc) : Prop := v = some (.double (4599676419421066581 : UInt64)) ∧ Fr n0 L ∧ h = h0
set_option maxRecDepth 65536 in
set_option maxHeartbeats 40000000 in
theorem rm1n (l : Launch) (Z : State) (a0 : Array Value) (hw : ∀ d ∈ tables_1, d.before a0 Z = true) (ws : List Jvm.Cond) (o0 : Addr) (w : Addr) (h0 : Heap) (n0 : Nat) (Z0 : n0 ≤ h0.size) (S : Sta Z h0 "com/example/headway/headway/engine/Predicate$Relation" "NOT_EQUAL" "Lcom/example/headway/headway/engine/Predicate$Relation;" (.ref w)) (hne : o0 ≠ w) :
    MetFree l (⟨"com/example/headway/headway/engine/Predicate$Relation", "guessedSelectivity", "()D"⟩ : MethodName) (head1 (Jvm.Cond.code (⟨"com/example/headway/headway/engine/Predicate$Relation", "guessedSelectivity", "()D"⟩ : MethodName) prog_75_method_5_code 1 (some .double) :: ws) ({ frames := 0, cells := 0, slots := 0, locals := 0 } : Room)) (fun a U => a = #[(.ref o0)] ∧ Z.Warmed39 U.vm ∧ U.heap = h0) (fun _ _ _ _ _ => True) (fun _ U o U' => ∃ v L, o = .returned v ∧ Q1n Z o0 w h0 n0 v U'.heap L ∧ FrameEnd U o U' L ({ frames := 0, cells := 0, slots := 0, locals := 0 } : Room).cells ({ frames := 0, cells := 0, slots := 0, locals := 0 } : Room).slots) := by
  refine MetFree.of_bodySF (plainFor_of_name pn_0) hisR ?_
  intro p e s m args below meth c s₁ Bd hml0 hP hK
  obtain ⟨rfl, hZ, hh⟩ := hP
  have hx := Bd.exec
  have hby := Bd.bytes
  have hml : c.maxLocals = 1 := hml0
  have hown : s.vm.findClass "com/example/headway/headway/engine/Predicate$Relation" = some m.cls := findClass_of_methodNamed Bd.named
  have hnm := (name_of_methodNamed Bd.named Bd.method).1
  have X0 : Stand p l e ({ frames := 0, cells := 0, slots := 0, locals := 0 } : Room) s m #[(.ref o0)] below meth c s₁ [] 0 0 := Stand.of_body Bd
  have e0 : s₁.heap = h0 := by rw [← hh, Bd.state]; rfl
  have N0 := Fr.nil n0
  have hret := Bd.returns
  have hlk := BodyLoose.notSynchronized Bd
  show own_Out p e below (fun o U' => ∃ v L, o = .returned v ∧ Q1n Z o0 w h0 n0 v U'.heap L ∧ FrameEnd s o U' L ({ frames := 0, cells := 0, slots := 0, locals := 0 } : Room).cells ({ frames := 0, cells := 0, slots := 0, locals := 0 } : Room).slots) (s₁.setTop (entryFrame m #[(.ref o0)] 1))
  refine own_of (fun t k => castTop (ef_1n m o0) k) ?_
  show own_Out p e below _ (s₁.setTop (mkF m 0 #[.val (.ref o0)] []))
  refine own_of (fun _ k => XS.aloadN X0.here hx rfl (hb hby d1_0) rfl rfl k) ?_
  show own_Out p e below _ (s₁.setTop (mkF m 1 #[.val (.ref o0)] [(.ref o0)]))
  obtain ⟨T1, X1, e1, st1⟩ := getS2 X0 hx hZ hown (host := "") (Or.inl (hw _ (List.mem_of_getElem? (i := 10) rfl))) Via.refl e0 S (g := (mkF m 1 #[.val (.ref o0)] [(.ref o0)])) rfl (hb hby d1_1)
  refine own_of st1 ?_
  show own_Out p e below _ (T1.setTop (mkF m 4 #[.val (.ref o0)] [(.ref w), (.ref o0)]))
  refine own_of (fun _ k => Jvm.RoadKit.acmp (g := (mkF m 4 #[.val (.ref o0)] [(.ref w), (.ref o0)])) X1 hx rfl rfl rfl (pc0 := 4) (pc' := 13) (same := false) rfl (hb hby d1_4) rfl (decide_eq_false fun q => hne (Value.ref.inj q)) (by decide) (by decide) k) ?_
  show own_Out p e below _ (T1.setTop (mkF m 13 #[.val (.ref o0)] []))
  refine own_of (X1.ldc2DoubleC hx hown (mvT hZ (hw _ (List.mem_of_getElem? (i := 12) rfl))) (g := (mkF m 13 #[.val (.ref o0)] [])) rfl (hb hby d1_13)) ?_
  show own_Out p e below _ (T1.setTop (mkF m 16 #[.val (.ref o0)] [(.double (4599676419421066581 : UInt64))]))
  exact own_outD X1 hx hlk hret (hb hby d1_16) (Q := Q1n Z o0 w h0 n0) ⟨rfl, N0, e1⟩ (by decide) (by decide)
theorem pd_0 : parseMethodDescriptor "()D" = some ⟨[], some .double⟩ := by decide +kernel
theorem pn_1 : plainName "com/example/headway/headway/engine/RelationGuessedSelectivityPinLaw" = true := by first | (simp [plainName, overriddenIn]; done) | decide +kernel
theorem ef_0 (m : MethodId) (x0 : Int32) : entryFrame m #[(.int x0)] maxLocals = mkF m 0 #[.val (.int x0), .unset, .unset, .unset, .unset, .unset, .unset, .unset] [] := by first | (simp [entryFrame, mkF, argsToLocals, Value.category, maxLocals]; done) | rfl
def Q0 (Z : State) (p0 : Int32) (w_LESS_THAN : Addr) (w_NOT_EQUAL : Addr) (w_GREATER_OR_EQUAL : Addr) (w_LESS_OR_EQUAL : Addr) (w_GREATER_THAN : Addr) (h0 : Heap) (n0 : Nat) (v : Option Value) (h : Heap) (L : List Loc) : Prop := v = some (.int 1) ∧ Fr n0 L
set_option maxRecDepth 65536 in
set_option maxHeartbeats 40000000 in
theorem rm0 (l : Launch) (Z : State) (a0 : Array Value) (hw : ∀ d ∈ tables_1, d.before a0 Z = true) (ws : List Jvm.Cond) (p0 : Int32) (w_LESS_THAN : Addr) (w_NOT_EQUAL : Addr) (w_GREATER_OR_EQUAL : Addr) (w_LESS_OR_EQUAL : Addr) (w_GREATER_THAN : Addr) (h0 : Heap) (n0 : Nat) (Z0 : n0 ≤ h0.size) (S_w_LESS_THAN : Sta Z h0 "com/example/headway/headway/engine/Predicate$Relation" "LESS_THAN" "Lcom/example/headway/headway/engine/Predicate$Relation;" (.ref w_LESS_THAN)) (E_w_LESS_THAN : Exa Z h0 w_LESS_THAN "com/example/headway/headway/engine/Predicate$Relation") (ne_w_LESS_THAN : w_LESS_THAN ≠ w_NOT_EQUAL) (S_w_NOT_EQUAL : Sta Z h0 "com/example/headway/headway/engine/Predicate$Relation" "NOT_EQUAL" "Lcom/example/headway/headway/engine/Predicate$Relation;" (.ref w_NOT_EQUAL)) (E_w_NOT_EQUAL : Exa Z h0 w_NOT_EQUAL "com/example/headway/headway/engine/Predicate$Relation") (S_w_GREATER_OR_EQUAL : Sta Z h0 "com/example/headway/headway/engine/Predicate$Relation" "GREATER_OR_EQUAL" "Lcom/example/headway/headway/engine/Predicate$Relation;" (.ref w_GREATER_OR_EQUAL)) (E_w_GREATER_OR_EQUAL : Exa Z h0 w_GREATER_OR_EQUAL "com/example/headway/headway/engine/Predicate$Relation") (ne_w_GREATER_OR_EQUAL : w_GREATER_OR_EQUAL ≠ w_NOT_EQUAL) (S_w_LESS_OR_EQUAL : Sta Z h0 "com/example/headway/headway/engine/Predicate$Relation" "LESS_OR_EQUAL" "Lcom/example/headway/headway/engine/Predicate$Relation;" (.ref w_LESS_OR_EQUAL)) (E_w_LESS_OR_EQUAL : Exa Z h0 w_LESS_OR_EQUAL "com/example/headway/headway/engine/Predicate$Relation") (ne_w_LESS_OR_EQUAL : w_LESS_OR_EQUAL ≠ w_NOT_EQUAL) (S_w_GREATER_THAN : Sta Z h0 "com/example/headway/headway/engine/Predicate$Relation" "GREATER_THAN" "Lcom/example/headway/headway/engine/Predicate$Relation;" (.ref w_GREATER_THAN)) (E_w_GREATER_THAN : Exa Z h0 w_GREATER_THAN "com/example/headway/headway/engine/Predicate$Relation") (ne_w_GREATER_THAN : w_GREATER_THAN ≠ w_NOT_EQUAL) :
    MetFree l x (head1 (Jvm.Cond.code x code maxLocals ret :: ws) room_1) (fun a U => a = #[(.int p0)] ∧ Z.Warmed39 U.vm ∧ U.heap = h0) (fun _ _ _ _ _ => True) (fun _ U o U' => ∃ v L, o = .returned v ∧ Q0 Z p0 w_LESS_THAN w_NOT_EQUAL w_GREATER_OR_EQUAL w_LESS_OR_EQUAL w_GREATER_THAN h0 n0 v U'.heap L ∧ FrameEnd U o U' L 0 0) := by
  refine MetFree.of_bodySF (plainFor_of_name pn_1) hisR ?_
  intro p e s m args below meth c s₁ Bd hml0 hP hK
  obtain ⟨rfl, hZ, hh⟩ := hP
  have hx := Bd.exec
  have hby := Bd.bytes
  have hml : c.maxLocals = 8 := hml0
  have hown : s.vm.findClass "com/example/headway/headway/engine/RelationGuessedSelectivityPinLaw" = some m.cls := findClass_of_methodNamed Bd.named
  have hnm := (name_of_methodNamed Bd.named Bd.method).1
  have X0 : Stand p l e room_1 s m #[(.int p0)] below meth c s₁ [] 0 0 := Stand.of_body Bd
  have e0 : s₁.heap = h0 := by rw [← hh, Bd.state]; rfl
  have N0 := Fr.nil n0
  have hret := Bd.returns
  have hlk := BodyLoose.notSynchronized Bd
  show own_Out p e below (fun o U' => ∃ v L, o = .returned v ∧ Q0 Z p0 w_LESS_THAN w_NOT_EQUAL w_GREATER_OR_EQUAL w_LESS_OR_EQUAL w_GREATER_THAN h0 n0 v U'.heap L ∧ FrameEnd s o U' L 0 0) (s₁.setTop (entryFrame m #[(.int p0)] maxLocals))
  refine own_of (fun t k => castTop (ef_0 m p0) k) ?_
  show own_Out p e below _ (s₁.setTop (mkF m 0 #[.val (.int p0), .unset, .unset, .unset, .unset, .unset, .unset, .unset] []))
  refine own_of (fun _ k => XS.iloadN X0.here hx rfl (hb hby at_0) rfl k) ?_
  show own_Out p e below _ (s₁.setTop (mkF m 1 #[.val (.int p0), .unset, .unset, .unset, .unset, .unset, .unset, .unset] [(.int p0)]))
  refine own_of (X0.ldcInt hx hown (mvT hZ (hw _ (List.mem_of_getElem? (i := 0) rfl))) (g := (mkF m 1 #[.val (.int p0), .unset, .unset, .unset, .unset, .unset, .unset, .unset] [(.int p0)])) rfl (hb hby at_1)) ?_
  show own_Out p e below _ (s₁.setTop (mkF m 3 #[.val (.int p0), .unset, .unset, .unset, .unset, .unset, .unset, .unset] [(.int (2147483647 : Int32)), (.int p0)]))
  refine own_of (fun _ k => XS.iand X0.here hx rfl (hb hby at_3) rfl k) ?_
  show own_Out p e below _ (s₁.setTop (mkF m 4 #[.val (.int p0), .unset, .unset, .unset, .unset, .unset, .unset, .unset] [(.int (p0 &&& (2147483647 : Int32)))]))
  refine own_of (fun _ k => XS.iconst X0.here hx rfl (hb hby at_4) k) ?_
  show own_Out p e below _ (s₁.setTop (mkF m 5 #[.val (.int p0), .unset, .unset, .unset, .unset, .unset, .unset, .unset] [(.int (5 : Int32)), (.int (p0 &&& (2147483647 : Int32)))]))
  refine own_of (fun _ k => iremM X0 hx rfl (hb hby at_5) rfl (by decide) k) ?_
  show own_Out p e below _ (s₁.setTop (mkF m 6 #[.val (.int p0), .unset, .unset, .unset, .unset, .unset, .unset, .unset] [(.int ((p0 &&& (2147483647 : Int32)) % (5 : Int32)))]))
  refine own_of (fun _ k => XS.istoreN X0.here hx rfl (hb hby at_6) rfl (l' := #[.val (.int p0), .val (.int ((p0 &&& (2147483647 : Int32)) % (5 : Int32))), .unset, .unset, .unset, .unset, .unset, .unset]) rfl k) ?_
  show own_Out p e below _ (s₁.setTop (mkF m 7 #[.val (.int p0), .val (.int ((p0 &&& (2147483647 : Int32)) % (5 : Int32))), .unset, .unset, .unset, .unset, .unset, .unset] []))
  refine own_of (fun _ k => XS.iloadN X0.here hx rfl (hb hby at_7) rfl k) ?_
  show own_Out p e below _ (s₁.setTop (mkF m 8 #[.val (.int p0), .val (.int ((p0 &&& (2147483647 : Int32)) % (5 : Int32))), .unset, .unset, .unset, .unset, .unset, .unset] [(.int ((p0 &&& (2147483647 : Int32)) % (5 : Int32)))]))
  by_cases hc8_1 : ((p0 &&& (2147483647 : Int32)) % (5 : Int32)) = (0 : Int32)
  · skip
    refine own_of (fun _ k => XS.ifNo X0.here hx rfl (hb hby at_8) rfl ((if0 _ _).trans (teq hc8_1).2) k) ?_
    show own_Out p e below _ (s₁.setTop (mkF m 11 #[.val (.int p0), .val (.int ((p0 &&& (2147483647 : Int32)) % (5 : Int32))), .unset, .unset, .unset, .unset, .unset, .unset] []))
    obtain ⟨T2, X2, e2, st2⟩ := getS2 X0 hx hZ hown (host := "") (Or.inl (hw _ (List.mem_of_getElem? (i := 1) rfl))) Via.refl e0 S_w_LESS_THAN (g := (mkF m 11 #[.val (.int p0), .val (.int ((p0 &&& (2147483647 : Int32)) % (5 : Int32))), .unset, .unset, .unset, .unset, .unset, .unset] [])) rfl (hb hby at_11)
    refine own_of st2 ?_
    show own_Out p e below _ (T2.setTop (mkF m 14 #[.val (.int p0), .val (.int ((p0 &&& (2147483647 : Int32)) % (5 : Int32))), .unset, .unset, .unset, .unset, .unset, .unset] [(.ref w_LESS_THAN)]))
    refine own_of (fun _ k => XS.astoreN X2.here hx rfl (hb hby at_14) rfl rfl (l' := #[.val (.int p0), .val (.int ((p0 &&& (2147483647 : Int32)) % (5 : Int32))), .val (.ref w_LESS_THAN), .unset, .unset, .unset, .unset, .unset]) rfl k) ?_
    show own_Out p e below _ (T2.setTop (mkF m 15 #[.val (.int p0), .val (.int ((p0 &&& (2147483647 : Int32)) % (5 : Int32))), .val (.ref w_LESS_THAN), .unset, .unset, .unset, .unset, .unset] []))
    refine own_of (fun _ k => XS.iconst X2.here hx rfl (hb hby at_15) k) ?_
    show own_Out p e below _ (T2.setTop (mkF m 16 #[.val (.int p0), .val (.int ((p0 &&& (2147483647 : Int32)) % (5 : Int32))), .val (.ref w_LESS_THAN), .unset, .unset, .unset, .unset, .unset] [(.int (1 : Int32))]))
    refine own_of (fun _ k => XS.istoreN X2.here hx rfl (hb hby at_16) rfl (l' := #[.val (.int p0), .val (.int ((p0 &&& (2147483647 : Int32)) % (5 : Int32))), .val (.ref w_LESS_THAN), .val (.int (1 : Int32)), .unset, .unset, .unset, .unset]) rfl k) ?_
    show own_Out p e below _ (T2.setTop (mkF m 17 #[.val (.int p0), .val (.int ((p0 &&& (2147483647 : Int32)) % (5 : Int32))), .val (.ref w_LESS_THAN), .val (.int (1 : Int32)), .unset, .unset, .unset, .unset] []))
    refine own_of (fun _ k => XS.goto X2.here hx rfl (pc0 := 17) (pc' := 68) rfl (hb hby at_17) (by decide) (by decide) k) ?_
    show own_Out p e below _ (T2.setTop (mkF m 68 #[.val (.int p0), .val (.int ((p0 &&& (2147483647 : Int32)) % (5 : Int32))), .val (.ref w_LESS_THAN), .val (.int (1 : Int32)), .unset, .unset, .unset, .unset] []))
    refine own_of (fun _ k => XS.iloadN X2.here hx rfl (hb hby at_68) rfl k) ?_
    show own_Out p e below _ (T2.setTop (mkF m 69 #[.val (.int p0), .val (.int ((p0 &&& (2147483647 : Int32)) % (5 : Int32))), .val (.ref w_LESS_THAN), .val (.int (1 : Int32)), .unset, .unset, .unset, .unset] [(.int (1 : Int32))]))
    refine own_of (fun _ k => XS.ifNo X2.here hx rfl (hb hby at_69) rfl ((if0 _ _).trans (feq (by decide : ¬ ((1 : Int32) = (0 : Int32)))).1) k) ?_
    show own_Out p e below _ (T2.setTop (mkF m 72 #[.val (.int p0), .val (.int ((p0 &&& (2147483647 : Int32)) % (5 : Int32))), .val (.ref w_LESS_THAN), .val (.int (1 : Int32)), .unset, .unset, .unset, .unset] []))
    refine own_of (X2.ldc2DoubleC hx hown (mvT hZ (hw _ (List.mem_of_getElem? (i := 4) rfl))) (g := (mkF m 72 #[.val (.int p0), .val (.int ((p0 &&& (2147483647 : Int32)) % (5 : Int32))), .val (.ref w_LESS_THAN), .val (.int (1 : Int32)), .unset, .unset, .unset, .unset] [])) rfl (hb hby at_72)) ?_
    show own_Out p e below _ (T2.setTop (mkF m 75 #[.val (.int p0), .val (.int ((p0 &&& (2147483647 : Int32)) % (5 : Int32))), .val (.ref w_LESS_THAN), .val (.int (1 : Int32)), .unset, .unset, .unset, .unset] [(.double (4599676419421066581 : UInt64))]))
    refine own_of (fun _ k => XS.goto X2.here hx rfl (pc0 := 75) (pc' := 81) rfl (hb hby at_75) (by decide) (by decide) k) ?_
    show own_Out p e below _ (T2.setTop (mkF m 81 #[.val (.int p0), .val (.int ((p0 &&& (2147483647 : Int32)) % (5 : Int32))), .val (.ref w_LESS_THAN), .val (.int (1 : Int32)), .unset, .unset, .unset, .unset] [(.double (4599676419421066581 : UInt64))]))
    refine own_of (fun _ k => XS.dstore X2.here hx rfl (hb hby at_81) rfl (l' := #[.val (.int p0), .val (.int ((p0 &&& (2147483647 : Int32)) % (5 : Int32))), .val (.ref w_LESS_THAN), .val (.int (1 : Int32)), .val (.double (4599676419421066581 : UInt64)), .second, .unset, .unset]) rfl k) ?_
    show own_Out p e below _ (T2.setTop (mkF m 83 #[.val (.int p0), .val (.int ((p0 &&& (2147483647 : Int32)) % (5 : Int32))), .val (.ref w_LESS_THAN), .val (.int (1 : Int32)), .val (.double (4599676419421066581 : UInt64)), .second, .unset, .unset] []))
    refine own_of (fun _ k => XS.aloadN X2.here hx rfl (hb hby at_83) rfl rfl k) ?_
    show own_Out p e below _ (T2.setTop (mkF m 84 #[.val (.int p0), .val (.int ((p0 &&& (2147483647 : Int32)) % (5 : Int32))), .val (.ref w_LESS_THAN), .val (.int (1 : Int32)), .val (.double (4599676419421066581 : UInt64)), .second, .unset, .unset] [(.ref w_LESS_THAN)]))
    obtain ⟨cq3, kq3, q3a, q3b, q3c⟩ := isOf hZ e2 E_w_LESS_THAN
    obtain ⟨_, _, ⟨T3, L3, k3, n3⟩, -, X3, ⟨Lc3, hQ3, l3, y3, z3⟩, st3⟩ := X2.virtualBack hx (y := (⟨"com/example/headway/headway/engine/Predicate$Relation", "guessedSelectivity", "()D"⟩ : MethodName)) (z := (⟨"com/example/headway/headway/engine/Predicate$Relation", "guessedSelectivity", "()D"⟩ : MethodName)) hown (mvT hZ (hw _ (List.mem_of_getElem? (i := 5) rfl))) (mvT hZ (hw _ (List.mem_of_getElem? (i := 6) rfl))) (notFace_of_selects (args := #[]) (mvT hZ (hw _ (List.mem_of_getElem? (i := 8) rfl)))) (mvT hZ (hw _ (List.mem_of_getElem? (i := 8) rfl))) (mvT hZ (hw _ (List.mem_of_getElem? (i := 7) rfl))) (by decide) (backOf (W := 0) (rm1n l Z a0 hw [] w_LESS_THAN w_NOT_EQUAL h0 n0 Z0 S_w_NOT_EQUAL ne_w_LESS_THAN) hZ (hw _ (List.mem_of_getElem? (i := 9) rfl)) (hw _ (List.mem_of_getElem? (i := 2) rfl)) (by decide) (by decide)) q3a q3c (g := (mkF m 84 #[.val (.int p0), .val (.int ((p0 &&& (2147483647 : Int32)) % (5 : Int32))), .val (.ref w_LESS_THAN), .val (.int (1 : Int32)), .val (.double (4599676419421066581 : UInt64)), .second, .unset, .unset] [(.ref w_LESS_THAN)])) rfl (by rw [hml]; rfl) (Steps.refl _) (argsL := []) (rest := []) (lenOf pd_0 rfl) rfl (by show 2 * 0 + _ ≤ _; exact Nat.le_of_eq rfl) (hb hby at_84) (fun _ _ => ⟨rfl, e2, (by decide : 0 + 0 ≤ _), (by decide : 0 + 0 ≤ _)⟩)
    dsimp only [Pt.U, Pt.locs, Pt.cells, Pt.slots] at X3 l3 y3 z3 st3 hQ3
    subst l3 y3 z3
    obtain ⟨rfl, N3q, hh3⟩ := hQ3
    have N3 := Fr.app N0 N3q
    refine own_of (fun _ k => st3.trans k) ?_
    show own_Out p e below _ (T3.setTop (mkF m 87 #[.val (.int p0), .val (.int ((p0 &&& (2147483647 : Int32)) % (5 : Int32))), .val (.ref w_LESS_THAN), .val (.int (1 : Int32)), .val (.double (4599676419421066581 : UInt64)), .second, .unset, .unset] [(.double (4599676419421066581 : UInt64))]))
    refine own_of (fun _ k => XS.dstore X3.here hx rfl (hb hby at_87) rfl (l' := #[.val (.int p0), .val (.int ((p0 &&& (2147483647 : Int32)) % (5 : Int32))), .val (.ref w_LESS_THAN), .val (.int (1 : Int32)), .val (.double (4599676419421066581 : UInt64)), .second, .val (.double (4599676419421066581 : UInt64)), .second]) rfl k) ?_
    show own_Out p e below _ (T3.setTop (mkF m 89 #[.val (.int p0), .val (.int ((p0 &&& (2147483647 : Int32)) % (5 : Int32))), .val (.ref w_LESS_THAN), .val (.int (1 : Int32)), .val (.double (4599676419421066581 : UInt64)), .second, .val (.double (4599676419421066581 : UInt64)), .second] []))
    refine own_of (fun _ k => XS.dload X3.here hx rfl (hb hby at_89) rfl k) ?_
    show own_Out p e below _ (T3.setTop (mkF m 91 #[.val (.int p0), .val (.int ((p0 &&& (2147483647 : Int32)) % (5 : Int32))), .val (.ref w_LESS_THAN), .val (.int (1 : Int32)), .val (.double (4599676419421066581 : UInt64)), .second, .val (.double (4599676419421066581 : UInt64)), .second] [(.double (4599676419421066581 : UInt64))]))
    refine own_of (fun _ k => XS.dload X3.here hx rfl (hb hby at_91) rfl k) ?_
    show own_Out p e below _ (T3.setTop (mkF m 93 #[.val (.int p0), .val (.int ((p0 &&& (2147483647 : Int32)) % (5 : Int32))), .val (.ref w_LESS_THAN), .val (.int (1 : Int32)), .val (.double (4599676419421066581 : UInt64)), .second, .val (.double (4599676419421066581 : UInt64)), .second] [(.double (4599676419421066581 : UInt64)), (.double (4599676419421066581 : UInt64))]))
    refine own_of (fun _ k => XS.dcmpS X3.here hx rfl (v := (0 : Int32)) (hb hby at_93) rfl (by decide +kernel) k) ?_
    show own_Out p e below _ (T3.setTop (mkF m 94 #[.val (.int p0), .val (.int ((p0 &&& (2147483647 : Int32)) % (5 : Int32))), .val (.ref w_LESS_THAN), .val (.int (1 : Int32)), .val (.double (4599676419421066581 : UInt64)), .second, .val (.double (4599676419421066581 : UInt64)), .second] [(.int (0 : Int32))]))
    refine own_of (fun _ k => XS.ifNo X3.here hx rfl (hb hby at_94) rfl ((if0 _ _).trans (teq (by decide : (0 : Int32) = (0 : Int32))).2) k) ?_
    show own_Out p e below _ (T3.setTop (mkF m 97 #[.val (.int p0), .val (.int ((p0 &&& (2147483647 : Int32)) % (5 : Int32))), .val (.ref w_LESS_THAN), .val (.int (1 : Int32)), .val (.double (4599676419421066581 : UInt64)), .second, .val (.double (4599676419421066581 : UInt64)), .second] []))
    refine own_of (fun _ k => XS.dload X3.here hx rfl (hb hby at_97) rfl k) ?_
    show own_Out p e below _ (T3.setTop (mkF m 99 #[.val (.int p0), .val (.int ((p0 &&& (2147483647 : Int32)) % (5 : Int32))), .val (.ref w_LESS_THAN), .val (.int (1 : Int32)), .val (.double (4599676419421066581 : UInt64)), .second, .val (.double (4599676419421066581 : UInt64)), .second] [(.double (4599676419421066581 : UInt64))]))
    refine own_of (fun _ k => XS.dconst0 X3.here hx rfl (v := (0 : UInt64)) (hb hby at_99) (by decide +kernel) k) ?_
    show own_Out p e below _ (T3.setTop (mkF m 100 #[.val (.int p0), .val (.int ((p0 &&& (2147483647 : Int32)) % (5 : Int32))), .val (.ref w_LESS_THAN), .val (.int (1 : Int32)), .val (.double (4599676419421066581 : UInt64)), .second, .val (.double (4599676419421066581 : UInt64)), .second] [(.double (0 : UInt64)), (.double (4599676419421066581 : UInt64))]))
    refine own_of (fun _ k => XS.dcmpS X3.here hx rfl (v := (1 : Int32)) (hb hby at_100) rfl (by decide +kernel) k) ?_
    show own_Out p e below _ (T3.setTop (mkF m 101 #[.val (.int p0), .val (.int ((p0 &&& (2147483647 : Int32)) % (5 : Int32))), .val (.ref w_LESS_THAN), .val (.int (1 : Int32)), .val (.double (4599676419421066581 : UInt64)), .second, .val (.double (4599676419421066581 : UInt64)), .second] [(.int (1 : Int32))]))
    refine own_of (fun _ k => XS.ifNo X3.here hx rfl (hb hby at_101) rfl ((if0 _ _).trans (tlt (by decide : (0 : Int32) < (1 : Int32))).2.2.2) k) ?_
    show own_Out p e below _ (T3.setTop (mkF m 104 #[.val (.int p0), .val (.int ((p0 &&& (2147483647 : Int32)) % (5 : Int32))), .val (.ref w_LESS_THAN), .val (.int (1 : Int32)), .val (.double (4599676419421066581 : UInt64)), .second, .val (.double (4599676419421066581 : UInt64)), .second] []))
    refine own_of (fun _ k => XS.dload X3.here hx rfl (hb hby at_104) rfl k) ?_
    show own_Out p e below _ (T3.setTop (mkF m 106 #[.val (.int p0), .val (.int ((p0 &&& (2147483647 : Int32)) % (5 : Int32))), .val (.ref w_LESS_THAN), .val (.int (1 : Int32)), .val (.double (4599676419421066581 : UInt64)), .second, .val (.double (4599676419421066581 : UInt64)), .second] [(.double (4599676419421066581 : UInt64))]))
    refine own_of (fun _ k => XS.dconst1 X3.here hx rfl (v := (4607182418800017408 : UInt64)) (hb hby at_106) (by decide +kernel) k) ?_
    show own_Out p e below _ (T3.setTop (mkF m 107 #[.val (.int p0), .val (.int ((p0 &&& (2147483647 : Int32)) % (5 : Int32))), .val (.ref w_LESS_THAN), .val (.int (1 : Int32)), .val (.double (4599676419421066581 : UInt64)), .second, .val (.double (4599676419421066581 : UInt64)), .second] [(.double (4607182418800017408 : UInt64)), (.double (4599676419421066581 : UInt64))]))
    refine own_of (fun _ k => XS.dcmpS X3.here hx rfl (v := (-1 : Int32)) (hb hby at_107) rfl (by decide +kernel) k) ?_
    show own_Out p e below _ (T3.setTop (mkF m 108 #[.val (.int p0), .val (.int ((p0 &&& (2147483647 : Int32)) % (5 : Int32))), .val (.ref w_LESS_THAN), .val (.int (1 : Int32)), .val (.double (4599676419421066581 : UInt64)), .second, .val (.double (4599676419421066581 : UInt64)), .second] [(.int (-1 : Int32))]))
    refine own_of (fun _ k => XS.ifNo X3.here hx rfl (hb hby at_108) rfl ((if0 _ _).trans (tlt (by decide : (-1 : Int32) < (0 : Int32))).2.1) k) ?_
    show own_Out p e below _ (T3.setTop (mkF m 111 #[.val (.int p0), .val (.int ((p0 &&& (2147483647 : Int32)) % (5 : Int32))), .val (.ref w_LESS_THAN), .val (.int (1 : Int32)), .val (.double (4599676419421066581 : UInt64)), .second, .val (.double (4599676419421066581 : UInt64)), .second] []))
    refine own_of (fun _ k => XS.iconst X3.here hx rfl (hb hby at_111) k) ?_
    show own_Out p e below _ (T3.setTop (mkF m 112 #[.val (.int p0), .val (.int ((p0 &&& (2147483647 : Int32)) % (5 : Int32))), .val (.ref w_LESS_THAN), .val (.int (1 : Int32)), .val (.double (4599676419421066581 : UInt64)), .second, .val (.double (4599676419421066581 : UInt64)), .second] [(.int (1 : Int32))]))
    refine own_of (fun _ k => XS.goto X3.here hx rfl (pc0 := 112) (pc' := 116) rfl (hb hby at_112) (by decide) (by decide) k) ?_
    show own_Out p e below _ (T3.setTop (mkF m 116 #[.val (.int p0), .val (.int ((p0 &&& (2147483647 : Int32)) % (5 : Int32))), .val (.ref w_LESS_THAN), .val (.int (1 : Int32)), .val (.double (4599676419421066581 : UInt64)), .second, .val (.double (4599676419421066581 : UInt64)), .second] [(.int (1 : Int32))]))
    exact own_outN X3 hx hlk (t := .boolean) hret (by simp) (hb hby at_116) (z' := (1 : Int32)) rfl (Q := Q0 Z p0 w_LESS_THAN w_NOT_EQUAL w_GREATER_OR_EQUAL w_LESS_OR_EQUAL w_GREATER_THAN h0 n0) ⟨rfl, N3⟩ (by decide) (by decide)
  · skip
    refine own_of (fun _ k => XS.ifYes X0.here hx rfl (pc0 := 8) (pc' := 20) rfl (hb hby at_8) rfl ((if0 _ _).trans (feq hc8_1).2) (by decide) (by decide) k) ?_
    show own_Out p e below _ (s₁.setTop (mkF m 20 #[.val (.int p0), .val (.int ((p0 &&& (2147483647 : Int32)) % (5 : Int32))), .unset, .unset, .unset, .unset, .unset, .unset] []))
    refine own_of (fun _ k => XS.iloadN X0.here hx rfl (hb hby at_20) rfl k) ?_
    show own_Out p e below _ (s₁.setTop (mkF m 21 #[.val (.int p0), .val (.int ((p0 &&& (2147483647 : Int32)) % (5 : Int32))), .unset, .unset, .unset, .unset, .unset, .unset] [(.int ((p0 &&& (2147483647 : Int32)) % (5 : Int32)))]))
    refine own_of (fun _ k => XS.iconst X0.here hx rfl (hb hby at_21) k) ?_
    show own_Out p e below _ (s₁.setTop (mkF m 22 #[.val (.int p0), .val (.int ((p0 &&& (2147483647 : Int32)) % (5 : Int32))), .unset, .unset, .unset, .unset, .unset, .unset] [(.int (1 : Int32)), (.int ((p0 &&& (2147483647 : Int32)) % (5 : Int32)))]))
    by_cases hc22_4 : ((p0 &&& (2147483647 : Int32)) % (5 : Int32)) = (1 : Int32)
    · skip
      refine own_of (fun _ k => XS.icmpNo X0.here hx rfl (hb hby at_22) rfl (teq hc22_4).2 k) ?_
      show own_Out p e below _ (s₁.setTop (mkF m 25 #[.val (.int p0), .val (.int ((p0 &&& (2147483647 : Int32)) % (5 : Int32))), .unset, .unset, .unset, .unset, .unset, .unset] []))
      obtain ⟨T5, X5, e5, st5⟩ := getS2 X0 hx hZ hown (host := "") (Or.inl (hw _ (List.mem_of_getElem? (i := 15) rfl))) Via.refl e0 S_w_LESS_OR_EQUAL (g := (mkF m 25 #[.val (.int p0), .val (.int ((p0 &&& (2147483647 : Int32)) % (5 : Int32))), .unset, .unset, .unset, .unset, .unset, .unset] [])) rfl (hb hby at_25)
      refine own_of st5 ?_
      show own_Out p e below _ (T5.setTop (mkF m 28 #[.val (.int p0), .val (.int ((p0 &&& (2147483647 : Int32)) % (5 : Int32))), .unset, .unset, .unset, .unset, .unset, .unset] [(.ref w_LESS_OR_EQUAL)]))
      refine own_of (fun _ k => XS.astoreN X5.here hx rfl (hb hby at_28) rfl rfl (l' := #[.val (.int p0), .val (.int ((p0 &&& (2147483647 : Int32)) % (5 : Int32))), .val (.ref w_LESS_OR_EQUAL), .unset, .unset, .unset, .unset, .unset]) rfl k) ?_
      show own_Out p e below _ (T5.setTop (mkF m 29 #[.val (.int p0), .val (.int ((p0 &&& (2147483647 : Int32)) % (5 : Int32))), .val (.ref w_LESS_OR_EQUAL), .unset, .unset, .unset, .unset, .unset] []))
      refine own_of (fun _ k => XS.iconst X5.here hx rfl (hb hby at_29) k) ?_
      show own_Out p e below _ (T5.setTop (mkF m 30 #[.val (.int p0), .val (.int ((p0 &&& (2147483647 : Int32)) % (5 : Int32))), .val (.ref w_LESS_OR_EQUAL), .unset, .unset, .unset, .unset, .unset] [(.int (1 : Int32))]))
      refine own_of (fun _ k => XS.istoreN X5.here hx rfl (hb hby at_30) rfl (l' := #[.val (.int p0), .val (.int ((p0 &&& (2147483647 : Int32)) % (5 : Int32))), .val (.ref w_LESS_OR_EQUAL), .val (.int (1 : Int32)), .unset, .unset, .unset, .unset]) rfl k) ?_
      show own_Out p e below _ (T5.setTop (mkF m 31 #[.val (.int p0), .val (.int ((p0 &&& (2147483647 : Int32)) % (5 : Int32))), .val (.ref w_LESS_OR_EQUAL), .val (.int (1 : Int32)), .unset, .unset, .unset, .unset] []))
      refine own_of (fun _ k => XS.goto X5.here hx rfl (pc0 := 31) (pc' := 68) rfl (hb hby at_31) (by decide) (by decide) k) ?_
      show own_Out p e below _ (T5.setTop (mkF m 68 #[.val (.int p0), .val (.int ((p0 &&& (2147483647 : Int32)) % (5 : Int32))), .val (.ref w_LESS_OR_EQUAL), .val (.int (1 : Int32)), .unset, .unset, .unset, .unset] []))
      refine own_of (fun _ k => XS.iloadN X5.here hx rfl (hb hby at_68) rfl k) ?_
      show own_Out p e below _ (T5.setTop (mkF m 69 #[.val (.int p0), .val (.int ((p0 &&& (2147483647 : Int32)) % (5 : Int32))), .val (.ref w_LESS_OR_EQUAL), .val (.int (1 : Int32)), .unset, .unset, .unset, .unset] [(.int (1 : Int32))]))
      refine own_of (fun _ k => XS.ifNo X5.here hx rfl (hb hby at_69) rfl ((if0 _ _).trans (feq (by decide : ¬ ((1 : Int32) = (0 : Int32)))).1) k) ?_
      show own_Out p e below _ (T5.setTop (mkF m 72 #[.val (.int p0), .val (.int ((p0 &&& (2147483647 : Int32)) % (5 : Int32))), .val (.ref w_LESS_OR_EQUAL), .val (.int (1 : Int32)), .unset, .unset, .unset, .unset] []))
      refine own_of (X5.ldc2DoubleC hx hown (mvT hZ (hw _ (List.mem_of_getElem? (i := 4) rfl))) (g := (mkF m 72 #[.val (.int p0), .val (.int ((p0 &&& (2147483647 : Int32)) % (5 : Int32))), .val (.ref w_LESS_OR_EQUAL), .val (.int (1 : Int32)), .unset, .unset, .unset, .unset] [])) rfl (hb hby at_72)) ?_
      show own_Out p e below _ (T5.setTop (mkF m 75 #[.val (.int p0), .val (.int ((p0 &&& (2147483647 : Int32)) % (5 : Int32))), .val (.ref w_LESS_OR_EQUAL), .val (.int (1 : Int32)), .unset, .unset, .unset, .unset] [(.double (4599676419421066581 : UInt64))]))
      refine own_of (fun _ k => XS.goto X5.here hx rfl (pc0 := 75) (pc' := 81) rfl (hb hby at_75) (by decide) (by decide) k) ?_
      show own_Out p e below _ (T5.setTop (mkF m 81 #[.val (.int p0), .val (.int ((p0 &&& (2147483647 : Int32)) % (5 : Int32))), .val (.ref w_LESS_OR_EQUAL), .val (.int (1 : Int32)), .unset, .unset, .unset, .unset] [(.double (4599676419421066581 : UInt64))]))
      refine own_of (fun _ k => XS.dstore X5.here hx rfl (hb hby at_81) rfl (l' := #[.val (.int p0), .val (.int ((p0 &&& (2147483647 : Int32)) % (5 : Int32))), .val (.ref w_LESS_OR_EQUAL), .val (.int (1 : Int32)), .val (.double (4599676419421066581 : UInt64)), .second, .unset, .unset]) rfl k) ?_
      show own_Out p e below _ (T5.setTop (mkF m 83 #[.val (.int p0), .val (.int ((p0 &&& (2147483647 : Int32)) % (5 : Int32))), .val (.ref w_LESS_OR_EQUAL), .val (.int (1 : Int32)), .val (.double (4599676419421066581 : UInt64)), .second, .unset, .unset] []))
      refine own_of (fun _ k => XS.aloadN X5.here hx rfl (hb hby at_83) rfl rfl k) ?_
      show own_Out p e below _ (T5.setTop (mkF m 84 #[.val (.int p0), .val (.int ((p0 &&& (2147483647 : Int32)) % (5 : Int32))), .val (.ref w_LESS_OR_EQUAL), .val (.int (1 : Int32)), .val (.double (4599676419421066581 : UInt64)), .second, .unset, .unset] [(.ref w_LESS_OR_EQUAL)]))
      obtain ⟨cq6, kq6, q6a, q6b, q6c⟩ := isOf hZ e5 E_w_LESS_OR_EQUAL
      obtain ⟨_, _, ⟨T6, L6, k6, n6⟩, -, X6, ⟨Lc6, hQ6, l6, y6, z6⟩, st6⟩ := X5.virtualBack hx (y := (⟨"com/example/headway/headway/engine/Predicate$Relation", "guessedSelectivity", "()D"⟩ : MethodName)) (z := (⟨"com/example/headway/headway/engine/Predicate$Relation", "guessedSelectivity", "()D"⟩ : MethodName)) hown (mvT hZ (hw _ (List.mem_of_getElem? (i := 5) rfl))) (mvT hZ (hw _ (List.mem_of_getElem? (i := 6) rfl))) (notFace_of_selects (args := #[]) (mvT hZ (hw _ (List.mem_of_getElem? (i := 8) rfl)))) (mvT hZ (hw _ (List.mem_of_getElem? (i := 8) rfl))) (mvT hZ (hw _ (List.mem_of_getElem? (i := 7) rfl))) (by decide) (backOf (W := 0) (rm1n l Z a0 hw [] w_LESS_OR_EQUAL w_NOT_EQUAL h0 n0 Z0 S_w_NOT_EQUAL ne_w_LESS_OR_EQUAL) hZ (hw _ (List.mem_of_getElem? (i := 9) rfl)) (hw _ (List.mem_of_getElem? (i := 2) rfl)) (by decide) (by decide)) q6a q6c (g := (mkF m 84 #[.val (.int p0), .val (.int ((p0 &&& (2147483647 : Int32)) % (5 : Int32))), .val (.ref w_LESS_OR_EQUAL), .val (.int (1 : Int32)), .val (.double (4599676419421066581 : UInt64)), .second, .unset, .unset] [(.ref w_LESS_OR_EQUAL)])) rfl (by rw [hml]; rfl) (Steps.refl _) (argsL := []) (rest := []) (lenOf pd_0 rfl) rfl (by show 2 * 0 + _ ≤ _; exact Nat.le_of_eq rfl) (hb hby at_84) (fun _ _ => ⟨rfl, e5, (by decide : 0 + 0 ≤ _), (by decide : 0 + 0 ≤ _)⟩)
      dsimp only [Pt.U, Pt.locs, Pt.cells, Pt.slots] at X6 l6 y6 z6 st6 hQ6
      subst l6 y6 z6
      obtain ⟨rfl, N6q, hh6⟩ := hQ6
      have N6 := Fr.app N0 N6q
      refine own_of (fun _ k => st6.trans k) ?_
      show own_Out p e below _ (T6.setTop (mkF m 87 #[.val (.int p0), .val (.int ((p0 &&& (2147483647 : Int32)) % (5 : Int32))), .val (.ref w_LESS_OR_EQUAL), .val (.int (1 : Int32)), .val (.double (4599676419421066581 : UInt64)), .second, .unset, .unset] [(.double (4599676419421066581 : UInt64))]))
      refine own_of (fun _ k => XS.dstore X6.here hx rfl (hb hby at_87) rfl (l' := #[.val (.int p0), .val (.int ((p0 &&& (2147483647 : Int32)) % (5 : Int32))), .val (.ref w_LESS_OR_EQUAL), .val (.int (1 : Int32)), .val (.double (4599676419421066581 : UInt64)), .second, .val (.double (4599676419421066581 : UInt64)), .second]) rfl k) ?_
      show own_Out p e below _ (T6.setTop (mkF m 89 #[.val (.int p0), .val (.int ((p0 &&& (2147483647 : Int32)) % (5 : Int32))), .val (.ref w_LESS_OR_EQUAL), .val (.int (1 : Int32)), .val (.double (4599676419421066581 : UInt64)), .second, .val (.double (4599676419421066581 : UInt64)), .second] []))
      refine own_of (fun _ k => XS.dload X6.here hx rfl (hb hby at_89) rfl k) ?_
      show own_Out p e below _ (T6.setTop (mkF m 91 #[.val (.int p0), .val (.int ((p0 &&& (2147483647 : Int32)) % (5 : Int32))), .val (.ref w_LESS_OR_EQUAL), .val (.int (1 : Int32)), .val (.double (4599676419421066581 : UInt64)), .second, .val (.double (4599676419421066581 : UInt64)), .second] [(.double (4599676419421066581 : UInt64))]))
      refine own_of (fun _ k => XS.dload X6.here hx rfl (hb hby at_91) rfl k) ?_
      show own_Out p e below _ (T6.setTop (mkF m 93 #[.val (.int p0), .val (.int ((p0 &&& (2147483647 : Int32)) % (5 : Int32))), .val (.ref w_LESS_OR_EQUAL), .val (.int (1 : Int32)), .val (.double (4599676419421066581 : UInt64)), .second, .val (.double (4599676419421066581 : UInt64)), .second] [(.double (4599676419421066581 : UInt64)), (.double (4599676419421066581 : UInt64))]))
      refine own_of (fun _ k => XS.dcmpS X6.here hx rfl (v := (0 : Int32)) (hb hby at_93) rfl (by decide +kernel) k) ?_
      show own_Out p e below _ (T6.setTop (mkF m 94 #[.val (.int p0), .val (.int ((p0 &&& (2147483647 : Int32)) % (5 : Int32))), .val (.ref w_LESS_OR_EQUAL), .val (.int (1 : Int32)), .val (.double (4599676419421066581 : UInt64)), .second, .val (.double (4599676419421066581 : UInt64)), .second] [(.int (0 : Int32))]))
      refine own_of (fun _ k => XS.ifNo X6.here hx rfl (hb hby at_94) rfl ((if0 _ _).trans (teq (by decide : (0 : Int32) = (0 : Int32))).2) k) ?_
      show own_Out p e below _ (T6.setTop (mkF m 97 #[.val (.int p0), .val (.int ((p0 &&& (2147483647 : Int32)) % (5 : Int32))), .val (.ref w_LESS_OR_EQUAL), .val (.int (1 : Int32)), .val (.double (4599676419421066581 : UInt64)), .second, .val (.double (4599676419421066581 : UInt64)), .second] []))
      refine own_of (fun _ k => XS.dload X6.here hx rfl (hb hby at_97) rfl k) ?_
      show own_Out p e below _ (T6.setTop (mkF m 99 #[.val (.int p0), .val (.int ((p0 &&& (2147483647 : Int32)) % (5 : Int32))), .val (.ref w_LESS_OR_EQUAL), .val (.int (1 : Int32)), .val (.double (4599676419421066581 : UInt64)), .second, .val (.double (4599676419421066581 : UInt64)), .second] [(.double (4599676419421066581 : UInt64))]))
      refine own_of (fun _ k => XS.dconst0 X6.here hx rfl (v := (0 : UInt64)) (hb hby at_99) (by decide +kernel) k) ?_
      show own_Out p e below _ (T6.setTop (mkF m 100 #[.val (.int p0), .val (.int ((p0 &&& (2147483647 : Int32)) % (5 : Int32))), .val (.ref w_LESS_OR_EQUAL), .val (.int (1 : Int32)), .val (.double (4599676419421066581 : UInt64)), .second, .val (.double (4599676419421066581 : UInt64)), .second] [(.double (0 : UInt64)), (.double (4599676419421066581 : UInt64))]))
      refine own_of (fun _ k => XS.dcmpS X6.here hx rfl (v := (1 : Int32)) (hb hby at_100) rfl (by decide +kernel) k) ?_
      show own_Out p e below _ (T6.setTop (mkF m 101 #[.val (.int p0), .val (.int ((p0 &&& (2147483647 : Int32)) % (5 : Int32))), .val (.ref w_LESS_OR_EQUAL), .val (.int (1 : Int32)), .val (.double (4599676419421066581 : UInt64)), .second, .val (.double (4599676419421066581 : UInt64)), .second] [(.int (1 : Int32))]))
      refine own_of (fun _ k => XS.ifNo X6.here hx rfl (hb hby at_101) rfl ((if0 _ _).trans (tlt (by decide : (0 : Int32) < (1 : Int32))).2.2.2) k) ?_
      show own_Out p e below _ (T6.setTop (mkF m 104 #[.val (.int p0), .val (.int ((p0 &&& (2147483647 : Int32)) % (5 : Int32))), .val (.ref w_LESS_OR_EQUAL), .val (.int (1 : Int32)), .val (.double (4599676419421066581 : UInt64)), .second, .val (.double (4599676419421066581 : UInt64)), .second] []))
      refine own_of (fun _ k => XS.dload X6.here hx rfl (hb hby at_104) rfl k) ?_
      show own_Out p e below _ (T6.setTop (mkF m 106 #[.val (.int p0), .val (.int ((p0 &&& (2147483647 : Int32)) % (5 : Int32))), .val (.ref w_LESS_OR_EQUAL), .val (.int (1 : Int32)), .val (.double (4599676419421066581 : UInt64)), .second, .val (.double (4599676419421066581 : UInt64)), .second] [(.double (4599676419421066581 : UInt64))]))
      refine own_of (fun _ k => XS.dconst1 X6.here hx rfl (v := (4607182418800017408 : UInt64)) (hb hby at_106) (by decide +kernel) k) ?_
      show own_Out p e below _ (T6.setTop (mkF m 107 #[.val (.int p0), .val (.int ((p0 &&& (2147483647 : Int32)) % (5 : Int32))), .val (.ref w_LESS_OR_EQUAL), .val (.int (1 : Int32)), .val (.double (4599676419421066581 : UInt64)), .second, .val (.double (4599676419421066581 : UInt64)), .second] [(.double (4607182418800017408 : UInt64)), (.double (4599676419421066581 : UInt64))]))
      refine own_of (fun _ k => XS.dcmpS X6.here hx rfl (v := (-1 : Int32)) (hb hby at_107) rfl (by decide +kernel) k) ?_
      show own_Out p e below _ (T6.setTop (mkF m 108 #[.val (.int p0), .val (.int ((p0 &&& (2147483647 : Int32)) % (5 : Int32))), .val (.ref w_LESS_OR_EQUAL), .val (.int (1 : Int32)), .val (.double (4599676419421066581 : UInt64)), .second, .val (.double (4599676419421066581 : UInt64)), .second] [(.int (-1 : Int32))]))
      refine own_of (fun _ k => XS.ifNo X6.here hx rfl (hb hby at_108) rfl ((if0 _ _).trans (tlt (by decide : (-1 : Int32) < (0 : Int32))).2.1) k) ?_
      show own_Out p e below _ (T6.setTop (mkF m 111 #[.val (.int p0), .val (.int ((p0 &&& (2147483647 : Int32)) % (5 : Int32))), .val (.ref w_LESS_OR_EQUAL), .val (.int (1 : Int32)), .val (.double (4599676419421066581 : UInt64)), .second, .val (.double (4599676419421066581 : UInt64)), .second] []))
      refine own_of (fun _ k => XS.iconst X6.here hx rfl (hb hby at_111) k) ?_
      show own_Out p e below _ (T6.setTop (mkF m 112 #[.val (.int p0), .val (.int ((p0 &&& (2147483647 : Int32)) % (5 : Int32))), .val (.ref w_LESS_OR_EQUAL), .val (.int (1 : Int32)), .val (.double (4599676419421066581 : UInt64)), .second, .val (.double (4599676419421066581 : UInt64)), .second] [(.int (1 : Int32))]))
      refine own_of (fun _ k => XS.goto X6.here hx rfl (pc0 := 112) (pc' := 116) rfl (hb hby at_112) (by decide) (by decide) k) ?_
      show own_Out p e below _ (T6.setTop (mkF m 116 #[.val (.int p0), .val (.int ((p0 &&& (2147483647 : Int32)) % (5 : Int32))), .val (.ref w_LESS_OR_EQUAL), .val (.int (1 : Int32)), .val (.double (4599676419421066581 : UInt64)), .second, .val (.double (4599676419421066581 : UInt64)), .second] [(.int (1 : Int32))]))
      exact own_outN X6 hx hlk (t := .boolean) hret (by simp) (hb hby at_116) (z' := (1 : Int32)) rfl (Q := Q0 Z p0 w_LESS_THAN w_NOT_EQUAL w_GREATER_OR_EQUAL w_LESS_OR_EQUAL w_GREATER_THAN h0 n0) ⟨rfl, N6⟩ (by decide) (by decide)
    · skip
      refine own_of (fun _ k => XS.icmpYes X0.here hx rfl (pc0 := 22) (pc' := 34) rfl (hb hby at_22) rfl (feq hc22_4).2 (by decide) (by decide) k) ?_
      show own_Out p e below _ (s₁.setTop (mkF m 34 #[.val (.int p0), .val (.int ((p0 &&& (2147483647 : Int32)) % (5 : Int32))), .unset, .unset, .unset, .unset, .unset, .unset] []))
      refine own_of (fun _ k => XS.iloadN X0.here hx rfl (hb hby at_34) rfl k) ?_
      show own_Out p e below _ (s₁.setTop (mkF m 35 #[.val (.int p0), .val (.int ((p0 &&& (2147483647 : Int32)) % (5 : Int32))), .unset, .unset, .unset, .unset, .unset, .unset] [(.int ((p0 &&& (2147483647 : Int32)) % (5 : Int32)))]))
      refine own_of (fun _ k => XS.iconst X0.here hx rfl (hb hby at_35) k) ?_
      show own_Out p e below _ (s₁.setTop (mkF m 36 #[.val (.int p0), .val (.int ((p0 &&& (2147483647 : Int32)) % (5 : Int32))), .unset, .unset, .unset, .unset, .unset, .unset] [(.int (2 : Int32)), (.int ((p0 &&& (2147483647 : Int32)) % (5 : Int32)))]))
      by_cases hc36_7 : ((p0 &&& (2147483647 : Int32)) % (5 : Int32)) = (2 : Int32)
      · skip
        refine own_of (fun _ k => XS.icmpNo X0.here hx rfl (hb hby at_36) rfl (teq hc36_7).2 k) ?_
        show own_Out p e below _ (s₁.setTop (mkF m 39 #[.val (.int p0), .val (.int ((p0 &&& (2147483647 : Int32)) % (5 : Int32))), .unset, .unset, .unset, .unset, .unset, .unset] []))
        obtain ⟨T8, X8, e8, st8⟩ := getS2 X0 hx hZ hown (host := "") (Or.inl (hw _ (List.mem_of_getElem? (i := 20) rfl))) Via.refl e0 S_w_GREATER_THAN (g := (mkF m 39 #[.val (.int p0), .val (.int ((p0 &&& (2147483647 : Int32)) % (5 : Int32))), .unset, .unset, .unset, .unset, .unset, .unset] [])) rfl (hb hby at_39)
        refine own_of st8 ?_
        show own_Out p e below _ (T8.setTop (mkF m 42 #[.val (.int p0), .val (.int ((p0 &&& (2147483647 : Int32)) % (5 : Int32))), .unset, .unset, .unset, .unset, .unset, .unset] [(.ref w_GREATER_THAN)]))
        refine own_of (fun _ k => XS.astoreN X8.here hx rfl (hb hby at_42) rfl rfl (l' := #[.val (.int p0), .val (.int ((p0 &&& (2147483647 : Int32)) % (5 : Int32))), .val (.ref w_GREATER_THAN), .unset, .unset, .unset, .unset, .unset]) rfl k) ?_
        show own_Out p e below _ (T8.setTop (mkF m 43 #[.val (.int p0), .val (.int ((p0 &&& (2147483647 : Int32)) % (5 : Int32))), .val (.ref w_GREATER_THAN), .unset, .unset, .unset, .unset, .unset] []))
        refine own_of (fun _ k => XS.iconst X8.here hx rfl (hb hby at_43) k) ?_
        show own_Out p e below _ (T8.setTop (mkF m 44 #[.val (.int p0), .val (.int ((p0 &&& (2147483647 : Int32)) % (5 : Int32))), .val (.ref w_GREATER_THAN), .unset, .unset, .unset, .unset, .unset] [(.int (1 : Int32))]))
        refine own_of (fun _ k => XS.istoreN X8.here hx rfl (hb hby at_44) rfl (l' := #[.val (.int p0), .val (.int ((p0 &&& (2147483647 : Int32)) % (5 : Int32))), .val (.ref w_GREATER_THAN), .val (.int (1 : Int32)), .unset, .unset, .unset, .unset]) rfl k) ?_
        show own_Out p e below _ (T8.setTop (mkF m 45 #[.val (.int p0), .val (.int ((p0 &&& (2147483647 : Int32)) % (5 : Int32))), .val (.ref w_GREATER_THAN), .val (.int (1 : Int32)), .unset, .unset, .unset, .unset] []))
        refine own_of (fun _ k => XS.goto X8.here hx rfl (pc0 := 45) (pc' := 68) rfl (hb hby at_45) (by decide) (by decide) k) ?_
        show own_Out p e below _ (T8.setTop (mkF m 68 #[.val (.int p0), .val (.int ((p0 &&& (2147483647 : Int32)) % (5 : Int32))), .val (.ref w_GREATER_THAN), .val (.int (1 : Int32)), .unset, .unset, .unset, .unset] []))
        refine own_of (fun _ k => XS.iloadN X8.here hx rfl (hb hby at_68) rfl k) ?_
        show own_Out p e below _ (T8.setTop (mkF m 69 #[.val (.int p0), .val (.int ((p0 &&& (2147483647 : Int32)) % (5 : Int32))), .val (.ref w_GREATER_THAN), .val (.int (1 : Int32)), .unset, .unset, .unset, .unset] [(.int (1 : Int32))]))
        refine own_of (fun _ k => XS.ifNo X8.here hx rfl (hb hby at_69) rfl ((if0 _ _).trans (feq (by decide : ¬ ((1 : Int32) = (0 : Int32)))).1) k) ?_
        show own_Out p e below _ (T8.setTop (mkF m 72 #[.val (.int p0), .val (.int ((p0 &&& (2147483647 : Int32)) % (5 : Int32))), .val (.ref w_GREATER_THAN), .val (.int (1 : Int32)), .unset, .unset, .unset, .unset] []))
        refine own_of (X8.ldc2DoubleC hx hown (mvT hZ (hw _ (List.mem_of_getElem? (i := 4) rfl))) (g := (mkF m 72 #[.val (.int p0), .val (.int ((p0 &&& (2147483647 : Int32)) % (5 : Int32))), .val (.ref w_GREATER_THAN), .val (.int (1 : Int32)), .unset, .unset, .unset, .unset] [])) rfl (hb hby at_72)) ?_
        show own_Out p e below _ (T8.setTop (mkF m 75 #[.val (.int p0), .val (.int ((p0 &&& (2147483647 : Int32)) % (5 : Int32))), .val (.ref w_GREATER_THAN), .val (.int (1 : Int32)), .unset, .unset, .unset, .unset] [(.double (4599676419421066581 : UInt64))]))
        refine own_of (fun _ k => XS.goto X8.here hx rfl (pc0 := 75) (pc' := 81) rfl (hb hby at_75) (by decide) (by decide) k) ?_
        show own_Out p e below _ (T8.setTop (mkF m 81 #[.val (.int p0), .val (.int ((p0 &&& (2147483647 : Int32)) % (5 : Int32))), .val (.ref w_GREATER_THAN), .val (.int (1 : Int32)), .unset, .unset, .unset, .unset] [(.double (4599676419421066581 : UInt64))]))
        refine own_of (fun _ k => XS.dstore X8.here hx rfl (hb hby at_81) rfl (l' := #[.val (.int p0), .val (.int ((p0 &&& (2147483647 : Int32)) % (5 : Int32))), .val (.ref w_GREATER_THAN), .val (.int (1 : Int32)), .val (.double (4599676419421066581 : UInt64)), .second, .unset, .unset]) rfl k) ?_
        show own_Out p e below _ (T8.setTop (mkF m 83 #[.val (.int p0), .val (.int ((p0 &&& (2147483647 : Int32)) % (5 : Int32))), .val (.ref w_GREATER_THAN), .val (.int (1 : Int32)), .val (.double (4599676419421066581 : UInt64)), .second, .unset, .unset] []))
        refine own_of (fun _ k => XS.aloadN X8.here hx rfl (hb hby at_83) rfl rfl k) ?_
        show own_Out p e below _ (T8.setTop (mkF m 84 #[.val (.int p0), .val (.int ((p0 &&& (2147483647 : Int32)) % (5 : Int32))), .val (.ref w_GREATER_THAN), .val (.int (1 : Int32)), .val (.double (4599676419421066581 : UInt64)), .second, .unset, .unset] [(.ref w_GREATER_THAN)]))
        obtain ⟨cq9, kq9, q9a, q9b, q9c⟩ := isOf hZ e8 E_w_GREATER_THAN
        obtain ⟨_, _, ⟨T9, L9, k9, n9⟩, -, X9, ⟨Lc9, hQ9, l9, y9, z9⟩, st9⟩ := X8.virtualBack hx (y := (⟨"com/example/headway/headway/engine/Predicate$Relation", "guessedSelectivity", "()D"⟩ : MethodName)) (z := (⟨"com/example/headway/headway/engine/Predicate$Relation", "guessedSelectivity", "()D"⟩ : MethodName)) hown (mvT hZ (hw _ (List.mem_of_getElem? (i := 5) rfl))) (mvT hZ (hw _ (List.mem_of_getElem? (i := 6) rfl))) (notFace_of_selects (args := #[]) (mvT hZ (hw _ (List.mem_of_getElem? (i := 8) rfl)))) (mvT hZ (hw _ (List.mem_of_getElem? (i := 8) rfl))) (mvT hZ (hw _ (List.mem_of_getElem? (i := 7) rfl))) (by decide) (backOf (W := 0) (rm1n l Z a0 hw [] w_GREATER_THAN w_NOT_EQUAL h0 n0 Z0 S_w_NOT_EQUAL ne_w_GREATER_THAN) hZ (hw _ (List.mem_of_getElem? (i := 9) rfl)) (hw _ (List.mem_of_getElem? (i := 2) rfl)) (by decide) (by decide)) q9a q9c (g := (mkF m 84 #[.val (.int p0), .val (.int ((p0 &&& (2147483647 : Int32)) % (5 : Int32))), .val (.ref w_GREATER_THAN), .val (.int (1 : Int32)), .val (.double (4599676419421066581 : UInt64)), .second, .unset, .unset] [(.ref w_GREATER_THAN)])) rfl (by rw [hml]; rfl) (Steps.refl _) (argsL := []) (rest := []) (lenOf pd_0 rfl) rfl (by show 2 * 0 + _ ≤ _; exact Nat.le_of_eq rfl) (hb hby at_84) (fun _ _ => ⟨rfl, e8, (by decide : 0 + 0 ≤ _), (by decide : 0 + 0 ≤ _)⟩)
        dsimp only [Pt.U, Pt.locs, Pt.cells, Pt.slots] at X9 l9 y9 z9 st9 hQ9
        subst l9 y9 z9
        obtain ⟨rfl, N9q, hh9⟩ := hQ9
        have N9 := Fr.app N0 N9q
        refine own_of (fun _ k => st9.trans k) ?_
        show own_Out p e below _ (T9.setTop (mkF m 87 #[.val (.int p0), .val (.int ((p0 &&& (2147483647 : Int32)) % (5 : Int32))), .val (.ref w_GREATER_THAN), .val (.int (1 : Int32)), .val (.double (4599676419421066581 : UInt64)), .second, .unset, .unset] [(.double (4599676419421066581 : UInt64))]))
        refine own_of (fun _ k => XS.dstore X9.here hx rfl (hb hby at_87) rfl (l' := #[.val (.int p0), .val (.int ((p0 &&& (2147483647 : Int32)) % (5 : Int32))), .val (.ref w_GREATER_THAN), .val (.int (1 : Int32)), .val (.double (4599676419421066581 : UInt64)), .second, .val (.double (4599676419421066581 : UInt64)), .second]) rfl k) ?_
        show own_Out p e below _ (T9.setTop (mkF m 89 #[.val (.int p0), .val (.int ((p0 &&& (2147483647 : Int32)) % (5 : Int32))), .val (.ref w_GREATER_THAN), .val (.int (1 : Int32)), .val (.double (4599676419421066581 : UInt64)), .second, .val (.double (4599676419421066581 : UInt64)), .second] []))
        refine own_of (fun _ k => XS.dload X9.here hx rfl (hb hby at_89) rfl k) ?_
        show own_Out p e below _ (T9.setTop (mkF m 91 #[.val (.int p0), .val (.int ((p0 &&& (2147483647 : Int32)) % (5 : Int32))), .val (.ref w_GREATER_THAN), .val (.int (1 : Int32)), .val (.double (4599676419421066581 : UInt64)), .second, .val (.double (4599676419421066581 : UInt64)), .second] [(.double (4599676419421066581 : UInt64))]))
        refine own_of (fun _ k => XS.dload X9.here hx rfl (hb hby at_91) rfl k) ?_
        show own_Out p e below _ (T9.setTop (mkF m 93 #[.val (.int p0), .val (.int ((p0 &&& (2147483647 : Int32)) % (5 : Int32))), .val (.ref w_GREATER_THAN), .val (.int (1 : Int32)), .val (.double (4599676419421066581 : UInt64)), .second, .val (.double (4599676419421066581 : UInt64)), .second] [(.double (4599676419421066581 : UInt64)), (.double (4599676419421066581 : UInt64))]))
        refine own_of (fun _ k => XS.dcmpS X9.here hx rfl (v := (0 : Int32)) (hb hby at_93) rfl (by decide +kernel) k) ?_
        show own_Out p e below _ (T9.setTop (mkF m 94 #[.val (.int p0), .val (.int ((p0 &&& (2147483647 : Int32)) % (5 : Int32))), .val (.ref w_GREATER_THAN), .val (.int (1 : Int32)), .val (.double (4599676419421066581 : UInt64)), .second, .val (.double (4599676419421066581 : UInt64)), .second] [(.int (0 : Int32))]))
        refine own_of (fun _ k => XS.ifNo X9.here hx rfl (hb hby at_94) rfl ((if0 _ _).trans (teq (by decide : (0 : Int32) = (0 : Int32))).2) k) ?_
        show own_Out p e below _ (T9.setTop (mkF m 97 #[.val (.int p0), .val (.int ((p0 &&& (2147483647 : Int32)) % (5 : Int32))), .val (.ref w_GREATER_THAN), .val (.int (1 : Int32)), .val (.double (4599676419421066581 : UInt64)), .second, .val (.double (4599676419421066581 : UInt64)), .second] []))
        refine own_of (fun _ k => XS.dload X9.here hx rfl (hb hby at_97) rfl k) ?_
        show own_Out p e below _ (T9.setTop (mkF m 99 #[.val (.int p0), .val (.int ((p0 &&& (2147483647 : Int32)) % (5 : Int32))), .val (.ref w_GREATER_THAN), .val (.int (1 : Int32)), .val (.double (4599676419421066581 : UInt64)), .second, .val (.double (4599676419421066581 : UInt64)), .second] [(.double (4599676419421066581 : UInt64))]))
        refine own_of (fun _ k => XS.dconst0 X9.here hx rfl (v := (0 : UInt64)) (hb hby at_99) (by decide +kernel) k) ?_
        show own_Out p e below _ (T9.setTop (mkF m 100 #[.val (.int p0), .val (.int ((p0 &&& (2147483647 : Int32)) % (5 : Int32))), .val (.ref w_GREATER_THAN), .val (.int (1 : Int32)), .val (.double (4599676419421066581 : UInt64)), .second, .val (.double (4599676419421066581 : UInt64)), .second] [(.double (0 : UInt64)), (.double (4599676419421066581 : UInt64))]))
        refine own_of (fun _ k => XS.dcmpS X9.here hx rfl (v := (1 : Int32)) (hb hby at_100) rfl (by decide +kernel) k) ?_
        show own_Out p e below _ (T9.setTop (mkF m 101 #[.val (.int p0), .val (.int ((p0 &&& (2147483647 : Int32)) % (5 : Int32))), .val (.ref w_GREATER_THAN), .val (.int (1 : Int32)), .val (.double (4599676419421066581 : UInt64)), .second, .val (.double (4599676419421066581 : UInt64)), .second] [(.int (1 : Int32))]))
        refine own_of (fun _ k => XS.ifNo X9.here hx rfl (hb hby at_101) rfl ((if0 _ _).trans (tlt (by decide : (0 : Int32) < (1 : Int32))).2.2.2) k) ?_
        show own_Out p e below _ (T9.setTop (mkF m 104 #[.val (.int p0), .val (.int ((p0 &&& (2147483647 : Int32)) % (5 : Int32))), .val (.ref w_GREATER_THAN), .val (.int (1 : Int32)), .val (.double (4599676419421066581 : UInt64)), .second, .val (.double (4599676419421066581 : UInt64)), .second] []))
        refine own_of (fun _ k => XS.dload X9.here hx rfl (hb hby at_104) rfl k) ?_
        show own_Out p e below _ (T9.setTop (mkF m 106 #[.val (.int p0), .val (.int ((p0 &&& (2147483647 : Int32)) % (5 : Int32))), .val (.ref w_GREATER_THAN), .val (.int (1 : Int32)), .val (.double (4599676419421066581 : UInt64)), .second, .val (.double (4599676419421066581 : UInt64)), .second] [(.double (4599676419421066581 : UInt64))]))
        refine own_of (fun _ k => XS.dconst1 X9.here hx rfl (v := (4607182418800017408 : UInt64)) (hb hby at_106) (by decide +kernel) k) ?_
        show own_Out p e below _ (T9.setTop (mkF m 107 #[.val (.int p0), .val (.int ((p0 &&& (2147483647 : Int32)) % (5 : Int32))), .val (.ref w_GREATER_THAN), .val (.int (1 : Int32)), .val (.double (4599676419421066581 : UInt64)), .second, .val (.double (4599676419421066581 : UInt64)), .second] [(.double (4607182418800017408 : UInt64)), (.double (4599676419421066581 : UInt64))]))
        refine own_of (fun _ k => XS.dcmpS X9.here hx rfl (v := (-1 : Int32)) (hb hby at_107) rfl (by decide +kernel) k) ?_
        show own_Out p e below _ (T9.setTop (mkF m 108 #[.val (.int p0), .val (.int ((p0 &&& (2147483647 : Int32)) % (5 : Int32))), .val (.ref w_GREATER_THAN), .val (.int (1 : Int32)), .val (.double (4599676419421066581 : UInt64)), .second, .val (.double (4599676419421066581 : UInt64)), .second] [(.int (-1 : Int32))]))
        refine own_of (fun _ k => XS.ifNo X9.here hx rfl (hb hby at_108) rfl ((if0 _ _).trans (tlt (by decide : (-1 : Int32) < (0 : Int32))).2.1) k) ?_
        show own_Out p e below _ (T9.setTop (mkF m 111 #[.val (.int p0), .val (.int ((p0 &&& (2147483647 : Int32)) % (5 : Int32))), .val (.ref w_GREATER_THAN), .val (.int (1 : Int32)), .val (.double (4599676419421066581 : UInt64)), .second, .val (.double (4599676419421066581 : UInt64)), .second] []))
        refine own_of (fun _ k => XS.iconst X9.here hx rfl (hb hby at_111) k) ?_
        show own_Out p e below _ (T9.setTop (mkF m 112 #[.val (.int p0), .val (.int ((p0 &&& (2147483647 : Int32)) % (5 : Int32))), .val (.ref w_GREATER_THAN), .val (.int (1 : Int32)), .val (.double (4599676419421066581 : UInt64)), .second, .val (.double (4599676419421066581 : UInt64)), .second] [(.int (1 : Int32))]))
        refine own_of (fun _ k => XS.goto X9.here hx rfl (pc0 := 112) (pc' := 116) rfl (hb hby at_112) (by decide) (by decide) k) ?_
        show own_Out p e below _ (T9.setTop (mkF m 116 #[.val (.int p0), .val (.int ((p0 &&& (2147483647 : Int32)) % (5 : Int32))), .val (.ref w_GREATER_THAN), .val (.int (1 : Int32)), .val (.double (4599676419421066581 : UInt64)), .second, .val (.double (4599676419421066581 : UInt64)), .second] [(.int (1 : Int32))]))
        exact own_outN X9 hx hlk (t := .boolean) hret (by simp) (hb hby at_116) (z' := (1 : Int32)) rfl (Q := Q0 Z p0 w_LESS_THAN w_NOT_EQUAL w_GREATER_OR_EQUAL w_LESS_OR_EQUAL w_GREATER_THAN h0 n0) ⟨rfl, N9⟩ (by decide) (by decide)
      · skip
        refine own_of (fun _ k => XS.icmpYes X0.here hx rfl (pc0 := 36) (pc' := 48) rfl (hb hby at_36) rfl (feq hc36_7).2 (by decide) (by decide) k) ?_
        show own_Out p e below _ (s₁.setTop (mkF m 48 #[.val (.int p0), .val (.int ((p0 &&& (2147483647 : Int32)) % (5 : Int32))), .unset, .unset, .unset, .unset, .unset, .unset] []))
        refine own_of (fun _ k => XS.iloadN X0.here hx rfl (hb hby at_48) rfl k) ?_
        show own_Out p e below _ (s₁.setTop (mkF m 49 #[.val (.int p0), .val (.int ((p0 &&& (2147483647 : Int32)) % (5 : Int32))), .unset, .unset, .unset, .unset, .unset, .unset] [(.int ((p0 &&& (2147483647 : Int32)) % (5 : Int32)))]))
        refine own_of (fun _ k => XS.iconst X0.here hx rfl (hb hby at_49) k) ?_
        show own_Out p e below _ (s₁.setTop (mkF m 50 #[.val (.int p0), .val (.int ((p0 &&& (2147483647 : Int32)) % (5 : Int32))), .unset, .unset, .unset, .unset, .unset, .unset] [(.int (3 : Int32)), (.int ((p0 &&& (2147483647 : Int32)) % (5 : Int32)))]))
        by_cases hc50_10 : ((p0 &&& (2147483647 : Int32)) % (5 : Int32)) = (3 : Int32)
        · skip
          refine own_of (fun _ k => XS.icmpNo X0.here hx rfl (hb hby at_50) rfl (teq hc50_10).2 k) ?_
          show own_Out p e below _ (s₁.setTop (mkF m 53 #[.val (.int p0), .val (.int ((p0 &&& (2147483647 : Int32)) % (5 : Int32))), .unset, .unset, .unset, .unset, .unset, .unset] []))
          obtain ⟨T11, X11, e11, st11⟩ := getS2 X0 hx hZ hown (host := "") (Or.inl (hw _ (List.mem_of_getElem? (i := 13) rfl))) Via.refl e0 S_w_GREATER_OR_EQUAL (g := (mkF m 53 #[.val (.int p0), .val (.int ((p0 &&& (2147483647 : Int32)) % (5 : Int32))), .unset, .unset, .unset, .unset, .unset, .unset] [])) rfl (hb hby at_53)
          refine own_of st11 ?_
          show own_Out p e below _ (T11.setTop (mkF m 56 #[.val (.int p0), .val (.int ((p0 &&& (2147483647 : Int32)) % (5 : Int32))), .unset, .unset, .unset, .unset, .unset, .unset] [(.ref w_GREATER_OR_EQUAL)]))
          refine own_of (fun _ k => XS.astoreN X11.here hx rfl (hb hby at_56) rfl rfl (l' := #[.val (.int p0), .val (.int ((p0 &&& (2147483647 : Int32)) % (5 : Int32))), .val (.ref w_GREATER_OR_EQUAL), .unset, .unset, .unset, .unset, .unset]) rfl k) ?_
          show own_Out p e below _ (T11.setTop (mkF m 57 #[.val (.int p0), .val (.int ((p0 &&& (2147483647 : Int32)) % (5 : Int32))), .val (.ref w_GREATER_OR_EQUAL), .unset, .unset, .unset, .unset, .unset] []))
          refine own_of (fun _ k => XS.iconst X11.here hx rfl (hb hby at_57) k) ?_
          show own_Out p e below _ (T11.setTop (mkF m 58 #[.val (.int p0), .val (.int ((p0 &&& (2147483647 : Int32)) % (5 : Int32))), .val (.ref w_GREATER_OR_EQUAL), .unset, .unset, .unset, .unset, .unset] [(.int (1 : Int32))]))
          refine own_of (fun _ k => XS.istoreN X11.here hx rfl (hb hby at_58) rfl (l' := #[.val (.int p0), .val (.int ((p0 &&& (2147483647 : Int32)) % (5 : Int32))), .val (.ref w_GREATER_OR_EQUAL), .val (.int (1 : Int32)), .unset, .unset, .unset, .unset]) rfl k) ?_
          show own_Out p e below _ (T11.setTop (mkF m 59 #[.val (.int p0), .val (.int ((p0 &&& (2147483647 : Int32)) % (5 : Int32))), .val (.ref w_GREATER_OR_EQUAL), .val (.int (1 : Int32)), .unset, .unset, .unset, .unset] []))
          refine own_of (fun _ k => XS.goto X11.here hx rfl (pc0 := 59) (pc' := 68) rfl (hb hby at_59) (by decide) (by decide) k) ?_
          show own_Out p e below _ (T11.setTop (mkF m 68 #[.val (.int p0), .val (.int ((p0 &&& (2147483647 : Int32)) % (5 : Int32))), .val (.ref w_GREATER_OR_EQUAL), .val (.int (1 : Int32)), .unset, .unset, .unset, .unset] []))
          refine own_of (fun _ k => XS.iloadN X11.here hx rfl (hb hby at_68) rfl k) ?_
          show own_Out p e below _ (T11.setTop (mkF m 69 #[.val (.int p0), .val (.int ((p0 &&& (2147483647 : Int32)) % (5 : Int32))), .val (.ref w_GREATER_OR_EQUAL), .val (.int (1 : Int32)), .unset, .unset, .unset, .unset] [(.int (1 : Int32))]))
          refine own_of (fun _ k => XS.ifNo X11.here hx rfl (hb hby at_69) rfl ((if0 _ _).trans (feq (by decide : ¬ ((1 : Int32) = (0 : Int32)))).1) k) ?_
          show own_Out p e below _ (T11.setTop (mkF m 72 #[.val (.int p0), .val (.int ((p0 &&& (2147483647 : Int32)) % (5 : Int32))), .val (.ref w_GREATER_OR_EQUAL), .val (.int (1 : Int32)), .unset, .unset, .unset, .unset] []))
          refine own_of (X11.ldc2DoubleC hx hown (mvT hZ (hw _ (List.mem_of_getElem? (i := 4) rfl))) (g := (mkF m 72 #[.val (.int p0), .val (.int ((p0 &&& (2147483647 : Int32)) % (5 : Int32))), .val (.ref w_GREATER_OR_EQUAL), .val (.int (1 : Int32)), .unset, .unset, .unset, .unset] [])) rfl (hb hby at_72)) ?_
          show own_Out p e below _ (T11.setTop (mkF m 75 #[.val (.int p0), .val (.int ((p0 &&& (2147483647 : Int32)) % (5 : Int32))), .val (.ref w_GREATER_OR_EQUAL), .val (.int (1 : Int32)), .unset, .unset, .unset, .unset] [(.double (4599676419421066581 : UInt64))]))
          refine own_of (fun _ k => XS.goto X11.here hx rfl (pc0 := 75) (pc' := 81) rfl (hb hby at_75) (by decide) (by decide) k) ?_
          show own_Out p e below _ (T11.setTop (mkF m 81 #[.val (.int p0), .val (.int ((p0 &&& (2147483647 : Int32)) % (5 : Int32))), .val (.ref w_GREATER_OR_EQUAL), .val (.int (1 : Int32)), .unset, .unset, .unset, .unset] [(.double (4599676419421066581 : UInt64))]))
          refine own_of (fun _ k => XS.dstore X11.here hx rfl (hb hby at_81) rfl (l' := #[.val (.int p0), .val (.int ((p0 &&& (2147483647 : Int32)) % (5 : Int32))), .val (.ref w_GREATER_OR_EQUAL), .val (.int (1 : Int32)), .val (.double (4599676419421066581 : UInt64)), .second, .unset, .unset]) rfl k) ?_
          show own_Out p e below _ (T11.setTop (mkF m 83 #[.val (.int p0), .val (.int ((p0 &&& (2147483647 : Int32)) % (5 : Int32))), .val (.ref w_GREATER_OR_EQUAL), .val (.int (1 : Int32)), .val (.double (4599676419421066581 : UInt64)), .second, .unset, .unset] []))
          refine own_of (fun _ k => XS.aloadN X11.here hx rfl (hb hby at_83) rfl rfl k) ?_
          show own_Out p e below _ (T11.setTop (mkF m 84 #[.val (.int p0), .val (.int ((p0 &&& (2147483647 : Int32)) % (5 : Int32))), .val (.ref w_GREATER_OR_EQUAL), .val (.int (1 : Int32)), .val (.double (4599676419421066581 : UInt64)), .second, .unset, .unset] [(.ref w_GREATER_OR_EQUAL)]))
          obtain ⟨cq12, kq12, q12a, q12b, q12c⟩ := isOf hZ e11 E_w_GREATER_OR_EQUAL
          obtain ⟨_, _, ⟨T12, L12, k12, n12⟩, -, X12, ⟨Lc12, hQ12, l12, y12, z12⟩, st12⟩ := X11.virtualBack hx (y := (⟨"com/example/headway/headway/engine/Predicate$Relation", "guessedSelectivity", "()D"⟩ : MethodName)) (z := (⟨"com/example/headway/headway/engine/Predicate$Relation", "guessedSelectivity", "()D"⟩ : MethodName)) hown (mvT hZ (hw _ (List.mem_of_getElem? (i := 5) rfl))) (mvT hZ (hw _ (List.mem_of_getElem? (i := 6) rfl))) (notFace_of_selects (args := #[]) (mvT hZ (hw _ (List.mem_of_getElem? (i := 8) rfl)))) (mvT hZ (hw _ (List.mem_of_getElem? (i := 8) rfl))) (mvT hZ (hw _ (List.mem_of_getElem? (i := 7) rfl))) (by decide) (backOf (W := 0) (rm1n l Z a0 hw [] w_GREATER_OR_EQUAL w_NOT_EQUAL h0 n0 Z0 S_w_NOT_EQUAL ne_w_GREATER_OR_EQUAL) hZ (hw _ (List.mem_of_getElem? (i := 9) rfl)) (hw _ (List.mem_of_getElem? (i := 2) rfl)) (by decide) (by decide)) q12a q12c (g := (mkF m 84 #[.val (.int p0), .val (.int ((p0 &&& (2147483647 : Int32)) % (5 : Int32))), .val (.ref w_GREATER_OR_EQUAL), .val (.int (1 : Int32)), .val (.double (4599676419421066581 : UInt64)), .second, .unset, .unset] [(.ref w_GREATER_OR_EQUAL)])) rfl (by rw [hml]; rfl) (Steps.refl _) (argsL := []) (rest := []) (lenOf pd_0 rfl) rfl (by show 2 * 0 + _ ≤ _; exact Nat.le_of_eq rfl) (hb hby at_84) (fun _ _ => ⟨rfl, e11, (by decide : 0 + 0 ≤ _), (by decide : 0 + 0 ≤ _)⟩)
          dsimp only [Pt.U, Pt.locs, Pt.cells, Pt.slots] at X12 l12 y12 z12 st12 hQ12
          subst l12 y12 z12
          obtain ⟨rfl, N12q, hh12⟩ := hQ12
          have N12 := Fr.app N0 N12q
          refine own_of (fun _ k => st12.trans k) ?_
          show own_Out p e below _ (T12.setTop (mkF m 87 #[.val (.int p0), .val (.int ((p0 &&& (2147483647 : Int32)) % (5 : Int32))), .val (.ref w_GREATER_OR_EQUAL), .val (.int (1 : Int32)), .val (.double (4599676419421066581 : UInt64)), .second, .unset, .unset] [(.double (4599676419421066581 : UInt64))]))
          refine own_of (fun _ k => XS.dstore X12.here hx rfl (hb hby at_87) rfl (l' := #[.val (.int p0), .val (.int ((p0 &&& (2147483647 : Int32)) % (5 : Int32))), .val (.ref w_GREATER_OR_EQUAL), .val (.int (1 : Int32)), .val (.double (4599676419421066581 : UInt64)), .second, .val (.double (4599676419421066581 : UInt64)), .second]) rfl k) ?_
          show own_Out p e below _ (T12.setTop (mkF m 89 #[.val (.int p0), .val (.int ((p0 &&& (2147483647 : Int32)) % (5 : Int32))), .val (.ref w_GREATER_OR_EQUAL), .val (.int (1 : Int32)), .val (.double (4599676419421066581 : UInt64)), .second, .val (.double (4599676419421066581 : UInt64)), .second] []))
          refine own_of (fun _ k => XS.dload X12.here hx rfl (hb hby at_89) rfl k) ?_
          show own_Out p e below _ (T12.setTop (mkF m 91 #[.val (.int p0), .val (.int ((p0 &&& (2147483647 : Int32)) % (5 : Int32))), .val (.ref w_GREATER_OR_EQUAL), .val (.int (1 : Int32)), .val (.double (4599676419421066581 : UInt64)), .second, .val (.double (4599676419421066581 : UInt64)), .second] [(.double (4599676419421066581 : UInt64))]))
          refine own_of (fun _ k => XS.dload X12.here hx rfl (hb hby at_91) rfl k) ?_
          show own_Out p e below _ (T12.setTop (mkF m 93 #[.val (.int p0), .val (.int ((p0 &&& (2147483647 : Int32)) % (5 : Int32))), .val (.ref w_GREATER_OR_EQUAL), .val (.int (1 : Int32)), .val (.double (4599676419421066581 : UInt64)), .second, .val (.double (4599676419421066581 : UInt64)), .second] [(.double (4599676419421066581 : UInt64)), (.double (4599676419421066581 : UInt64))]))
          refine own_of (fun _ k => XS.dcmpS X12.here hx rfl (v := (0 : Int32)) (hb hby at_93) rfl (by decide +kernel) k) ?_
          show own_Out p e below _ (T12.setTop (mkF m 94 #[.val (.int p0), .val (.int ((p0 &&& (2147483647 : Int32)) % (5 : Int32))), .val (.ref w_GREATER_OR_EQUAL), .val (.int (1 : Int32)), .val (.double (4599676419421066581 : UInt64)), .second, .val (.double (4599676419421066581 : UInt64)), .second] [(.int (0 : Int32))]))
          refine own_of (fun _ k => XS.ifNo X12.here hx rfl (hb hby at_94) rfl ((if0 _ _).trans (teq (by decide : (0 : Int32) = (0 : Int32))).2) k) ?_
          show own_Out p e below _ (T12.setTop (mkF m 97 #[.val (.int p0), .val (.int ((p0 &&& (2147483647 : Int32)) % (5 : Int32))), .val (.ref w_GREATER_OR_EQUAL), .val (.int (1 : Int32)), .val (.double (4599676419421066581 : UInt64)), .second, .val (.double (4599676419421066581 : UInt64)), .second] []))
          refine own_of (fun _ k => XS.dload X12.here hx rfl (hb hby at_97) rfl k) ?_
          show own_Out p e below _ (T12.setTop (mkF m 99 #[.val (.int p0), .val (.int ((p0 &&& (2147483647 : Int32)) % (5 : Int32))), .val (.ref w_GREATER_OR_EQUAL), .val (.int (1 : Int32)), .val (.double (4599676419421066581 : UInt64)), .second, .val (.double (4599676419421066581 : UInt64)), .second] [(.double (4599676419421066581 : UInt64))]))
          refine own_of (fun _ k => XS.dconst0 X12.here hx rfl (v := (0 : UInt64)) (hb hby at_99) (by decide +kernel) k) ?_
          show own_Out p e below _ (T12.setTop (mkF m 100 #[.val (.int p0), .val (.int ((p0 &&& (2147483647 : Int32)) % (5 : Int32))), .val (.ref w_GREATER_OR_EQUAL), .val (.int (1 : Int32)), .val (.double (4599676419421066581 : UInt64)), .second, .val (.double (4599676419421066581 : UInt64)), .second] [(.double (0 : UInt64)), (.double (4599676419421066581 : UInt64))]))
          refine own_of (fun _ k => XS.dcmpS X12.here hx rfl (v := (1 : Int32)) (hb hby at_100) rfl (by decide +kernel) k) ?_
          show own_Out p e below _ (T12.setTop (mkF m 101 #[.val (.int p0), .val (.int ((p0 &&& (2147483647 : Int32)) % (5 : Int32))), .val (.ref w_GREATER_OR_EQUAL), .val (.int (1 : Int32)), .val (.double (4599676419421066581 : UInt64)), .second, .val (.double (4599676419421066581 : UInt64)), .second] [(.int (1 : Int32))]))
          refine own_of (fun _ k => XS.ifNo X12.here hx rfl (hb hby at_101) rfl ((if0 _ _).trans (tlt (by decide : (0 : Int32) < (1 : Int32))).2.2.2) k) ?_
          show own_Out p e below _ (T12.setTop (mkF m 104 #[.val (.int p0), .val (.int ((p0 &&& (2147483647 : Int32)) % (5 : Int32))), .val (.ref w_GREATER_OR_EQUAL), .val (.int (1 : Int32)), .val (.double (4599676419421066581 : UInt64)), .second, .val (.double (4599676419421066581 : UInt64)), .second] []))
          refine own_of (fun _ k => XS.dload X12.here hx rfl (hb hby at_104) rfl k) ?_
          show own_Out p e below _ (T12.setTop (mkF m 106 #[.val (.int p0), .val (.int ((p0 &&& (2147483647 : Int32)) % (5 : Int32))), .val (.ref w_GREATER_OR_EQUAL), .val (.int (1 : Int32)), .val (.double (4599676419421066581 : UInt64)), .second, .val (.double (4599676419421066581 : UInt64)), .second] [(.double (4599676419421066581 : UInt64))]))
          refine own_of (fun _ k => XS.dconst1 X12.here hx rfl (v := (4607182418800017408 : UInt64)) (hb hby at_106) (by decide +kernel) k) ?_
          show own_Out p e below _ (T12.setTop (mkF m 107 #[.val (.int p0), .val (.int ((p0 &&& (2147483647 : Int32)) % (5 : Int32))), .val (.ref w_GREATER_OR_EQUAL), .val (.int (1 : Int32)), .val (.double (4599676419421066581 : UInt64)), .second, .val (.double (4599676419421066581 : UInt64)), .second] [(.double (4607182418800017408 : UInt64)), (.double (4599676419421066581 : UInt64))]))
          refine own_of (fun _ k => XS.dcmpS X12.here hx rfl (v := (-1 : Int32)) (hb hby at_107) rfl (by decide +kernel) k) ?_
          show own_Out p e below _ (T12.setTop (mkF m 108 #[.val (.int p0), .val (.int ((p0 &&& (2147483647 : Int32)) % (5 : Int32))), .val (.ref w_GREATER_OR_EQUAL), .val (.int (1 : Int32)), .val (.double (4599676419421066581 : UInt64)), .second, .val (.double (4599676419421066581 : UInt64)), .second] [(.int (-1 : Int32))]))
          refine own_of (fun _ k => XS.ifNo X12.here hx rfl (hb hby at_108) rfl ((if0 _ _).trans (tlt (by decide : (-1 : Int32) < (0 : Int32))).2.1) k) ?_
          show own_Out p e below _ (T12.setTop (mkF m 111 #[.val (.int p0), .val (.int ((p0 &&& (2147483647 : Int32)) % (5 : Int32))), .val (.ref w_GREATER_OR_EQUAL), .val (.int (1 : Int32)), .val (.double (4599676419421066581 : UInt64)), .second, .val (.double (4599676419421066581 : UInt64)), .second] []))
          refine own_of (fun _ k => XS.iconst X12.here hx rfl (hb hby at_111) k) ?_
          show own_Out p e below _ (T12.setTop (mkF m 112 #[.val (.int p0), .val (.int ((p0 &&& (2147483647 : Int32)) % (5 : Int32))), .val (.ref w_GREATER_OR_EQUAL), .val (.int (1 : Int32)), .val (.double (4599676419421066581 : UInt64)), .second, .val (.double (4599676419421066581 : UInt64)), .second] [(.int (1 : Int32))]))
          refine own_of (fun _ k => XS.goto X12.here hx rfl (pc0 := 112) (pc' := 116) rfl (hb hby at_112) (by decide) (by decide) k) ?_
          show own_Out p e below _ (T12.setTop (mkF m 116 #[.val (.int p0), .val (.int ((p0 &&& (2147483647 : Int32)) % (5 : Int32))), .val (.ref w_GREATER_OR_EQUAL), .val (.int (1 : Int32)), .val (.double (4599676419421066581 : UInt64)), .second, .val (.double (4599676419421066581 : UInt64)), .second] [(.int (1 : Int32))]))
          exact own_outN X12 hx hlk (t := .boolean) hret (by simp) (hb hby at_116) (z' := (1 : Int32)) rfl (Q := Q0 Z p0 w_LESS_THAN w_NOT_EQUAL w_GREATER_OR_EQUAL w_LESS_OR_EQUAL w_GREATER_THAN h0 n0) ⟨rfl, N12⟩ (by decide) (by decide)
        · skip
          refine own_of (fun _ k => XS.icmpYes X0.here hx rfl (pc0 := 50) (pc' := 62) rfl (hb hby at_50) rfl (feq hc50_10).2 (by decide) (by decide) k) ?_
          show own_Out p e below _ (s₁.setTop (mkF m 62 #[.val (.int p0), .val (.int ((p0 &&& (2147483647 : Int32)) % (5 : Int32))), .unset, .unset, .unset, .unset, .unset, .unset] []))
          obtain ⟨T13, X13, e13, st13⟩ := getS2 X0 hx hZ hown (host := "") (Or.inl (hw _ (List.mem_of_getElem? (i := 17) rfl))) Via.refl e0 S_w_NOT_EQUAL (g := (mkF m 62 #[.val (.int p0), .val (.int ((p0 &&& (2147483647 : Int32)) % (5 : Int32))), .unset, .unset, .unset, .unset, .unset, .unset] [])) rfl (hb hby at_62)
          refine own_of st13 ?_
          show own_Out p e below _ (T13.setTop (mkF m 65 #[.val (.int p0), .val (.int ((p0 &&& (2147483647 : Int32)) % (5 : Int32))), .unset, .unset, .unset, .unset, .unset, .unset] [(.ref w_NOT_EQUAL)]))
          refine own_of (fun _ k => XS.astoreN X13.here hx rfl (hb hby at_65) rfl rfl (l' := #[.val (.int p0), .val (.int ((p0 &&& (2147483647 : Int32)) % (5 : Int32))), .val (.ref w_NOT_EQUAL), .unset, .unset, .unset, .unset, .unset]) rfl k) ?_
          show own_Out p e below _ (T13.setTop (mkF m 66 #[.val (.int p0), .val (.int ((p0 &&& (2147483647 : Int32)) % (5 : Int32))), .val (.ref w_NOT_EQUAL), .unset, .unset, .unset, .unset, .unset] []))
          refine own_of (fun _ k => XS.iconst X13.here hx rfl (hb hby at_66) k) ?_
          show own_Out p e below _ (T13.setTop (mkF m 67 #[.val (.int p0), .val (.int ((p0 &&& (2147483647 : Int32)) % (5 : Int32))), .val (.ref w_NOT_EQUAL), .unset, .unset, .unset, .unset, .unset] [(.int (0 : Int32))]))
          refine own_of (fun _ k => XS.istoreN X13.here hx rfl (hb hby at_67) rfl (l' := #[.val (.int p0), .val (.int ((p0 &&& (2147483647 : Int32)) % (5 : Int32))), .val (.ref w_NOT_EQUAL), .val (.int (0 : Int32)), .unset, .unset, .unset, .unset]) rfl k) ?_
          show own_Out p e below _ (T13.setTop (mkF m 68 #[.val (.int p0), .val (.int ((p0 &&& (2147483647 : Int32)) % (5 : Int32))), .val (.ref w_NOT_EQUAL), .val (.int (0 : Int32)), .unset, .unset, .unset, .unset] []))
          refine own_of (fun _ k => XS.iloadN X13.here hx rfl (hb hby at_68) rfl k) ?_
          show own_Out p e below _ (T13.setTop (mkF m 69 #[.val (.int p0), .val (.int ((p0 &&& (2147483647 : Int32)) % (5 : Int32))), .val (.ref w_NOT_EQUAL), .val (.int (0 : Int32)), .unset, .unset, .unset, .unset] [(.int (0 : Int32))]))
          refine own_of (fun _ k => XS.ifYes X13.here hx rfl (pc0 := 69) (pc' := 78) rfl (hb hby at_69) rfl ((if0 _ _).trans (teq (by decide : (0 : Int32) = (0 : Int32))).1) (by decide) (by decide) k) ?_
          show own_Out p e below _ (T13.setTop (mkF m 78 #[.val (.int p0), .val (.int ((p0 &&& (2147483647 : Int32)) % (5 : Int32))), .val (.ref w_NOT_EQUAL), .val (.int (0 : Int32)), .unset, .unset, .unset, .unset] []))
          refine own_of (X13.ldc2DoubleC hx hown (mvT hZ (hw _ (List.mem_of_getElem? (i := 18) rfl))) (g := (mkF m 78 #[.val (.int p0), .val (.int ((p0 &&& (2147483647 : Int32)) % (5 : Int32))), .val (.ref w_NOT_EQUAL), .val (.int (0 : Int32)), .unset, .unset, .unset, .unset] [])) rfl (hb hby at_78)) ?_
          show own_Out p e below _ (T13.setTop (mkF m 81 #[.val (.int p0), .val (.int ((p0 &&& (2147483647 : Int32)) % (5 : Int32))), .val (.ref w_NOT_EQUAL), .val (.int (0 : Int32)), .unset, .unset, .unset, .unset] [(.double (4606281698874543309 : UInt64))]))
          refine own_of (fun _ k => XS.dstore X13.here hx rfl (hb hby at_81) rfl (l' := #[.val (.int p0), .val (.int ((p0 &&& (2147483647 : Int32)) % (5 : Int32))), .val (.ref w_NOT_EQUAL), .val (.int (0 : Int32)), .val (.double (4606281698874543309 : UInt64)), .second, .unset, .unset]) rfl k) ?_
          show own_Out p e below _ (T13.setTop (mkF m 83 #[.val (.int p0), .val (.int ((p0 &&& (2147483647 : Int32)) % (5 : Int32))), .val (.ref w_NOT_EQUAL), .val (.int (0 : Int32)), .val (.double (4606281698874543309 : UInt64)), .second, .unset, .unset] []))
          refine own_of (fun _ k => XS.aloadN X13.here hx rfl (hb hby at_83) rfl rfl k) ?_
          show own_Out p e below _ (T13.setTop (mkF m 84 #[.val (.int p0), .val (.int ((p0 &&& (2147483647 : Int32)) % (5 : Int32))), .val (.ref w_NOT_EQUAL), .val (.int (0 : Int32)), .val (.double (4606281698874543309 : UInt64)), .second, .unset, .unset] [(.ref w_NOT_EQUAL)]))
          obtain ⟨cq14, kq14, q14a, q14b, q14c⟩ := isOf hZ e13 E_w_NOT_EQUAL
          obtain ⟨_, _, ⟨T14, L14, k14, n14⟩, -, X14, ⟨Lc14, hQ14, l14, y14, z14⟩, st14⟩ := X13.virtualBack hx (y := (⟨"com/example/headway/headway/engine/Predicate$Relation", "guessedSelectivity", "()D"⟩ : MethodName)) (z := (⟨"com/example/headway/headway/engine/Predicate$Relation", "guessedSelectivity", "()D"⟩ : MethodName)) hown (mvT hZ (hw _ (List.mem_of_getElem? (i := 5) rfl))) (mvT hZ (hw _ (List.mem_of_getElem? (i := 6) rfl))) (notFace_of_selects (args := #[]) (mvT hZ (hw _ (List.mem_of_getElem? (i := 8) rfl)))) (mvT hZ (hw _ (List.mem_of_getElem? (i := 8) rfl))) (mvT hZ (hw _ (List.mem_of_getElem? (i := 7) rfl))) (by decide) (backOf (W := 0) (rm1e l Z a0 hw [] w_NOT_EQUAL h0 n0 Z0 S_w_NOT_EQUAL) hZ (hw _ (List.mem_of_getElem? (i := 9) rfl)) (hw _ (List.mem_of_getElem? (i := 2) rfl)) (by decide) (by decide)) q14a q14c (g := (mkF m 84 #[.val (.int p0), .val (.int ((p0 &&& (2147483647 : Int32)) % (5 : Int32))), .val (.ref w_NOT_EQUAL), .val (.int (0 : Int32)), .val (.double (4606281698874543309 : UInt64)), .second, .unset, .unset] [(.ref w_NOT_EQUAL)])) rfl (by rw [hml]; rfl) (Steps.refl _) (argsL := []) (rest := []) (lenOf pd_0 rfl) rfl (by show 2 * 0 + _ ≤ _; exact Nat.le_of_eq rfl) (hb hby at_84) (fun _ _ => ⟨rfl, e13, (by decide : 0 + 0 ≤ _), (by decide : 0 + 0 ≤ _)⟩)
          dsimp only [Pt.U, Pt.locs, Pt.cells, Pt.slots] at X14 l14 y14 z14 st14 hQ14
          subst l14 y14 z14
          obtain ⟨rfl, N14q, hh14⟩ := hQ14
          have N14 := Fr.app N0 N14q
          refine own_of (fun _ k => st14.trans k) ?_
          show own_Out p e below _ (T14.setTop (mkF m 87 #[.val (.int p0), .val (.int ((p0 &&& (2147483647 : Int32)) % (5 : Int32))), .val (.ref w_NOT_EQUAL), .val (.int (0 : Int32)), .val (.double (4606281698874543309 : UInt64)), .second, .unset, .unset] [(.double (4606281698874543309 : UInt64))]))
          refine own_of (fun _ k => XS.dstore X14.here hx rfl (hb hby at_87) rfl (l' := #[.val (.int p0), .val (.int ((p0 &&& (2147483647 : Int32)) % (5 : Int32))), .val (.ref w_NOT_EQUAL), .val (.int (0 : Int32)), .val (.double (4606281698874543309 : UInt64)), .second, .val (.double (4606281698874543309 : UInt64)), .second]) rfl k) ?_
          show own_Out p e below _ (T14.setTop (mkF m 89 #[.val (.int p0), .val (.int ((p0 &&& (2147483647 : Int32)) % (5 : Int32))), .val (.ref w_NOT_EQUAL), .val (.int (0 : Int32)), .val (.double (4606281698874543309 : UInt64)), .second, .val (.double (4606281698874543309 : UInt64)), .second] []))
          refine own_of (fun _ k => XS.dload X14.here hx rfl (hb hby at_89) rfl k) ?_
          show own_Out p e below _ (T14.setTop (mkF m 91 #[.val (.int p0), .val (.int ((p0 &&& (2147483647 : Int32)) % (5 : Int32))), .val (.ref w_NOT_EQUAL), .val (.int (0 : Int32)), .val (.double (4606281698874543309 : UInt64)), .second, .val (.double (4606281698874543309 : UInt64)), .second] [(.double (4606281698874543309 : UInt64))]))
          refine own_of (fun _ k => XS.dload X14.here hx rfl (hb hby at_91) rfl k) ?_
          show own_Out p e below _ (T14.setTop (mkF m 93 #[.val (.int p0), .val (.int ((p0 &&& (2147483647 : Int32)) % (5 : Int32))), .val (.ref w_NOT_EQUAL), .val (.int (0 : Int32)), .val (.double (4606281698874543309 : UInt64)), .second, .val (.double (4606281698874543309 : UInt64)), .second] [(.double (4606281698874543309 : UInt64)), (.double (4606281698874543309 : UInt64))]))
          refine own_of (fun _ k => XS.dcmpS X14.here hx rfl (v := (0 : Int32)) (hb hby at_93) rfl (by decide +kernel) k) ?_
          show own_Out p e below _ (T14.setTop (mkF m 94 #[.val (.int p0), .val (.int ((p0 &&& (2147483647 : Int32)) % (5 : Int32))), .val (.ref w_NOT_EQUAL), .val (.int (0 : Int32)), .val (.double (4606281698874543309 : UInt64)), .second, .val (.double (4606281698874543309 : UInt64)), .second] [(.int (0 : Int32))]))
          refine own_of (fun _ k => XS.ifNo X14.here hx rfl (hb hby at_94) rfl ((if0 _ _).trans (teq (by decide : (0 : Int32) = (0 : Int32))).2) k) ?_
          show own_Out p e below _ (T14.setTop (mkF m 97 #[.val (.int p0), .val (.int ((p0 &&& (2147483647 : Int32)) % (5 : Int32))), .val (.ref w_NOT_EQUAL), .val (.int (0 : Int32)), .val (.double (4606281698874543309 : UInt64)), .second, .val (.double (4606281698874543309 : UInt64)), .second] []))
          refine own_of (fun _ k => XS.dload X14.here hx rfl (hb hby at_97) rfl k) ?_
          show own_Out p e below _ (T14.setTop (mkF m 99 #[.val (.int p0), .val (.int ((p0 &&& (2147483647 : Int32)) % (5 : Int32))), .val (.ref w_NOT_EQUAL), .val (.int (0 : Int32)), .val (.double (4606281698874543309 : UInt64)), .second, .val (.double (4606281698874543309 : UInt64)), .second] [(.double (4606281698874543309 : UInt64))]))
          refine own_of (fun _ k => XS.dconst0 X14.here hx rfl (v := (0 : UInt64)) (hb hby at_99) (by decide +kernel) k) ?_
          show own_Out p e below _ (T14.setTop (mkF m 100 #[.val (.int p0), .val (.int ((p0 &&& (2147483647 : Int32)) % (5 : Int32))), .val (.ref w_NOT_EQUAL), .val (.int (0 : Int32)), .val (.double (4606281698874543309 : UInt64)), .second, .val (.double (4606281698874543309 : UInt64)), .second] [(.double (0 : UInt64)), (.double (4606281698874543309 : UInt64))]))
          refine own_of (fun _ k => XS.dcmpS X14.here hx rfl (v := (1 : Int32)) (hb hby at_100) rfl (by decide +kernel) k) ?_
          show own_Out p e below _ (T14.setTop (mkF m 101 #[.val (.int p0), .val (.int ((p0 &&& (2147483647 : Int32)) % (5 : Int32))), .val (.ref w_NOT_EQUAL), .val (.int (0 : Int32)), .val (.double (4606281698874543309 : UInt64)), .second, .val (.double (4606281698874543309 : UInt64)), .second] [(.int (1 : Int32))]))
          refine own_of (fun _ k => XS.ifNo X14.here hx rfl (hb hby at_101) rfl ((if0 _ _).trans (tlt (by decide : (0 : Int32) < (1 : Int32))).2.2.2) k) ?_
          show own_Out p e below _ (T14.setTop (mkF m 104 #[.val (.int p0), .val (.int ((p0 &&& (2147483647 : Int32)) % (5 : Int32))), .val (.ref w_NOT_EQUAL), .val (.int (0 : Int32)), .val (.double (4606281698874543309 : UInt64)), .second, .val (.double (4606281698874543309 : UInt64)), .second] []))
          refine own_of (fun _ k => XS.dload X14.here hx rfl (hb hby at_104) rfl k) ?_
          show own_Out p e below _ (T14.setTop (mkF m 106 #[.val (.int p0), .val (.int ((p0 &&& (2147483647 : Int32)) % (5 : Int32))), .val (.ref w_NOT_EQUAL), .val (.int (0 : Int32)), .val (.double (4606281698874543309 : UInt64)), .second, .val (.double (4606281698874543309 : UInt64)), .second] [(.double (4606281698874543309 : UInt64))]))
          refine own_of (fun _ k => XS.dconst1 X14.here hx rfl (v := (4607182418800017408 : UInt64)) (hb hby at_106) (by decide +kernel) k) ?_
          show own_Out p e below _ (T14.setTop (mkF m 107 #[.val (.int p0), .val (.int ((p0 &&& (2147483647 : Int32)) % (5 : Int32))), .val (.ref w_NOT_EQUAL), .val (.int (0 : Int32)), .val (.double (4606281698874543309 : UInt64)), .second, .val (.double (4606281698874543309 : UInt64)), .second] [(.double (4607182418800017408 : UInt64)), (.double (4606281698874543309 : UInt64))]))
          refine own_of (fun _ k => XS.dcmpS X14.here hx rfl (v := (-1 : Int32)) (hb hby at_107) rfl (by decide +kernel) k) ?_
          show own_Out p e below _ (T14.setTop (mkF m 108 #[.val (.int p0), .val (.int ((p0 &&& (2147483647 : Int32)) % (5 : Int32))), .val (.ref w_NOT_EQUAL), .val (.int (0 : Int32)), .val (.double (4606281698874543309 : UInt64)), .second, .val (.double (4606281698874543309 : UInt64)), .second] [(.int (-1 : Int32))]))
          refine own_of (fun _ k => XS.ifNo X14.here hx rfl (hb hby at_108) rfl ((if0 _ _).trans (tlt (by decide : (-1 : Int32) < (0 : Int32))).2.1) k) ?_
          show own_Out p e below _ (T14.setTop (mkF m 111 #[.val (.int p0), .val (.int ((p0 &&& (2147483647 : Int32)) % (5 : Int32))), .val (.ref w_NOT_EQUAL), .val (.int (0 : Int32)), .val (.double (4606281698874543309 : UInt64)), .second, .val (.double (4606281698874543309 : UInt64)), .second] []))
          refine own_of (fun _ k => XS.iconst X14.here hx rfl (hb hby at_111) k) ?_
          show own_Out p e below _ (T14.setTop (mkF m 112 #[.val (.int p0), .val (.int ((p0 &&& (2147483647 : Int32)) % (5 : Int32))), .val (.ref w_NOT_EQUAL), .val (.int (0 : Int32)), .val (.double (4606281698874543309 : UInt64)), .second, .val (.double (4606281698874543309 : UInt64)), .second] [(.int (1 : Int32))]))
          refine own_of (fun _ k => XS.goto X14.here hx rfl (pc0 := 112) (pc' := 116) rfl (hb hby at_112) (by decide) (by decide) k) ?_
          show own_Out p e below _ (T14.setTop (mkF m 116 #[.val (.int p0), .val (.int ((p0 &&& (2147483647 : Int32)) % (5 : Int32))), .val (.ref w_NOT_EQUAL), .val (.int (0 : Int32)), .val (.double (4606281698874543309 : UInt64)), .second, .val (.double (4606281698874543309 : UInt64)), .second] [(.int (1 : Int32))]))
          exact own_outN X14 hx hlk (t := .boolean) hret (by simp) (hb hby at_116) (z' := (1 : Int32)) rfl (Q := Q0 Z p0 w_LESS_THAN w_NOT_EQUAL w_GREATER_OR_EQUAL w_LESS_OR_EQUAL w_GREATER_THAN h0 n0) ⟨rfl, N14⟩ (by decide) (by decide)
set_option maxRecDepth 65536 in
set_option maxHeartbeats 40000000 in
theorem comes_1 {Post : Tables → Env → Array Value → State → Outcome → State → Prop} (hpost : ∀ tb e args s v u, (limb_1_1.after args s (.returned v) u = true ∧ limb_1_2.after args s (.returned v) u = true ∧ True) → FrameEnd s (.returned v) u (Jvm.fieldLocs frame_1_writes args s ++ Jvm.arrayLocs frame_1_arrays args s ++ Jvm.staticLocs frame_1_statics s) 0 0 → Post tb e args s (.returned v) u) :
    ArmFor flags0 classFile x code maxLocals ret World_1 tables_1 room_1 Calls_1 rest_1 Pre_1 Post := by
  intro l hfl _ _ p e ha hc hk s m args below hf hA hF happ hP
  obtain ⟨hcalls, hrest, hpre⟩ := hP
  obtain ⟨-, -, -, hnamed, -, -, -, hat⟩ := (Spec.applies_iff hf).mp happ
  obtain ⟨hg, hn⟩ := and_e (Cond.before_iff.mp (show (Jvm.Cond.and given_1 narrow_1).before args s = true from hpre))
  obtain ⟨g1, g2⟩ := and_e hg
  obtain ⟨w0, rfl⟩ : ∃ w0 : Value, args = #[w0] := by
    have hs : args.size = 1 := by simpa [Cond.value, given_1] using g1
    obtain ⟨L⟩ := args
    match L, hs with
    | [w0], _ => exact ⟨w0, rfl⟩
  have hw := fun d (hd : d ∈ tables_1) => atoms_spec (ws := Jvm.Cond.code x code maxLocals ret :: tables_1) hat d (List.mem_cons_of_mem _ hd)
  have hfit : Fit s := fun {y c} hc i hi => by
    obtain ⟨ha, rfl⟩ := Array.getElem?_eq_some_iff.mp hc
    have q := List.all_eq_true.mp ((Array.all_eq_true_iff_forall_mem.mp hF) _ (Array.getElem_mem ha)) i (List.mem_range.mpr hi)
    simpa [Array.getElem?_eq_getElem hi] using q
  obtain ⟨i0, ei0⟩ := is_v g2
  obtain rfl : w0 = (.int i0) := Option.some.inj ei0
  have hn0 : narrow_1.value _ s none s [] = some true := hn
  obtain ⟨hn_0, hr_0⟩ := and_e hn0
  obtain ⟨hn_1, hr_1⟩ := and_e hr_0
  obtain ⟨hn_2, hr_2⟩ := and_e hr_1
  obtain ⟨hn_3, hr_3⟩ := and_e hr_2
  obtain ⟨hn_4, hr_4⟩ := and_e hr_3
  obtain ⟨hn_5, hr_5⟩ := and_e hr_4
  obtain ⟨hn_6, hr_6⟩ := and_e hr_5
  obtain ⟨hn_7, hr_7⟩ := and_e hr_6
  obtain ⟨hn_8, hr_8⟩ := and_e hr_7
  obtain ⟨w_LESS_THAN, ev_w_LESS_THAN⟩ := exa_v hn_0
  have S_w_LESS_THAN : Sta s s.heap "com/example/headway/headway/engine/Predicate$Relation" "LESS_THAN" "Lcom/example/headway/headway/engine/Predicate$Relation;" (.ref w_LESS_THAN) := Sta.start ev_w_LESS_THAN (Or.inr ⟨(hw _ (List.mem_of_getElem? (i := 2) rfl)), (hw _ (List.mem_of_getElem? (i := 3) rfl))⟩)
  have E_w_LESS_THAN := Exa.start ev_w_LESS_THAN hn_0
  obtain ⟨w_NOT_EQUAL, ev_w_NOT_EQUAL⟩ := exa_v hn_1
  have S_w_NOT_EQUAL : Sta s s.heap "com/example/headway/headway/engine/Predicate$Relation" "NOT_EQUAL" "Lcom/example/headway/headway/engine/Predicate$Relation;" (.ref w_NOT_EQUAL) := Sta.start ev_w_NOT_EQUAL (Or.inr ⟨(hw _ (List.mem_of_getElem? (i := 2) rfl)), (hw _ (List.mem_of_getElem? (i := 11) rfl))⟩)
  have E_w_NOT_EQUAL := Exa.start ev_w_NOT_EQUAL hn_1
  have F_w_LESS_THAN_ordinal := Fld.start ((fld_at ev_w_LESS_THAN).symm.trans (eqv_i (Term.int_eval (0)) hn_2))
  have F_w_NOT_EQUAL_ordinal := Fld.start ((fld_at ev_w_NOT_EQUAL).symm.trans (eqv_i (Term.int_eval (4)) hn_3))
  obtain ⟨w_GREATER_OR_EQUAL, ev_w_GREATER_OR_EQUAL⟩ := exa_v hn_4
  have S_w_GREATER_OR_EQUAL : Sta s s.heap "com/example/headway/headway/engine/Predicate$Relation" "GREATER_OR_EQUAL" "Lcom/example/headway/headway/engine/Predicate$Relation;" (.ref w_GREATER_OR_EQUAL) := Sta.start ev_w_GREATER_OR_EQUAL (Or.inr ⟨(hw _ (List.mem_of_getElem? (i := 2) rfl)), (hw _ (List.mem_of_getElem? (i := 14) rfl))⟩)
  have E_w_GREATER_OR_EQUAL := Exa.start ev_w_GREATER_OR_EQUAL hn_4
  have F_w_GREATER_OR_EQUAL_ordinal := Fld.start ((fld_at ev_w_GREATER_OR_EQUAL).symm.trans (eqv_i (Term.int_eval (3)) hn_5))
  obtain ⟨w_LESS_OR_EQUAL, ev_w_LESS_OR_EQUAL⟩ := exa_v hn_6
  have S_w_LESS_OR_EQUAL : Sta s s.heap "com/example/headway/headway/engine/Predicate$Relation" "LESS_OR_EQUAL" "Lcom/example/headway/headway/engine/Predicate$Relation;" (.ref w_LESS_OR_EQUAL) := Sta.start ev_w_LESS_OR_EQUAL (Or.inr ⟨(hw _ (List.mem_of_getElem? (i := 2) rfl)), (hw _ (List.mem_of_getElem? (i := 16) rfl))⟩)
  have E_w_LESS_OR_EQUAL := Exa.start ev_w_LESS_OR_EQUAL hn_6
  have F_w_LESS_OR_EQUAL_ordinal := Fld.start ((fld_at ev_w_LESS_OR_EQUAL).symm.trans (eqv_i (Term.int_eval (1)) hn_7))
  obtain ⟨w_GREATER_THAN, ev_w_GREATER_THAN⟩ := exa_v hn_8
  have S_w_GREATER_THAN : Sta s s.heap "com/example/headway/headway/engine/Predicate$Relation" "GREATER_THAN" "Lcom/example/headway/headway/engine/Predicate$Relation;" (.ref w_GREATER_THAN) := Sta.start ev_w_GREATER_THAN (Or.inr ⟨(hw _ (List.mem_of_getElem? (i := 2) rfl)), (hw _ (List.mem_of_getElem? (i := 21) rfl))⟩)
  have E_w_GREATER_THAN := Exa.start ev_w_GREATER_THAN hn_8
  have F_w_GREATER_THAN_ordinal := Fld.start ((fld_at ev_w_GREATER_THAN).symm.trans (eqv_i (Term.int_eval (2)) hr_8))
  obtain ⟨n, o, h1, h2, h3, _, L, rfl, ⟨rfl, N⟩, hq⟩ := rm0 l s _ hw tables_1 i0 w_LESS_THAN w_NOT_EQUAL w_GREATER_OR_EQUAL w_LESS_OR_EQUAL w_GREATER_THAN s.heap s.heap.size (Nat.le_refl _) S_w_LESS_THAN E_w_LESS_THAN (Fld.ne F_w_LESS_THAN_ordinal F_w_NOT_EQUAL_ordinal (by decide)) S_w_NOT_EQUAL E_w_NOT_EQUAL S_w_GREATER_OR_EQUAL E_w_GREATER_OR_EQUAL (Fld.ne F_w_GREATER_OR_EQUAL_ordinal F_w_NOT_EQUAL_ordinal (by decide)) S_w_LESS_OR_EQUAL E_w_LESS_OR_EQUAL (Fld.ne F_w_LESS_OR_EQUAL_ordinal F_w_NOT_EQUAL_ordinal (by decide)) S_w_GREATER_THAN E_w_GREATER_THAN (Fld.ne F_w_GREATER_THAN_ordinal F_w_NOT_EQUAL_ordinal (by decide)) p e ha hc hk s m _ below hf ((Spec.applies_iff_loose hf).mp happ).1 ⟨rfl, State.Warmed39.refl s, rfl⟩ trivial
  refine ⟨n, _, h1, h2, h3, hpost _ _ _ _ _ _ ⟨Cond.after_iff.mpr rfl, Cond.after_iff.mpr (eq_i res_at (Term.int_eval (1)) rfl), trivial⟩ ⟨hq.1, hq.2.1, (hq.2.2.sift fun y hy => Or.inr (N y hy)).mono (by decide) (by decide)⟩⟩
theorem main_1_1 : Claimed_1_1 := comes_1 fun _ _ _ _ _ _ h hF => ⟨h.1, hF⟩
theorem main_1_2 : Claimed_1_2 := comes_1 fun _ _ _ _ _ _ h hF => ⟨h.2.1, hF⟩
end Jvm.Pilot.@@N@@
namespace Jvm.Pilot.@@N@@
open Jvm Jvm.ClassFile Sem Op Lib Jvm.Free Jvm.Stand Jvm.Pilot.@@N@@.Jvm.D
/-! MADE BY PROGRAM (witnessworld.py) out of the Statement's table words and the real class files: 12 classes; the members and pool entries that the words name. The judged class is class 1, her method 1. -/
namespace start1
open Jvm.ClassFile
def u (s : String) : CpInfo := .utf8 (stringToUtf16 s)
/-- a pool by its gaps: so many unusable entries, then the entry; so many at the end -/
def gap : Nat → List CpInfo → List CpInfo
  | 0, r => r
  | n + 1, r => .unusable :: gap n r
def poolList (es : List (Nat × CpInfo)) (last : Nat) : List CpInfo := es.foldr (fun e r => gap e.1 (e.2 :: r)) (gap last [])
def pool (es : List (Nat × CpInfo)) (last : Nat) : Array CpInfo := ⟨poolList es last⟩
def fileOf (pool : Array CpInfo) (this : Nat) (attrs : Array Attribute := #[]) (ms : Array MethodInfo := #[]) (fl : Nat := 33) (sup : Nat := 0) (ifs : Array Nat := #[]) (fds : Array FieldInfo := #[]) : ClassFile where
  minorVersion := 0
  majorVersion := 65
  constantPool := pool
  accessFlags := fl
  thisClass := this
  superClass := sup
  interfaces := ifs
  fields := fds
  methods := ms
  attributes := attrs
def plain (name : String) (sup : Option ClassId) : Class where
  name := name
  kind := .ordinary
  loader := none
  accessFlags := 33
  super := sup
  interfaces := #[]
  cf := none
  fields := #[]
  methods := #[]
  instanceTypes := #[]
  staticTypes := #[]
  resolved := #[]
  callSites := []
  init := .initialized
  statics := none
  mirror := none

def pool0 : Array CpInfo := pool [(5, u "<init>"), (0, u "()V"), (1, .class_ 10), (1, u "java/lang/Object")] 113

def k0m0 : Method := { name := "<init>", desc := "()V", sig := { parameters := [], returnType := none }, accessFlags := 1, code := none }
/-- java/lang/Object -/
def k0 : Class := { plain "java/lang/Object" none with
  accessFlags := 33
  interfaces := #[]
  cf := some (fileOf pool0 8 #[] #[{ accessFlags := 1, nameIndex := 5, descriptorIndex := 6, attributes := #[] }] 33 0 #[] #[])
  fields := #[]
  methods := #[k0m0]
  instanceTypes := #[]
  staticTypes := #[]
  resolved := Array.replicate 124 none
  statics := none }

def pool1 : Array CpInfo := pool [(2, .class_ 4), (1, u "java/lang/Object"), (0, u "<init>"), (0, u "()V"), (0, .integer 2147483647), (0, .fieldref 9 10), (0, .class_ 11), (0, .nameAndType 12 13), (0, u "com/example/headway/headway/engine/Predicate$Relation"), (0, u "LESS_THAN"), (0, u "Lcom/example/headway/headway/engine/Predicate$Relation;"), (0, .fieldref 9 15), (0, .nameAndType 16 13), (0, u "LESS_OR_EQUAL"), (0, .fieldref 9 18), (0, .nameAndType 19 13), (0, u "GREATER_THAN"), (0, .fieldref 9 21), (0, .nameAndType 22 13), (0, u "GREATER_OR_EQUAL"), (0, .fieldref 9 24), (0, .nameAndType 25 13), (0, u "NOT_EQUAL"), (0, .double 4599676419421066581), (1, .double 4606281698874543309), (1, .methodref 9 31), (0, .nameAndType 32 33), (0, u "guessedSelectivity"), (0, u "()D"), (0, .class_ 35), (0, u "com/example/headway/headway/engine/RelationGuessedSelectivityPinLaw"), (2, u "law"), (0, u "(I)Z")] 7

def k1m0 : Method := { name := "<init>", desc := "()V", sig := { parameters := [], returnType := none }, accessFlags := 2, code := none }
def k1c1 : Code := { maxStack := 4, maxLocals := 8, code := code, exceptionTable := #[], attributes := #[] }
def k1m1 : Method := { name := "law", desc := "(I)Z", sig := { parameters := [.int], returnType := some .boolean }, accessFlags := 9, code := some k1c1 }
/-- com/example/headway/headway/engine/RelationGuessedSelectivityPinLaw -/
def k1 : Class := { plain "com/example/headway/headway/engine/RelationGuessedSelectivityPinLaw" (some 0) with
  accessFlags := 49
  interfaces := #[]
  cf := some (fileOf pool1 34 #[] #[{ accessFlags := 2, nameIndex := 5, descriptorIndex := 6, attributes := #[] }, { accessFlags := 9, nameIndex := 38, descriptorIndex := 39, attributes := #[] }] 49 2 #[] #[])
  fields := #[]
  methods := #[k1m0, k1m1]
  instanceTypes := #[]
  staticTypes := #[]
  resolved := Array.replicate 47 none
  statics := none }

def pool2 : Array CpInfo := pool [(1, .class_ 2), (0, u "java/lang/constant/Constable"), (0, .class_ 4), (0, u "java/lang/Object")] 6

/-- java/lang/constant/Constable -/
def k2 : Class := { plain "java/lang/constant/Constable" (some 0) with
  accessFlags := 1537
  interfaces := #[]
  cf := some (fileOf pool2 1 #[] #[] 1537 3 #[] #[])
  fields := #[]
  methods := #[]
  instanceTypes := #[]
  staticTypes := #[]
  resolved := Array.replicate 11 none
  statics := none }

def pool3 : Array CpInfo := pool [(1, .class_ 2), (0, u "java/lang/Comparable"), (0, .class_ 4), (0, u "java/lang/Object")] 7

/-- java/lang/Comparable -/
def k3 : Class := { plain "java/lang/Comparable" (some 0) with
  accessFlags := 1537
  interfaces := #[]
  cf := some (fileOf pool3 1 #[] #[] 1537 3 #[] #[])
  fields := #[]
  methods := #[]
  instanceTypes := #[]
  staticTypes := #[]
  resolved := Array.replicate 12 none
  statics := none }

def pool4 : Array CpInfo := pool [(1, .class_ 2), (0, u "java/io/Serializable"), (0, .class_ 4), (0, u "java/lang/Object")] 2

/-- java/io/Serializable -/
def k4 : Class := { plain "java/io/Serializable" (some 0) with
  accessFlags := 1537
  interfaces := #[]
  cf := some (fileOf pool4 1 #[] #[] 1537 3 #[] #[])
  fields := #[]
  methods := #[]
  instanceTypes := #[]
  staticTypes := #[]
  resolved := Array.replicate 7 none
  statics := none }

def pool5 : Array CpInfo := pool [(2, .class_ 4), (1, u "java/lang/Enum"), (0, u "name"), (0, u "Ljava/lang/String;"), (2, u "ordinal"), (0, u "I"), (1, .class_ 14), (1, u "java/lang/Object"), (4, u "hash"), (86, .class_ 108), (1, u "java/lang/Enum$EnumDesc"), (2, .class_ 112), (0, u "java/lang/constant/Constable"), (0, .class_ 114), (0, u "java/lang/Comparable"), (0, .class_ 116), (0, u "java/io/Serializable")] 87

/-- java/lang/Enum -/
def k5 : Class := { plain "java/lang/Enum" (some 0) with
  accessFlags := 1057
  interfaces := #[2, 3, 4]
  cf := some (fileOf pool5 2 #[.nestMembers #[106]] #[] 1057 12 #[111, 113, 115] #[{ accessFlags := 18, nameIndex := 5, descriptorIndex := 6, attributes := #[] }, { accessFlags := 18, nameIndex := 9, descriptorIndex := 10, attributes := #[] }, { accessFlags := 2, nameIndex := 19, descriptorIndex := 10, attributes := #[] }])
  fields := #[{ name := "name", type := (.object "java/lang/String"), accessFlags := 18, slot := 0, constantValue := 0 }, { name := "ordinal", type := .int, accessFlags := 18, slot := 1, constantValue := 0 }, { name := "hash", type := .int, accessFlags := 2, slot := 2, constantValue := 0 }]
  methods := #[]
  instanceTypes := #[(.object "java/lang/String"), .int, .int]
  staticTypes := #[]
  resolved := Array.replicate 204 none
  statics := none }

def pool6 : Array CpInfo := pool [(1, .class_ 2), (0, u "com/example/headway/headway/engine/Predicate"), (0, .class_ 4), (0, u "com/example/headway/headway/engine/Predicate$Relation"), (2, u "LESS_THAN"), (0, u "Lcom/example/headway/headway/engine/Predicate$Relation;"), (2, u "LESS_OR_EQUAL"), (2, u "GREATER_THAN"), (2, u "GREATER_OR_EQUAL"), (0, .fieldref 3 19), (0, .nameAndType 20 8), (0, u "NOT_EQUAL"), (2, u "$VALUES"), (0, u "[Lcom/example/headway/headway/engine/Predicate$Relation;"), (6, .class_ 33), (1, u "java/lang/Enum"), (15, .double 4606281698874543309), (1, .double 4599676419421066581), (21, u "guessedSelectivity"), (0, u "()D")] 7

def k6c0 : Code := { maxStack := 2, maxLocals := 1, code := prog_75_method_5_code, exceptionTable := #[], attributes := #[] }
def k6m0 : Method := { name := "guessedSelectivity", desc := "()D", sig := { parameters := [], returnType := some .double }, accessFlags := 0, code := some k6c0 }
/-- com/example/headway/headway/engine/Predicate$Relation -/
def k6 : Class := { plain "com/example/headway/headway/engine/Predicate$Relation" (some 5) with
  accessFlags := 16433
  interfaces := #[]
  cf := some (fileOf pool6 3 #[.nestHost 1] #[{ accessFlags := 0, nameIndex := 73, descriptorIndex := 74, attributes := #[] }] 16433 31 #[] #[{ accessFlags := 16409, nameIndex := 7, descriptorIndex := 8, attributes := #[] }, { accessFlags := 16409, nameIndex := 11, descriptorIndex := 8, attributes := #[] }, { accessFlags := 16409, nameIndex := 14, descriptorIndex := 8, attributes := #[] }, { accessFlags := 16409, nameIndex := 17, descriptorIndex := 8, attributes := #[] }, { accessFlags := 16409, nameIndex := 20, descriptorIndex := 8, attributes := #[] }, { accessFlags := 4122, nameIndex := 23, descriptorIndex := 24, attributes := #[] }])
  fields := #[{ name := "LESS_THAN", type := (.object "com/example/headway/headway/engine/Predicate$Relation"), accessFlags := 16409, slot := 0, constantValue := 0 }, { name := "LESS_OR_EQUAL", type := (.object "com/example/headway/headway/engine/Predicate$Relation"), accessFlags := 16409, slot := 1, constantValue := 0 }, { name := "GREATER_THAN", type := (.object "com/example/headway/headway/engine/Predicate$Relation"), accessFlags := 16409, slot := 2, constantValue := 0 }, { name := "GREATER_OR_EQUAL", type := (.object "com/example/headway/headway/engine/Predicate$Relation"), accessFlags := 16409, slot := 3, constantValue := 0 }, { name := "NOT_EQUAL", type := (.object "com/example/headway/headway/engine/Predicate$Relation"), accessFlags := 16409, slot := 4, constantValue := 0 }, { name := "$VALUES", type := (.array (.object "com/example/headway/headway/engine/Predicate$Relation")), accessFlags := 4122, slot := 5, constantValue := 0 }]
  methods := #[k6m0]
  instanceTypes := #[(.object "java/lang/String"), .int, .int]
  staticTypes := #[(.object "com/example/headway/headway/engine/Predicate$Relation"), (.object "com/example/headway/headway/engine/Predicate$Relation"), (.object "com/example/headway/headway/engine/Predicate$Relation"), (.object "com/example/headway/headway/engine/Predicate$Relation"), (.object "com/example/headway/headway/engine/Predicate$Relation"), (.array (.object "com/example/headway/headway/engine/Predicate$Relation"))]
  resolved := Array.replicate 82 none
  statics := some 0 }

def pool7 : Array CpInfo := pool [(1, u "java/lang/Cloneable"), (0, .class_ 1), (0, u "java/lang/Object"), (0, .class_ 3)] 3

/-- java/lang/Cloneable -/
def k7 : Class := { plain "java/lang/Cloneable" (some 0) with
  accessFlags := 1537
  interfaces := #[]
  cf := some (fileOf pool7 2 #[] #[] 1537 4 #[] #[])
  fields := #[]
  methods := #[]
  instanceTypes := #[]
  staticTypes := #[]
  resolved := Array.replicate 8 none
  statics := none }

/-- the primitive byte -/
def k8 : Class := { plain "byte" none with kind := .primitive 'B', accessFlags := 0x411 }
/-- [B -/
def k9 : Class := { plain "[B" (some 0) with kind := .array 8 .byte, interfaces := #[7, 4], accessFlags := 1041 }

/-- the primitive int -/
def k10 : Class := { plain "int" none with kind := .primitive 'I', accessFlags := 0x411 }
/-- [I -/
def k11 : Class := { plain "[I" (some 0) with kind := .array 10 .int, interfaces := #[7, 4], accessFlags := 1041 }

def heap : Heap := #[{ cls := 6, slots := #[.ref 1, .ref 2, .ref 3, .ref 4, .ref 5, .null], vm := .statics 6 },
  { cls := 6, slots := #[.null, .int 0, .int 0], vm := .none },
  { cls := 6, slots := #[.null, .int 1, .int 0], vm := .none },
  { cls := 6, slots := #[.null, .int 2, .int 0], vm := .none },
  { cls := 6, slots := #[.null, .int 3, .int 0], vm := .none },
  { cls := 6, slots := #[.null, .int 4, .int 0], vm := .none }]
def classes : Array Class := #[k0, k1, k2, k3, k4, k5, k6, k7, k8, k9, k10, k11]
def interned : List (Array UInt16 × Addr) := []
def slotsUsed : Nat := 21
def theMethod : MethodId := ⟨1, 1⟩
def args0 : Array Value := #[.int 5]
def aboutOver (below : List Frame) : State where
  vm := { classes := classes, interned := interned.toArray }
  heap := heap
  slotsUsed := slotsUsed
  threads := #[{ frames := .invoking theMethod args0 :: below }]
def below0 : List Frame := [.native { method := ⟨0, 0⟩, args := #[] }]
def about1 : State := aboutOver below0
def p0 : Program := .bare "" "" ""
def e0 : Env := launch0.env 0 0 0
theorem w_frames : about1.frames = Frame.invoking theMethod args0 :: below0 := rfl
set_option maxRecDepth 65536 in
theorem w_args : argsFit about1.vm theMethod args0 = true := by decide +kernel
set_option maxRecDepth 65536 in
theorem w_heap : heapFits about1 = true := by decide +kernel
set_option maxRecDepth 65536 in
theorem w_runnable : about1.curStatus? = some .runnable := by decide +kernel
set_option maxRecDepth 65536 in
theorem w_alone : about1.alone = true := by decide +kernel
set_option maxRecDepth 65536 in
theorem w_named : about1.methodNamed? x = some theMethod := by decide +kernel
set_option maxRecDepth 65536 in
theorem w_hears : about1.hears theMethod below0 = true := by decide +kernel
set_option maxRecDepth 65536 in
theorem w_ripe : about1.ripe theMethod args0 below0 = true := by decide +kernel
theorem w_running : about1.status = .running := rfl
set_option maxRecDepth 65536 in
theorem w_room : about1.hasRoom e0.platform room_1 = true :=
  launch0.hasRoom_least _ room_1 (by decide +kernel) (by decide +kernel) (by decide +kernel) (by decide +kernel) (by decide +kernel) (by decide +kernel)
theorem allAtoms_all (ts : List Jvm.Cond) (a : Array Jvm.Value) (st : Jvm.State) : (allAtoms ts).before a st = ts.all (fun c => c.before a st) := by
  induction ts with
  | nil => rfl
  | cons c t ih =>
    show (Jvm.Cond.and c (allAtoms t)).before a st = _
    rw [Jvm.Cond.before_and, ih, List.all_cons]
def words1 : List Jvm.Cond := Jvm.Cond.code x code maxLocals ret :: tables_1
/-- a 'code' word, met by the world's own term for the bytes: nothing is compared byte by byte -/
theorem code_word {y : MethodName} {bytes : ByteArray} {mx : Nat} {rt : Option FieldType} {a : Array Value} {s : State} {m : MethodId} {meth : Method} {c : Code} (h1 : s.methodNamed? y = some m) (h2 : s.vm.method? m = some meth) (h3 : meth.code = some c) (h4 : c.code = bytes)
    (h5 : (c.maxLocals == mx && c.exceptionTable.isEmpty && decide (c.maxStack ≤ mostOperands) && decide (meth.sig.returnType = rt) && !meth.locks && decide (parseMethodDescriptor y.desc = some meth.sig)) = true) : (Jvm.Cond.code y bytes mx rt).before a s = true := by
  simp only [Bool.and_eq_true, beq_iff_eq, Bool.not_eq_true', decide_eq_true_eq] at h5
  obtain ⟨⟨⟨⟨⟨g1, g2⟩, g3⟩, g4⟩, g5⟩, g6⟩ := h5
  simp [Cond.before, Cond.holds, Cond.value, h1, h2, h3, h4, g1, g2, g3, g4, g5, g6]
def isCode : Jvm.Cond → Bool
  | .code _ _ _ _ => true
  | _ => false
theorem all_split {L : List Jvm.Cond} {P : Jvm.Cond → Bool} (h1 : L.all (fun c => isCode c || P c) = true) (h2 : ∀ c ∈ L.filter isCode, P c = true) : L.all P = true := by
  refine List.all_eq_true.mpr fun c hc => ?_
  have h := List.all_eq_true.mp h1 c hc
  rcases Bool.eq_false_or_eq_true (isCode c) with hi | hi
  · exact h2 c (List.mem_filter.mpr ⟨hc, hi⟩)
  · simpa [hi] using h
set_option maxRecDepth 65536 in
theorem w_c0 : (Jvm.Cond.code x code maxLocals ret).before args0 about1 = true := code_word (m := ⟨1, 1⟩) (meth := k1m1) (c := k1c1) (by decide +kernel) rfl rfl rfl (by decide +kernel)
set_option maxRecDepth 65536 in
theorem w_c1 : (Jvm.Cond.code ({ cls := "com/example/headway/headway/engine/Predicate$Relation", name := "guessedSelectivity", desc := "()D" } : Jvm.MethodName) prog_75_method_5_code (1 : Nat) (Option.some Jvm.ClassFile.FieldType.double)).before args0 about1 = true := code_word (m := ⟨6, 0⟩) (meth := k6m0) (c := k6c0) (by decide +kernel) rfl rfl rfl (by decide +kernel)
def codes1 : List Jvm.Cond := [Jvm.Cond.code x code maxLocals ret, Jvm.Cond.code ({ cls := "com/example/headway/headway/engine/Predicate$Relation", name := "guessedSelectivity", desc := "()D" } : Jvm.MethodName) prog_75_method_5_code (1 : Nat) (Option.some Jvm.ClassFile.FieldType.double)]
set_option maxRecDepth 65536 in
theorem codes_eq : words1.filter isCode = codes1 := rfl
theorem w_codes : ∀ c ∈ words1.filter isCode, c.before args0 about1 = true := by
  rw [codes_eq]
  intro c hc
  simp only [codes1, List.mem_cons, List.not_mem_nil, or_false] at hc
  rcases hc with rfl | rfl
  · exact w_c0
  · exact w_c1
set_option maxRecDepth 65536 in
theorem w_t1 : words1.all (fun c => isCode c || c.before args0 about1) = true := by decide +kernel
theorem w_tables : (allAtoms (Jvm.Cond.code x code maxLocals ret :: tables_1)).before args0 about1 = true := by
  rw [allAtoms_all]
  show words1.all (fun c => c.before args0 about1) = true
  refine all_split ?_ w_codes
  rw [w_t1]
set_option maxRecDepth 65536 in
theorem w_case : (Jvm.Cond.and given_1 narrow_1).before args0 about1 = true := by decide +kernel
theorem w_applies : (headSpec (Jvm.Cond.code x code maxLocals ret :: tables_1) room_1).applies x e0.platform about1 = true :=
  (Spec.applies_iff w_frames).mpr ⟨w_running, w_runnable, w_alone, w_named, w_hears, w_ripe, w_room, w_tables⟩
theorem atStart : AtStart classFile x code maxLocals ret World_1 tables_1 room_1 Calls_1 rest_1 Pre_1 launch0 p0 e0 about1 theMethod args0 below0 :=
  ⟨lists_1, trivial, launch0.admits_env _ _ _, launch0.least_env, fairChoices_fair.cas, fairChoices_fair.clock, w_frames, w_args, w_heap, w_applies, trivial, trivial, w_case⟩
end start1
theorem witness_1 : WitnessClaimed_1 := ⟨start1.p0, start1.e0, start1.about1, start1.theMethod, start1.args0, start1.below0, start1.atStart⟩
end Jvm.Pilot.@@N@@
