import JvmDerived
import JvmDerived.Pilot.@@N@@Statement
import JvmDerived.Pilot.@@N@@Code
set_option linter.unusedVariables false
set_option linter.unusedSimpArgs false
@@BLOCK:NumsL.lean.txt@@
namespace Jvm.RoadKit
open Sem ClassFile Op Lib Jvm.Stand Jvm.Free Jvm.LawKit
/-- from the state S the run comes to an end that P holds of -/
def own_Out (p : Program) (e : Env) (below : List Frame) (P : Outcome → State → Prop) (S : State) : Prop := ∃ s₂ o, Steps p.tables e below S s₂ ∧ s₂.status = .running ∧ Ended s₂ below o ∧ P o s₂
theorem own_of {p : Program} {e : Env} {below : List Frame} {P : Outcome → State → Prop} {S S' : State} (h : ∀ t, Steps p.tables e below S' t → Steps p.tables e below S t) (k : own_Out p e below P S') : own_Out p e below P S := by
  obtain ⟨a, b, c, d⟩ := k
  exact ⟨a, b, h a c, d⟩
section New
variable {p : Program} {l : Launch} {e : Env} {R : Room} {s : State} {m : MethodId} {args : Array Value} {below : List Frame} {meth : Method} {c : Code} {T : State} {locs : List Loc} {cells slots : Nat}
theorem own_retI (X : Stand p l e R s m args below meth c T locs cells slots) (hx : p.tables.exec = Jvm.exec) {pc : Nat} {Ls : Array Slot} {z : Int32} {rest : List Value} (hret : meth.sig.returnType = some .int) (hd : decode c.code pc = .ok (.ireturn, 1)) {fs : List Frame}
    (hl : ∀ (f : JFrame) (acts : List Action), f.method = m → f.locked = none → f.entered = [] → (doReturn e (T.setTop f) acts (some (.int z))).1 = T.setFrames fs) : Steps p.tables e below (T.setTop (mkF m pc Ls (.int z :: rest))) (T.setFrames fs) := retOut X hx hret rfl (Or.inl ⟨rfl, Or.inl rfl, z, rfl⟩) hd hl
theorem own_end (X : Stand p l e R s m args below meth c T locs cells slots) (hlk : meth.locks = false) {v : Option Value} (hv : meth.sig.returnType = none → v = none) {g : JFrame}
    (hs : ∀ fs, (∀ (f : JFrame) (acts : List Action), f.method = m → f.locked = none → f.entered = [] → (doReturn e (T.setTop f) acts v).1 = T.setFrames fs) → Steps p.tables e below (T.setTop g) (T.setFrames fs))
    {Q : Option Value → Heap → List Loc → Prop} (hQ : Q v T.heap locs) {C N : Nat} (hC : cells ≤ C) (hN : slots ≤ N) :
    own_Out p e below (fun o U' => ∃ v L, o = .returned v ∧ Q v U'.heap L ∧ FrameEnd s o U' L C N) (T.setTop g) := by
  obtain ⟨fs, hr, hrun, hended, hW, hsame⟩ := X.leave (v := v) hv hlk
  exact ⟨_, _, hs fs hr, hrun, hended, _, _, rfl, hQ, ⟨_, rfl⟩, hW, hsame.mono hC hN⟩
theorem own_outI (X : Stand p l e R s m args below meth c T locs cells slots) (hx : p.tables.exec = Jvm.exec) (hlk : meth.locks = false) {pc : Nat} {Ls : Array Slot} {z : Int32} {rest : List Value} (hret : meth.sig.returnType = some .int) (hd : decode c.code pc = .ok (.ireturn, 1))
    {Q : Option Value → Heap → List Loc → Prop} (hQ : Q (some (.int z)) T.heap locs) {C N : Nat} (hC : cells ≤ C) (hN : slots ≤ N) :
    own_Out p e below (fun o U' => ∃ v L, o = .returned v ∧ Q v U'.heap L ∧ FrameEnd s o U' L C N) (T.setTop (mkF m pc Ls (.int z :: rest))) :=
  own_end X hlk (fun h => by rw [hret] at h; cases h) (fun fs hr => own_retI X hx hret hd hr) hQ hC hN
theorem own_outN (X : Stand p l e R s m args below meth c T locs cells slots) (hx : p.tables.exec = Jvm.exec) (hlk : meth.locks = false) {pc : Nat} {Ls : Array Slot} {z z' : Int32} {t : FieldType} {rest : List Value} (hret : meth.sig.returnType = some t) (ht : t = .boolean ∨ t = .byte ∨ t = .char ∨ t = .short) (hd : decode c.code pc = .ok (.ireturn, 1)) (hz : nar t z = z')
    {Q : Option Value → Heap → List Loc → Prop} (hQ : Q (some (.int z')) T.heap locs) {C N : Nat} (hC : cells ≤ C) (hN : slots ≤ N) :
    own_Out p e below (fun o U' => ∃ v L, o = .returned v ∧ Q v U'.heap L ∧ FrameEnd s o U' L C N) (T.setTop (mkF m pc Ls (.int z :: rest))) :=
  own_end X hlk (fun h => by rw [hret] at h; cases h) (fun fs hr => retN X hx hret ht hd (by rw [hz]; exact hr)) hQ hC hN
theorem own_outL (X : Stand p l e R s m args below meth c T locs cells slots) (hx : p.tables.exec = Jvm.exec) (hlk : meth.locks = false) {pc : Nat} {Ls : Array Slot} {z : Int64} {rest : List Value} (hret : meth.sig.returnType = some .long) (hd : decode c.code pc = .ok (.lreturn, 1))
    {Q : Option Value → Heap → List Loc → Prop} (hQ : Q (some (.long z)) T.heap locs) {C N : Nat} (hC : cells ≤ C) (hN : slots ≤ N) :
    own_Out p e below (fun o U' => ∃ v L, o = .returned v ∧ Q v U'.heap L ∧ FrameEnd s o U' L C N) (T.setTop (mkF m pc Ls (.long z :: rest))) :=
  own_end X hlk (fun h => by rw [hret] at h; cases h) (fun fs hr => retOut X hx hret rfl (Or.inr (Or.inl ⟨rfl, rfl, z, rfl⟩)) hd hr) hQ hC hN
theorem own_outD (X : Stand p l e R s m args below meth c T locs cells slots) (hx : p.tables.exec = Jvm.exec) (hlk : meth.locks = false) {pc : Nat} {Ls : Array Slot} {z : UInt64} {rest : List Value} (hret : meth.sig.returnType = some .double) (hd : decode c.code pc = .ok (.dreturn, 1))
    {Q : Option Value → Heap → List Loc → Prop} (hQ : Q (some (.double z)) T.heap locs) {C N : Nat} (hC : cells ≤ C) (hN : slots ≤ N) :
    own_Out p e below (fun o U' => ∃ v L, o = .returned v ∧ Q v U'.heap L ∧ FrameEnd s o U' L C N) (T.setTop (mkF m pc Ls (.double z :: rest))) :=
  own_end X hlk (fun h => by rw [hret] at h; cases h) (fun fs hr => retOut X hx hret rfl (Or.inr (Or.inr (Or.inl ⟨rfl, rfl, z, rfl⟩))) hd hr) hQ hC hN
theorem own_outR (X : Stand p l e R s m args below meth c T locs cells slots) (hx : p.tables.exec = Jvm.exec) (hlk : meth.locks = false) {pc : Nat} {Ls : Array Slot} {w : Value} {t : FieldType} {rest : List Value} (hret : meth.sig.returnType = some t) (ht : t.isReference = true) (hw : w.isRef = true) (hn : narrow t w = w) (hd : decode c.code pc = .ok (.areturn, 1))
    {Q : Option Value → Heap → List Loc → Prop} (hQ : Q (some w) T.heap locs) {C N : Nat} (hC : cells ≤ C) (hN : slots ≤ N) :
    own_Out p e below (fun o U' => ∃ v L, o = .returned v ∧ Q v U'.heap L ∧ FrameEnd s o U' L C N) (T.setTop (mkF m pc Ls (w :: rest))) :=
  own_end X hlk (fun h => by rw [hret] at h; cases h) (fun fs hr => retOut X hx hret hn (Or.inr (Or.inr (Or.inr (Or.inr ⟨rfl, ht, hw⟩)))) hd hr) hQ hC hN
theorem own_outV (X : Stand p l e R s m args below meth c T locs cells slots) (hx : p.tables.exec = Jvm.exec) (hlk : meth.locks = false) {pc : Nat} {Ls : Array Slot} (hret : meth.sig.returnType = none) (hd : decode c.code pc = .ok (.return_, 1))
    {Q : Option Value → Heap → List Loc → Prop} (hQ : Q none T.heap locs) {C N : Nat} (hC : cells ≤ C) (hN : slots ≤ N) :
    own_Out p e below (fun o U' => ∃ v L, o = .returned v ∧ Q v U'.heap L ∧ FrameEnd s o U' L C N) (T.setTop (mkF m pc Ls [])) :=
  own_end X hlk (fun _ => rfl) (fun fs hr => X.returnOut hx hret hd hr) hQ hC hN
end New
theorem own_ltlt {x y : Int64} (h : x < y) : ifCond.holds .lt (lcmpW x y) = true ∧ ifCond.holds .ge (lcmpW x y) = false ∧ ifCond.holds .gt (lcmpW y x) = true ∧ ifCond.holds .le (lcmpW y x) = false := by
  have h1 : ¬ x > y := fun q => by rw [gt_iff_lt, Int64.lt_iff_toInt_lt] at q; rw [Int64.lt_iff_toInt_lt] at h; omega
  have h2 : ¬ x = y := fun q => by subst q; rw [Int64.lt_iff_toInt_lt] at h; omega
  have e1 : lcmpW x y = -1 := by simp only [lcmpW, if_neg h1, if_neg h2]
  have e2 : lcmpW y x = 1 := by simp only [lcmpW, if_pos (show y > x from h)]
  rw [e1, e2]; decide
theorem own_leq {x y : Int64} (h : x = y) : ifCond.holds .eq (lcmpW x y) = true ∧ ifCond.holds .ne (lcmpW x y) = false := by
  subst h
  have h1 : ¬ x > x := fun q => by rw [gt_iff_lt, Int64.lt_iff_toInt_lt] at q; omega
  have e1 : lcmpW x x = 0 := by simp only [lcmpW, if_neg h1, if_pos]
  rw [e1]; decide
theorem own_lfeq {x y : Int64} (h : ¬ x = y) : ifCond.holds .eq (lcmpW x y) = false ∧ ifCond.holds .ne (lcmpW x y) = true := by
  by_cases h1 : x > y
  · have e1 : lcmpW x y = 1 := by simp only [lcmpW, if_pos h1]
    rw [e1]; decide
  · have e1 : lcmpW x y = -1 := by simp only [lcmpW, if_neg h1, if_neg h]
    rw [e1]; decide
theorem own_lflt {x y : Int64} (h : ¬ x < y) : ifCond.holds .lt (lcmpW x y) = false ∧ ifCond.holds .ge (lcmpW x y) = true ∧ ifCond.holds .gt (lcmpW y x) = false ∧ ifCond.holds .le (lcmpW y x) = true := by
  by_cases h1 : x = y
  · subst h1
    have h1 : ¬ x > x := fun q => by rw [gt_iff_lt, Int64.lt_iff_toInt_lt] at q; omega
    have e1 : lcmpW x x = 0 := by simp only [lcmpW, if_neg h1, if_pos]
    rw [e1]; decide
  · have h2 : x > y := by
      rw [gt_iff_lt, Int64.lt_iff_toInt_lt]; rw [Int64.lt_iff_toInt_lt] at h
      have h3 : ¬ x.toInt = y.toInt := fun q => h1 (Int64.toInt_inj.mp q)
      omega
    have h3 : ¬ y > x := fun q => by rw [gt_iff_lt, Int64.lt_iff_toInt_lt] at q h2; omega
    have e1 : lcmpW x y = 1 := by simp only [lcmpW, if_pos h2]
    have e2 : lcmpW y x = -1 := by simp only [lcmpW, if_neg h3, if_neg (fun q => h1 (Eq.symm q))]
    rw [e1, e2]; decide
theorem own_staK0 {Z : State} {h h' : Heap} {C n d : String} {v : Value} (F : Sta Z h C n d v) (K : Keep h h' []) : Sta Z h' C n d v := by
  obtain ⟨cf, i, k, f, st, cell, h1, h2, h3, h4, h5, r⟩ := F
  exact ⟨cf, i, k, f, st, cell, h1, h2, h3, h4, K.2.1 st cell h5 nin0, r⟩
theorem own_staK1 {Z : State} {h h' : Heap} {C n d : String} {v : Value} {a : Addr} (F : Sta Z h C n d v) (K : Keep h h' [a]) (q : ∀ cell : Cell, h[a]? = some cell → cell.vm.isStatics = false) : Sta Z h' C n d v := by
  obtain ⟨cf, i, k, f, st, cell, h1, h2, h3, h4, h5, h6, h7⟩ := F
  have ne : st ≠ a := fun e => by subst e; rw [q _ h5] at h6; cases h6
  exact ⟨cf, i, k, f, st, cell, h1, h2, h3, h4, K.2.1 st cell h5 (ninS ne nin0), h6, h7⟩
theorem own_plainE {Z : State} {h : Heap} {a : Addr} {C : String} (E : Exa Z h a C) : ∀ cell : Cell, h[a]? = some cell → cell.vm.isStatics = false := fun cell hc => by
  obtain ⟨c, k, h1, -, -, h4, -⟩ := E; cases h1.symm.trans hc; exact h4
theorem own_plainV {Z : State} {h : Heap} {a : Addr} {k : ClassId} {ty : FieldType} {z : Int32} {vs : List Value} {dv : Value} (F : Arv Z h a k ty z vs dv) : ∀ cell : Cell, h[a]? = some cell → cell.vm.isStatics = false := fun cell hc => by
  obtain ⟨c, A, -⟩ := F; cases A.1.symm.trans hc; exact A.plain
section Bounds
variable {x a k : Int32} {u : Int}
theorem own_L1 (h : ¬ (x < a)) : a.toInt ≤ x.toInt := by rw [Int32.lt_iff_toInt_lt] at h; omega
theorem own_L2 (h : a < x) : a.toInt + 1 ≤ x.toInt := by rw [Int32.lt_iff_toInt_lt] at h; omega
theorem own_L3 (h : x = a) : a.toInt ≤ x.toInt := by subst h; omega
theorem own_U1 (h : x < a) : x.toInt ≤ a.toInt - 1 := by rw [Int32.lt_iff_toInt_lt] at h; omega
theorem own_U2 (h : ¬ (a < x)) : x.toInt ≤ a.toInt := by rw [Int32.lt_iff_toInt_lt] at h; omega
theorem own_U3 (h : x = a) : x.toInt ≤ a.toInt := by subst h; omega
theorem own_T1 (h : x.toInt ≤ u) (d : u < k.toInt) : x < k := by rw [Int32.lt_iff_toInt_lt]; omega
theorem own_T2 (h : u ≤ x.toInt) (d : k.toInt ≤ u) : ¬ (x < k) := by rw [Int32.lt_iff_toInt_lt]; omega
theorem own_T3 (h : u ≤ x.toInt) (d : k.toInt < u) : k < x := by rw [Int32.lt_iff_toInt_lt]; omega
theorem own_T4 (h : x.toInt ≤ u) (d : u ≤ k.toInt) : ¬ (k < x) := by rw [Int32.lt_iff_toInt_lt]; omega
theorem own_T5 (h : x.toInt ≤ u) (d : u < k.toInt) : ¬ (x = k) := fun q => by subst q; omega
theorem own_T6 (h : u ≤ x.toInt) (d : k.toInt < u) : ¬ (x = k) := fun q => by subst q; omega
theorem own_T7 {u' : Int} (h : u ≤ x.toInt) (h' : x.toInt ≤ u') (d : k.toInt ≤ u ∧ u' ≤ k.toInt) : x = k := Int32.toInt_inj.mp (by omega)
end Bounds
section Rel
theorem own_JR1 {a b : Int64} (h : a < b) : ¬ (b < a) := by rw [Int64.lt_iff_toInt_lt] at *; omega
theorem own_JR2 {a b : Int64} (h : a < b) : ¬ (a = b) := fun q => by subst q; rw [Int64.lt_iff_toInt_lt] at h; omega
theorem own_JR2' {a b : Int64} (h : a < b) : ¬ (b = a) := fun q => by subst q; rw [Int64.lt_iff_toInt_lt] at h; omega
theorem own_JR3 {a b : Int64} (h : a = b) : ¬ (a < b) := fun q => by subst h; rw [Int64.lt_iff_toInt_lt] at q; omega
theorem own_JR3' {a b : Int64} (h : a = b) : ¬ (b < a) := fun q => by subst h; rw [Int64.lt_iff_toInt_lt] at q; omega
theorem own_JR4 {a b : Int64} (h : ¬ (a < b)) (h' : ¬ (b < a)) : a = b := by rw [Int64.lt_iff_toInt_lt] at h h'; exact Int64.toInt_inj.mp (by omega)
theorem own_JR5 {a b : Int64} (h : ¬ (a < b)) (h' : ¬ (a = b)) : b < a := by rw [← Int64.toInt_inj] at h'; rw [Int64.lt_iff_toInt_lt] at *; omega
theorem own_JR5' {a b : Int64} (h : ¬ (a < b)) (h' : ¬ (b = a)) : b < a := by rw [← Int64.toInt_inj] at h'; rw [Int64.lt_iff_toInt_lt] at *; omega
theorem own_IR1 {a b : Int32} (h : a < b) : ¬ (b < a) := by rw [Int32.lt_iff_toInt_lt] at *; omega
theorem own_IR2 {a b : Int32} (h : a < b) : ¬ (a = b) := fun q => by subst q; rw [Int32.lt_iff_toInt_lt] at h; omega
theorem own_IR2' {a b : Int32} (h : a < b) : ¬ (b = a) := fun q => by subst q; rw [Int32.lt_iff_toInt_lt] at h; omega
theorem own_IR3 {a b : Int32} (h : a = b) : ¬ (a < b) := fun q => by subst h; rw [Int32.lt_iff_toInt_lt] at q; omega
theorem own_IR3' {a b : Int32} (h : a = b) : ¬ (b < a) := fun q => by subst h; rw [Int32.lt_iff_toInt_lt] at q; omega
theorem own_IR4 {a b : Int32} (h : ¬ (a < b)) (h' : ¬ (b < a)) : a = b := by rw [Int32.lt_iff_toInt_lt] at h h'; exact Int32.toInt_inj.mp (by omega)
theorem own_IR5 {a b : Int32} (h : ¬ (a < b)) (h' : ¬ (a = b)) : b < a := by rw [← Int32.toInt_inj] at h'; rw [Int32.lt_iff_toInt_lt] at *; omega
theorem own_IR5' {a b : Int32} (h : ¬ (a < b)) (h' : ¬ (b = a)) : b < a := by rw [← Int32.toInt_inj] at h'; rw [Int32.lt_iff_toInt_lt] at *; omega
end Rel
end Jvm.RoadKit
namespace Jvm.Pilot.@@N@@
open Jvm Jvm.ClassFile Sem Op Lib Jvm.Free Jvm.Stand Jvm.LawKit Jvm.RoadKit Bundle Jvm.Pilot.@@N@@.Jvm.D
theorem d1_0 : decode prog_21_method_6_code 0 = .ok (.aload_n 0, 1) := by decide +kernel
theorem d1_1 : decode prog_21_method_6_code 1 = .ok (.getfield 33, 3) := by decide +kernel
theorem d1_4 : decode prog_21_method_6_code 4 = .ok (.lconst 0, 1) := by decide +kernel
theorem d1_5 : decode prog_21_method_6_code 5 = .ok (.lcmp, 1) := by decide +kernel
theorem d1_6 : decode prog_21_method_6_code 6 = .ok (.ifCond .le 7, 3) := by decide +kernel
theorem d1_9 : decode prog_21_method_6_code 9 = .ok (.iconst 1, 1) := by decide +kernel
theorem d1_10 : decode prog_21_method_6_code 10 = .ok (.goto 4, 3) := by decide +kernel
theorem d1_13 : decode prog_21_method_6_code 13 = .ok (.iconst 0, 1) := by decide +kernel
theorem d1_14 : decode prog_21_method_6_code 14 = .ok (.ireturn, 1) := by decide +kernel
theorem pn_0 : plainName "com/example/collector_urchin/collectorurchin/store/Space" = true := by first | (simp [plainName, overriddenIn]; done) | decide +kernel
theorem ef_1 (m : MethodId) (x0 : Addr) : entryFrame m #[(.ref x0)] 1 = mkF m 0 #[.val (.ref x0)] [] := by first | (simp [entryFrame, mkF, argsToLocals, Value.category]; done) | rfl
def f1 (w : Int64) : Int32 := if (0 : Int64) < w then (1 : Int32)
  else (0 : Int32)
def Q1 (Z : State) (o0 : Addr) (w : Int64) (h0 : Heap) (n0 : Nat) (v : Option Value) (h : Heap) (L : List Loc) : Prop := v = some (.int (f1 w)) ∧ Fr n0 L ∧ h = h0
set_option maxRecDepth 65536 in
set_option maxHeartbeats 40000000 in
theorem rm1 (l : Launch) (Z : State) (a0 : Array Value) (hw : ∀ d ∈ tables_1, d.before a0 Z = true) (ws : List Jvm.Cond) (o0 : Addr) (w : Int64) (h0 : Heap) (n0 : Nat) (Z0 : n0 ≤ h0.size) (E : Exa Z h0 o0 "com/example/collector_urchin/collectorurchin/store/Space") (F : Fld Z h0 o0 "com/example/collector_urchin/collectorurchin/store/Space" "millisPerVersion" "J" (.long w)) :
    MetFree l (⟨"com/example/collector_urchin/collectorurchin/store/Space", "isTimed", "()Z"⟩ : MethodName) (head1 (Jvm.Cond.code (⟨"com/example/collector_urchin/collectorurchin/store/Space", "isTimed", "()Z"⟩ : MethodName) prog_21_method_6_code 1 (some .boolean) :: ws) ({ frames := 0, cells := 0, slots := 0, locals := 0 } : Room)) (fun a U => a = #[(.ref o0)] ∧ Z.Warmed39 U.vm ∧ U.heap = h0) (fun _ _ _ _ _ => True) (fun _ U o U' => ∃ v L, o = .returned v ∧ Q1 Z o0 w h0 n0 v U'.heap L ∧ FrameEnd U o U' L ({ frames := 0, cells := 0, slots := 0, locals := 0 } : Room).cells ({ frames := 0, cells := 0, slots := 0, locals := 0 } : Room).slots) := by
  refine MetFree.of_bodySF (plainFor_of_name pn_0) hisR ?_
  intro p e s m args below meth c s₁ Bd hml0 hP hK
  obtain ⟨rfl, hZ, hh⟩ := hP
  have hx := Bd.exec
  have hby := Bd.bytes
  have hml : c.maxLocals = 1 := hml0
  have hown : s.vm.findClass "com/example/collector_urchin/collectorurchin/store/Space" = some m.cls := findClass_of_methodNamed Bd.named
  have hnm := (name_of_methodNamed Bd.named Bd.method).1
  have X0 : Stand p l e ({ frames := 0, cells := 0, slots := 0, locals := 0 } : Room) s m #[(.ref o0)] below meth c s₁ [] 0 0 := Stand.of_body Bd
  have e0 : s₁.heap = h0 := by rw [← hh, Bd.state]; rfl
  have N0 := Fr.nil n0
  have hret := Bd.returns
  have hlk := BodyLoose.notSynchronized Bd
  show own_Out p e below (fun o U' => ∃ v L, o = .returned v ∧ Q1 Z o0 w h0 n0 v U'.heap L ∧ FrameEnd s o U' L ({ frames := 0, cells := 0, slots := 0, locals := 0 } : Room).cells ({ frames := 0, cells := 0, slots := 0, locals := 0 } : Room).slots) (s₁.setTop (entryFrame m #[(.ref o0)] 1))
  refine own_of (fun t k => castTop (ef_1 m o0) k) ?_
  show own_Out p e below _ (s₁.setTop (mkF m 0 #[.val (.ref o0)] []))
  refine own_of (fun _ k => XS.aloadN X0.here hx rfl (hb hby d1_0) rfl rfl k) ?_
  show own_Out p e below _ (s₁.setTop (mkF m 1 #[.val (.ref o0)] [(.ref o0)]))
  obtain ⟨T1, X1, e1, st1⟩ := getF X0 hx hZ hown (host := "") (Or.inl (hw _ (List.mem_of_getElem? (i := 8) rfl))) Via.refl e0 F (g := (mkF m 1 #[.val (.ref o0)] [(.ref o0)])) rfl rfl (hb hby d1_1)
  refine own_of st1 ?_
  show own_Out p e below _ (T1.setTop (mkF m 4 #[.val (.ref o0)] [(.long w)]))
  refine own_of (fun _ k => XS.lconst X1.here hx rfl (hb hby d1_4) k) ?_
  show own_Out p e below _ (T1.setTop (mkF m 5 #[.val (.ref o0)] [(.long (0 : Int64)), (.long w)]))
  refine own_of (fun _ k => XS.lcmp X1.here hx rfl (hb hby d1_5) rfl k) ?_
  show own_Out p e below _ (T1.setTop (mkF m 6 #[.val (.ref o0)] [(.int (lcmpW w (0 : Int64)))]))
  by_cases hc6_2 : (0 : Int64) < w
  · skip
    refine own_of (fun _ k => XS.ifNo X1.here hx rfl (hb hby d1_6) rfl (own_ltlt hc6_2).2.2.2 k) ?_
    show own_Out p e below _ (T1.setTop (mkF m 9 #[.val (.ref o0)] []))
    refine own_of (fun _ k => XS.iconst X1.here hx rfl (hb hby d1_9) k) ?_
    show own_Out p e below _ (T1.setTop (mkF m 10 #[.val (.ref o0)] [(.int (1 : Int32))]))
    refine own_of (fun _ k => XS.goto X1.here hx rfl (pc0 := 10) (pc' := 14) rfl (hb hby d1_10) (by decide) (by decide) k) ?_
    show own_Out p e below _ (T1.setTop (mkF m 14 #[.val (.ref o0)] [(.int (1 : Int32))]))
    exact own_outN X1 hx hlk (t := .boolean) hret (by simp) (hb hby d1_14) (z' := (1 : Int32)) rfl (Q := Q1 Z o0 w h0 n0) ⟨by simp only [f1, if_pos hc6_2], N0, e1⟩ (by decide) (by decide)
  · skip
    refine own_of (fun _ k => XS.ifYes X1.here hx rfl (pc0 := 6) (pc' := 13) rfl (hb hby d1_6) rfl (own_lflt hc6_2).2.2.2 (by decide) (by decide) k) ?_
    show own_Out p e below _ (T1.setTop (mkF m 13 #[.val (.ref o0)] []))
    refine own_of (fun _ k => XS.iconst X1.here hx rfl (hb hby d1_13) k) ?_
    show own_Out p e below _ (T1.setTop (mkF m 14 #[.val (.ref o0)] [(.int (0 : Int32))]))
    exact own_outN X1 hx hlk (t := .boolean) hret (by simp) (hb hby d1_14) (z' := (0 : Int32)) rfl (Q := Q1 Z o0 w h0 n0) ⟨by simp only [f1, if_neg hc6_2], N0, e1⟩ (by decide) (by decide)
theorem d3_0 : decode jdk_29_method_49_code 0 = .ok (.lload_n 0, 1) := by decide +kernel
theorem d3_1 : decode jdk_29_method_49_code 1 = .ok (.lload_n 2, 1) := by decide +kernel
theorem d3_2 : decode jdk_29_method_49_code 2 = .ok (.ldiv, 1) := by decide +kernel
theorem d3_3 : decode jdk_29_method_49_code 3 = .ok (.lstore 4, 2) := by decide +kernel
theorem d3_5 : decode jdk_29_method_49_code 5 = .ok (.lload_n 0, 1) := by decide +kernel
theorem d3_6 : decode jdk_29_method_49_code 6 = .ok (.lload_n 2, 1) := by decide +kernel
theorem d3_7 : decode jdk_29_method_49_code 7 = .ok (.lxor, 1) := by decide +kernel
theorem d3_8 : decode jdk_29_method_49_code 8 = .ok (.lconst 0, 1) := by decide +kernel
theorem d3_9 : decode jdk_29_method_49_code 9 = .ok (.lcmp, 1) := by decide +kernel
theorem d3_10 : decode jdk_29_method_49_code 10 = .ok (.ifCond .ge 17, 3) := by decide +kernel
theorem d3_13 : decode jdk_29_method_49_code 13 = .ok (.lload 4, 2) := by decide +kernel
theorem d3_15 : decode jdk_29_method_49_code 15 = .ok (.lload_n 2, 1) := by decide +kernel
theorem d3_16 : decode jdk_29_method_49_code 16 = .ok (.lmul, 1) := by decide +kernel
theorem d3_17 : decode jdk_29_method_49_code 17 = .ok (.lload_n 0, 1) := by decide +kernel
theorem d3_18 : decode jdk_29_method_49_code 18 = .ok (.lcmp, 1) := by decide +kernel
theorem d3_19 : decode jdk_29_method_49_code 19 = .ok (.ifCond .eq 8, 3) := by decide +kernel
theorem d3_22 : decode jdk_29_method_49_code 22 = .ok (.lload 4, 2) := by decide +kernel
theorem d3_24 : decode jdk_29_method_49_code 24 = .ok (.lconst 1, 1) := by decide +kernel
theorem d3_25 : decode jdk_29_method_49_code 25 = .ok (.lsub, 1) := by decide +kernel
theorem d3_26 : decode jdk_29_method_49_code 26 = .ok (.lreturn, 1) := by decide +kernel
theorem d3_27 : decode jdk_29_method_49_code 27 = .ok (.lload 4, 2) := by decide +kernel
theorem d3_29 : decode jdk_29_method_49_code 29 = .ok (.lreturn, 1) := by decide +kernel
theorem ef_3 (m : MethodId) (x0 : Int64) (x1 : Int64) : entryFrame m #[(.long x0), (.long x1)] 6 = mkF m 0 #[.val (.long x0), .second, .val (.long x1), .second, .unset, .unset] [] := by first | (simp [entryFrame, mkF, argsToLocals, Value.category]; done) | rfl
def f3 (q0 : Int64) (q1 : Int64) : Int64 := if (q0 ^^^ q1) < (0 : Int64) then (if ((q0 / q1) * q1) = q0 then (q0 / q1)
    else ((q0 / q1) - (1 : Int64)))
  else (q0 / q1)
def Q3 (Z : State) (q0 : Int64) (q1 : Int64) (h0 : Heap) (n0 : Nat) (v : Option Value) (h : Heap) (L : List Loc) : Prop := v = some (.long (f3 q0 q1)) ∧ Fr n0 L ∧ h = h0
set_option maxRecDepth 65536 in
set_option maxHeartbeats 40000000 in
theorem rm3 (l : Launch) (Z : State) (a0 : Array Value) (hw : ∀ d ∈ tables_1, d.before a0 Z = true) (ws : List Jvm.Cond) (q0 : Int64) (q1 : Int64) (h0 : Heap) (n0 : Nat) (Z0 : n0 ≤ h0.size) (nz : q1 ≠ 0) :
    MetFree l (⟨"java/lang/Math", "floorDiv", "(JJ)J"⟩ : MethodName) (head1 (Jvm.Cond.code (⟨"java/lang/Math", "floorDiv", "(JJ)J"⟩ : MethodName) jdk_29_method_49_code 6 (some .long) :: ws) ({ frames := 0, cells := 0, slots := 0, locals := 0 } : Room)) (fun a U => a = #[(.long q0), (.long q1)] ∧ Z.Warmed39 U.vm ∧ U.heap = h0) (fun _ _ _ _ _ => True) (fun _ U o U' => ∃ v L, o = .returned v ∧ Q3 Z q0 q1 h0 n0 v U'.heap L ∧ FrameEnd U o U' L ({ frames := 0, cells := 0, slots := 0, locals := 0 } : Room).cells ({ frames := 0, cells := 0, slots := 0, locals := 0 } : Room).slots) := by
  refine MetFree.of_bodySF (Jvm.Free.JP.mathPlain rfl (by decide +kernel)) hisR ?_
  intro p e s m args below meth c s₁ Bd hml0 hP hK
  obtain ⟨rfl, hZ, hh⟩ := hP
  have hx := Bd.exec
  have hby := Bd.bytes
  have hml : c.maxLocals = 6 := hml0
  have hown : s.vm.findClass "java/lang/Math" = some m.cls := findClass_of_methodNamed Bd.named
  have hnm := (name_of_methodNamed Bd.named Bd.method).1
  have X0 : Stand p l e ({ frames := 0, cells := 0, slots := 0, locals := 0 } : Room) s m #[(.long q0), (.long q1)] below meth c s₁ [] 0 0 := Stand.of_body Bd
  have e0 : s₁.heap = h0 := by rw [← hh, Bd.state]; rfl
  have N0 := Fr.nil n0
  have hret := Bd.returns
  have hlk := BodyLoose.notSynchronized Bd
  show own_Out p e below (fun o U' => ∃ v L, o = .returned v ∧ Q3 Z q0 q1 h0 n0 v U'.heap L ∧ FrameEnd s o U' L ({ frames := 0, cells := 0, slots := 0, locals := 0 } : Room).cells ({ frames := 0, cells := 0, slots := 0, locals := 0 } : Room).slots) (s₁.setTop (entryFrame m #[(.long q0), (.long q1)] 6))
  refine own_of (fun t k => castTop (ef_3 m q0 q1) k) ?_
  show own_Out p e below _ (s₁.setTop (mkF m 0 #[.val (.long q0), .second, .val (.long q1), .second, .unset, .unset] []))
  refine own_of (fun _ k => XS.lloadN X0.here hx rfl (hb hby d3_0) rfl k) ?_
  show own_Out p e below _ (s₁.setTop (mkF m 1 #[.val (.long q0), .second, .val (.long q1), .second, .unset, .unset] [(.long q0)]))
  refine own_of (fun _ k => XS.lloadN X0.here hx rfl (hb hby d3_1) rfl k) ?_
  show own_Out p e below _ (s₁.setTop (mkF m 2 #[.val (.long q0), .second, .val (.long q1), .second, .unset, .unset] [(.long q1), (.long q0)]))
  refine own_of (fun _ k => XS.ldiv X0.here hx rfl (hb hby d3_2) rfl nz k) ?_
  show own_Out p e below _ (s₁.setTop (mkF m 3 #[.val (.long q0), .second, .val (.long q1), .second, .unset, .unset] [(.long (q0 / q1))]))
  refine own_of (fun _ k => XS.lstore X0.here hx rfl (hb hby d3_3) rfl (l' := #[.val (.long q0), .second, .val (.long q1), .second, .val (.long (q0 / q1)), .second]) rfl k) ?_
  show own_Out p e below _ (s₁.setTop (mkF m 5 #[.val (.long q0), .second, .val (.long q1), .second, .val (.long (q0 / q1)), .second] []))
  refine own_of (fun _ k => XS.lloadN X0.here hx rfl (hb hby d3_5) rfl k) ?_
  show own_Out p e below _ (s₁.setTop (mkF m 6 #[.val (.long q0), .second, .val (.long q1), .second, .val (.long (q0 / q1)), .second] [(.long q0)]))
  refine own_of (fun _ k => XS.lloadN X0.here hx rfl (hb hby d3_6) rfl k) ?_
  show own_Out p e below _ (s₁.setTop (mkF m 7 #[.val (.long q0), .second, .val (.long q1), .second, .val (.long (q0 / q1)), .second] [(.long q1), (.long q0)]))
  refine own_of (fun _ k => XS.lxor X0.here hx rfl (hb hby d3_7) rfl k) ?_
  show own_Out p e below _ (s₁.setTop (mkF m 8 #[.val (.long q0), .second, .val (.long q1), .second, .val (.long (q0 / q1)), .second] [(.long (q0 ^^^ q1))]))
  refine own_of (fun _ k => XS.lconst X0.here hx rfl (hb hby d3_8) k) ?_
  show own_Out p e below _ (s₁.setTop (mkF m 9 #[.val (.long q0), .second, .val (.long q1), .second, .val (.long (q0 / q1)), .second] [(.long (0 : Int64)), (.long (q0 ^^^ q1))]))
  refine own_of (fun _ k => XS.lcmp X0.here hx rfl (hb hby d3_9) rfl k) ?_
  show own_Out p e below _ (s₁.setTop (mkF m 10 #[.val (.long q0), .second, .val (.long q1), .second, .val (.long (q0 / q1)), .second] [(.int (lcmpW (q0 ^^^ q1) (0 : Int64)))]))
  by_cases hc10_1 : (q0 ^^^ q1) < (0 : Int64)
  · skip
    refine own_of (fun _ k => XS.ifNo X0.here hx rfl (hb hby d3_10) rfl (own_ltlt hc10_1).2.1 k) ?_
    show own_Out p e below _ (s₁.setTop (mkF m 13 #[.val (.long q0), .second, .val (.long q1), .second, .val (.long (q0 / q1)), .second] []))
    refine own_of (fun _ k => XS.lload X0.here hx rfl (hb hby d3_13) rfl k) ?_
    show own_Out p e below _ (s₁.setTop (mkF m 15 #[.val (.long q0), .second, .val (.long q1), .second, .val (.long (q0 / q1)), .second] [(.long (q0 / q1))]))
    refine own_of (fun _ k => XS.lloadN X0.here hx rfl (hb hby d3_15) rfl k) ?_
    show own_Out p e below _ (s₁.setTop (mkF m 16 #[.val (.long q0), .second, .val (.long q1), .second, .val (.long (q0 / q1)), .second] [(.long q1), (.long (q0 / q1))]))
    refine own_of (fun _ k => XS.lmul X0.here hx rfl (hb hby d3_16) rfl k) ?_
    show own_Out p e below _ (s₁.setTop (mkF m 17 #[.val (.long q0), .second, .val (.long q1), .second, .val (.long (q0 / q1)), .second] [(.long ((q0 / q1) * q1))]))
    refine own_of (fun _ k => XS.lloadN X0.here hx rfl (hb hby d3_17) rfl k) ?_
    show own_Out p e below _ (s₁.setTop (mkF m 18 #[.val (.long q0), .second, .val (.long q1), .second, .val (.long (q0 / q1)), .second] [(.long q0), (.long ((q0 / q1) * q1))]))
    refine own_of (fun _ k => XS.lcmp X0.here hx rfl (hb hby d3_18) rfl k) ?_
    show own_Out p e below _ (s₁.setTop (mkF m 19 #[.val (.long q0), .second, .val (.long q1), .second, .val (.long (q0 / q1)), .second] [(.int (lcmpW ((q0 / q1) * q1) q0))]))
    by_cases hc19_2 : ((q0 / q1) * q1) = q0
    · skip
      refine own_of (fun _ k => XS.ifYes X0.here hx rfl (pc0 := 19) (pc' := 27) rfl (hb hby d3_19) rfl (own_leq hc19_2).1 (by decide) (by decide) k) ?_
      show own_Out p e below _ (s₁.setTop (mkF m 27 #[.val (.long q0), .second, .val (.long q1), .second, .val (.long (q0 / q1)), .second] []))
      refine own_of (fun _ k => XS.lload X0.here hx rfl (hb hby d3_27) rfl k) ?_
      show own_Out p e below _ (s₁.setTop (mkF m 29 #[.val (.long q0), .second, .val (.long q1), .second, .val (.long (q0 / q1)), .second] [(.long (q0 / q1))]))
      exact own_outL X0 hx hlk hret (hb hby d3_29) (Q := Q3 Z q0 q1 h0 n0) ⟨by simp only [f3, if_pos hc10_1, if_pos hc19_2], N0, e0⟩ (by decide) (by decide)
    · skip
      refine own_of (fun _ k => XS.ifNo X0.here hx rfl (hb hby d3_19) rfl (own_lfeq hc19_2).1 k) ?_
      show own_Out p e below _ (s₁.setTop (mkF m 22 #[.val (.long q0), .second, .val (.long q1), .second, .val (.long (q0 / q1)), .second] []))
      refine own_of (fun _ k => XS.lload X0.here hx rfl (hb hby d3_22) rfl k) ?_
      show own_Out p e below _ (s₁.setTop (mkF m 24 #[.val (.long q0), .second, .val (.long q1), .second, .val (.long (q0 / q1)), .second] [(.long (q0 / q1))]))
      refine own_of (fun _ k => XS.lconst X0.here hx rfl (hb hby d3_24) k) ?_
      show own_Out p e below _ (s₁.setTop (mkF m 25 #[.val (.long q0), .second, .val (.long q1), .second, .val (.long (q0 / q1)), .second] [(.long (1 : Int64)), (.long (q0 / q1))]))
      refine own_of (fun _ k => XS.lsub X0.here hx rfl (hb hby d3_25) rfl k) ?_
      show own_Out p e below _ (s₁.setTop (mkF m 26 #[.val (.long q0), .second, .val (.long q1), .second, .val (.long (q0 / q1)), .second] [(.long ((q0 / q1) - (1 : Int64)))]))
      exact own_outL X0 hx hlk hret (hb hby d3_26) (Q := Q3 Z q0 q1 h0 n0) ⟨by simp only [f3, if_pos hc10_1, if_neg hc19_2], N0, e0⟩ (by decide) (by decide)
  · skip
    refine own_of (fun _ k => XS.ifYes X0.here hx rfl (pc0 := 10) (pc' := 27) rfl (hb hby d3_10) rfl (own_lflt hc10_1).2.1 (by decide) (by decide) k) ?_
    show own_Out p e below _ (s₁.setTop (mkF m 27 #[.val (.long q0), .second, .val (.long q1), .second, .val (.long (q0 / q1)), .second] []))
    refine own_of (fun _ k => XS.lload X0.here hx rfl (hb hby d3_27) rfl k) ?_
    show own_Out p e below _ (s₁.setTop (mkF m 29 #[.val (.long q0), .second, .val (.long q1), .second, .val (.long (q0 / q1)), .second] [(.long (q0 / q1))]))
    exact own_outL X0 hx hlk hret (hb hby d3_29) (Q := Q3 Z q0 q1 h0 n0) ⟨by simp only [f3, if_neg hc10_1], N0, e0⟩ (by decide) (by decide)
theorem own_nz {w : Int64} (h : ¬ ((f1 w) = (0 : Int32))) : w ≠ 0 := fun q => by subst q; exact h (by decide)
theorem pd_0 : parseMethodDescriptor "()Z" = some ⟨[], some .boolean⟩ := by decide +kernel
theorem pd_1 : parseMethodDescriptor "(JJ)J" = some ⟨[.long, .long], some .long⟩ := by decide +kernel
theorem d2_0 : decode prog_21_method_5_code 0 = .ok (.aload_n 0, 1) := by decide +kernel
theorem d2_1 : decode prog_21_method_5_code 1 = .ok (.invokevirtual 55, 3) := by decide +kernel
theorem d2_4 : decode prog_21_method_5_code 4 = .ok (.ifCond .eq 14, 3) := by decide +kernel
theorem d2_7 : decode prog_21_method_5_code 7 = .ok (.lload_n 1, 1) := by decide +kernel
theorem d2_8 : decode prog_21_method_5_code 8 = .ok (.aload_n 0, 1) := by decide +kernel
theorem d2_9 : decode prog_21_method_5_code 9 = .ok (.getfield 33, 3) := by decide +kernel
theorem d2_12 : decode prog_21_method_5_code 12 = .ok (.invokestatic 59, 3) := by decide +kernel
theorem d2_15 : decode prog_21_method_5_code 15 = .ok (.goto 4, 3) := by decide +kernel
theorem d2_18 : decode prog_21_method_5_code 18 = .ok (.lconst 1, 1) := by decide +kernel
theorem d2_19 : decode prog_21_method_5_code 19 = .ok (.lreturn, 1) := by decide +kernel
theorem ef_2 (m : MethodId) (x0 : Addr) (x1 : Int64) : entryFrame m #[(.ref x0), (.long x1)] 3 = mkF m 0 #[.val (.ref x0), .val (.long x1), .second] [] := by first | (simp [entryFrame, mkF, argsToLocals, Value.category]; done) | rfl
def f2 (q1 : Int64) (w : Int64) : Int64 := if (f1 w) = (0 : Int32) then (1 : Int64)
  else (f3 q1 w)
def Q2 (Z : State) (o0 : Addr) (q1 : Int64) (w : Int64) (h0 : Heap) (n0 : Nat) (v : Option Value) (h : Heap) (L : List Loc) : Prop := v = some (.long (f2 q1 w)) ∧ Fr n0 L ∧ h = h0
set_option maxRecDepth 65536 in
set_option maxHeartbeats 40000000 in
theorem rm2 (l : Launch) (Z : State) (a0 : Array Value) (hw : ∀ d ∈ tables_1, d.before a0 Z = true) (ws : List Jvm.Cond) (o0 : Addr) (q1 : Int64) (w : Int64) (h0 : Heap) (n0 : Nat) (Z0 : n0 ≤ h0.size) (E : Exa Z h0 o0 "com/example/collector_urchin/collectorurchin/store/Space") (F : Fld Z h0 o0 "com/example/collector_urchin/collectorurchin/store/Space" "millisPerVersion" "J" (.long w)) :
    MetFree l (⟨"com/example/collector_urchin/collectorurchin/store/Space", "leastVersion", "(J)J"⟩ : MethodName) (head1 (Jvm.Cond.code (⟨"com/example/collector_urchin/collectorurchin/store/Space", "leastVersion", "(J)J"⟩ : MethodName) prog_21_method_5_code 3 (some .long) :: ws) ({ frames := 1, cells := 0, slots := 0, locals := 17 } : Room)) (fun a U => a = #[(.ref o0), (.long q1)] ∧ Z.Warmed39 U.vm ∧ U.heap = h0) (fun _ _ _ _ _ => True) (fun _ U o U' => ∃ v L, o = .returned v ∧ Q2 Z o0 q1 w h0 n0 v U'.heap L ∧ FrameEnd U o U' L ({ frames := 1, cells := 0, slots := 0, locals := 17 } : Room).cells ({ frames := 1, cells := 0, slots := 0, locals := 17 } : Room).slots) := by
  refine MetFree.of_bodySF (plainFor_of_name pn_0) hisR ?_
  intro p e s m args below meth c s₁ Bd hml0 hP hK
  obtain ⟨rfl, hZ, hh⟩ := hP
  have hx := Bd.exec
  have hby := Bd.bytes
  have hml : c.maxLocals = 3 := hml0
  have hown : s.vm.findClass "com/example/collector_urchin/collectorurchin/store/Space" = some m.cls := findClass_of_methodNamed Bd.named
  have hnm := (name_of_methodNamed Bd.named Bd.method).1
  have X0 : Stand p l e ({ frames := 1, cells := 0, slots := 0, locals := 17 } : Room) s m #[(.ref o0), (.long q1)] below meth c s₁ [] 0 0 := Stand.of_body Bd
  have e0 : s₁.heap = h0 := by rw [← hh, Bd.state]; rfl
  have N0 := Fr.nil n0
  have hret := Bd.returns
  have hlk := BodyLoose.notSynchronized Bd
  show own_Out p e below (fun o U' => ∃ v L, o = .returned v ∧ Q2 Z o0 q1 w h0 n0 v U'.heap L ∧ FrameEnd s o U' L ({ frames := 1, cells := 0, slots := 0, locals := 17 } : Room).cells ({ frames := 1, cells := 0, slots := 0, locals := 17 } : Room).slots) (s₁.setTop (entryFrame m #[(.ref o0), (.long q1)] 3))
  refine own_of (fun t k => castTop (ef_2 m o0 q1) k) ?_
  show own_Out p e below _ (s₁.setTop (mkF m 0 #[.val (.ref o0), .val (.long q1), .second] []))
  refine own_of (fun _ k => XS.aloadN X0.here hx rfl (hb hby d2_0) rfl rfl k) ?_
  show own_Out p e below _ (s₁.setTop (mkF m 1 #[.val (.ref o0), .val (.long q1), .second] [(.ref o0)]))
  obtain ⟨cq1, kq1, q1a, q1b, q1c⟩ := isOf hZ e0 E
  obtain ⟨_, _, ⟨T1, L1, k1, n1⟩, -, X1, ⟨Lc1, hQ1, l1, y1, z1⟩, st1⟩ := X0.virtualBack hx (y := (⟨"com/example/collector_urchin/collectorurchin/store/Space", "isTimed", "()Z"⟩ : MethodName)) (z := (⟨"com/example/collector_urchin/collectorurchin/store/Space", "isTimed", "()Z"⟩ : MethodName)) hown (mvT hZ (hw _ (List.mem_of_getElem? (i := 15) rfl))) (mvT hZ (hw _ (List.mem_of_getElem? (i := 4) rfl))) (notFace_of_selects (args := #[]) (mvT hZ (hw _ (List.mem_of_getElem? (i := 6) rfl)))) (mvT hZ (hw _ (List.mem_of_getElem? (i := 6) rfl))) (mvT hZ (hw _ (List.mem_of_getElem? (i := 5) rfl))) (by decide) (backOf (W := 0) (rm1 l Z a0 hw [] o0 w h0 n0 Z0 E F) hZ (hw _ (List.mem_of_getElem? (i := 7) rfl)) (hw _ (List.mem_of_getElem? (i := 1) rfl)) (by decide) (by decide)) q1a q1c (g := (mkF m 1 #[.val (.ref o0), .val (.long q1), .second] [(.ref o0)])) rfl (by rw [hml]; rfl) (Steps.refl _) (argsL := []) (rest := []) (lenOf pd_0 rfl) rfl (by show 2 * 0 + _ ≤ _; exact Nat.le_of_eq rfl) (hb hby d2_1) (fun _ _ => ⟨rfl, e0, (by decide : 0 + 0 ≤ _), (by decide : 0 + 0 ≤ _)⟩)
  dsimp only [Pt.U, Pt.locs, Pt.cells, Pt.slots] at X1 l1 y1 z1 st1 hQ1
  subst l1 y1 z1
  obtain ⟨rfl, N1q, hh1⟩ := hQ1
  have N1 := Fr.app N0 N1q
  refine own_of (fun _ k => st1.trans k) ?_
  show own_Out p e below _ (T1.setTop (mkF m 4 #[.val (.ref o0), .val (.long q1), .second] [(.int (f1 w))]))
  by_cases hc4_2 : (f1 w) = (0 : Int32)
  · skip
    refine own_of (fun _ k => XS.ifYes X1.here hx rfl (pc0 := 4) (pc' := 18) rfl (hb hby d2_4) rfl ((if0 _ _).trans (teq hc4_2).1) (by decide) (by decide) k) ?_
    show own_Out p e below _ (T1.setTop (mkF m 18 #[.val (.ref o0), .val (.long q1), .second] []))
    refine own_of (fun _ k => XS.lconst X1.here hx rfl (hb hby d2_18) k) ?_
    show own_Out p e below _ (T1.setTop (mkF m 19 #[.val (.ref o0), .val (.long q1), .second] [(.long (1 : Int64))]))
    exact own_outL X1 hx hlk hret (hb hby d2_19) (Q := Q2 Z o0 q1 w h0 n0) ⟨by simp only [f2, if_pos hc4_2], N1, hh1⟩ (by decide) (by decide)
  · skip
    refine own_of (fun _ k => XS.ifNo X1.here hx rfl (hb hby d2_4) rfl ((if0 _ _).trans (feq hc4_2).1) k) ?_
    show own_Out p e below _ (T1.setTop (mkF m 7 #[.val (.ref o0), .val (.long q1), .second] []))
    refine own_of (fun _ k => XS.lloadN X1.here hx rfl (hb hby d2_7) rfl k) ?_
    show own_Out p e below _ (T1.setTop (mkF m 8 #[.val (.ref o0), .val (.long q1), .second] [(.long q1)]))
    refine own_of (fun _ k => XS.aloadN X1.here hx rfl (hb hby d2_8) rfl rfl k) ?_
    show own_Out p e below _ (T1.setTop (mkF m 9 #[.val (.ref o0), .val (.long q1), .second] [(.ref o0), (.long q1)]))
    obtain ⟨T3, X3, e3, st3⟩ := getF X1 hx hZ hown (host := "") (Or.inl (hw _ (List.mem_of_getElem? (i := 8) rfl))) Via.refl hh1 F (g := (mkF m 9 #[.val (.ref o0), .val (.long q1), .second] [(.ref o0), (.long q1)])) rfl rfl (hb hby d2_9)
    refine own_of st3 ?_
    show own_Out p e below _ (T3.setTop (mkF m 12 #[.val (.ref o0), .val (.long q1), .second] [(.long w), (.long q1)]))
    obtain ⟨_, _, ⟨T4, L4, k4, n4⟩, -, X4, ⟨Lc4, hQ4, l4, y4, z4⟩, st4⟩ := Jvm.LawKit.callS X3 hx (y := (⟨"java/lang/Math", "floorDiv", "(JJ)J"⟩ : MethodName)) hown (mvT hZ (hw _ (List.mem_of_getElem? (i := 19) rfl))) (mvT hZ (hw _ (List.mem_of_getElem? (i := 20) rfl))) (mvT hZ (hw _ (List.mem_of_getElem? (i := 21) rfl))) (mvT hZ (hw _ (List.mem_of_getElem? (i := 22) rfl))) (by decide) (backOf (W := 0) (rm3 l Z a0 hw [] q1 w h0 n0 Z0 (own_nz hc4_2)) hZ (hw _ (List.mem_of_getElem? (i := 22) rfl)) (hw _ (List.mem_of_getElem? (i := 21) rfl)) (by decide) (by decide)) (g := (mkF m 12 #[.val (.ref o0), .val (.long q1), .second] [(.long w), (.long q1)])) rfl (by rw [hml]; rfl) (argsL := [(.long q1), (.long w)]) (rest := []) (lenOf pd_1 rfl) rfl (by show 2 * 0 + _ ≤ _; exact Nat.le_of_eq rfl) (hb hby d2_12) (fun _ _ => ⟨rfl, e3, (by decide : 0 + 0 ≤ _), (by decide : 0 + 0 ≤ _)⟩)
    dsimp only [Pt.U, Pt.locs, Pt.cells, Pt.slots] at X4 l4 y4 z4 st4 hQ4
    subst l4 y4 z4
    obtain ⟨rfl, N4q, hh4⟩ := hQ4
    have N4 := Fr.app N1 N4q
    refine own_of st4 ?_
    show own_Out p e below _ (T4.setTop (mkF m 15 #[.val (.ref o0), .val (.long q1), .second] [(.long (f3 q1 w))]))
    refine own_of (fun _ k => XS.goto X4.here hx rfl (pc0 := 15) (pc' := 19) rfl (hb hby d2_15) (by decide) (by decide) k) ?_
    show own_Out p e below _ (T4.setTop (mkF m 19 #[.val (.ref o0), .val (.long q1), .second] [(.long (f3 q1 w))]))
    exact own_outL X4 hx hlk hret (hb hby d2_19) (Q := Q2 Z o0 q1 w h0 n0) ⟨by simp only [f2, if_neg hc4_2], N4, hh4⟩ (by decide) (by decide)
theorem pd_2 : parseMethodDescriptor "(J)J" = some ⟨[.long], some .long⟩ := by decide +kernel
theorem pn_1 : plainName "com/example/collector_urchin/collectorurchin/store/SpaceIsTimedPinLaw" = true := by first | (simp [plainName, overriddenIn]; done) | decide +kernel
theorem ef_0 (m : MethodId) (x0 : Int32) (x1 : Int64) : entryFrame m #[(.int x0), (.long x1)] maxLocals = mkF m 0 #[.val (.int x0), .val (.long x1), .second, .unset, .unset, .unset] [] := by first | (simp [entryFrame, mkF, argsToLocals, Value.category, maxLocals]; done) | rfl
def Q0 (Z : State) (p0 : Int32) (q1 : Int64) (w_COUNTED : Addr) (w_HUNDREDTHS : Addr) (h0 : Heap) (n0 : Nat) (v : Option Value) (h : Heap) (L : List Loc) : Prop := v = some (.int 1) ∧ Fr n0 L
set_option maxRecDepth 65536 in
set_option maxHeartbeats 40000000 in
theorem rm0 (l : Launch) (Z : State) (a0 : Array Value) (hw : ∀ d ∈ tables_1, d.before a0 Z = true) (ws : List Jvm.Cond) (p0 : Int32) (q1 : Int64) (w_COUNTED : Addr) (w_HUNDREDTHS : Addr) (h0 : Heap) (n0 : Nat) (Z0 : n0 ≤ h0.size) (S_w_COUNTED : Sta Z h0 "com/example/collector_urchin/collectorurchin/store/Space" "COUNTED" "Lcom/example/collector_urchin/collectorurchin/store/Space;" (.ref w_COUNTED)) (E_w_COUNTED : Exa Z h0 w_COUNTED "com/example/collector_urchin/collectorurchin/store/Space") (F_w_COUNTED : Fld Z h0 w_COUNTED "com/example/collector_urchin/collectorurchin/store/Space" "millisPerVersion" "J" (.long (0 : Int64))) (S_w_HUNDREDTHS : Sta Z h0 "com/example/collector_urchin/collectorurchin/store/Space" "HUNDREDTHS" "Lcom/example/collector_urchin/collectorurchin/store/Space;" (.ref w_HUNDREDTHS)) (E_w_HUNDREDTHS : Exa Z h0 w_HUNDREDTHS "com/example/collector_urchin/collectorurchin/store/Space") (F_w_HUNDREDTHS : Fld Z h0 w_HUNDREDTHS "com/example/collector_urchin/collectorurchin/store/Space" "millisPerVersion" "J" (.long (10 : Int64))) :
    MetFree l x (head1 (Jvm.Cond.code x code maxLocals ret :: ws) room_1) (fun a U => a = #[(.int p0), (.long q1)] ∧ Z.Warmed39 U.vm ∧ U.heap = h0) (fun _ _ _ _ _ => True) (fun _ U o U' => ∃ v L, o = .returned v ∧ Q0 Z p0 q1 w_COUNTED w_HUNDREDTHS h0 n0 v U'.heap L ∧ FrameEnd U o U' L 0 0) := by
  refine MetFree.of_bodySF (plainFor_of_name pn_1) hisR ?_
  intro p e s m args below meth c s₁ Bd hml0 hP hK
  obtain ⟨rfl, hZ, hh⟩ := hP
  have hx := Bd.exec
  have hby := Bd.bytes
  have hml : c.maxLocals = 6 := hml0
  have hown : s.vm.findClass "com/example/collector_urchin/collectorurchin/store/SpaceIsTimedPinLaw" = some m.cls := findClass_of_methodNamed Bd.named
  have hnm := (name_of_methodNamed Bd.named Bd.method).1
  have X0 : Stand p l e room_1 s m #[(.int p0), (.long q1)] below meth c s₁ [] 0 0 := Stand.of_body Bd
  have e0 : s₁.heap = h0 := by rw [← hh, Bd.state]; rfl
  have N0 := Fr.nil n0
  have hret := Bd.returns
  have hlk := BodyLoose.notSynchronized Bd
  show own_Out p e below (fun o U' => ∃ v L, o = .returned v ∧ Q0 Z p0 q1 w_COUNTED w_HUNDREDTHS h0 n0 v U'.heap L ∧ FrameEnd s o U' L 0 0) (s₁.setTop (entryFrame m #[(.int p0), (.long q1)] maxLocals))
  refine own_of (fun t k => castTop (ef_0 m p0 q1) k) ?_
  show own_Out p e below _ (s₁.setTop (mkF m 0 #[.val (.int p0), .val (.long q1), .second, .unset, .unset, .unset] []))
  refine own_of (fun _ k => XS.iloadN X0.here hx rfl (hb hby at_0) rfl k) ?_
  show own_Out p e below _ (s₁.setTop (mkF m 1 #[.val (.int p0), .val (.long q1), .second, .unset, .unset, .unset] [(.int p0)]))
  refine own_of (fun _ k => XS.iconst X0.here hx rfl (hb hby at_1) k) ?_
  show own_Out p e below _ (s₁.setTop (mkF m 2 #[.val (.int p0), .val (.long q1), .second, .unset, .unset, .unset] [(.int (1 : Int32)), (.int p0)]))
  refine own_of (fun _ k => XS.iand X0.here hx rfl (hb hby at_2) rfl k) ?_
  show own_Out p e below _ (s₁.setTop (mkF m 3 #[.val (.int p0), .val (.long q1), .second, .unset, .unset, .unset] [(.int (p0 &&& (1 : Int32)))]))
  by_cases hc3_1 : (p0 &&& (1 : Int32)) = (0 : Int32)
  · skip
    refine own_of (fun _ k => XS.ifYes X0.here hx rfl (pc0 := 3) (pc' := 10) rfl (hb hby at_3) rfl ((if0 _ _).trans (teq hc3_1).1) (by decide) (by decide) k) ?_
    show own_Out p e below _ (s₁.setTop (mkF m 10 #[.val (.int p0), .val (.long q1), .second, .unset, .unset, .unset] []))
    refine own_of (fun _ k => XS.iconst X0.here hx rfl (hb hby at_10) k) ?_
    show own_Out p e below _ (s₁.setTop (mkF m 11 #[.val (.int p0), .val (.long q1), .second, .unset, .unset, .unset] [(.int (0 : Int32))]))
    refine own_of (fun _ k => XS.istoreN X0.here hx rfl (hb hby at_11) rfl (l' := #[.val (.int p0), .val (.long q1), .second, .val (.int (0 : Int32)), .unset, .unset]) rfl k) ?_
    show own_Out p e below _ (s₁.setTop (mkF m 12 #[.val (.int p0), .val (.long q1), .second, .val (.int (0 : Int32)), .unset, .unset] []))
    refine own_of (fun _ k => XS.iloadN X0.here hx rfl (hb hby at_12) rfl k) ?_
    show own_Out p e below _ (s₁.setTop (mkF m 13 #[.val (.int p0), .val (.long q1), .second, .val (.int (0 : Int32)), .unset, .unset] [(.int (0 : Int32))]))
    refine own_of (fun _ k => XS.ifYes X0.here hx rfl (pc0 := 13) (pc' := 22) rfl (hb hby at_13) rfl ((if0 _ _).trans (teq (by decide : (0 : Int32) = (0 : Int32))).1) (by decide) (by decide) k) ?_
    show own_Out p e below _ (s₁.setTop (mkF m 22 #[.val (.int p0), .val (.long q1), .second, .val (.int (0 : Int32)), .unset, .unset] []))
    obtain ⟨T2, X2, e2, st2⟩ := getS2 X0 hx hZ hown (host := "") (Or.inl (hw _ (List.mem_of_getElem? (i := 0) rfl))) Via.refl e0 S_w_COUNTED (g := (mkF m 22 #[.val (.int p0), .val (.long q1), .second, .val (.int (0 : Int32)), .unset, .unset] [])) rfl (hb hby at_22)
    refine own_of st2 ?_
    show own_Out p e below _ (T2.setTop (mkF m 25 #[.val (.int p0), .val (.long q1), .second, .val (.int (0 : Int32)), .unset, .unset] [(.ref w_COUNTED)]))
    refine own_of (fun _ k => XS.astore X2.here hx rfl (hb hby at_25) rfl rfl (l' := #[.val (.int p0), .val (.long q1), .second, .val (.int (0 : Int32)), .val (.ref w_COUNTED), .unset]) rfl k) ?_
    show own_Out p e below _ (T2.setTop (mkF m 27 #[.val (.int p0), .val (.long q1), .second, .val (.int (0 : Int32)), .val (.ref w_COUNTED), .unset] []))
    refine own_of (fun _ k => XS.aload X2.here hx rfl (hb hby at_27) rfl rfl k) ?_
    show own_Out p e below _ (T2.setTop (mkF m 29 #[.val (.int p0), .val (.long q1), .second, .val (.int (0 : Int32)), .val (.ref w_COUNTED), .unset] [(.ref w_COUNTED)]))
    obtain ⟨cq3, kq3, q3a, q3b, q3c⟩ := isOf hZ e2 E_w_COUNTED
    obtain ⟨_, _, ⟨T3, L3, k3, n3⟩, -, X3, ⟨Lc3, hQ3, l3, y3, z3⟩, st3⟩ := X2.virtualBack hx (y := (⟨"com/example/collector_urchin/collectorurchin/store/Space", "isTimed", "()Z"⟩ : MethodName)) (z := (⟨"com/example/collector_urchin/collectorurchin/store/Space", "isTimed", "()Z"⟩ : MethodName)) hown (mvT hZ (hw _ (List.mem_of_getElem? (i := 3) rfl))) (mvT hZ (hw _ (List.mem_of_getElem? (i := 4) rfl))) (notFace_of_selects (args := #[]) (mvT hZ (hw _ (List.mem_of_getElem? (i := 6) rfl)))) (mvT hZ (hw _ (List.mem_of_getElem? (i := 6) rfl))) (mvT hZ (hw _ (List.mem_of_getElem? (i := 5) rfl))) (by decide) (backOf (W := 0) (rm1 l Z a0 hw [] w_COUNTED (0 : Int64) h0 n0 Z0 E_w_COUNTED F_w_COUNTED) hZ (hw _ (List.mem_of_getElem? (i := 7) rfl)) (hw _ (List.mem_of_getElem? (i := 1) rfl)) (by decide) (by decide)) q3a q3c (g := (mkF m 29 #[.val (.int p0), .val (.long q1), .second, .val (.int (0 : Int32)), .val (.ref w_COUNTED), .unset] [(.ref w_COUNTED)])) rfl (by rw [hml]; rfl) (Steps.refl _) (argsL := []) (rest := []) (lenOf pd_0 rfl) rfl (by show 2 * 0 + _ ≤ _; exact Nat.le_of_eq rfl) (hb hby at_29) (fun _ _ => ⟨rfl, e2, (by decide : 0 + 0 ≤ _), (by decide : 0 + 0 ≤ _)⟩)
    dsimp only [Pt.U, Pt.locs, Pt.cells, Pt.slots] at X3 l3 y3 z3 st3 hQ3
    subst l3 y3 z3
    obtain ⟨rfl, N3q, hh3⟩ := hQ3
    have N3 := Fr.app N0 N3q
    refine own_of (fun _ k => st3.trans k) ?_
    show own_Out p e below _ (T3.setTop (mkF m 32 #[.val (.int p0), .val (.long q1), .second, .val (.int (0 : Int32)), .val (.ref w_COUNTED), .unset] [(.int (f1 (0 : Int64)))]))
    refine own_of (fun _ k => XS.istore X3.here hx rfl (hb hby at_32) rfl (l' := #[.val (.int p0), .val (.long q1), .second, .val (.int (0 : Int32)), .val (.ref w_COUNTED), .val (.int (f1 (0 : Int64)))]) rfl k) ?_
    show own_Out p e below _ (T3.setTop (mkF m 34 #[.val (.int p0), .val (.long q1), .second, .val (.int (0 : Int32)), .val (.ref w_COUNTED), .val (.int (f1 (0 : Int64)))] []))
    refine own_of (fun _ k => XS.iload X3.here hx rfl (hb hby at_34) rfl k) ?_
    show own_Out p e below _ (T3.setTop (mkF m 36 #[.val (.int p0), .val (.long q1), .second, .val (.int (0 : Int32)), .val (.ref w_COUNTED), .val (.int (f1 (0 : Int64)))] [(.int (f1 (0 : Int64)))]))
    refine own_of (fun _ k => XS.iloadN X3.here hx rfl (hb hby at_36) rfl k) ?_
    show own_Out p e below _ (T3.setTop (mkF m 37 #[.val (.int p0), .val (.long q1), .second, .val (.int (0 : Int32)), .val (.ref w_COUNTED), .val (.int (f1 (0 : Int64)))] [(.int (0 : Int32)), (.int (f1 (0 : Int64)))]))
    refine own_of (fun _ k => XS.icmpYes X3.here hx rfl (pc0 := 37) (pc' := 42) rfl (hb hby at_37) rfl (teq (by decide : (f1 (0 : Int64)) = (0 : Int32))).1 (by decide) (by decide) k) ?_
    show own_Out p e below _ (T3.setTop (mkF m 42 #[.val (.int p0), .val (.long q1), .second, .val (.int (0 : Int32)), .val (.ref w_COUNTED), .val (.int (f1 (0 : Int64)))] []))
    refine own_of (fun _ k => XS.iload X3.here hx rfl (hb hby at_42) rfl k) ?_
    show own_Out p e below _ (T3.setTop (mkF m 44 #[.val (.int p0), .val (.long q1), .second, .val (.int (0 : Int32)), .val (.ref w_COUNTED), .val (.int (f1 (0 : Int64)))] [(.int (f1 (0 : Int64)))]))
    refine own_of (fun _ k => XS.ifNo X3.here hx rfl (hb hby at_44) rfl ((if0 _ _).trans (teq (by decide : (f1 (0 : Int64)) = (0 : Int32))).2) k) ?_
    show own_Out p e below _ (T3.setTop (mkF m 47 #[.val (.int p0), .val (.long q1), .second, .val (.int (0 : Int32)), .val (.ref w_COUNTED), .val (.int (f1 (0 : Int64)))] []))
    refine own_of (fun _ k => XS.aload X3.here hx rfl (hb hby at_47) rfl rfl k) ?_
    show own_Out p e below _ (T3.setTop (mkF m 49 #[.val (.int p0), .val (.long q1), .second, .val (.int (0 : Int32)), .val (.ref w_COUNTED), .val (.int (f1 (0 : Int64)))] [(.ref w_COUNTED)]))
    refine own_of (fun _ k => XS.lloadN X3.here hx rfl (hb hby at_49) rfl k) ?_
    show own_Out p e below _ (T3.setTop (mkF m 50 #[.val (.int p0), .val (.long q1), .second, .val (.int (0 : Int32)), .val (.ref w_COUNTED), .val (.int (f1 (0 : Int64)))] [(.long q1), (.ref w_COUNTED)]))
    obtain ⟨cq4, kq4, q4a, q4b, q4c⟩ := isOf hZ hh3 E_w_COUNTED
    obtain ⟨_, _, ⟨T4, L4, k4, n4⟩, -, X4, ⟨Lc4, hQ4, l4, y4, z4⟩, st4⟩ := X3.virtualBack hx (y := (⟨"com/example/collector_urchin/collectorurchin/store/Space", "leastVersion", "(J)J"⟩ : MethodName)) (z := (⟨"com/example/collector_urchin/collectorurchin/store/Space", "leastVersion", "(J)J"⟩ : MethodName)) hown (mvT hZ (hw _ (List.mem_of_getElem? (i := 10) rfl))) (mvT hZ (hw _ (List.mem_of_getElem? (i := 11) rfl))) (notFace_of_selects (args := #[]) (mvT hZ (hw _ (List.mem_of_getElem? (i := 13) rfl)))) (mvT hZ (hw _ (List.mem_of_getElem? (i := 13) rfl))) (mvT hZ (hw _ (List.mem_of_getElem? (i := 12) rfl))) (by decide) (backOf (W := 0) (rm2 l Z a0 hw [] w_COUNTED q1 (0 : Int64) h0 n0 Z0 E_w_COUNTED F_w_COUNTED) hZ (hw _ (List.mem_of_getElem? (i := 14) rfl)) (hw _ (List.mem_of_getElem? (i := 1) rfl)) (by decide) (by decide)) q4a q4c (g := (mkF m 50 #[.val (.int p0), .val (.long q1), .second, .val (.int (0 : Int32)), .val (.ref w_COUNTED), .val (.int (f1 (0 : Int64)))] [(.long q1), (.ref w_COUNTED)])) rfl (by rw [hml]; rfl) (Steps.refl _) (argsL := [(.long q1)]) (rest := []) (lenOf pd_2 rfl) rfl (by show 2 * 0 + _ ≤ _; exact Nat.le_of_eq rfl) (hb hby at_50) (fun _ _ => ⟨rfl, hh3, (by decide : 0 + 0 ≤ _), (by decide : 0 + 0 ≤ _)⟩)
    dsimp only [Pt.U, Pt.locs, Pt.cells, Pt.slots] at X4 l4 y4 z4 st4 hQ4
    subst l4 y4 z4
    obtain ⟨rfl, N4q, hh4⟩ := hQ4
    have N4 := Fr.app N3 N4q
    refine own_of (fun _ k => st4.trans k) ?_
    show own_Out p e below _ (T4.setTop (mkF m 53 #[.val (.int p0), .val (.long q1), .second, .val (.int (0 : Int32)), .val (.ref w_COUNTED), .val (.int (f1 (0 : Int64)))] [(.long (f2 q1 (0 : Int64)))]))
    refine own_of (fun _ k => XS.lconst X4.here hx rfl (hb hby at_53) k) ?_
    show own_Out p e below _ (T4.setTop (mkF m 54 #[.val (.int p0), .val (.long q1), .second, .val (.int (0 : Int32)), .val (.ref w_COUNTED), .val (.int (f1 (0 : Int64)))] [(.long (1 : Int64)), (.long (f2 q1 (0 : Int64)))]))
    refine own_of (fun _ k => XS.lcmp X4.here hx rfl (hb hby at_54) rfl k) ?_
    show own_Out p e below _ (T4.setTop (mkF m 55 #[.val (.int p0), .val (.long q1), .second, .val (.int (0 : Int32)), .val (.ref w_COUNTED), .val (.int (f1 (0 : Int64)))] [(.int (lcmpW (f2 q1 (0 : Int64)) (1 : Int64)))]))
    refine own_of (fun _ k => XS.ifNo X4.here hx rfl (hb hby at_55) rfl (own_leq (by rw [f2, if_pos (by decide)] : (f2 q1 (0 : Int64)) = (1 : Int64))).2 k) ?_
    show own_Out p e below _ (T4.setTop (mkF m 58 #[.val (.int p0), .val (.long q1), .second, .val (.int (0 : Int32)), .val (.ref w_COUNTED), .val (.int (f1 (0 : Int64)))] []))
    refine own_of (fun _ k => XS.iconst X4.here hx rfl (hb hby at_58) k) ?_
    show own_Out p e below _ (T4.setTop (mkF m 59 #[.val (.int p0), .val (.long q1), .second, .val (.int (0 : Int32)), .val (.ref w_COUNTED), .val (.int (f1 (0 : Int64)))] [(.int (1 : Int32))]))
    refine own_of (fun _ k => XS.goto X4.here hx rfl (pc0 := 59) (pc' := 63) rfl (hb hby at_59) (by decide) (by decide) k) ?_
    show own_Out p e below _ (T4.setTop (mkF m 63 #[.val (.int p0), .val (.long q1), .second, .val (.int (0 : Int32)), .val (.ref w_COUNTED), .val (.int (f1 (0 : Int64)))] [(.int (1 : Int32))]))
    exact own_outN X4 hx hlk (t := .boolean) hret (by simp) (hb hby at_63) (z' := (1 : Int32)) rfl (Q := Q0 Z p0 q1 w_COUNTED w_HUNDREDTHS h0 n0) ⟨rfl, N4⟩ (by decide) (by decide)
  · skip
    refine own_of (fun _ k => XS.ifNo X0.here hx rfl (hb hby at_3) rfl ((if0 _ _).trans (feq hc3_1).1) k) ?_
    show own_Out p e below _ (s₁.setTop (mkF m 6 #[.val (.int p0), .val (.long q1), .second, .unset, .unset, .unset] []))
    refine own_of (fun _ k => XS.iconst X0.here hx rfl (hb hby at_6) k) ?_
    show own_Out p e below _ (s₁.setTop (mkF m 7 #[.val (.int p0), .val (.long q1), .second, .unset, .unset, .unset] [(.int (1 : Int32))]))
    refine own_of (fun _ k => XS.goto X0.here hx rfl (pc0 := 7) (pc' := 11) rfl (hb hby at_7) (by decide) (by decide) k) ?_
    show own_Out p e below _ (s₁.setTop (mkF m 11 #[.val (.int p0), .val (.long q1), .second, .unset, .unset, .unset] [(.int (1 : Int32))]))
    refine own_of (fun _ k => XS.istoreN X0.here hx rfl (hb hby at_11) rfl (l' := #[.val (.int p0), .val (.long q1), .second, .val (.int (1 : Int32)), .unset, .unset]) rfl k) ?_
    show own_Out p e below _ (s₁.setTop (mkF m 12 #[.val (.int p0), .val (.long q1), .second, .val (.int (1 : Int32)), .unset, .unset] []))
    refine own_of (fun _ k => XS.iloadN X0.here hx rfl (hb hby at_12) rfl k) ?_
    show own_Out p e below _ (s₁.setTop (mkF m 13 #[.val (.int p0), .val (.long q1), .second, .val (.int (1 : Int32)), .unset, .unset] [(.int (1 : Int32))]))
    refine own_of (fun _ k => XS.ifNo X0.here hx rfl (hb hby at_13) rfl ((if0 _ _).trans (feq (by decide : ¬ ((1 : Int32) = (0 : Int32)))).1) k) ?_
    show own_Out p e below _ (s₁.setTop (mkF m 16 #[.val (.int p0), .val (.long q1), .second, .val (.int (1 : Int32)), .unset, .unset] []))
    obtain ⟨T5, X5, e5, st5⟩ := getS2 X0 hx hZ hown (host := "") (Or.inl (hw _ (List.mem_of_getElem? (i := 16) rfl))) Via.refl e0 S_w_HUNDREDTHS (g := (mkF m 16 #[.val (.int p0), .val (.long q1), .second, .val (.int (1 : Int32)), .unset, .unset] [])) rfl (hb hby at_16)
    refine own_of st5 ?_
    show own_Out p e below _ (T5.setTop (mkF m 19 #[.val (.int p0), .val (.long q1), .second, .val (.int (1 : Int32)), .unset, .unset] [(.ref w_HUNDREDTHS)]))
    refine own_of (fun _ k => XS.goto X5.here hx rfl (pc0 := 19) (pc' := 25) rfl (hb hby at_19) (by decide) (by decide) k) ?_
    show own_Out p e below _ (T5.setTop (mkF m 25 #[.val (.int p0), .val (.long q1), .second, .val (.int (1 : Int32)), .unset, .unset] [(.ref w_HUNDREDTHS)]))
    refine own_of (fun _ k => XS.astore X5.here hx rfl (hb hby at_25) rfl rfl (l' := #[.val (.int p0), .val (.long q1), .second, .val (.int (1 : Int32)), .val (.ref w_HUNDREDTHS), .unset]) rfl k) ?_
    show own_Out p e below _ (T5.setTop (mkF m 27 #[.val (.int p0), .val (.long q1), .second, .val (.int (1 : Int32)), .val (.ref w_HUNDREDTHS), .unset] []))
    refine own_of (fun _ k => XS.aload X5.here hx rfl (hb hby at_27) rfl rfl k) ?_
    show own_Out p e below _ (T5.setTop (mkF m 29 #[.val (.int p0), .val (.long q1), .second, .val (.int (1 : Int32)), .val (.ref w_HUNDREDTHS), .unset] [(.ref w_HUNDREDTHS)]))
    obtain ⟨cq6, kq6, q6a, q6b, q6c⟩ := isOf hZ e5 E_w_HUNDREDTHS
    obtain ⟨_, _, ⟨T6, L6, k6, n6⟩, -, X6, ⟨Lc6, hQ6, l6, y6, z6⟩, st6⟩ := X5.virtualBack hx (y := (⟨"com/example/collector_urchin/collectorurchin/store/Space", "isTimed", "()Z"⟩ : MethodName)) (z := (⟨"com/example/collector_urchin/collectorurchin/store/Space", "isTimed", "()Z"⟩ : MethodName)) hown (mvT hZ (hw _ (List.mem_of_getElem? (i := 3) rfl))) (mvT hZ (hw _ (List.mem_of_getElem? (i := 4) rfl))) (notFace_of_selects (args := #[]) (mvT hZ (hw _ (List.mem_of_getElem? (i := 6) rfl)))) (mvT hZ (hw _ (List.mem_of_getElem? (i := 6) rfl))) (mvT hZ (hw _ (List.mem_of_getElem? (i := 5) rfl))) (by decide) (backOf (W := 0) (rm1 l Z a0 hw [] w_HUNDREDTHS (10 : Int64) h0 n0 Z0 E_w_HUNDREDTHS F_w_HUNDREDTHS) hZ (hw _ (List.mem_of_getElem? (i := 7) rfl)) (hw _ (List.mem_of_getElem? (i := 1) rfl)) (by decide) (by decide)) q6a q6c (g := (mkF m 29 #[.val (.int p0), .val (.long q1), .second, .val (.int (1 : Int32)), .val (.ref w_HUNDREDTHS), .unset] [(.ref w_HUNDREDTHS)])) rfl (by rw [hml]; rfl) (Steps.refl _) (argsL := []) (rest := []) (lenOf pd_0 rfl) rfl (by show 2 * 0 + _ ≤ _; exact Nat.le_of_eq rfl) (hb hby at_29) (fun _ _ => ⟨rfl, e5, (by decide : 0 + 0 ≤ _), (by decide : 0 + 0 ≤ _)⟩)
    dsimp only [Pt.U, Pt.locs, Pt.cells, Pt.slots] at X6 l6 y6 z6 st6 hQ6
    subst l6 y6 z6
    obtain ⟨rfl, N6q, hh6⟩ := hQ6
    have N6 := Fr.app N0 N6q
    refine own_of (fun _ k => st6.trans k) ?_
    show own_Out p e below _ (T6.setTop (mkF m 32 #[.val (.int p0), .val (.long q1), .second, .val (.int (1 : Int32)), .val (.ref w_HUNDREDTHS), .unset] [(.int (f1 (10 : Int64)))]))
    refine own_of (fun _ k => XS.istore X6.here hx rfl (hb hby at_32) rfl (l' := #[.val (.int p0), .val (.long q1), .second, .val (.int (1 : Int32)), .val (.ref w_HUNDREDTHS), .val (.int (f1 (10 : Int64)))]) rfl k) ?_
    show own_Out p e below _ (T6.setTop (mkF m 34 #[.val (.int p0), .val (.long q1), .second, .val (.int (1 : Int32)), .val (.ref w_HUNDREDTHS), .val (.int (f1 (10 : Int64)))] []))
    refine own_of (fun _ k => XS.iload X6.here hx rfl (hb hby at_34) rfl k) ?_
    show own_Out p e below _ (T6.setTop (mkF m 36 #[.val (.int p0), .val (.long q1), .second, .val (.int (1 : Int32)), .val (.ref w_HUNDREDTHS), .val (.int (f1 (10 : Int64)))] [(.int (f1 (10 : Int64)))]))
    refine own_of (fun _ k => XS.iloadN X6.here hx rfl (hb hby at_36) rfl k) ?_
    show own_Out p e below _ (T6.setTop (mkF m 37 #[.val (.int p0), .val (.long q1), .second, .val (.int (1 : Int32)), .val (.ref w_HUNDREDTHS), .val (.int (f1 (10 : Int64)))] [(.int (1 : Int32)), (.int (f1 (10 : Int64)))]))
    refine own_of (fun _ k => XS.icmpYes X6.here hx rfl (pc0 := 37) (pc' := 42) rfl (hb hby at_37) rfl (teq (by decide : (f1 (10 : Int64)) = (1 : Int32))).1 (by decide) (by decide) k) ?_
    show own_Out p e below _ (T6.setTop (mkF m 42 #[.val (.int p0), .val (.long q1), .second, .val (.int (1 : Int32)), .val (.ref w_HUNDREDTHS), .val (.int (f1 (10 : Int64)))] []))
    refine own_of (fun _ k => XS.iload X6.here hx rfl (hb hby at_42) rfl k) ?_
    show own_Out p e below _ (T6.setTop (mkF m 44 #[.val (.int p0), .val (.long q1), .second, .val (.int (1 : Int32)), .val (.ref w_HUNDREDTHS), .val (.int (f1 (10 : Int64)))] [(.int (f1 (10 : Int64)))]))
    refine own_of (fun _ k => XS.ifYes X6.here hx rfl (pc0 := 44) (pc' := 64) rfl (hb hby at_44) rfl ((if0 _ _).trans (feq (by decide : ¬ ((f1 (10 : Int64)) = (0 : Int32)))).2) (by decide) (by decide) k) ?_
    show own_Out p e below _ (T6.setTop (mkF m 64 #[.val (.int p0), .val (.long q1), .second, .val (.int (1 : Int32)), .val (.ref w_HUNDREDTHS), .val (.int (f1 (10 : Int64)))] []))
    refine own_of (fun _ k => XS.aload X6.here hx rfl (hb hby at_64) rfl rfl k) ?_
    show own_Out p e below _ (T6.setTop (mkF m 66 #[.val (.int p0), .val (.long q1), .second, .val (.int (1 : Int32)), .val (.ref w_HUNDREDTHS), .val (.int (f1 (10 : Int64)))] [(.ref w_HUNDREDTHS)]))
    refine own_of (X6.ldc2Long hx hown (mvT hZ (hw _ (List.mem_of_getElem? (i := 18) rfl))) (g := (mkF m 66 #[.val (.int p0), .val (.long q1), .second, .val (.int (1 : Int32)), .val (.ref w_HUNDREDTHS), .val (.int (f1 (10 : Int64)))] [(.ref w_HUNDREDTHS)])) rfl (hb hby at_66)) ?_
    show own_Out p e below _ (T6.setTop (mkF m 69 #[.val (.int p0), .val (.long q1), .second, .val (.int (1 : Int32)), .val (.ref w_HUNDREDTHS), .val (.int (f1 (10 : Int64)))] [(.long (20 : Int64)), (.ref w_HUNDREDTHS)]))
    obtain ⟨cq7, kq7, q7a, q7b, q7c⟩ := isOf hZ hh6 E_w_HUNDREDTHS
    obtain ⟨_, _, ⟨T7, L7, k7, n7⟩, -, X7, ⟨Lc7, hQ7, l7, y7, z7⟩, st7⟩ := X6.virtualBack hx (y := (⟨"com/example/collector_urchin/collectorurchin/store/Space", "leastVersion", "(J)J"⟩ : MethodName)) (z := (⟨"com/example/collector_urchin/collectorurchin/store/Space", "leastVersion", "(J)J"⟩ : MethodName)) hown (mvT hZ (hw _ (List.mem_of_getElem? (i := 10) rfl))) (mvT hZ (hw _ (List.mem_of_getElem? (i := 11) rfl))) (notFace_of_selects (args := #[]) (mvT hZ (hw _ (List.mem_of_getElem? (i := 13) rfl)))) (mvT hZ (hw _ (List.mem_of_getElem? (i := 13) rfl))) (mvT hZ (hw _ (List.mem_of_getElem? (i := 12) rfl))) (by decide) (backOf (W := 0) (rm2 l Z a0 hw [] w_HUNDREDTHS (20 : Int64) (10 : Int64) h0 n0 Z0 E_w_HUNDREDTHS F_w_HUNDREDTHS) hZ (hw _ (List.mem_of_getElem? (i := 14) rfl)) (hw _ (List.mem_of_getElem? (i := 1) rfl)) (by decide) (by decide)) q7a q7c (g := (mkF m 69 #[.val (.int p0), .val (.long q1), .second, .val (.int (1 : Int32)), .val (.ref w_HUNDREDTHS), .val (.int (f1 (10 : Int64)))] [(.long (20 : Int64)), (.ref w_HUNDREDTHS)])) rfl (by rw [hml]; rfl) (Steps.refl _) (argsL := [(.long (20 : Int64))]) (rest := []) (lenOf pd_2 rfl) rfl (by show 2 * 0 + _ ≤ _; exact Nat.le_of_eq rfl) (hb hby at_69) (fun _ _ => ⟨rfl, hh6, (by decide : 0 + 0 ≤ _), (by decide : 0 + 0 ≤ _)⟩)
    dsimp only [Pt.U, Pt.locs, Pt.cells, Pt.slots] at X7 l7 y7 z7 st7 hQ7
    subst l7 y7 z7
    obtain ⟨rfl, N7q, hh7⟩ := hQ7
    have N7 := Fr.app N6 N7q
    refine own_of (fun _ k => st7.trans k) ?_
    show own_Out p e below _ (T7.setTop (mkF m 72 #[.val (.int p0), .val (.long q1), .second, .val (.int (1 : Int32)), .val (.ref w_HUNDREDTHS), .val (.int (f1 (10 : Int64)))] [(.long (f2 (20 : Int64) (10 : Int64)))]))
    refine own_of (X7.ldc2Long hx hown (mvT hZ (hw _ (List.mem_of_getElem? (i := 23) rfl))) (g := (mkF m 72 #[.val (.int p0), .val (.long q1), .second, .val (.int (1 : Int32)), .val (.ref w_HUNDREDTHS), .val (.int (f1 (10 : Int64)))] [(.long (f2 (20 : Int64) (10 : Int64)))])) rfl (hb hby at_72)) ?_
    show own_Out p e below _ (T7.setTop (mkF m 75 #[.val (.int p0), .val (.long q1), .second, .val (.int (1 : Int32)), .val (.ref w_HUNDREDTHS), .val (.int (f1 (10 : Int64)))] [(.long (2 : Int64)), (.long (f2 (20 : Int64) (10 : Int64)))]))
    refine own_of (fun _ k => XS.lcmp X7.here hx rfl (hb hby at_75) rfl k) ?_
    show own_Out p e below _ (T7.setTop (mkF m 76 #[.val (.int p0), .val (.long q1), .second, .val (.int (1 : Int32)), .val (.ref w_HUNDREDTHS), .val (.int (f1 (10 : Int64)))] [(.int (lcmpW (f2 (20 : Int64) (10 : Int64)) (2 : Int64)))]))
    refine own_of (fun _ k => XS.ifNo X7.here hx rfl (hb hby at_76) rfl (own_leq (by decide : (f2 (20 : Int64) (10 : Int64)) = (2 : Int64))).2 k) ?_
    show own_Out p e below _ (T7.setTop (mkF m 79 #[.val (.int p0), .val (.long q1), .second, .val (.int (1 : Int32)), .val (.ref w_HUNDREDTHS), .val (.int (f1 (10 : Int64)))] []))
    refine own_of (fun _ k => XS.iconst X7.here hx rfl (hb hby at_79) k) ?_
    show own_Out p e below _ (T7.setTop (mkF m 80 #[.val (.int p0), .val (.long q1), .second, .val (.int (1 : Int32)), .val (.ref w_HUNDREDTHS), .val (.int (f1 (10 : Int64)))] [(.int (1 : Int32))]))
    refine own_of (fun _ k => XS.goto X7.here hx rfl (pc0 := 80) (pc' := 84) rfl (hb hby at_80) (by decide) (by decide) k) ?_
    show own_Out p e below _ (T7.setTop (mkF m 84 #[.val (.int p0), .val (.long q1), .second, .val (.int (1 : Int32)), .val (.ref w_HUNDREDTHS), .val (.int (f1 (10 : Int64)))] [(.int (1 : Int32))]))
    exact own_outN X7 hx hlk (t := .boolean) hret (by simp) (hb hby at_84) (z' := (1 : Int32)) rfl (Q := Q0 Z p0 q1 w_COUNTED w_HUNDREDTHS h0 n0) ⟨rfl, N7⟩ (by decide) (by decide)
set_option maxRecDepth 65536 in
set_option maxHeartbeats 40000000 in
theorem comes_1 {Post : Tables → Env → Array Value → State → Outcome → State → Prop} (hpost : ∀ tb e args s v u, (limb_1_1.after args s (.returned v) u = true ∧ limb_1_2.after args s (.returned v) u = true ∧ True) → FrameEnd s (.returned v) u (Jvm.fieldLocs frame_1_writes args s ++ Jvm.arrayLocs frame_1_arrays args s ++ Jvm.staticLocs frame_1_statics s) 0 0 → Post tb e args s (.returned v) u) :
    ArmFor flags0 classFile x code maxLocals ret World_1 tables_1 room_1 Calls_1 rest_1 Pre_1 Post := by
  intro l hfl _ _ p e ha hc hk s m args below hf hA hF happ hP
  obtain ⟨hcalls, hrest, hpre⟩ := hP
  obtain ⟨-, -, -, hnamed, -, -, -, hat⟩ := (Spec.applies_iff hf).mp happ
  obtain ⟨hg, hn⟩ := and_e (Cond.before_iff.mp (show (Jvm.Cond.and given_1 narrow_1).before args s = true from hpre))
  obtain ⟨g1, g2⟩ := and_e hg
  obtain ⟨g3, g4⟩ := and_e g2
  obtain ⟨w0, w1, rfl⟩ : ∃ w0 w1 : Value, args = #[w0, w1] := by
    have hs : args.size = 2 := by simpa [Cond.value, given_1] using g1
    obtain ⟨L⟩ := args
    match L, hs with
    | [w0, w1], _ => exact ⟨w0, w1, rfl⟩
  have hw := fun d (hd : d ∈ tables_1) => atoms_spec (ws := Jvm.Cond.code x code maxLocals ret :: tables_1) hat d (List.mem_cons_of_mem _ hd)
  have hfit : Fit s := fun {y c} hc i hi => by
    obtain ⟨ha, rfl⟩ := Array.getElem?_eq_some_iff.mp hc
    have q := List.all_eq_true.mp ((Array.all_eq_true_iff_forall_mem.mp hF) _ (Array.getElem_mem ha)) i (List.mem_range.mpr hi)
    simpa [Array.getElem?_eq_getElem hi] using q
  obtain ⟨i0, ei0⟩ := is_v g3
  obtain rfl : w0 = (.int i0) := Option.some.inj ei0
  obtain ⟨i1, ei1⟩ := isL_v g4
  obtain rfl : w1 = (.long i1) := Option.some.inj ei1
  have hn0 : narrow_1.value _ s none s [] = some true := hn
  obtain ⟨hn_0, hr_0⟩ := and_e hn0
  obtain ⟨hn_1, hr_1⟩ := and_e hr_0
  obtain ⟨hn_2, hr_2⟩ := and_e hr_1
  obtain ⟨w_COUNTED, ev_w_COUNTED⟩ := exa_v hn_0
  have S_w_COUNTED : Sta s s.heap "com/example/collector_urchin/collectorurchin/store/Space" "COUNTED" "Lcom/example/collector_urchin/collectorurchin/store/Space;" (.ref w_COUNTED) := Sta.start ev_w_COUNTED (Or.inr ⟨(hw _ (List.mem_of_getElem? (i := 1) rfl)), (hw _ (List.mem_of_getElem? (i := 2) rfl))⟩)
  have E_w_COUNTED := Exa.start ev_w_COUNTED hn_0
  have F_w_COUNTED_millisPerVersion := Fld.start ((fld_at ev_w_COUNTED).symm.trans (eqv_l (long_at (0)) hn_1))
  obtain ⟨w_HUNDREDTHS, ev_w_HUNDREDTHS⟩ := exa_v hn_2
  have S_w_HUNDREDTHS : Sta s s.heap "com/example/collector_urchin/collectorurchin/store/Space" "HUNDREDTHS" "Lcom/example/collector_urchin/collectorurchin/store/Space;" (.ref w_HUNDREDTHS) := Sta.start ev_w_HUNDREDTHS (Or.inr ⟨(hw _ (List.mem_of_getElem? (i := 1) rfl)), (hw _ (List.mem_of_getElem? (i := 17) rfl))⟩)
  have E_w_HUNDREDTHS := Exa.start ev_w_HUNDREDTHS hn_2
  have F_w_HUNDREDTHS_millisPerVersion := Fld.start ((fld_at ev_w_HUNDREDTHS).symm.trans (eqv_l (long_at (10)) hr_2))
  obtain ⟨n, o, h1, h2, h3, _, L, rfl, ⟨rfl, N⟩, hq⟩ := rm0 l s _ hw tables_1 i0 i1 w_COUNTED w_HUNDREDTHS s.heap s.heap.size (Nat.le_refl _) S_w_COUNTED E_w_COUNTED F_w_COUNTED_millisPerVersion S_w_HUNDREDTHS E_w_HUNDREDTHS F_w_HUNDREDTHS_millisPerVersion p e ha hc hk s m _ below hf ((Spec.applies_iff_loose hf).mp happ).1 ⟨rfl, State.Warmed39.refl s, rfl⟩ trivial
  refine ⟨n, _, h1, h2, h3, hpost _ _ _ _ _ _ ⟨Cond.after_iff.mpr rfl, Cond.after_iff.mpr (eq_i res_at (Term.int_eval (1)) rfl), trivial⟩ ⟨hq.1, hq.2.1, (hq.2.2.sift fun y hy => Or.inr (N y hy)).mono (by decide) (by decide)⟩⟩
theorem main_1_1 : Claimed_1_1 := comes_1 fun _ _ _ _ _ _ h hF => ⟨h.1, hF⟩
theorem main_1_2 : Claimed_1_2 := comes_1 fun _ _ _ _ _ _ h hF => ⟨h.2.1, hF⟩
end Jvm.Pilot.@@N@@
namespace Jvm.Pilot.@@N@@
open Jvm Jvm.ClassFile Sem Op Lib Jvm.Free Jvm.Stand Jvm.Pilot.@@N@@.Jvm.D
/-! MADE BY PROGRAM (witnessworld.py) out of the Statement's table words and the real class files: 13 classes; the members and pool entries that the words name. The judged class is class 1, her method 1. -/
namespace start1
open Jvm.ClassFile
def u (s : String) : CpInfo := .utf8 (stringToUtf16 s)
/-- a pool by its gaps: so many unusable entries, then the entry; so many at the end -/
def gap : Nat → List CpInfo → List CpInfo
  | 0, r => r
  | n + 1, r => .unusable :: gap n r
def poolList (es : List (Nat × CpInfo)) (last : Nat) : List CpInfo := es.foldr (fun e r => gap e.1 (e.2 :: r)) (gap last [])
def pool (es : List (Nat × CpInfo)) (last : Nat) : Array CpInfo := ⟨poolList es last⟩
def fileOf (pool : Array CpInfo) (this : Nat) (attrs : Array Attribute := #[]) (ms : Array MethodInfo := #[]) (fl : Nat := 33) (sup : Nat := 0) (ifs : Array Nat := #[]) (fds : Array FieldInfo := #[]) : ClassFile where
  minorVersion := 0
  majorVersion := 65
  constantPool := pool
  accessFlags := fl
  thisClass := this
  superClass := sup
  interfaces := ifs
  fields := fds
  methods := ms
  attributes := attrs
def plain (name : String) (sup : Option ClassId) : Class where
  name := name
  kind := .ordinary
  loader := none
  accessFlags := 33
  super := sup
  interfaces := #[]
  cf := none
  fields := #[]
  methods := #[]
  instanceTypes := #[]
  staticTypes := #[]
  resolved := #[]
  callSites := []
  init := .initialized
  statics := none
  mirror := none

def pool0 : Array CpInfo := pool [(5, u "<init>"), (0, u "()V"), (1, .class_ 10), (1, u "java/lang/Object")] 113

def k0m0 : Method := { name := "<init>", desc := "()V", sig := { parameters := [], returnType := none }, accessFlags := 1, code := none }
/-- java/lang/Object -/
def k0 : Class := { plain "java/lang/Object" none with
  accessFlags := 33
  interfaces := #[]
  cf := some (fileOf pool0 8 #[] #[{ accessFlags := 1, nameIndex := 5, descriptorIndex := 6, attributes := #[] }] 33 0 #[] #[])
  fields := #[]
  methods := #[k0m0]
  instanceTypes := #[]
  staticTypes := #[]
  resolved := Array.replicate 124 none
  statics := none }

def pool1 : Array CpInfo := pool [(2, .class_ 4), (1, u "java/lang/Object"), (0, u "<init>"), (0, u "()V"), (0, .fieldref 8 9), (0, .class_ 10), (0, .nameAndType 11 12), (0, u "com/example/collector_urchin/collectorurchin/store/Space"), (0, u "HUNDREDTHS"), (0, u "Lcom/example/collector_urchin/collectorurchin/store/Space;"), (0, .fieldref 8 14), (0, .nameAndType 15 12), (0, u "COUNTED"), (0, .methodref 8 17), (0, .nameAndType 18 19), (0, u "isTimed"), (0, u "()Z"), (0, .methodref 8 21), (0, .nameAndType 22 23), (0, u "leastVersion"), (0, u "(J)J"), (0, .long 20), (1, .long 2), (1, .class_ 29), (0, u "com/example/collector_urchin/collectorurchin/store/SpaceIsTimedPinLaw"), (2, u "law"), (0, u "(IJ)Z")] 3

def k1m0 : Method := { name := "<init>", desc := "()V", sig := { parameters := [], returnType := none }, accessFlags := 1, code := none }
def k1c1 : Code := { maxStack := 4, maxLocals := 6, code := code, exceptionTable := #[], attributes := #[] }
def k1m1 : Method := { name := "law", desc := "(IJ)Z", sig := { parameters := [.int, .long], returnType := some .boolean }, accessFlags := 9, code := some k1c1 }
/-- com/example/collector_urchin/collectorurchin/store/SpaceIsTimedPinLaw -/
def k1 : Class := { plain "com/example/collector_urchin/collectorurchin/store/SpaceIsTimedPinLaw" (some 0) with
  accessFlags := 49
  interfaces := #[]
  cf := some (fileOf pool1 28 #[] #[{ accessFlags := 1, nameIndex := 5, descriptorIndex := 6, attributes := #[] }, { accessFlags := 9, nameIndex := 32, descriptorIndex := 33, attributes := #[] }] 49 2 #[] #[])
  fields := #[]
  methods := #[k1m0, k1m1]
  instanceTypes := #[]
  staticTypes := #[]
  resolved := Array.replicate 37 none
  statics := none }

def pool2 : Array CpInfo := pool [(1, .class_ 2), (0, u "java/lang/constant/Constable"), (0, .class_ 4), (0, u "java/lang/Object")] 6

/-- java/lang/constant/Constable -/
def k2 : Class := { plain "java/lang/constant/Constable" (some 0) with
  accessFlags := 1537
  interfaces := #[]
  cf := some (fileOf pool2 1 #[] #[] 1537 3 #[] #[])
  fields := #[]
  methods := #[]
  instanceTypes := #[]
  staticTypes := #[]
  resolved := Array.replicate 11 none
  statics := none }

def pool3 : Array CpInfo := pool [(1, .class_ 2), (0, u "java/lang/Comparable"), (0, .class_ 4), (0, u "java/lang/Object")] 7

/-- java/lang/Comparable -/
def k3 : Class := { plain "java/lang/Comparable" (some 0) with
  accessFlags := 1537
  interfaces := #[]
  cf := some (fileOf pool3 1 #[] #[] 1537 3 #[] #[])
  fields := #[]
  methods := #[]
  instanceTypes := #[]
  staticTypes := #[]
  resolved := Array.replicate 12 none
  statics := none }

def pool4 : Array CpInfo := pool [(1, .class_ 2), (0, u "java/io/Serializable"), (0, .class_ 4), (0, u "java/lang/Object")] 2

/-- java/io/Serializable -/
def k4 : Class := { plain "java/io/Serializable" (some 0) with
  accessFlags := 1537
  interfaces := #[]
  cf := some (fileOf pool4 1 #[] #[] 1537 3 #[] #[])
  fields := #[]
  methods := #[]
  instanceTypes := #[]
  staticTypes := #[]
  resolved := Array.replicate 7 none
  statics := none }

def pool5 : Array CpInfo := pool [(2, .class_ 4), (1, u "java/lang/Enum"), (0, u "name"), (0, u "Ljava/lang/String;"), (2, u "ordinal"), (0, u "I"), (1, .class_ 14), (1, u "java/lang/Object"), (4, u "hash"), (86, .class_ 108), (1, u "java/lang/Enum$EnumDesc"), (2, .class_ 112), (0, u "java/lang/constant/Constable"), (0, .class_ 114), (0, u "java/lang/Comparable"), (0, .class_ 116), (0, u "java/io/Serializable")] 87

/-- java/lang/Enum -/
def k5 : Class := { plain "java/lang/Enum" (some 0) with
  accessFlags := 1057
  interfaces := #[2, 3, 4]
  cf := some (fileOf pool5 2 #[.nestMembers #[106]] #[] 1057 12 #[111, 113, 115] #[{ accessFlags := 18, nameIndex := 5, descriptorIndex := 6, attributes := #[] }, { accessFlags := 18, nameIndex := 9, descriptorIndex := 10, attributes := #[] }, { accessFlags := 2, nameIndex := 19, descriptorIndex := 10, attributes := #[] }])
  fields := #[{ name := "name", type := (.object "java/lang/String"), accessFlags := 18, slot := 0, constantValue := 0 }, { name := "ordinal", type := .int, accessFlags := 18, slot := 1, constantValue := 0 }, { name := "hash", type := .int, accessFlags := 2, slot := 2, constantValue := 0 }]
  methods := #[]
  instanceTypes := #[(.object "java/lang/String"), .int, .int]
  staticTypes := #[]
  resolved := Array.replicate 204 none
  statics := none }

def pool6 : Array CpInfo := pool [(1, .class_ 2), (0, u "com/example/collector_urchin/collectorurchin/store/Space"), (2, u "COUNTED"), (0, u "Lcom/example/collector_urchin/collectorurchin/store/Space;"), (2, u "HUNDREDTHS"), (2, u "$VALUES"), (0, u "[Lcom/example/collector_urchin/collectorurchin/store/Space;"), (6, .class_ 22), (1, u "java/lang/Enum"), (8, u "prefix"), (0, u "Ljava/lang/String;"), (0, .fieldref 1 34), (0, .nameAndType 35 36), (0, u "millisPerVersion"), (0, u "J"), (18, .methodref 1 56), (0, .nameAndType 57 58), (0, u "isTimed"), (0, u "()Z"), (0, .methodref 60 61), (0, .class_ 62), (0, .nameAndType 63 64), (0, u "java/lang/Math"), (0, u "floorDiv"), (0, u "(JJ)J"), (15, u "SEPARATOR"), (0, u "C"), (11, u "leastVersion"), (0, u "(J)J")] 22

def k6c0 : Code := { maxStack := 4, maxLocals := 3, code := prog_21_method_5_code, exceptionTable := #[], attributes := #[] }
def k6m0 : Method := { name := "leastVersion", desc := "(J)J", sig := { parameters := [.long], returnType := some .long }, accessFlags := 0, code := some k6c0 }
def k6c1 : Code := { maxStack := 4, maxLocals := 1, code := prog_21_method_6_code, exceptionTable := #[], attributes := #[] }
def k6m1 : Method := { name := "isTimed", desc := "()Z", sig := { parameters := [], returnType := some .boolean }, accessFlags := 0, code := some k6c1 }
/-- com/example/collector_urchin/collectorurchin/store/Space -/
def k6 : Class := { plain "com/example/collector_urchin/collectorurchin/store/Space" (some 5) with
  accessFlags := 16433
  interfaces := #[]
  cf := some (fileOf pool6 1 #[] #[{ accessFlags := 0, nameIndex := 93, descriptorIndex := 94, attributes := #[] }, { accessFlags := 0, nameIndex := 57, descriptorIndex := 58, attributes := #[] }] 16433 20 #[] #[{ accessFlags := 16409, nameIndex := 5, descriptorIndex := 6, attributes := #[] }, { accessFlags := 16409, nameIndex := 9, descriptorIndex := 6, attributes := #[] }, { accessFlags := 26, nameIndex := 80, descriptorIndex := 81, attributes := #[] }, { accessFlags := 18, nameIndex := 31, descriptorIndex := 32, attributes := #[] }, { accessFlags := 18, nameIndex := 35, descriptorIndex := 36, attributes := #[] }, { accessFlags := 4122, nameIndex := 12, descriptorIndex := 13, attributes := #[] }])
  fields := #[{ name := "COUNTED", type := (.object "com/example/collector_urchin/collectorurchin/store/Space"), accessFlags := 16409, slot := 0, constantValue := 0 }, { name := "HUNDREDTHS", type := (.object "com/example/collector_urchin/collectorurchin/store/Space"), accessFlags := 16409, slot := 1, constantValue := 0 }, { name := "SEPARATOR", type := .char, accessFlags := 26, slot := 2, constantValue := 0 }, { name := "prefix", type := (.object "java/lang/String"), accessFlags := 18, slot := 3, constantValue := 0 }, { name := "millisPerVersion", type := .long, accessFlags := 18, slot := 4, constantValue := 0 }, { name := "$VALUES", type := (.array (.object "com/example/collector_urchin/collectorurchin/store/Space")), accessFlags := 4122, slot := 3, constantValue := 0 }]
  methods := #[k6m0, k6m1]
  instanceTypes := #[(.object "java/lang/String"), .int, .int, (.object "java/lang/String"), .long]
  staticTypes := #[(.object "com/example/collector_urchin/collectorurchin/store/Space"), (.object "com/example/collector_urchin/collectorurchin/store/Space"), .char, (.array (.object "com/example/collector_urchin/collectorurchin/store/Space"))]
  resolved := Array.replicate 117 none
  statics := some 0 }

def pool7 : Array CpInfo := pool [(1, .class_ 2), (0, u "java/lang/Math"), (1, .class_ 6), (1, u "java/lang/Object"), (0, u "<init>"), (0, u "()V"), (89, .class_ 100), (1, u "java/lang/Math$RandomNumberGeneratorHolder"), (20, u "(JJ)J"), (23, u "floorDiv"), (26, u "negativeZeroFloatBits"), (0, u "J"), (2, u "negativeZeroDoubleBits"), (68, u "$assertionsDisabled"), (0, u "Z"), (91, u "twoToTheDoubleScaleDown"), (0, u "D"), (4, u "twoToTheDoubleScaleUp"), (9, u "E"), (3, u "PI"), (2, u "TAU"), (2, u "DEGREES_TO_RADIANS"), (0, u "RADIANS_TO_DEGREES")] 94

def k7m0 : Method := { name := "<init>", desc := "()V", sig := { parameters := [], returnType := none }, accessFlags := 2, code := none }
def k7c1 : Code := { maxStack := 4, maxLocals := 6, code := jdk_29_method_49_code, exceptionTable := #[], attributes := #[] }
def k7m1 : Method := { name := "floorDiv", desc := "(JJ)J", sig := { parameters := [.long, .long], returnType := some .long }, accessFlags := 9, code := some k7c1 }
/-- java/lang/Math -/
def k7 : Class := { plain "java/lang/Math" (some 0) with
  accessFlags := 49
  interfaces := #[]
  cf := some (fileOf pool7 1 #[.nestMembers #[98]] #[{ accessFlags := 2, nameIndex := 7, descriptorIndex := 8, attributes := #[] }, { accessFlags := 9, nameIndex := 145, descriptorIndex := 121, attributes := #[] }] 49 4 #[] #[{ accessFlags := 25, nameIndex := 354, descriptorIndex := 339, attributes := #[] }, { accessFlags := 25, nameIndex := 358, descriptorIndex := 339, attributes := #[] }, { accessFlags := 25, nameIndex := 361, descriptorIndex := 339, attributes := #[] }, { accessFlags := 26, nameIndex := 364, descriptorIndex := 339, attributes := #[] }, { accessFlags := 26, nameIndex := 365, descriptorIndex := 339, attributes := #[] }, { accessFlags := 26, nameIndex := 172, descriptorIndex := 173, attributes := #[] }, { accessFlags := 26, nameIndex := 176, descriptorIndex := 173, attributes := #[] }, { accessFlags := 8, nameIndex := 344, descriptorIndex := 339, attributes := #[] }, { accessFlags := 8, nameIndex := 338, descriptorIndex := 339, attributes := #[] }, { accessFlags := 4120, nameIndex := 245, descriptorIndex := 246, attributes := #[] }])
  fields := #[{ name := "E", type := .double, accessFlags := 25, slot := 0, constantValue := 0 }, { name := "PI", type := .double, accessFlags := 25, slot := 1, constantValue := 0 }, { name := "TAU", type := .double, accessFlags := 25, slot := 2, constantValue := 0 }, { name := "DEGREES_TO_RADIANS", type := .double, accessFlags := 26, slot := 3, constantValue := 0 }, { name := "RADIANS_TO_DEGREES", type := .double, accessFlags := 26, slot := 4, constantValue := 0 }, { name := "negativeZeroFloatBits", type := .long, accessFlags := 26, slot := 5, constantValue := 0 }, { name := "negativeZeroDoubleBits", type := .long, accessFlags := 26, slot := 6, constantValue := 0 }, { name := "twoToTheDoubleScaleUp", type := .double, accessFlags := 8, slot := 7, constantValue := 0 }, { name := "twoToTheDoubleScaleDown", type := .double, accessFlags := 8, slot := 8, constantValue := 0 }, { name := "$assertionsDisabled", type := .boolean, accessFlags := 4120, slot := 9, constantValue := 0 }]
  methods := #[k7m0, k7m1]
  instanceTypes := #[]
  staticTypes := #[.double, .double, .double, .double, .double, .long, .long, .double, .double, .boolean]
  resolved := Array.replicate 460 none
  statics := none }

def pool8 : Array CpInfo := pool [(1, u "java/lang/Cloneable"), (0, .class_ 1), (0, u "java/lang/Object"), (0, .class_ 3)] 3

/-- java/lang/Cloneable -/
def k8 : Class := { plain "java/lang/Cloneable" (some 0) with
  accessFlags := 1537
  interfaces := #[]
  cf := some (fileOf pool8 2 #[] #[] 1537 4 #[] #[])
  fields := #[]
  methods := #[]
  instanceTypes := #[]
  staticTypes := #[]
  resolved := Array.replicate 8 none
  statics := none }

/-- the primitive byte -/
def k9 : Class := { plain "byte" none with kind := .primitive 'B', accessFlags := 0x411 }
/-- [B -/
def k10 : Class := { plain "[B" (some 0) with kind := .array 9 .byte, interfaces := #[8, 4], accessFlags := 1041 }

/-- the primitive int -/
def k11 : Class := { plain "int" none with kind := .primitive 'I', accessFlags := 0x411 }
/-- [I -/
def k12 : Class := { plain "[I" (some 0) with kind := .array 11 .int, interfaces := #[8, 4], accessFlags := 1041 }

def heap : Heap := #[{ cls := 6, slots := #[.ref 1, .ref 2, .int 0, .null], vm := .statics 6 },
  { cls := 6, slots := #[.null, .int 0, .int 0, .null, .long 0], vm := .none },
  { cls := 6, slots := #[.null, .int 1, .int 0, .null, .long 10], vm := .none }]
def classes : Array Class := #[k0, k1, k2, k3, k4, k5, k6, k7, k8, k9, k10, k11, k12]
def interned : List (Array UInt16 × Addr) := []
def slotsUsed : Nat := 14
def theMethod : MethodId := ⟨1, 1⟩
def args0 : Array Value := #[.int 1, .long 7]
def aboutOver (below : List Frame) : State where
  vm := { classes := classes, interned := interned.toArray }
  heap := heap
  slotsUsed := slotsUsed
  threads := #[{ frames := .invoking theMethod args0 :: below }]
def below0 : List Frame := [.native { method := ⟨0, 0⟩, args := #[] }]
def about1 : State := aboutOver below0
def p0 : Program := .bare "" "" ""
def e0 : Env := launch0.env 0 0 0
theorem w_frames : about1.frames = Frame.invoking theMethod args0 :: below0 := rfl
set_option maxRecDepth 65536 in
theorem w_args : argsFit about1.vm theMethod args0 = true := by decide +kernel
set_option maxRecDepth 65536 in
theorem w_heap : heapFits about1 = true := by decide +kernel
set_option maxRecDepth 65536 in
theorem w_runnable : about1.curStatus? = some .runnable := by decide +kernel
set_option maxRecDepth 65536 in
theorem w_alone : about1.alone = true := by decide +kernel
set_option maxRecDepth 65536 in
theorem w_named : about1.methodNamed? x = some theMethod := by decide +kernel
set_option maxRecDepth 65536 in
theorem w_hears : about1.hears theMethod below0 = true := by decide +kernel
set_option maxRecDepth 65536 in
theorem w_ripe : about1.ripe theMethod args0 below0 = true := by decide +kernel
theorem w_running : about1.status = .running := rfl
set_option maxRecDepth 65536 in
theorem w_room : about1.hasRoom e0.platform room_1 = true :=
  launch0.hasRoom_least _ room_1 (by decide +kernel) (by decide +kernel) (by decide +kernel) (by decide +kernel) (by decide +kernel) (by decide +kernel)
theorem allAtoms_all (ts : List Jvm.Cond) (a : Array Jvm.Value) (st : Jvm.State) : (allAtoms ts).before a st = ts.all (fun c => c.before a st) := by
  induction ts with
  | nil => rfl
  | cons c t ih =>
    show (Jvm.Cond.and c (allAtoms t)).before a st = _
    rw [Jvm.Cond.before_and, ih, List.all_cons]
def words1 : List Jvm.Cond := Jvm.Cond.code x code maxLocals ret :: tables_1
/-- a 'code' word, met by the world's own term for the bytes: nothing is compared byte by byte -/
theorem code_word {y : MethodName} {bytes : ByteArray} {mx : Nat} {rt : Option FieldType} {a : Array Value} {s : State} {m : MethodId} {meth : Method} {c : Code} (h1 : s.methodNamed? y = some m) (h2 : s.vm.method? m = some meth) (h3 : meth.code = some c) (h4 : c.code = bytes)
    (h5 : (c.maxLocals == mx && c.exceptionTable.isEmpty && decide (c.maxStack ≤ mostOperands) && decide (meth.sig.returnType = rt) && !meth.locks && decide (parseMethodDescriptor y.desc = some meth.sig)) = true) : (Jvm.Cond.code y bytes mx rt).before a s = true := by
  simp only [Bool.and_eq_true, beq_iff_eq, Bool.not_eq_true', decide_eq_true_eq] at h5
  obtain ⟨⟨⟨⟨⟨g1, g2⟩, g3⟩, g4⟩, g5⟩, g6⟩ := h5
  simp [Cond.before, Cond.holds, Cond.value, h1, h2, h3, h4, g1, g2, g3, g4, g5, g6]
def isCode : Jvm.Cond → Bool
  | .code _ _ _ _ => true
  | _ => false
theorem all_split {L : List Jvm.Cond} {P : Jvm.Cond → Bool} (h1 : L.all (fun c => isCode c || P c) = true) (h2 : ∀ c ∈ L.filter isCode, P c = true) : L.all P = true := by
  refine List.all_eq_true.mpr fun c hc => ?_
  have h := List.all_eq_true.mp h1 c hc
  rcases Bool.eq_false_or_eq_true (isCode c) with hi | hi
  · exact h2 c (List.mem_filter.mpr ⟨hc, hi⟩)
  · simpa [hi] using h
set_option maxRecDepth 65536 in
theorem w_c0 : (Jvm.Cond.code x code maxLocals ret).before args0 about1 = true := code_word (m := ⟨1, 1⟩) (meth := k1m1) (c := k1c1) (by decide +kernel) rfl rfl rfl (by decide +kernel)
set_option maxRecDepth 65536 in
theorem w_c1 : (Jvm.Cond.code ({ cls := "com/example/collector_urchin/collectorurchin/store/Space", name := "isTimed", desc := "()Z" } : Jvm.MethodName) prog_21_method_6_code (1 : Nat) (Option.some Jvm.ClassFile.FieldType.boolean)).before args0 about1 = true := code_word (m := ⟨6, 1⟩) (meth := k6m1) (c := k6c1) (by decide +kernel) rfl rfl rfl (by decide +kernel)
set_option maxRecDepth 65536 in
theorem w_c2 : (Jvm.Cond.code ({ cls := "com/example/collector_urchin/collectorurchin/store/Space", name := "leastVersion", desc := "(J)J" } : Jvm.MethodName) prog_21_method_5_code (3 : Nat) (Option.some Jvm.ClassFile.FieldType.long)).before args0 about1 = true := code_word (m := ⟨6, 0⟩) (meth := k6m0) (c := k6c0) (by decide +kernel) rfl rfl rfl (by decide +kernel)
set_option maxRecDepth 65536 in
theorem w_c3 : (Jvm.Cond.code ({ cls := "java/lang/Math", name := "floorDiv", desc := "(JJ)J" } : Jvm.MethodName) jdk_29_method_49_code (6 : Nat) (Option.some Jvm.ClassFile.FieldType.long)).before args0 about1 = true := code_word (m := ⟨7, 1⟩) (meth := k7m1) (c := k7c1) (by decide +kernel) rfl rfl rfl (by decide +kernel)
def codes1 : List Jvm.Cond := [Jvm.Cond.code x code maxLocals ret, Jvm.Cond.code ({ cls := "com/example/collector_urchin/collectorurchin/store/Space", name := "isTimed", desc := "()Z" } : Jvm.MethodName) prog_21_method_6_code (1 : Nat) (Option.some Jvm.ClassFile.FieldType.boolean), Jvm.Cond.code ({ cls := "com/example/collector_urchin/collectorurchin/store/Space", name := "leastVersion", desc := "(J)J" } : Jvm.MethodName) prog_21_method_5_code (3 : Nat) (Option.some Jvm.ClassFile.FieldType.long), Jvm.Cond.code ({ cls := "java/lang/Math", name := "floorDiv", desc := "(JJ)J" } : Jvm.MethodName) jdk_29_method_49_code (6 : Nat) (Option.some Jvm.ClassFile.FieldType.long)]
set_option maxRecDepth 65536 in
theorem codes_eq : words1.filter isCode = codes1 := rfl
theorem w_codes : ∀ c ∈ words1.filter isCode, c.before args0 about1 = true := by
  rw [codes_eq]
  intro c hc
  simp only [codes1, List.mem_cons, List.not_mem_nil, or_false] at hc
  rcases hc with rfl | rfl | rfl | rfl
  · exact w_c0
  · exact w_c1
  · exact w_c2
  · exact w_c3
set_option maxRecDepth 65536 in
theorem w_t1 : (words1.take 24).all (fun c => isCode c || c.before args0 about1) = true := by decide +kernel
set_option maxRecDepth 65536 in
theorem w_t2 : (words1.drop 24).all (fun c => isCode c || c.before args0 about1) = true := by decide +kernel
theorem w_tables : (allAtoms (Jvm.Cond.code x code maxLocals ret :: tables_1)).before args0 about1 = true := by
  rw [allAtoms_all]
  show words1.all (fun c => c.before args0 about1) = true
  refine all_split ?_ w_codes
  rw [← List.take_append_drop 24 words1, List.all_append, w_t1, w_t2]
  rfl
set_option maxRecDepth 65536 in
theorem w_case : (Jvm.Cond.and given_1 narrow_1).before args0 about1 = true := by decide +kernel
theorem w_applies : (headSpec (Jvm.Cond.code x code maxLocals ret :: tables_1) room_1).applies x e0.platform about1 = true :=
  (Spec.applies_iff w_frames).mpr ⟨w_running, w_runnable, w_alone, w_named, w_hears, w_ripe, w_room, w_tables⟩
theorem atStart : AtStart classFile x code maxLocals ret World_1 tables_1 room_1 Calls_1 rest_1 Pre_1 launch0 p0 e0 about1 theMethod args0 below0 :=
  ⟨lists_1, trivial, launch0.admits_env _ _ _, launch0.least_env, fairChoices_fair.cas, fairChoices_fair.clock, w_frames, w_args, w_heap, w_applies, trivial, trivial, w_case⟩
end start1
theorem witness_1 : WitnessClaimed_1 := ⟨start1.p0, start1.e0, start1.about1, start1.theMethod, start1.args0, start1.below0, start1.atStart⟩
end Jvm.Pilot.@@N@@
