import JvmDerived
import JvmDerived.Pilot.@@N@@Statement
import JvmDerived.Pilot.@@N@@Code
set_option linter.unusedVariables false
set_option linter.unusedSimpArgs false
@@BLOCK:NumsL.lean.txt@@
namespace Jvm.RoadKit
open Sem ClassFile Op Lib Jvm.Stand Jvm.Free Jvm.LawKit
/-- from the state S the run comes to an end that P holds of -/
def own_Out (p : Program) (e : Env) (below : List Frame) (P : Outcome → State → Prop) (S : State) : Prop := ∃ s₂ o, Steps p.tables e below S s₂ ∧ s₂.status = .running ∧ Ended s₂ below o ∧ P o s₂
theorem own_of {p : Program} {e : Env} {below : List Frame} {P : Outcome → State → Prop} {S S' : State} (h : ∀ t, Steps p.tables e below S' t → Steps p.tables e below S t) (k : own_Out p e below P S') : own_Out p e below P S := by
  obtain ⟨a, b, c, d⟩ := k
  exact ⟨a, b, h a c, d⟩
section New
variable {p : Program} {l : Launch} {e : Env} {R : Room} {s : State} {m : MethodId} {args : Array Value} {below : List Frame} {meth : Method} {c : Code} {T : State} {locs : List Loc} {cells slots : Nat}
theorem own_retI (X : Stand p l e R s m args below meth c T locs cells slots) (hx : p.tables.exec = Jvm.exec) {pc : Nat} {Ls : Array Slot} {z : Int32} {rest : List Value} (hret : meth.sig.returnType = some .int) (hd : decode c.code pc = .ok (.ireturn, 1)) {fs : List Frame}
    (hl : ∀ (f : JFrame) (acts : List Action), f.method = m → f.locked = none → f.entered = [] → (doReturn e (T.setTop f) acts (some (.int z))).1 = T.setFrames fs) : Steps p.tables e below (T.setTop (mkF m pc Ls (.int z :: rest))) (T.setFrames fs) := retOut X hx hret rfl (Or.inl ⟨rfl, Or.inl rfl, z, rfl⟩) hd hl
theorem own_end (X : Stand p l e R s m args below meth c T locs cells slots) (hlk : meth.locks = false) {v : Option Value} (hv : meth.sig.returnType = none → v = none) {g : JFrame}
    (hs : ∀ fs, (∀ (f : JFrame) (acts : List Action), f.method = m → f.locked = none → f.entered = [] → (doReturn e (T.setTop f) acts v).1 = T.setFrames fs) → Steps p.tables e below (T.setTop g) (T.setFrames fs))
    {Q : Option Value → Heap → List Loc → Prop} (hQ : Q v T.heap locs) {C N : Nat} (hC : cells ≤ C) (hN : slots ≤ N) :
    own_Out p e below (fun o U' => ∃ v L, o = .returned v ∧ Q v U'.heap L ∧ FrameEnd s o U' L C N) (T.setTop g) := by
  obtain ⟨fs, hr, hrun, hended, hW, hsame⟩ := X.leave (v := v) hv hlk
  exact ⟨_, _, hs fs hr, hrun, hended, _, _, rfl, hQ, ⟨_, rfl⟩, hW, hsame.mono hC hN⟩
theorem own_outI (X : Stand p l e R s m args below meth c T locs cells slots) (hx : p.tables.exec = Jvm.exec) (hlk : meth.locks = false) {pc : Nat} {Ls : Array Slot} {z : Int32} {rest : List Value} (hret : meth.sig.returnType = some .int) (hd : decode c.code pc = .ok (.ireturn, 1))
    {Q : Option Value → Heap → List Loc → Prop} (hQ : Q (some (.int z)) T.heap locs) {C N : Nat} (hC : cells ≤ C) (hN : slots ≤ N) :
    own_Out p e below (fun o U' => ∃ v L, o = .returned v ∧ Q v U'.heap L ∧ FrameEnd s o U' L C N) (T.setTop (mkF m pc Ls (.int z :: rest))) :=
  own_end X hlk (fun h => by rw [hret] at h; cases h) (fun fs hr => own_retI X hx hret hd hr) hQ hC hN
theorem own_outN (X : Stand p l e R s m args below meth c T locs cells slots) (hx : p.tables.exec = Jvm.exec) (hlk : meth.locks = false) {pc : Nat} {Ls : Array Slot} {z z' : Int32} {t : FieldType} {rest : List Value} (hret : meth.sig.returnType = some t) (ht : t = .boolean ∨ t = .byte ∨ t = .char ∨ t = .short) (hd : decode c.code pc = .ok (.ireturn, 1)) (hz : nar t z = z')
    {Q : Option Value → Heap → List Loc → Prop} (hQ : Q (some (.int z')) T.heap locs) {C N : Nat} (hC : cells ≤ C) (hN : slots ≤ N) :
    own_Out p e below (fun o U' => ∃ v L, o = .returned v ∧ Q v U'.heap L ∧ FrameEnd s o U' L C N) (T.setTop (mkF m pc Ls (.int z :: rest))) :=
  own_end X hlk (fun h => by rw [hret] at h; cases h) (fun fs hr => retN X hx hret ht hd (by rw [hz]; exact hr)) hQ hC hN
theorem own_outL (X : Stand p l e R s m args below meth c T locs cells slots) (hx : p.tables.exec = Jvm.exec) (hlk : meth.locks = false) {pc : Nat} {Ls : Array Slot} {z : Int64} {rest : List Value} (hret : meth.sig.returnType = some .long) (hd : decode c.code pc = .ok (.lreturn, 1))
    {Q : Option Value → Heap → List Loc → Prop} (hQ : Q (some (.long z)) T.heap locs) {C N : Nat} (hC : cells ≤ C) (hN : slots ≤ N) :
    own_Out p e below (fun o U' => ∃ v L, o = .returned v ∧ Q v U'.heap L ∧ FrameEnd s o U' L C N) (T.setTop (mkF m pc Ls (.long z :: rest))) :=
  own_end X hlk (fun h => by rw [hret] at h; cases h) (fun fs hr => retOut X hx hret rfl (Or.inr (Or.inl ⟨rfl, rfl, z, rfl⟩)) hd hr) hQ hC hN
theorem own_outD (X : Stand p l e R s m args below meth c T locs cells slots) (hx : p.tables.exec = Jvm.exec) (hlk : meth.locks = false) {pc : Nat} {Ls : Array Slot} {z : UInt64} {rest : List Value} (hret : meth.sig.returnType = some .double) (hd : decode c.code pc = .ok (.dreturn, 1))
    {Q : Option Value → Heap → List Loc → Prop} (hQ : Q (some (.double z)) T.heap locs) {C N : Nat} (hC : cells ≤ C) (hN : slots ≤ N) :
    own_Out p e below (fun o U' => ∃ v L, o = .returned v ∧ Q v U'.heap L ∧ FrameEnd s o U' L C N) (T.setTop (mkF m pc Ls (.double z :: rest))) :=
  own_end X hlk (fun h => by rw [hret] at h; cases h) (fun fs hr => retOut X hx hret rfl (Or.inr (Or.inr (Or.inl ⟨rfl, rfl, z, rfl⟩))) hd hr) hQ hC hN
theorem own_outR (X : Stand p l e R s m args below meth c T locs cells slots) (hx : p.tables.exec = Jvm.exec) (hlk : meth.locks = false) {pc : Nat} {Ls : Array Slot} {w : Value} {t : FieldType} {rest : List Value} (hret : meth.sig.returnType = some t) (ht : t.isReference = true) (hw : w.isRef = true) (hn : narrow t w = w) (hd : decode c.code pc = .ok (.areturn, 1))
    {Q : Option Value → Heap → List Loc → Prop} (hQ : Q (some w) T.heap locs) {C N : Nat} (hC : cells ≤ C) (hN : slots ≤ N) :
    own_Out p e below (fun o U' => ∃ v L, o = .returned v ∧ Q v U'.heap L ∧ FrameEnd s o U' L C N) (T.setTop (mkF m pc Ls (w :: rest))) :=
  own_end X hlk (fun h => by rw [hret] at h; cases h) (fun fs hr => retOut X hx hret hn (Or.inr (Or.inr (Or.inr (Or.inr ⟨rfl, ht, hw⟩)))) hd hr) hQ hC hN
theorem own_outV (X : Stand p l e R s m args below meth c T locs cells slots) (hx : p.tables.exec = Jvm.exec) (hlk : meth.locks = false) {pc : Nat} {Ls : Array Slot} (hret : meth.sig.returnType = none) (hd : decode c.code pc = .ok (.return_, 1))
    {Q : Option Value → Heap → List Loc → Prop} (hQ : Q none T.heap locs) {C N : Nat} (hC : cells ≤ C) (hN : slots ≤ N) :
    own_Out p e below (fun o U' => ∃ v L, o = .returned v ∧ Q v U'.heap L ∧ FrameEnd s o U' L C N) (T.setTop (mkF m pc Ls [])) :=
  own_end X hlk (fun _ => rfl) (fun fs hr => X.returnOut hx hret hd hr) hQ hC hN
end New
theorem own_ltlt {x y : Int64} (h : x < y) : ifCond.holds .lt (lcmpW x y) = true ∧ ifCond.holds .ge (lcmpW x y) = false ∧ ifCond.holds .gt (lcmpW y x) = true ∧ ifCond.holds .le (lcmpW y x) = false := by
  have h1 : ¬ x > y := fun q => by rw [gt_iff_lt, Int64.lt_iff_toInt_lt] at q; rw [Int64.lt_iff_toInt_lt] at h; omega
  have h2 : ¬ x = y := fun q => by subst q; rw [Int64.lt_iff_toInt_lt] at h; omega
  have e1 : lcmpW x y = -1 := by simp only [lcmpW, if_neg h1, if_neg h2]
  have e2 : lcmpW y x = 1 := by simp only [lcmpW, if_pos (show y > x from h)]
  rw [e1, e2]; decide
theorem own_leq {x y : Int64} (h : x = y) : ifCond.holds .eq (lcmpW x y) = true ∧ ifCond.holds .ne (lcmpW x y) = false := by
  subst h
  have h1 : ¬ x > x := fun q => by rw [gt_iff_lt, Int64.lt_iff_toInt_lt] at q; omega
  have e1 : lcmpW x x = 0 := by simp only [lcmpW, if_neg h1, if_pos]
  rw [e1]; decide
theorem own_lfeq {x y : Int64} (h : ¬ x = y) : ifCond.holds .eq (lcmpW x y) = false ∧ ifCond.holds .ne (lcmpW x y) = true := by
  by_cases h1 : x > y
  · have e1 : lcmpW x y = 1 := by simp only [lcmpW, if_pos h1]
    rw [e1]; decide
  · have e1 : lcmpW x y = -1 := by simp only [lcmpW, if_neg h1, if_neg h]
    rw [e1]; decide
theorem own_lflt {x y : Int64} (h : ¬ x < y) : ifCond.holds .lt (lcmpW x y) = false ∧ ifCond.holds .ge (lcmpW x y) = true ∧ ifCond.holds .gt (lcmpW y x) = false ∧ ifCond.holds .le (lcmpW y x) = true := by
  by_cases h1 : x = y
  · subst h1
    have h1 : ¬ x > x := fun q => by rw [gt_iff_lt, Int64.lt_iff_toInt_lt] at q; omega
    have e1 : lcmpW x x = 0 := by simp only [lcmpW, if_neg h1, if_pos]
    rw [e1]; decide
  · have h2 : x > y := by
      rw [gt_iff_lt, Int64.lt_iff_toInt_lt]; rw [Int64.lt_iff_toInt_lt] at h
      have h3 : ¬ x.toInt = y.toInt := fun q => h1 (Int64.toInt_inj.mp q)
      omega
    have h3 : ¬ y > x := fun q => by rw [gt_iff_lt, Int64.lt_iff_toInt_lt] at q h2; omega
    have e1 : lcmpW x y = 1 := by simp only [lcmpW, if_pos h2]
    have e2 : lcmpW y x = -1 := by simp only [lcmpW, if_neg h3, if_neg (fun q => h1 (Eq.symm q))]
    rw [e1, e2]; decide
theorem own_staK0 {Z : State} {h h' : Heap} {C n d : String} {v : Value} (F : Sta Z h C n d v) (K : Keep h h' []) : Sta Z h' C n d v := by
  obtain ⟨cf, i, k, f, st, cell, h1, h2, h3, h4, h5, r⟩ := F
  exact ⟨cf, i, k, f, st, cell, h1, h2, h3, h4, K.2.1 st cell h5 nin0, r⟩
theorem own_staK1 {Z : State} {h h' : Heap} {C n d : String} {v : Value} {a : Addr} (F : Sta Z h C n d v) (K : Keep h h' [a]) (q : ∀ cell : Cell, h[a]? = some cell → cell.vm.isStatics = false) : Sta Z h' C n d v := by
  obtain ⟨cf, i, k, f, st, cell, h1, h2, h3, h4, h5, h6, h7⟩ := F
  have ne : st ≠ a := fun e => by subst e; rw [q _ h5] at h6; cases h6
  exact ⟨cf, i, k, f, st, cell, h1, h2, h3, h4, K.2.1 st cell h5 (ninS ne nin0), h6, h7⟩
theorem own_plainE {Z : State} {h : Heap} {a : Addr} {C : String} (E : Exa Z h a C) : ∀ cell : Cell, h[a]? = some cell → cell.vm.isStatics = false := fun cell hc => by
  obtain ⟨c, k, h1, -, -, h4, -⟩ := E; cases h1.symm.trans hc; exact h4
theorem own_plainV {Z : State} {h : Heap} {a : Addr} {k : ClassId} {ty : FieldType} {z : Int32} {vs : List Value} {dv : Value} (F : Arv Z h a k ty z vs dv) : ∀ cell : Cell, h[a]? = some cell → cell.vm.isStatics = false := fun cell hc => by
  obtain ⟨c, A, -⟩ := F; cases A.1.symm.trans hc; exact A.plain
section Bounds
variable {x a k : Int32} {u : Int}
theorem own_L1 (h : ¬ (x < a)) : a.toInt ≤ x.toInt := by rw [Int32.lt_iff_toInt_lt] at h; omega
theorem own_L2 (h : a < x) : a.toInt + 1 ≤ x.toInt := by rw [Int32.lt_iff_toInt_lt] at h; omega
theorem own_L3 (h : x = a) : a.toInt ≤ x.toInt := by subst h; omega
theorem own_U1 (h : x < a) : x.toInt ≤ a.toInt - 1 := by rw [Int32.lt_iff_toInt_lt] at h; omega
theorem own_U2 (h : ¬ (a < x)) : x.toInt ≤ a.toInt := by rw [Int32.lt_iff_toInt_lt] at h; omega
theorem own_U3 (h : x = a) : x.toInt ≤ a.toInt := by subst h; omega
theorem own_T1 (h : x.toInt ≤ u) (d : u < k.toInt) : x < k := by rw [Int32.lt_iff_toInt_lt]; omega
theorem own_T2 (h : u ≤ x.toInt) (d : k.toInt ≤ u) : ¬ (x < k) := by rw [Int32.lt_iff_toInt_lt]; omega
theorem own_T3 (h : u ≤ x.toInt) (d : k.toInt < u) : k < x := by rw [Int32.lt_iff_toInt_lt]; omega
theorem own_T4 (h : x.toInt ≤ u) (d : u ≤ k.toInt) : ¬ (k < x) := by rw [Int32.lt_iff_toInt_lt]; omega
theorem own_T5 (h : x.toInt ≤ u) (d : u < k.toInt) : ¬ (x = k) := fun q => by subst q; omega
theorem own_T6 (h : u ≤ x.toInt) (d : k.toInt < u) : ¬ (x = k) := fun q => by subst q; omega
theorem own_T7 {u' : Int} (h : u ≤ x.toInt) (h' : x.toInt ≤ u') (d : k.toInt ≤ u ∧ u' ≤ k.toInt) : x = k := Int32.toInt_inj.mp (by omega)
end Bounds
section Rel
theorem own_JR1 {a b : Int64} (h : a < b) : ¬ (b < a) := by rw [Int64.lt_iff_toInt_lt] at *; omega
theorem own_JR2 {a b : Int64} (h : a < b) : ¬ (a = b) := fun q => by subst q; rw [Int64.lt_iff_toInt_lt] at h; omega
theorem own_JR2' {a b : Int64} (h : a < b) : ¬ (b = a) := fun q => by subst q; rw [Int64.lt_iff_toInt_lt] at h; omega
theorem own_JR3 {a b : Int64} (h : a = b) : ¬ (a < b) := fun q => by subst h; rw [Int64.lt_iff_toInt_lt] at q; omega
theorem own_JR3' {a b : Int64} (h : a = b) : ¬ (b < a) := fun q => by subst h; rw [Int64.lt_iff_toInt_lt] at q; omega
theorem own_JR4 {a b : Int64} (h : ¬ (a < b)) (h' : ¬ (b < a)) : a = b := by rw [Int64.lt_iff_toInt_lt] at h h'; exact Int64.toInt_inj.mp (by omega)
theorem own_JR5 {a b : Int64} (h : ¬ (a < b)) (h' : ¬ (a = b)) : b < a := by rw [← Int64.toInt_inj] at h'; rw [Int64.lt_iff_toInt_lt] at *; omega
theorem own_JR5' {a b : Int64} (h : ¬ (a < b)) (h' : ¬ (b = a)) : b < a := by rw [← Int64.toInt_inj] at h'; rw [Int64.lt_iff_toInt_lt] at *; omega
theorem own_IR1 {a b : Int32} (h : a < b) : ¬ (b < a) := by rw [Int32.lt_iff_toInt_lt] at *; omega
theorem own_IR2 {a b : Int32} (h : a < b) : ¬ (a = b) := fun q => by subst q; rw [Int32.lt_iff_toInt_lt] at h; omega
theorem own_IR2' {a b : Int32} (h : a < b) : ¬ (b = a) := fun q => by subst q; rw [Int32.lt_iff_toInt_lt] at h; omega
theorem own_IR3 {a b : Int32} (h : a = b) : ¬ (a < b) := fun q => by subst h; rw [Int32.lt_iff_toInt_lt] at q; omega
theorem own_IR3' {a b : Int32} (h : a = b) : ¬ (b < a) := fun q => by subst h; rw [Int32.lt_iff_toInt_lt] at q; omega
theorem own_IR4 {a b : Int32} (h : ¬ (a < b)) (h' : ¬ (b < a)) : a = b := by rw [Int32.lt_iff_toInt_lt] at h h'; exact Int32.toInt_inj.mp (by omega)
theorem own_IR5 {a b : Int32} (h : ¬ (a < b)) (h' : ¬ (a = b)) : b < a := by rw [← Int32.toInt_inj] at h'; rw [Int32.lt_iff_toInt_lt] at *; omega
theorem own_IR5' {a b : Int32} (h : ¬ (a < b)) (h' : ¬ (b = a)) : b < a := by rw [← Int32.toInt_inj] at h'; rw [Int32.lt_iff_toInt_lt] at *; omega
end Rel
end Jvm.RoadKit
namespace Jvm.Pilot.@@N@@
open Jvm Jvm.ClassFile Sem Op Lib Jvm.Free Jvm.Stand Jvm.LawKit Jvm.RoadKit Bundle Jvm.Pilot.@@N@@.Jvm.D
theorem d6_0 : decode jdk_37_method_2_code 0 = .ok (.aload_n 0, 1) := by decide +kernel
theorem d6_1 : decode jdk_37_method_2_code 1 = .ok (.getfield 7, 3) := by decide +kernel
theorem d6_4 : decode jdk_37_method_2_code 4 = .ok (.ireturn, 1) := by decide +kernel
theorem pn_0 : plainName "java/lang/Enum" = true := by first | (simp [plainName, overriddenIn]; done) | decide +kernel
theorem ef_6 (m : MethodId) (x0 : Addr) : entryFrame m #[(.ref x0)] 1 = mkF m 0 #[.val (.ref x0)] [] := by first | (simp [entryFrame, mkF, argsToLocals, Value.category]; done) | rfl
def Q6 (Z : State) (o0 : Addr) (w : Int32) (h0 : Heap) (n0 : Nat) (v : Option Value) (h : Heap) (L : List Loc) : Prop := v = some (.int w) ∧ Fr n0 L ∧ h = h0
set_option maxRecDepth 65536 in
set_option maxHeartbeats 40000000 in
theorem rm6 (l : Launch) (Z : State) (a0 : Array Value) (hw : ∀ d ∈ tables_1, d.before a0 Z = true) (ws : List Jvm.Cond) (o0 : Addr) (w : Int32) (h0 : Heap) (n0 : Nat) (Z0 : n0 ≤ h0.size) (F : Fld Z h0 o0 "java/lang/Enum" "ordinal" "I" (.int w)) :
    MetFree l (⟨"java/lang/Enum", "ordinal", "()I"⟩ : MethodName) (head1 (Jvm.Cond.code (⟨"java/lang/Enum", "ordinal", "()I"⟩ : MethodName) jdk_37_method_2_code 1 (some .int) :: ws) ({ frames := 0, cells := 0, slots := 0, locals := 0 } : Room)) (fun a U => a = #[(.ref o0)] ∧ Z.Warmed39 U.vm ∧ U.heap = h0) (fun _ _ _ _ _ => True) (fun _ U o U' => ∃ v L, o = .returned v ∧ Q6 Z o0 w h0 n0 v U'.heap L ∧ FrameEnd U o U' L ({ frames := 0, cells := 0, slots := 0, locals := 0 } : Room).cells ({ frames := 0, cells := 0, slots := 0, locals := 0 } : Room).slots) := by
  refine MetFree.of_bodySF (plainFor_of_name pn_0) hisR ?_
  intro p e s m args below meth c s₁ Bd hml0 hP hK
  obtain ⟨rfl, hZ, hh⟩ := hP
  have hx := Bd.exec
  have hby := Bd.bytes
  have hml : c.maxLocals = 1 := hml0
  have hown : s.vm.findClass "java/lang/Enum" = some m.cls := findClass_of_methodNamed Bd.named
  have hnm := (name_of_methodNamed Bd.named Bd.method).1
  have X0 : Stand p l e ({ frames := 0, cells := 0, slots := 0, locals := 0 } : Room) s m #[(.ref o0)] below meth c s₁ [] 0 0 := Stand.of_body Bd
  have e0 : s₁.heap = h0 := by rw [← hh, Bd.state]; rfl
  have N0 := Fr.nil n0
  have hret := Bd.returns
  have hlk := BodyLoose.notSynchronized Bd
  show own_Out p e below (fun o U' => ∃ v L, o = .returned v ∧ Q6 Z o0 w h0 n0 v U'.heap L ∧ FrameEnd s o U' L ({ frames := 0, cells := 0, slots := 0, locals := 0 } : Room).cells ({ frames := 0, cells := 0, slots := 0, locals := 0 } : Room).slots) (s₁.setTop (entryFrame m #[(.ref o0)] 1))
  refine own_of (fun t k => castTop (ef_6 m o0) k) ?_
  show own_Out p e below _ (s₁.setTop (mkF m 0 #[.val (.ref o0)] []))
  refine own_of (fun _ k => XS.aloadN X0.here hx rfl (hb hby d6_0) rfl rfl k) ?_
  show own_Out p e below _ (s₁.setTop (mkF m 1 #[.val (.ref o0)] [(.ref o0)]))
  obtain ⟨T1, X1, e1, st1⟩ := getF X0 hx hZ hown (host := "") (Or.inl (hw _ (List.mem_of_getElem? (i := 50) rfl))) Via.refl e0 F (g := (mkF m 1 #[.val (.ref o0)] [(.ref o0)])) rfl rfl (hb hby d6_1)
  refine own_of st1 ?_
  show own_Out p e below _ (T1.setTop (mkF m 4 #[.val (.ref o0)] [(.int w)]))
  exact own_outI X1 hx hlk hret (hb hby d6_4) (Q := Q6 Z o0 w h0 n0) ⟨rfl, N0, e1⟩ (by decide) (by decide)
theorem d3_0 : decode prog_9_method_1_code 0 = .ok (.getstatic 16, 3) := by decide +kernel
theorem d3_3 : decode prog_9_method_1_code 3 = .ok (.invokevirtual 20, 3) := by decide +kernel
theorem d3_6 : decode prog_9_method_1_code 6 = .ok (.checkcast 21, 3) := by decide +kernel
theorem d3_9 : decode prog_9_method_1_code 9 = .ok (.areturn, 1) := by decide +kernel
theorem pn_1 : plainName "com/example/fides/fides/command/perf/Outcome" = true := by first | (simp [plainName, overriddenIn]; done) | decide +kernel
theorem ef_3 (m : MethodId)  : entryFrame m #[] 0 = mkF m 0 #[] [] := by first | (simp [entryFrame, mkF, argsToLocals, Value.category]; done) | rfl
def Q3 (Z : State) (wV : Addr) (cl : Cell) (h0 : Heap) (n0 : Nat) (v : Option Value) (h : Heap) (L : List Loc) : Prop := ∃ (b : Addr) (cl' : Cell), v = some (.ref b) ∧ Fr n0 L ∧ Keep h0 h [] ∧ Arr Z h b cl' (.object "com/example/fides/fides/command/perf/Outcome") ∧ cl'.slots.size = (4 : Int32).toNatClampNeg ∧ n0 ≤ b ∧ h0.size ≤ b
set_option maxRecDepth 65536 in
set_option maxHeartbeats 40000000 in
theorem rm3 (l : Launch) (Z : State) (a0 : Array Value) (hw : ∀ d ∈ tables_1, d.before a0 Z = true) (ws : List Jvm.Cond) (wV : Addr) (cl : Cell) (h0 : Heap) (n0 : Nat) (Z0 : n0 ≤ h0.size) (S : Sta Z h0 "com/example/fides/fides/command/perf/Outcome" "$VALUES" "[Lcom/example/fides/fides/command/perf/Outcome;" (.ref wV)) (A : Arr Z h0 wV cl (.object "com/example/fides/fides/command/perf/Outcome")) (E : Exa Z h0 wV "[Lcom/example/fides/fides/command/perf/Outcome;") (FC : FitC Z cl) (hsz : cl.slots.size = (4 : Int32).toNatClampNeg) :
    MetFree l (⟨"com/example/fides/fides/command/perf/Outcome", "values", "()[Lcom/example/fides/fides/command/perf/Outcome;"⟩ : MethodName) (head1 (Jvm.Cond.code (⟨"com/example/fides/fides/command/perf/Outcome", "values", "()[Lcom/example/fides/fides/command/perf/Outcome;"⟩ : MethodName) prog_9_method_1_code 0 (some (.array (.object "com/example/fides/fides/command/perf/Outcome"))) :: ws) ({ frames := 1, cells := 1, slots := 4, locals := 14 } : Room)) (fun a U => a = #[] ∧ Z.Warmed39 U.vm ∧ U.heap = h0) (fun _ _ _ _ _ => True) (fun _ U o U' => ∃ v L, o = .returned v ∧ Q3 Z wV cl h0 n0 v U'.heap L ∧ FrameEnd U o U' L ({ frames := 1, cells := 1, slots := 4, locals := 14 } : Room).cells ({ frames := 1, cells := 1, slots := 4, locals := 14 } : Room).slots) := by
  refine MetFree.of_bodySF (plainFor_of_name pn_1) hisR ?_
  intro p e s m args below meth c s₁ Bd hml0 hP hK
  obtain ⟨rfl, hZ, hh⟩ := hP
  have hx := Bd.exec
  have hby := Bd.bytes
  have hml : c.maxLocals = 0 := hml0
  have hown : s.vm.findClass "com/example/fides/fides/command/perf/Outcome" = some m.cls := findClass_of_methodNamed Bd.named
  have hnm := (name_of_methodNamed Bd.named Bd.method).1
  have X0 : Stand p l e ({ frames := 1, cells := 1, slots := 4, locals := 14 } : Room) s m #[] below meth c s₁ [] 0 0 := Stand.of_body Bd
  have e0 : s₁.heap = h0 := by rw [← hh, Bd.state]; rfl
  have N0 := Fr.nil n0
  have hret := Bd.returns
  have hlk := BodyLoose.notSynchronized Bd
  show own_Out p e below (fun o U' => ∃ v L, o = .returned v ∧ Q3 Z wV cl h0 n0 v U'.heap L ∧ FrameEnd s o U' L ({ frames := 1, cells := 1, slots := 4, locals := 14 } : Room).cells ({ frames := 1, cells := 1, slots := 4, locals := 14 } : Room).slots) (s₁.setTop (entryFrame m #[] 0))
  refine own_of (fun t k => castTop (ef_3 m ) k) ?_
  show own_Out p e below _ (s₁.setTop (mkF m 0 #[] []))
  obtain ⟨T1, X1, e1, st1⟩ := getS2 X0 hx hZ hown (host := "") (Or.inl (hw _ (List.mem_of_getElem? (i := 13) rfl))) Via.refl e0 S (g := (mkF m 0 #[] [])) rfl (hb hby d3_0)
  refine own_of st1 ?_
  show own_Out p e below _ (T1.setTop (mkF m 3 #[] [(.ref wV)]))
  obtain ⟨T2, h2, X2, e2, E2, A2, Ex2, st2⟩ := cloneA X1 hx hZ hown (hw _ (List.mem_of_getElem? (i := 15) rfl)) (hw _ (List.mem_of_getElem? (i := 16) rfl)) (hw _ (List.mem_of_getElem? (i := 20) rfl)) (hw _ (List.mem_of_getElem? (i := 18) rfl)) (hw _ (List.mem_of_getElem? (i := 19) rfl)) (hw _ (List.mem_of_getElem? (i := 21) rfl)) e1 A E FC (g := (mkF m 3 #[] [(.ref wV)])) rfl (by rw [hml]; rfl) rfl (hb hby d3_3) (by decide) (W := 0) (by show 2 * 0 + _ ≤ _; exact Nat.le_of_eq rfl) (by decide) (cap := 4) (by rw [hsz]; decide) (by decide) (by decide)
  obtain ⟨b2, g2⟩ : ∃ z, z = h0.size := ⟨_, rfl⟩
  rw [← g2] at A2 Ex2 st2
  have ne_wV_b2 : wV ≠ b2 := Nat.ne_of_lt (Nat.lt_of_lt_of_le E.lt (Nat.le_of_eq g2.symm))
  have g_b2 : n0 ≤ b2 := Nat.le_trans Z0 (Nat.le_of_eq g2.symm)
  have sz_b2 : h0.size ≤ b2 := Nat.le_trans (Keep.refl h0 []).1 (Nat.le_of_eq g2.symm)
  have Zl2 : n0 ≤ h2.size := Nat.le_trans Z0 E2.1
  have Kp2 := (Keep.refl h0 []).ext E2
  have S_com_example_fides_fides_command_perf_Outcome__VALUES_2 := S.ext E2
  have E_wV_2 := E.ext E2
  refine own_of st2 ?_
  show own_Out p e below _ (T2.setTop (mkF m 6 #[] [(.ref b2)]))
  obtain ⟨T3, X3, e3, st3⟩ := castY X2 hx hZ hown (hw _ (List.mem_of_getElem? (i := 27) rfl)) e2 (Ins.self Ex2) (g := (mkF m 6 #[] [(.ref b2)])) rfl rfl (hb hby d3_6)
  refine own_of st3 ?_
  show own_Out p e below _ (T3.setTop (mkF m 9 #[] [(.ref b2)]))
  exact own_outR X3 hx hlk hret rfl rfl rfl (hb hby d3_9) (Q := Q3 Z wV cl h0 n0) (by rw [e3]; exact ⟨b2, (cloneOf cl), rfl, N0, Kp2, A2, hsz, g_b2, sz_b2⟩) (by decide) (by decide)
theorem pd_0 : parseMethodDescriptor "()[Lcom/example/fides/fides/command/perf/Outcome;" = some ⟨[], some (.array (.object "com/example/fides/fides/command/perf/Outcome"))⟩ := by decide +kernel
theorem d1_0 : decode prog_13_method_1_code 0 = .ok (.aload_n 0, 1) := by decide +kernel
theorem d1_1 : decode prog_13_method_1_code 1 = .ok (.invokespecial 1, 3) := by decide +kernel
theorem d1_4 : decode prog_13_method_1_code 4 = .ok (.aload_n 0, 1) := by decide +kernel
theorem d1_5 : decode prog_13_method_1_code 5 = .ok (.invokestatic 7, 3) := by decide +kernel
theorem d1_8 : decode prog_13_method_1_code 8 = .ok (.arraylength, 1) := by decide +kernel
theorem d1_9 : decode prog_13_method_1_code 9 = .ok (.newarray .long, 2) := by decide +kernel
theorem d1_11 : decode prog_13_method_1_code 11 = .ok (.putfield 13, 3) := by decide +kernel
theorem d1_14 : decode prog_13_method_1_code 14 = .ok (.return_, 1) := by decide +kernel
theorem pn_2 : plainName "com/example/fides/fides/command/perf/Tally" = true := by first | (simp [plainName, overriddenIn]; done) | decide +kernel
theorem ef_1 (m : MethodId) (x0 : Addr) : entryFrame m #[(.ref x0)] 1 = mkF m 0 #[.val (.ref x0)] [] := by first | (simp [entryFrame, mkF, argsToLocals, Value.category]; done) | rfl
def Q1 (Z : State) (o0 : Addr) (wV : Addr) (cl : Cell) (h0 : Heap) (n0 : Nat) (v : Option Value) (h : Heap) (L : List Loc) : Prop := ∃ (b : Addr) (k : ClassId), v = none ∧ Fr n0 L ∧ Keep h0 h [o0] ∧ Exa Z h o0 "com/example/fides/fides/command/perf/Tally" ∧ Fld Z h o0 "com/example/fides/fides/command/perf/Tally" "counts" "[J" (.ref b) ∧ Arv Z h b k .long (4 : Int32) [(.long (0 : Int64)), (.long (0 : Int64)), (.long (0 : Int64)), (.long (0 : Int64))] (.long (0 : Int64)) ∧ n0 ≤ b ∧ h0.size ≤ b
set_option maxRecDepth 65536 in
set_option maxHeartbeats 40000000 in
theorem rm1 (l : Launch) (Z : State) (a0 : Array Value) (hw : ∀ d ∈ tables_1, d.before a0 Z = true) (ws : List Jvm.Cond) (o0 : Addr) (wV : Addr) (cl : Cell) (h0 : Heap) (n0 : Nat) (Z0 : n0 ≤ h0.size) (S : Sta Z h0 "com/example/fides/fides/command/perf/Outcome" "$VALUES" "[Lcom/example/fides/fides/command/perf/Outcome;" (.ref wV)) (A : Arr Z h0 wV cl (.object "com/example/fides/fides/command/perf/Outcome")) (E : Exa Z h0 wV "[Lcom/example/fides/fides/command/perf/Outcome;") (FC : FitC Z cl) (hsz : cl.slots.size = (4 : Int32).toNatClampNeg) (Eo : Exa Z h0 o0 "com/example/fides/fides/command/perf/Tally") (Fo : Fld Z h0 o0 "com/example/fides/fides/command/perf/Tally" "counts" "[J" .null) (g_o0 : n0 ≤ o0) (nV : wV ≠ o0) :
    MetFree l (⟨"com/example/fides/fides/command/perf/Tally", "<init>", "()V"⟩ : MethodName) (head1 (Jvm.Cond.code (⟨"com/example/fides/fides/command/perf/Tally", "<init>", "()V"⟩ : MethodName) prog_13_method_1_code 1 none :: ws) ({ frames := 2, cells := 2, slots := 8, locals := 26 } : Room)) (fun a U => a = #[(.ref o0)] ∧ Z.Warmed39 U.vm ∧ U.heap = h0) (fun _ _ _ _ _ => True) (fun _ U o U' => ∃ v L, o = .returned v ∧ Q1 Z o0 wV cl h0 n0 v U'.heap L ∧ FrameEnd U o U' L ({ frames := 2, cells := 2, slots := 8, locals := 26 } : Room).cells ({ frames := 2, cells := 2, slots := 8, locals := 26 } : Room).slots) := by
  refine MetFree.of_bodySF (plainFor_of_name pn_2) hisR ?_
  intro p e s m args below meth c s₁ Bd hml0 hP hK
  obtain ⟨rfl, hZ, hh⟩ := hP
  have hx := Bd.exec
  have hby := Bd.bytes
  have hml : c.maxLocals = 1 := hml0
  have hown : s.vm.findClass "com/example/fides/fides/command/perf/Tally" = some m.cls := findClass_of_methodNamed Bd.named
  have hnm := (name_of_methodNamed Bd.named Bd.method).1
  have X0 : Stand p l e ({ frames := 2, cells := 2, slots := 8, locals := 26 } : Room) s m #[(.ref o0)] below meth c s₁ [] 0 0 := Stand.of_body Bd
  have e0 : s₁.heap = h0 := by rw [← hh, Bd.state]; rfl
  have N0 := Fr.nil n0
  have hret := Bd.returns
  have hlk := BodyLoose.notSynchronized Bd
  show own_Out p e below (fun o U' => ∃ v L, o = .returned v ∧ Q1 Z o0 wV cl h0 n0 v U'.heap L ∧ FrameEnd s o U' L ({ frames := 2, cells := 2, slots := 8, locals := 26 } : Room).cells ({ frames := 2, cells := 2, slots := 8, locals := 26 } : Room).slots) (s₁.setTop (entryFrame m #[(.ref o0)] 1))
  refine own_of (fun t k => castTop (ef_1 m o0) k) ?_
  show own_Out p e below _ (s₁.setTop (mkF m 0 #[.val (.ref o0)] []))
  refine own_of (fun _ k => XS.aloadN X0.here hx rfl (hb hby d1_0) rfl rfl k) ?_
  show own_Out p e below _ (s₁.setTop (mkF m 1 #[.val (.ref o0)] [(.ref o0)]))
  obtain ⟨T1, X1, e1, st1⟩ := initO X0 hx hZ hown (hw _ (List.mem_of_getElem? (i := 6) rfl)) (hw _ (List.mem_of_getElem? (i := 7) rfl)) (hw _ (List.mem_of_getElem? (i := 8) rfl)) e0 (g := (mkF m 1 #[.val (.ref o0)] [(.ref o0)])) rfl (by rw [hml]; rfl) rfl (hb hby d1_1) (by decide) (W := 0) (by show 2 * 0 + _ ≤ _; exact Nat.le_of_eq rfl) (by decide)
  refine own_of st1 ?_
  show own_Out p e below _ (T1.setTop (mkF m 4 #[.val (.ref o0)] []))
  refine own_of (fun _ k => XS.aloadN X1.here hx rfl (hb hby d1_4) rfl rfl k) ?_
  show own_Out p e below _ (T1.setTop (mkF m 5 #[.val (.ref o0)] [(.ref o0)]))
  obtain ⟨_, _, ⟨T2, L2, k2, n2⟩, -, X2, ⟨Lc2, hQ2, l2, y2, z2⟩, st2⟩ := Jvm.LawKit.callS X1 hx (y := (⟨"com/example/fides/fides/command/perf/Outcome", "values", "()[Lcom/example/fides/fides/command/perf/Outcome;"⟩ : MethodName)) hown (mvT hZ (hw _ (List.mem_of_getElem? (i := 9) rfl))) (mvT hZ (hw _ (List.mem_of_getElem? (i := 10) rfl))) (mvT hZ (hw _ (List.mem_of_getElem? (i := 11) rfl))) (mvT hZ (hw _ (List.mem_of_getElem? (i := 12) rfl))) (by decide) (backOf (W := 1) (rm3 l Z a0 hw [] wV cl h0 n0 Z0 S A E FC hsz) hZ (hw _ (List.mem_of_getElem? (i := 12) rfl)) (hw _ (List.mem_of_getElem? (i := 11) rfl)) (by decide) (by decide)) (g := (mkF m 5 #[.val (.ref o0)] [(.ref o0)])) rfl (by rw [hml]; rfl) (argsL := []) (rest := [(.ref o0)]) (lenOf pd_0 rfl) rfl (by show 2 * 0 + _ ≤ _; exact Nat.le_of_eq rfl) (hb hby d1_5) (fun _ _ => ⟨rfl, e1, (by decide : 0 + 1 ≤ _), (by decide : 0 + 4 ≤ _)⟩)
  dsimp only [Pt.U, Pt.locs, Pt.cells, Pt.slots] at X2 l2 y2 z2 st2 hQ2
  subst l2 y2 z2
  obtain ⟨b2, cl'2, rfl, N2q, K2, A2, z2q, hg2, hs2⟩ := hQ2
  have N2 := Fr.app N0 N2q
  have ne_wV_b2 : wV ≠ b2 := Nat.ne_of_lt (Nat.lt_of_lt_of_le E.lt hs2)
  have ne_o0_b2 : o0 ≠ b2 := Nat.ne_of_lt (Nat.lt_of_lt_of_le Eo.lt hs2)
  have S_com_example_fides_fides_command_perf_Outcome__VALUES_K2 := own_staK0 S K2
  have E_wV_K2 := E.keep K2
  have E_o0_K2 := Eo.keep K2
  have F_o0_counts_K2 := Fo.keep K2 nin0
  have Zl2 : n0 ≤ T2.heap.size := Nat.le_trans Z0 K2.1
  have Kp2 := (Keep.refl h0 [o0]).trans K2 all0
  refine own_of st2 ?_
  show own_Out p e below _ (T2.setTop (mkF m 8 #[.val (.ref o0)] [(.ref b2), (.ref o0)]))
  refine own_of (X2.arraylength hx A2.1 (State.isArrayOf_alike hZ.alike A2.2.1) (g := (mkF m 8 #[.val (.ref o0)] [(.ref b2), (.ref o0)])) rfl rfl (hb hby d1_8)) ?_
  rw [len_of z2q (by decide)]
  show own_Out p e below _ (T2.setTop (mkF m 9 #[.val (.ref o0)] [(.int (4 : Int32)), (.ref o0)]))
  obtain ⟨T3, h3, k3, X3, e3, E3, A3, st3⟩ := newP X2 hx hZ (hw _ (List.mem_of_getElem? (i := 29) rfl)) rfl (g := (mkF m 9 #[.val (.ref o0)] [(.int (4 : Int32)), (.ref o0)])) rfl (hb hby d1_9) rfl (by decide) (cap := 4) (by decide) (by decide) (by decide) (by decide)
  obtain ⟨b3, g3⟩ : ∃ z, z = T2.heap.size := ⟨_, rfl⟩
  rw [← g3] at A3 st3
  have ne_wV_b3 : wV ≠ b3 := Nat.ne_of_lt (Nat.lt_of_lt_of_le E_wV_K2.lt (Nat.le_of_eq g3.symm))
  have ne_o0_b3 : o0 ≠ b3 := Nat.ne_of_lt (Nat.lt_of_lt_of_le E_o0_K2.lt (Nat.le_of_eq g3.symm))
  have ne_b2_b3 : b2 ≠ b3 := Nat.ne_of_lt (Nat.lt_of_lt_of_le A2.lt (Nat.le_of_eq g3.symm))
  have g_b3 : n0 ≤ b3 := Nat.le_trans Zl2 (Nat.le_of_eq g3.symm)
  have sz_b3 : h0.size ≤ b3 := Nat.le_trans Kp2.1 (Nat.le_of_eq g3.symm)
  have Zl3 : n0 ≤ h3.size := Nat.le_trans Zl2 E3.1
  have Kp3 := Kp2.ext E3
  have S_com_example_fides_fides_command_perf_Outcome__VALUES_3 := S_com_example_fides_fides_command_perf_Outcome__VALUES_K2.ext E3
  have E_wV_3 := E_wV_K2.ext E3
  have E_o0_3 := E_o0_K2.ext E3
  have F_o0_counts_3 := F_o0_counts_K2.ext E3
  have A_b2_3 := A2.ext E3
  have V_b3 : Arv Z h3 b3 k3 .long (4 : Int32) [(.long (0 : Int64)), (.long (0 : Int64)), (.long (0 : Int64)), (.long (0 : Int64))] (.long (0 : Int64)) := (Arv.new A3 (by decide)).pad (pad_rep [] (.long (0 : Int64)) 4)
  refine own_of st3 ?_
  show own_Out p e below _ (T3.setTop (mkF m 11 #[.val (.ref o0)] [(.ref b3), (.ref o0)]))
  obtain ⟨T4, h4, X4, e4, W4, st4⟩ := putF X3 hx hZ hown (host := "") (Or.inl (hw _ (List.mem_of_getElem? (i := 30) rfl))) Via.refl e3 F_o0_counts_3 E_o0_3 (Or.inr ⟨(hw _ (List.mem_of_getElem? (i := 31) rfl)), rfl, hnm⟩) (hw _ (List.mem_of_getElem? (i := 1) rfl)) (ty := (.array .long)) (by decide) rfl rfl (g := (mkF m 11 #[.val (.ref o0)] [(.ref b3), (.ref o0)])) rfl rfl (hb hby d1_11)
  have Fw4 := F_o0_counts_3.same W4
  have S_com_example_fides_fides_command_perf_Outcome__VALUES_4 := S_com_example_fides_fides_command_perf_Outcome__VALUES_3.wr W4
  have E_wV_4 := E_wV_3.wr W4
  have E_o0_4 := E_o0_3.wr W4
  have A_b2_4 := A_b2_3.other W4 (Ne.symm ne_o0_b2)
  have V_b3_4 := V_b3.other W4 (Ne.symm ne_o0_b3)
  have N4 := Fr.snoc X4 N2 g_o0
  have Zl4 : n0 ≤ h4.size := Nat.le_trans Zl3 (Keep.of_wr W4).1
  have Kp4 := Kp3.wr W4 (Or.inl (List.mem_of_getElem? (i := 0) rfl))
  refine own_of st4 ?_
  show own_Out p e below _ (T4.setTop (mkF m 14 #[.val (.ref o0)] []))
  exact own_outV X4 hx hlk hret (hb hby d1_14) (Q := Q1 Z o0 wV cl h0 n0) (by rw [e4]; exact ⟨b3, k3, rfl, N4, Kp4, E_o0_4, Fw4, V_b3_4, g_b3, sz_b3⟩) (by decide) (by decide)
theorem pd_1 : parseMethodDescriptor "()I" = some ⟨[], some .int⟩ := by decide +kernel
theorem d8_0 : decode prog_13_method_2_code 0 = .ok (.aload_n 0, 1) := by decide +kernel
theorem d8_1 : decode prog_13_method_2_code 1 = .ok (.getfield 13, 3) := by decide +kernel
theorem d8_4 : decode prog_13_method_2_code 4 = .ok (.aload_n 1, 1) := by decide +kernel
theorem d8_5 : decode prog_13_method_2_code 5 = .ok (.invokevirtual 19, 3) := by decide +kernel
theorem d8_8 : decode prog_13_method_2_code 8 = .ok (.dup2, 1) := by decide +kernel
theorem d8_9 : decode prog_13_method_2_code 9 = .ok (.laload, 1) := by decide +kernel
theorem d8_10 : decode prog_13_method_2_code 10 = .ok (.lconst 1, 1) := by decide +kernel
theorem d8_11 : decode prog_13_method_2_code 11 = .ok (.ladd, 1) := by decide +kernel
theorem d8_12 : decode prog_13_method_2_code 12 = .ok (.lastore, 1) := by decide +kernel
theorem d8_13 : decode prog_13_method_2_code 13 = .ok (.return_, 1) := by decide +kernel
theorem ef_8e0 (m : MethodId) (x0 : Addr) (x1 : Addr) : entryFrame m #[(.ref x0), (.ref x1)] 2 = mkF m 0 #[.val (.ref x0), .val (.ref x1)] [] := by first | (simp [entryFrame, mkF, argsToLocals, Value.category]; done) | rfl
def Q8e0 (Z : State) (o0 : Addr) (o1 : Addr) (b : Addr) (k : ClassId) (x0 : Int64) (x1 : Int64) (x2 : Int64) (x3 : Int64) (h0 : Heap) (n0 : Nat) (v : Option Value) (h : Heap) (L : List Loc) : Prop := v = none ∧ Fr n0 L ∧ Keep h0 h [b] ∧ Arv Z h b k .long (4 : Int32) [(.long (x0 + (1 : Int64))), (.long x1), (.long x2), (.long x3)] (.long (0 : Int64))
set_option maxRecDepth 65536 in
set_option maxHeartbeats 40000000 in
theorem rm8e0 (l : Launch) (Z : State) (a0 : Array Value) (hw : ∀ d ∈ tables_1, d.before a0 Z = true) (ws : List Jvm.Cond) (o0 : Addr) (o1 : Addr) (b : Addr) (k : ClassId) (x0 : Int64) (x1 : Int64) (x2 : Int64) (x3 : Int64) (h0 : Heap) (n0 : Nat) (Z0 : n0 ≤ h0.size) (Fc : Fld Z h0 o0 "com/example/fides/fides/command/perf/Tally" "counts" "[J" (.ref b)) (V : Arv Z h0 b k .long (4 : Int32) [(.long x0), (.long x1), (.long x2), (.long x3)] (.long (0 : Int64))) (E1 : Exa Z h0 o1 "com/example/fides/fides/command/perf/Outcome") (F1 : Fld Z h0 o1 "java/lang/Enum" "ordinal" "I" (.int (0 : Int32))) (g_b : n0 ≤ b) (n0b : o0 ≠ b) (n1b : o1 ≠ b) :
    MetFree l (⟨"com/example/fides/fides/command/perf/Tally", "add", "(Lcom/example/fides/fides/command/perf/Outcome;)V"⟩ : MethodName) (head1 (Jvm.Cond.code (⟨"com/example/fides/fides/command/perf/Tally", "add", "(Lcom/example/fides/fides/command/perf/Outcome;)V"⟩ : MethodName) prog_13_method_2_code 2 none :: ws) ({ frames := 1, cells := 0, slots := 0, locals := 13 } : Room)) (fun a U => a = #[(.ref o0), (.ref o1)] ∧ Z.Warmed39 U.vm ∧ U.heap = h0) (fun _ _ _ _ _ => True) (fun _ U o U' => ∃ v L, o = .returned v ∧ Q8e0 Z o0 o1 b k x0 x1 x2 x3 h0 n0 v U'.heap L ∧ FrameEnd U o U' L ({ frames := 1, cells := 0, slots := 0, locals := 13 } : Room).cells ({ frames := 1, cells := 0, slots := 0, locals := 13 } : Room).slots) := by
  refine MetFree.of_bodySF (plainFor_of_name pn_2) hisR ?_
  intro p e s m args below meth c s₁ Bd hml0 hP hK
  obtain ⟨rfl, hZ, hh⟩ := hP
  have hx := Bd.exec
  have hby := Bd.bytes
  have hml : c.maxLocals = 2 := hml0
  have hown : s.vm.findClass "com/example/fides/fides/command/perf/Tally" = some m.cls := findClass_of_methodNamed Bd.named
  have hnm := (name_of_methodNamed Bd.named Bd.method).1
  have X0 : Stand p l e ({ frames := 1, cells := 0, slots := 0, locals := 13 } : Room) s m #[(.ref o0), (.ref o1)] below meth c s₁ [] 0 0 := Stand.of_body Bd
  have e0 : s₁.heap = h0 := by rw [← hh, Bd.state]; rfl
  have N0 := Fr.nil n0
  have hret := Bd.returns
  have hlk := BodyLoose.notSynchronized Bd
  show own_Out p e below (fun o U' => ∃ v L, o = .returned v ∧ Q8e0 Z o0 o1 b k x0 x1 x2 x3 h0 n0 v U'.heap L ∧ FrameEnd s o U' L ({ frames := 1, cells := 0, slots := 0, locals := 13 } : Room).cells ({ frames := 1, cells := 0, slots := 0, locals := 13 } : Room).slots) (s₁.setTop (entryFrame m #[(.ref o0), (.ref o1)] 2))
  refine own_of (fun t k => castTop (ef_8e0 m o0 o1) k) ?_
  show own_Out p e below _ (s₁.setTop (mkF m 0 #[.val (.ref o0), .val (.ref o1)] []))
  refine own_of (fun _ k => XS.aloadN X0.here hx rfl (hb hby d8_0) rfl rfl k) ?_
  show own_Out p e below _ (s₁.setTop (mkF m 1 #[.val (.ref o0), .val (.ref o1)] [(.ref o0)]))
  obtain ⟨T1, X1, e1, st1⟩ := getF X0 hx hZ hown (host := "") (Or.inl (hw _ (List.mem_of_getElem? (i := 30) rfl))) Via.refl e0 Fc (g := (mkF m 1 #[.val (.ref o0), .val (.ref o1)] [(.ref o0)])) rfl rfl (hb hby d8_1)
  refine own_of st1 ?_
  show own_Out p e below _ (T1.setTop (mkF m 4 #[.val (.ref o0), .val (.ref o1)] [(.ref b)]))
  refine own_of (fun _ k => XS.aloadN X1.here hx rfl (hb hby d8_4) rfl rfl k) ?_
  show own_Out p e below _ (T1.setTop (mkF m 5 #[.val (.ref o0), .val (.ref o1)] [(.ref o1), (.ref b)]))
  obtain ⟨cq2, kq2, q2a, q2b, q2c⟩ := isOf hZ e1 E1
  obtain ⟨_, _, ⟨T2, L2, k2, n2⟩, -, X2, ⟨Lc2, hQ2, l2, y2, z2⟩, st2⟩ := X1.virtualBackUp hx (x := (⟨"com/example/fides/fides/command/perf/Outcome", "ordinal", "()I"⟩ : MethodName)) (y := (⟨"java/lang/Enum", "ordinal", "()I"⟩ : MethodName)) (owner := "java/lang/Enum") hown (mvT hZ (hw _ (List.mem_of_getElem? (i := 43) rfl))) (mvT hZ (hw _ (List.mem_of_getElem? (i := 44) rfl))) (mvT hZ (hw _ (List.mem_of_getElem? (i := 45) rfl))) (by decide) (mvT hZ (hw _ (List.mem_of_getElem? (i := 47) rfl))) (mvT hZ (hw _ (List.mem_of_getElem? (i := 46) rfl))) (backOf (W := 1) (rm6 l Z a0 hw [] o1 (0 : Int32) h0 n0 Z0 F1) hZ (hw _ (List.mem_of_getElem? (i := 49) rfl)) (hw _ (List.mem_of_getElem? (i := 48) rfl)) (by decide) (by decide)) q2a q2c (g := (mkF m 5 #[.val (.ref o0), .val (.ref o1)] [(.ref o1), (.ref b)])) rfl (by rw [hml]; rfl) (Steps.refl _) (argsL := []) (rest := [(.ref b)]) (lenOf pd_1 rfl) rfl (by show 2 * 0 + _ ≤ _; exact Nat.le_of_eq rfl) (hb hby d8_5) (fun _ _ => ⟨rfl, e1, (by decide : 0 + 0 ≤ _), (by decide : 0 + 0 ≤ _)⟩)
  dsimp only [Pt.U, Pt.locs, Pt.cells, Pt.slots] at X2 l2 y2 z2 st2 hQ2
  subst l2 y2 z2
  obtain ⟨rfl, N2q, hh2⟩ := hQ2
  have N2 := Fr.app N0 N2q
  refine own_of (fun _ k => st2.trans k) ?_
  show own_Out p e below _ (T2.setTop (mkF m 8 #[.val (.ref o0), .val (.ref o1)] [(.int (0 : Int32)), (.ref b)]))
  refine own_of (fun _ k => Jvm.Free.XT.dup2 X2.here hx rfl (hb hby d8_8) rfl rfl rfl k) ?_
  show own_Out p e below _ (T2.setTop (mkF m 9 #[.val (.ref o0), .val (.ref o1)] [(.int (0 : Int32)), (.ref b), (.int (0 : Int32)), (.ref b)]))
  obtain ⟨cl3, Ar3, q3, S3, N3', H3, G3⟩ := id V
  have hin3 : ¬ ((0 : Int32) < 0 ∨ cl3.slots.size ≤ ((0 : Int32)).toNatClampNeg) := inb_of S3 ⟨by decide, by decide⟩
  have hat3 : cl3.slots[((0 : Int32)).toNatClampNeg]? = some (.long x0) := H3 _ (Nat.lt_of_not_le fun q => hin3 (Or.inr q))
  refine own_of (X2.laload hx (j := (0 : Int32)) (v := (.long x0)) (by rw [hh2]; exact Ar3.1) (State.isArrayOf_alike hZ.alike Ar3.2.1) Ar3.2.2 hin3 hat3 (g := (mkF m 9 #[.val (.ref o0), .val (.ref o1)] [(.int (0 : Int32)), (.ref b), (.int (0 : Int32)), (.ref b)])) rfl rfl (hb hby d8_9)) ?_
  show own_Out p e below _ (T2.setTop (mkF m 10 #[.val (.ref o0), .val (.ref o1)] [(.long x0), (.int (0 : Int32)), (.ref b)]))
  refine own_of (fun _ k => XS.lconst X2.here hx rfl (hb hby d8_10) k) ?_
  show own_Out p e below _ (T2.setTop (mkF m 11 #[.val (.ref o0), .val (.ref o1)] [(.long (1 : Int64)), (.long x0), (.int (0 : Int32)), (.ref b)]))
  refine own_of (fun _ k => XS.ladd X2.here hx rfl (hb hby d8_11) rfl k) ?_
  show own_Out p e below _ (T2.setTop (mkF m 12 #[.val (.ref o0), .val (.ref o1)] [(.long (x0 + (1 : Int64))), (.int (0 : Int32)), (.ref b)]))
  obtain ⟨cl4, Ar4, q4, S4, N4', H4, G4⟩ := id V
  have hin5 : ¬ ((0 : Int32) < 0 ∨ cl4.slots.size ≤ ((0 : Int32)).toNatClampNeg) := inb_of S4 ⟨by decide, by decide⟩
  obtain ⟨T5, h5, X5, e5, W5, st5⟩ := stJ X2 hx hZ hh2 Ar4 (j := (0 : Int32)) hin5 (g := (mkF m 12 #[.val (.ref o0), .val (.ref o1)] [(.long (x0 + (1 : Int64))), (.int (0 : Int32)), (.ref b)])) rfl rfl (hb hby d8_12)
  have V5 := Arv.set Ar4 q4 S4 N4' H4 G4 rfl W5 0 rfl (Nat.le_of_ble_eq_true rfl)
  have F_o0_counts_5 := Fc.other W5 (Or.inl n0b)
  have E_o1_5 := E1.wr W5
  have F_o1_ordinal_5 := F1.other W5 (Or.inl n1b)
  have N5 := Fr.snoc X5 N2 g_b
  have Zl5 : n0 ≤ h5.size := Nat.le_trans Z0 (Keep.of_wr W5).1
  have Kp5 := (Keep.refl h0 [b]).wr W5 (Or.inl (List.mem_of_getElem? (i := 0) rfl))
  refine own_of st5 ?_
  show own_Out p e below _ (T5.setTop (mkF m 13 #[.val (.ref o0), .val (.ref o1)] []))
  exact own_outV X5 hx hlk hret (hb hby d8_13) (Q := Q8e0 Z o0 o1 b k x0 x1 x2 x3 h0 n0) (by rw [e5]; exact ⟨rfl, N5, Kp5, V5⟩) (by decide) (by decide)
theorem d5_0 : decode prog_13_method_4_code 0 = .ok (.aload_n 0, 1) := by decide +kernel
theorem d5_1 : decode prog_13_method_4_code 1 = .ok (.getfield 13, 3) := by decide +kernel
theorem d5_4 : decode prog_13_method_4_code 4 = .ok (.aload_n 1, 1) := by decide +kernel
theorem d5_5 : decode prog_13_method_4_code 5 = .ok (.invokevirtual 19, 3) := by decide +kernel
theorem d5_8 : decode prog_13_method_4_code 8 = .ok (.laload, 1) := by decide +kernel
theorem d5_9 : decode prog_13_method_4_code 9 = .ok (.lreturn, 1) := by decide +kernel
theorem ef_5e0 (m : MethodId) (x0 : Addr) (x1 : Addr) : entryFrame m #[(.ref x0), (.ref x1)] 2 = mkF m 0 #[.val (.ref x0), .val (.ref x1)] [] := by first | (simp [entryFrame, mkF, argsToLocals, Value.category]; done) | rfl
def Q5e0 (Z : State) (o0 : Addr) (o1 : Addr) (b : Addr) (k : ClassId) (x0 : Int64) (x1 : Int64) (x2 : Int64) (x3 : Int64) (h0 : Heap) (n0 : Nat) (v : Option Value) (h : Heap) (L : List Loc) : Prop := v = some (.long x0) ∧ Fr n0 L ∧ h = h0
set_option maxRecDepth 65536 in
set_option maxHeartbeats 40000000 in
theorem rm5e0 (l : Launch) (Z : State) (a0 : Array Value) (hw : ∀ d ∈ tables_1, d.before a0 Z = true) (ws : List Jvm.Cond) (o0 : Addr) (o1 : Addr) (b : Addr) (k : ClassId) (x0 : Int64) (x1 : Int64) (x2 : Int64) (x3 : Int64) (h0 : Heap) (n0 : Nat) (Z0 : n0 ≤ h0.size) (Fc : Fld Z h0 o0 "com/example/fides/fides/command/perf/Tally" "counts" "[J" (.ref b)) (V : Arv Z h0 b k .long (4 : Int32) [(.long x0), (.long x1), (.long x2), (.long x3)] (.long (0 : Int64))) (E1 : Exa Z h0 o1 "com/example/fides/fides/command/perf/Outcome") (F1 : Fld Z h0 o1 "java/lang/Enum" "ordinal" "I" (.int (0 : Int32))) :
    MetFree l (⟨"com/example/fides/fides/command/perf/Tally", "count", "(Lcom/example/fides/fides/command/perf/Outcome;)J"⟩ : MethodName) (head1 (Jvm.Cond.code (⟨"com/example/fides/fides/command/perf/Tally", "count", "(Lcom/example/fides/fides/command/perf/Outcome;)J"⟩ : MethodName) prog_13_method_4_code 2 (some .long) :: ws) ({ frames := 1, cells := 0, slots := 0, locals := 13 } : Room)) (fun a U => a = #[(.ref o0), (.ref o1)] ∧ Z.Warmed39 U.vm ∧ U.heap = h0) (fun _ _ _ _ _ => True) (fun _ U o U' => ∃ v L, o = .returned v ∧ Q5e0 Z o0 o1 b k x0 x1 x2 x3 h0 n0 v U'.heap L ∧ FrameEnd U o U' L ({ frames := 1, cells := 0, slots := 0, locals := 13 } : Room).cells ({ frames := 1, cells := 0, slots := 0, locals := 13 } : Room).slots) := by
  refine MetFree.of_bodySF (plainFor_of_name pn_2) hisR ?_
  intro p e s m args below meth c s₁ Bd hml0 hP hK
  obtain ⟨rfl, hZ, hh⟩ := hP
  have hx := Bd.exec
  have hby := Bd.bytes
  have hml : c.maxLocals = 2 := hml0
  have hown : s.vm.findClass "com/example/fides/fides/command/perf/Tally" = some m.cls := findClass_of_methodNamed Bd.named
  have hnm := (name_of_methodNamed Bd.named Bd.method).1
  have X0 : Stand p l e ({ frames := 1, cells := 0, slots := 0, locals := 13 } : Room) s m #[(.ref o0), (.ref o1)] below meth c s₁ [] 0 0 := Stand.of_body Bd
  have e0 : s₁.heap = h0 := by rw [← hh, Bd.state]; rfl
  have N0 := Fr.nil n0
  have hret := Bd.returns
  have hlk := BodyLoose.notSynchronized Bd
  show own_Out p e below (fun o U' => ∃ v L, o = .returned v ∧ Q5e0 Z o0 o1 b k x0 x1 x2 x3 h0 n0 v U'.heap L ∧ FrameEnd s o U' L ({ frames := 1, cells := 0, slots := 0, locals := 13 } : Room).cells ({ frames := 1, cells := 0, slots := 0, locals := 13 } : Room).slots) (s₁.setTop (entryFrame m #[(.ref o0), (.ref o1)] 2))
  refine own_of (fun t k => castTop (ef_5e0 m o0 o1) k) ?_
  show own_Out p e below _ (s₁.setTop (mkF m 0 #[.val (.ref o0), .val (.ref o1)] []))
  refine own_of (fun _ k => XS.aloadN X0.here hx rfl (hb hby d5_0) rfl rfl k) ?_
  show own_Out p e below _ (s₁.setTop (mkF m 1 #[.val (.ref o0), .val (.ref o1)] [(.ref o0)]))
  obtain ⟨T1, X1, e1, st1⟩ := getF X0 hx hZ hown (host := "") (Or.inl (hw _ (List.mem_of_getElem? (i := 30) rfl))) Via.refl e0 Fc (g := (mkF m 1 #[.val (.ref o0), .val (.ref o1)] [(.ref o0)])) rfl rfl (hb hby d5_1)
  refine own_of st1 ?_
  show own_Out p e below _ (T1.setTop (mkF m 4 #[.val (.ref o0), .val (.ref o1)] [(.ref b)]))
  refine own_of (fun _ k => XS.aloadN X1.here hx rfl (hb hby d5_4) rfl rfl k) ?_
  show own_Out p e below _ (T1.setTop (mkF m 5 #[.val (.ref o0), .val (.ref o1)] [(.ref o1), (.ref b)]))
  obtain ⟨cq2, kq2, q2a, q2b, q2c⟩ := isOf hZ e1 E1
  obtain ⟨_, _, ⟨T2, L2, k2, n2⟩, -, X2, ⟨Lc2, hQ2, l2, y2, z2⟩, st2⟩ := X1.virtualBackUp hx (x := (⟨"com/example/fides/fides/command/perf/Outcome", "ordinal", "()I"⟩ : MethodName)) (y := (⟨"java/lang/Enum", "ordinal", "()I"⟩ : MethodName)) (owner := "java/lang/Enum") hown (mvT hZ (hw _ (List.mem_of_getElem? (i := 43) rfl))) (mvT hZ (hw _ (List.mem_of_getElem? (i := 44) rfl))) (mvT hZ (hw _ (List.mem_of_getElem? (i := 45) rfl))) (by decide) (mvT hZ (hw _ (List.mem_of_getElem? (i := 47) rfl))) (mvT hZ (hw _ (List.mem_of_getElem? (i := 46) rfl))) (backOf (W := 1) (rm6 l Z a0 hw [] o1 (0 : Int32) h0 n0 Z0 F1) hZ (hw _ (List.mem_of_getElem? (i := 49) rfl)) (hw _ (List.mem_of_getElem? (i := 48) rfl)) (by decide) (by decide)) q2a q2c (g := (mkF m 5 #[.val (.ref o0), .val (.ref o1)] [(.ref o1), (.ref b)])) rfl (by rw [hml]; rfl) (Steps.refl _) (argsL := []) (rest := [(.ref b)]) (lenOf pd_1 rfl) rfl (by show 2 * 0 + _ ≤ _; exact Nat.le_of_eq rfl) (hb hby d5_5) (fun _ _ => ⟨rfl, e1, (by decide : 0 + 0 ≤ _), (by decide : 0 + 0 ≤ _)⟩)
  dsimp only [Pt.U, Pt.locs, Pt.cells, Pt.slots] at X2 l2 y2 z2 st2 hQ2
  subst l2 y2 z2
  obtain ⟨rfl, N2q, hh2⟩ := hQ2
  have N2 := Fr.app N0 N2q
  refine own_of (fun _ k => st2.trans k) ?_
  show own_Out p e below _ (T2.setTop (mkF m 8 #[.val (.ref o0), .val (.ref o1)] [(.int (0 : Int32)), (.ref b)]))
  obtain ⟨cl3, Ar3, q3, S3, N3', H3, G3⟩ := id V
  have hin3 : ¬ ((0 : Int32) < 0 ∨ cl3.slots.size ≤ ((0 : Int32)).toNatClampNeg) := inb_of S3 ⟨by decide, by decide⟩
  have hat3 : cl3.slots[((0 : Int32)).toNatClampNeg]? = some (.long x0) := H3 _ (Nat.lt_of_not_le fun q => hin3 (Or.inr q))
  refine own_of (X2.laload hx (j := (0 : Int32)) (v := (.long x0)) (by rw [hh2]; exact Ar3.1) (State.isArrayOf_alike hZ.alike Ar3.2.1) Ar3.2.2 hin3 hat3 (g := (mkF m 8 #[.val (.ref o0), .val (.ref o1)] [(.int (0 : Int32)), (.ref b)])) rfl rfl (hb hby d5_8)) ?_
  show own_Out p e below _ (T2.setTop (mkF m 9 #[.val (.ref o0), .val (.ref o1)] [(.long x0)]))
  exact own_outL X2 hx hlk hret (hb hby d5_9) (Q := Q5e0 Z o0 o1 b k x0 x1 x2 x3 h0 n0) ⟨rfl, N2, hh2⟩ (by decide) (by decide)
theorem ef_8e1 (m : MethodId) (x0 : Addr) (x1 : Addr) : entryFrame m #[(.ref x0), (.ref x1)] 2 = mkF m 0 #[.val (.ref x0), .val (.ref x1)] [] := by first | (simp [entryFrame, mkF, argsToLocals, Value.category]; done) | rfl
def Q8e1 (Z : State) (o0 : Addr) (o1 : Addr) (b : Addr) (k : ClassId) (x0 : Int64) (x1 : Int64) (x2 : Int64) (x3 : Int64) (h0 : Heap) (n0 : Nat) (v : Option Value) (h : Heap) (L : List Loc) : Prop := v = none ∧ Fr n0 L ∧ Keep h0 h [b] ∧ Arv Z h b k .long (4 : Int32) [(.long x0), (.long (x1 + (1 : Int64))), (.long x2), (.long x3)] (.long (0 : Int64))
set_option maxRecDepth 65536 in
set_option maxHeartbeats 40000000 in
theorem rm8e1 (l : Launch) (Z : State) (a0 : Array Value) (hw : ∀ d ∈ tables_1, d.before a0 Z = true) (ws : List Jvm.Cond) (o0 : Addr) (o1 : Addr) (b : Addr) (k : ClassId) (x0 : Int64) (x1 : Int64) (x2 : Int64) (x3 : Int64) (h0 : Heap) (n0 : Nat) (Z0 : n0 ≤ h0.size) (Fc : Fld Z h0 o0 "com/example/fides/fides/command/perf/Tally" "counts" "[J" (.ref b)) (V : Arv Z h0 b k .long (4 : Int32) [(.long x0), (.long x1), (.long x2), (.long x3)] (.long (0 : Int64))) (E1 : Exa Z h0 o1 "com/example/fides/fides/command/perf/Outcome") (F1 : Fld Z h0 o1 "java/lang/Enum" "ordinal" "I" (.int (1 : Int32))) (g_b : n0 ≤ b) (n0b : o0 ≠ b) (n1b : o1 ≠ b) :
    MetFree l (⟨"com/example/fides/fides/command/perf/Tally", "add", "(Lcom/example/fides/fides/command/perf/Outcome;)V"⟩ : MethodName) (head1 (Jvm.Cond.code (⟨"com/example/fides/fides/command/perf/Tally", "add", "(Lcom/example/fides/fides/command/perf/Outcome;)V"⟩ : MethodName) prog_13_method_2_code 2 none :: ws) ({ frames := 1, cells := 0, slots := 0, locals := 13 } : Room)) (fun a U => a = #[(.ref o0), (.ref o1)] ∧ Z.Warmed39 U.vm ∧ U.heap = h0) (fun _ _ _ _ _ => True) (fun _ U o U' => ∃ v L, o = .returned v ∧ Q8e1 Z o0 o1 b k x0 x1 x2 x3 h0 n0 v U'.heap L ∧ FrameEnd U o U' L ({ frames := 1, cells := 0, slots := 0, locals := 13 } : Room).cells ({ frames := 1, cells := 0, slots := 0, locals := 13 } : Room).slots) := by
  refine MetFree.of_bodySF (plainFor_of_name pn_2) hisR ?_
  intro p e s m args below meth c s₁ Bd hml0 hP hK
  obtain ⟨rfl, hZ, hh⟩ := hP
  have hx := Bd.exec
  have hby := Bd.bytes
  have hml : c.maxLocals = 2 := hml0
  have hown : s.vm.findClass "com/example/fides/fides/command/perf/Tally" = some m.cls := findClass_of_methodNamed Bd.named
  have hnm := (name_of_methodNamed Bd.named Bd.method).1
  have X0 : Stand p l e ({ frames := 1, cells := 0, slots := 0, locals := 13 } : Room) s m #[(.ref o0), (.ref o1)] below meth c s₁ [] 0 0 := Stand.of_body Bd
  have e0 : s₁.heap = h0 := by rw [← hh, Bd.state]; rfl
  have N0 := Fr.nil n0
  have hret := Bd.returns
  have hlk := BodyLoose.notSynchronized Bd
  show own_Out p e below (fun o U' => ∃ v L, o = .returned v ∧ Q8e1 Z o0 o1 b k x0 x1 x2 x3 h0 n0 v U'.heap L ∧ FrameEnd s o U' L ({ frames := 1, cells := 0, slots := 0, locals := 13 } : Room).cells ({ frames := 1, cells := 0, slots := 0, locals := 13 } : Room).slots) (s₁.setTop (entryFrame m #[(.ref o0), (.ref o1)] 2))
  refine own_of (fun t k => castTop (ef_8e1 m o0 o1) k) ?_
  show own_Out p e below _ (s₁.setTop (mkF m 0 #[.val (.ref o0), .val (.ref o1)] []))
  refine own_of (fun _ k => XS.aloadN X0.here hx rfl (hb hby d8_0) rfl rfl k) ?_
  show own_Out p e below _ (s₁.setTop (mkF m 1 #[.val (.ref o0), .val (.ref o1)] [(.ref o0)]))
  obtain ⟨T1, X1, e1, st1⟩ := getF X0 hx hZ hown (host := "") (Or.inl (hw _ (List.mem_of_getElem? (i := 30) rfl))) Via.refl e0 Fc (g := (mkF m 1 #[.val (.ref o0), .val (.ref o1)] [(.ref o0)])) rfl rfl (hb hby d8_1)
  refine own_of st1 ?_
  show own_Out p e below _ (T1.setTop (mkF m 4 #[.val (.ref o0), .val (.ref o1)] [(.ref b)]))
  refine own_of (fun _ k => XS.aloadN X1.here hx rfl (hb hby d8_4) rfl rfl k) ?_
  show own_Out p e below _ (T1.setTop (mkF m 5 #[.val (.ref o0), .val (.ref o1)] [(.ref o1), (.ref b)]))
  obtain ⟨cq2, kq2, q2a, q2b, q2c⟩ := isOf hZ e1 E1
  obtain ⟨_, _, ⟨T2, L2, k2, n2⟩, -, X2, ⟨Lc2, hQ2, l2, y2, z2⟩, st2⟩ := X1.virtualBackUp hx (x := (⟨"com/example/fides/fides/command/perf/Outcome", "ordinal", "()I"⟩ : MethodName)) (y := (⟨"java/lang/Enum", "ordinal", "()I"⟩ : MethodName)) (owner := "java/lang/Enum") hown (mvT hZ (hw _ (List.mem_of_getElem? (i := 43) rfl))) (mvT hZ (hw _ (List.mem_of_getElem? (i := 44) rfl))) (mvT hZ (hw _ (List.mem_of_getElem? (i := 45) rfl))) (by decide) (mvT hZ (hw _ (List.mem_of_getElem? (i := 47) rfl))) (mvT hZ (hw _ (List.mem_of_getElem? (i := 46) rfl))) (backOf (W := 1) (rm6 l Z a0 hw [] o1 (1 : Int32) h0 n0 Z0 F1) hZ (hw _ (List.mem_of_getElem? (i := 49) rfl)) (hw _ (List.mem_of_getElem? (i := 48) rfl)) (by decide) (by decide)) q2a q2c (g := (mkF m 5 #[.val (.ref o0), .val (.ref o1)] [(.ref o1), (.ref b)])) rfl (by rw [hml]; rfl) (Steps.refl _) (argsL := []) (rest := [(.ref b)]) (lenOf pd_1 rfl) rfl (by show 2 * 0 + _ ≤ _; exact Nat.le_of_eq rfl) (hb hby d8_5) (fun _ _ => ⟨rfl, e1, (by decide : 0 + 0 ≤ _), (by decide : 0 + 0 ≤ _)⟩)
  dsimp only [Pt.U, Pt.locs, Pt.cells, Pt.slots] at X2 l2 y2 z2 st2 hQ2
  subst l2 y2 z2
  obtain ⟨rfl, N2q, hh2⟩ := hQ2
  have N2 := Fr.app N0 N2q
  refine own_of (fun _ k => st2.trans k) ?_
  show own_Out p e below _ (T2.setTop (mkF m 8 #[.val (.ref o0), .val (.ref o1)] [(.int (1 : Int32)), (.ref b)]))
  refine own_of (fun _ k => Jvm.Free.XT.dup2 X2.here hx rfl (hb hby d8_8) rfl rfl rfl k) ?_
  show own_Out p e below _ (T2.setTop (mkF m 9 #[.val (.ref o0), .val (.ref o1)] [(.int (1 : Int32)), (.ref b), (.int (1 : Int32)), (.ref b)]))
  obtain ⟨cl3, Ar3, q3, S3, N3', H3, G3⟩ := id V
  have hin3 : ¬ ((1 : Int32) < 0 ∨ cl3.slots.size ≤ ((1 : Int32)).toNatClampNeg) := inb_of S3 ⟨by decide, by decide⟩
  have hat3 : cl3.slots[((1 : Int32)).toNatClampNeg]? = some (.long x1) := H3 _ (Nat.lt_of_not_le fun q => hin3 (Or.inr q))
  refine own_of (X2.laload hx (j := (1 : Int32)) (v := (.long x1)) (by rw [hh2]; exact Ar3.1) (State.isArrayOf_alike hZ.alike Ar3.2.1) Ar3.2.2 hin3 hat3 (g := (mkF m 9 #[.val (.ref o0), .val (.ref o1)] [(.int (1 : Int32)), (.ref b), (.int (1 : Int32)), (.ref b)])) rfl rfl (hb hby d8_9)) ?_
  show own_Out p e below _ (T2.setTop (mkF m 10 #[.val (.ref o0), .val (.ref o1)] [(.long x1), (.int (1 : Int32)), (.ref b)]))
  refine own_of (fun _ k => XS.lconst X2.here hx rfl (hb hby d8_10) k) ?_
  show own_Out p e below _ (T2.setTop (mkF m 11 #[.val (.ref o0), .val (.ref o1)] [(.long (1 : Int64)), (.long x1), (.int (1 : Int32)), (.ref b)]))
  refine own_of (fun _ k => XS.ladd X2.here hx rfl (hb hby d8_11) rfl k) ?_
  show own_Out p e below _ (T2.setTop (mkF m 12 #[.val (.ref o0), .val (.ref o1)] [(.long (x1 + (1 : Int64))), (.int (1 : Int32)), (.ref b)]))
  obtain ⟨cl4, Ar4, q4, S4, N4', H4, G4⟩ := id V
  have hin5 : ¬ ((1 : Int32) < 0 ∨ cl4.slots.size ≤ ((1 : Int32)).toNatClampNeg) := inb_of S4 ⟨by decide, by decide⟩
  obtain ⟨T5, h5, X5, e5, W5, st5⟩ := stJ X2 hx hZ hh2 Ar4 (j := (1 : Int32)) hin5 (g := (mkF m 12 #[.val (.ref o0), .val (.ref o1)] [(.long (x1 + (1 : Int64))), (.int (1 : Int32)), (.ref b)])) rfl rfl (hb hby d8_12)
  have V5 := Arv.set Ar4 q4 S4 N4' H4 G4 rfl W5 1 rfl (Nat.le_of_ble_eq_true rfl)
  have F_o0_counts_5 := Fc.other W5 (Or.inl n0b)
  have E_o1_5 := E1.wr W5
  have F_o1_ordinal_5 := F1.other W5 (Or.inl n1b)
  have N5 := Fr.snoc X5 N2 g_b
  have Zl5 : n0 ≤ h5.size := Nat.le_trans Z0 (Keep.of_wr W5).1
  have Kp5 := (Keep.refl h0 [b]).wr W5 (Or.inl (List.mem_of_getElem? (i := 0) rfl))
  refine own_of st5 ?_
  show own_Out p e below _ (T5.setTop (mkF m 13 #[.val (.ref o0), .val (.ref o1)] []))
  exact own_outV X5 hx hlk hret (hb hby d8_13) (Q := Q8e1 Z o0 o1 b k x0 x1 x2 x3 h0 n0) (by rw [e5]; exact ⟨rfl, N5, Kp5, V5⟩) (by decide) (by decide)
theorem ef_5e1 (m : MethodId) (x0 : Addr) (x1 : Addr) : entryFrame m #[(.ref x0), (.ref x1)] 2 = mkF m 0 #[.val (.ref x0), .val (.ref x1)] [] := by first | (simp [entryFrame, mkF, argsToLocals, Value.category]; done) | rfl
def Q5e1 (Z : State) (o0 : Addr) (o1 : Addr) (b : Addr) (k : ClassId) (x0 : Int64) (x1 : Int64) (x2 : Int64) (x3 : Int64) (h0 : Heap) (n0 : Nat) (v : Option Value) (h : Heap) (L : List Loc) : Prop := v = some (.long x1) ∧ Fr n0 L ∧ h = h0
set_option maxRecDepth 65536 in
set_option maxHeartbeats 40000000 in
theorem rm5e1 (l : Launch) (Z : State) (a0 : Array Value) (hw : ∀ d ∈ tables_1, d.before a0 Z = true) (ws : List Jvm.Cond) (o0 : Addr) (o1 : Addr) (b : Addr) (k : ClassId) (x0 : Int64) (x1 : Int64) (x2 : Int64) (x3 : Int64) (h0 : Heap) (n0 : Nat) (Z0 : n0 ≤ h0.size) (Fc : Fld Z h0 o0 "com/example/fides/fides/command/perf/Tally" "counts" "[J" (.ref b)) (V : Arv Z h0 b k .long (4 : Int32) [(.long x0), (.long x1), (.long x2), (.long x3)] (.long (0 : Int64))) (E1 : Exa Z h0 o1 "com/example/fides/fides/command/perf/Outcome") (F1 : Fld Z h0 o1 "java/lang/Enum" "ordinal" "I" (.int (1 : Int32))) :
    MetFree l (⟨"com/example/fides/fides/command/perf/Tally", "count", "(Lcom/example/fides/fides/command/perf/Outcome;)J"⟩ : MethodName) (head1 (Jvm.Cond.code (⟨"com/example/fides/fides/command/perf/Tally", "count", "(Lcom/example/fides/fides/command/perf/Outcome;)J"⟩ : MethodName) prog_13_method_4_code 2 (some .long) :: ws) ({ frames := 1, cells := 0, slots := 0, locals := 13 } : Room)) (fun a U => a = #[(.ref o0), (.ref o1)] ∧ Z.Warmed39 U.vm ∧ U.heap = h0) (fun _ _ _ _ _ => True) (fun _ U o U' => ∃ v L, o = .returned v ∧ Q5e1 Z o0 o1 b k x0 x1 x2 x3 h0 n0 v U'.heap L ∧ FrameEnd U o U' L ({ frames := 1, cells := 0, slots := 0, locals := 13 } : Room).cells ({ frames := 1, cells := 0, slots := 0, locals := 13 } : Room).slots) := by
  refine MetFree.of_bodySF (plainFor_of_name pn_2) hisR ?_
  intro p e s m args below meth c s₁ Bd hml0 hP hK
  obtain ⟨rfl, hZ, hh⟩ := hP
  have hx := Bd.exec
  have hby := Bd.bytes
  have hml : c.maxLocals = 2 := hml0
  have hown : s.vm.findClass "com/example/fides/fides/command/perf/Tally" = some m.cls := findClass_of_methodNamed Bd.named
  have hnm := (name_of_methodNamed Bd.named Bd.method).1
  have X0 : Stand p l e ({ frames := 1, cells := 0, slots := 0, locals := 13 } : Room) s m #[(.ref o0), (.ref o1)] below meth c s₁ [] 0 0 := Stand.of_body Bd
  have e0 : s₁.heap = h0 := by rw [← hh, Bd.state]; rfl
  have N0 := Fr.nil n0
  have hret := Bd.returns
  have hlk := BodyLoose.notSynchronized Bd
  show own_Out p e below (fun o U' => ∃ v L, o = .returned v ∧ Q5e1 Z o0 o1 b k x0 x1 x2 x3 h0 n0 v U'.heap L ∧ FrameEnd s o U' L ({ frames := 1, cells := 0, slots := 0, locals := 13 } : Room).cells ({ frames := 1, cells := 0, slots := 0, locals := 13 } : Room).slots) (s₁.setTop (entryFrame m #[(.ref o0), (.ref o1)] 2))
  refine own_of (fun t k => castTop (ef_5e1 m o0 o1) k) ?_
  show own_Out p e below _ (s₁.setTop (mkF m 0 #[.val (.ref o0), .val (.ref o1)] []))
  refine own_of (fun _ k => XS.aloadN X0.here hx rfl (hb hby d5_0) rfl rfl k) ?_
  show own_Out p e below _ (s₁.setTop (mkF m 1 #[.val (.ref o0), .val (.ref o1)] [(.ref o0)]))
  obtain ⟨T1, X1, e1, st1⟩ := getF X0 hx hZ hown (host := "") (Or.inl (hw _ (List.mem_of_getElem? (i := 30) rfl))) Via.refl e0 Fc (g := (mkF m 1 #[.val (.ref o0), .val (.ref o1)] [(.ref o0)])) rfl rfl (hb hby d5_1)
  refine own_of st1 ?_
  show own_Out p e below _ (T1.setTop (mkF m 4 #[.val (.ref o0), .val (.ref o1)] [(.ref b)]))
  refine own_of (fun _ k => XS.aloadN X1.here hx rfl (hb hby d5_4) rfl rfl k) ?_
  show own_Out p e below _ (T1.setTop (mkF m 5 #[.val (.ref o0), .val (.ref o1)] [(.ref o1), (.ref b)]))
  obtain ⟨cq2, kq2, q2a, q2b, q2c⟩ := isOf hZ e1 E1
  obtain ⟨_, _, ⟨T2, L2, k2, n2⟩, -, X2, ⟨Lc2, hQ2, l2, y2, z2⟩, st2⟩ := X1.virtualBackUp hx (x := (⟨"com/example/fides/fides/command/perf/Outcome", "ordinal", "()I"⟩ : MethodName)) (y := (⟨"java/lang/Enum", "ordinal", "()I"⟩ : MethodName)) (owner := "java/lang/Enum") hown (mvT hZ (hw _ (List.mem_of_getElem? (i := 43) rfl))) (mvT hZ (hw _ (List.mem_of_getElem? (i := 44) rfl))) (mvT hZ (hw _ (List.mem_of_getElem? (i := 45) rfl))) (by decide) (mvT hZ (hw _ (List.mem_of_getElem? (i := 47) rfl))) (mvT hZ (hw _ (List.mem_of_getElem? (i := 46) rfl))) (backOf (W := 1) (rm6 l Z a0 hw [] o1 (1 : Int32) h0 n0 Z0 F1) hZ (hw _ (List.mem_of_getElem? (i := 49) rfl)) (hw _ (List.mem_of_getElem? (i := 48) rfl)) (by decide) (by decide)) q2a q2c (g := (mkF m 5 #[.val (.ref o0), .val (.ref o1)] [(.ref o1), (.ref b)])) rfl (by rw [hml]; rfl) (Steps.refl _) (argsL := []) (rest := [(.ref b)]) (lenOf pd_1 rfl) rfl (by show 2 * 0 + _ ≤ _; exact Nat.le_of_eq rfl) (hb hby d5_5) (fun _ _ => ⟨rfl, e1, (by decide : 0 + 0 ≤ _), (by decide : 0 + 0 ≤ _)⟩)
  dsimp only [Pt.U, Pt.locs, Pt.cells, Pt.slots] at X2 l2 y2 z2 st2 hQ2
  subst l2 y2 z2
  obtain ⟨rfl, N2q, hh2⟩ := hQ2
  have N2 := Fr.app N0 N2q
  refine own_of (fun _ k => st2.trans k) ?_
  show own_Out p e below _ (T2.setTop (mkF m 8 #[.val (.ref o0), .val (.ref o1)] [(.int (1 : Int32)), (.ref b)]))
  obtain ⟨cl3, Ar3, q3, S3, N3', H3, G3⟩ := id V
  have hin3 : ¬ ((1 : Int32) < 0 ∨ cl3.slots.size ≤ ((1 : Int32)).toNatClampNeg) := inb_of S3 ⟨by decide, by decide⟩
  have hat3 : cl3.slots[((1 : Int32)).toNatClampNeg]? = some (.long x1) := H3 _ (Nat.lt_of_not_le fun q => hin3 (Or.inr q))
  refine own_of (X2.laload hx (j := (1 : Int32)) (v := (.long x1)) (by rw [hh2]; exact Ar3.1) (State.isArrayOf_alike hZ.alike Ar3.2.1) Ar3.2.2 hin3 hat3 (g := (mkF m 8 #[.val (.ref o0), .val (.ref o1)] [(.int (1 : Int32)), (.ref b)])) rfl rfl (hb hby d5_8)) ?_
  show own_Out p e below _ (T2.setTop (mkF m 9 #[.val (.ref o0), .val (.ref o1)] [(.long x1)]))
  exact own_outL X2 hx hlk hret (hb hby d5_9) (Q := Q5e1 Z o0 o1 b k x0 x1 x2 x3 h0 n0) ⟨rfl, N2, hh2⟩ (by decide) (by decide)
theorem ef_8e2 (m : MethodId) (x0 : Addr) (x1 : Addr) : entryFrame m #[(.ref x0), (.ref x1)] 2 = mkF m 0 #[.val (.ref x0), .val (.ref x1)] [] := by first | (simp [entryFrame, mkF, argsToLocals, Value.category]; done) | rfl
def Q8e2 (Z : State) (o0 : Addr) (o1 : Addr) (b : Addr) (k : ClassId) (x0 : Int64) (x1 : Int64) (x2 : Int64) (x3 : Int64) (h0 : Heap) (n0 : Nat) (v : Option Value) (h : Heap) (L : List Loc) : Prop := v = none ∧ Fr n0 L ∧ Keep h0 h [b] ∧ Arv Z h b k .long (4 : Int32) [(.long x0), (.long x1), (.long (x2 + (1 : Int64))), (.long x3)] (.long (0 : Int64))
set_option maxRecDepth 65536 in
set_option maxHeartbeats 40000000 in
theorem rm8e2 (l : Launch) (Z : State) (a0 : Array Value) (hw : ∀ d ∈ tables_1, d.before a0 Z = true) (ws : List Jvm.Cond) (o0 : Addr) (o1 : Addr) (b : Addr) (k : ClassId) (x0 : Int64) (x1 : Int64) (x2 : Int64) (x3 : Int64) (h0 : Heap) (n0 : Nat) (Z0 : n0 ≤ h0.size) (Fc : Fld Z h0 o0 "com/example/fides/fides/command/perf/Tally" "counts" "[J" (.ref b)) (V : Arv Z h0 b k .long (4 : Int32) [(.long x0), (.long x1), (.long x2), (.long x3)] (.long (0 : Int64))) (E1 : Exa Z h0 o1 "com/example/fides/fides/command/perf/Outcome") (F1 : Fld Z h0 o1 "java/lang/Enum" "ordinal" "I" (.int (2 : Int32))) (g_b : n0 ≤ b) (n0b : o0 ≠ b) (n1b : o1 ≠ b) :
    MetFree l (⟨"com/example/fides/fides/command/perf/Tally", "add", "(Lcom/example/fides/fides/command/perf/Outcome;)V"⟩ : MethodName) (head1 (Jvm.Cond.code (⟨"com/example/fides/fides/command/perf/Tally", "add", "(Lcom/example/fides/fides/command/perf/Outcome;)V"⟩ : MethodName) prog_13_method_2_code 2 none :: ws) ({ frames := 1, cells := 0, slots := 0, locals := 13 } : Room)) (fun a U => a = #[(.ref o0), (.ref o1)] ∧ Z.Warmed39 U.vm ∧ U.heap = h0) (fun _ _ _ _ _ => True) (fun _ U o U' => ∃ v L, o = .returned v ∧ Q8e2 Z o0 o1 b k x0 x1 x2 x3 h0 n0 v U'.heap L ∧ FrameEnd U o U' L ({ frames := 1, cells := 0, slots := 0, locals := 13 } : Room).cells ({ frames := 1, cells := 0, slots := 0, locals := 13 } : Room).slots) := by
  refine MetFree.of_bodySF (plainFor_of_name pn_2) hisR ?_
  intro p e s m args below meth c s₁ Bd hml0 hP hK
  obtain ⟨rfl, hZ, hh⟩ := hP
  have hx := Bd.exec
  have hby := Bd.bytes
  have hml : c.maxLocals = 2 := hml0
  have hown : s.vm.findClass "com/example/fides/fides/command/perf/Tally" = some m.cls := findClass_of_methodNamed Bd.named
  have hnm := (name_of_methodNamed Bd.named Bd.method).1
  have X0 : Stand p l e ({ frames := 1, cells := 0, slots := 0, locals := 13 } : Room) s m #[(.ref o0), (.ref o1)] below meth c s₁ [] 0 0 := Stand.of_body Bd
  have e0 : s₁.heap = h0 := by rw [← hh, Bd.state]; rfl
  have N0 := Fr.nil n0
  have hret := Bd.returns
  have hlk := BodyLoose.notSynchronized Bd
  show own_Out p e below (fun o U' => ∃ v L, o = .returned v ∧ Q8e2 Z o0 o1 b k x0 x1 x2 x3 h0 n0 v U'.heap L ∧ FrameEnd s o U' L ({ frames := 1, cells := 0, slots := 0, locals := 13 } : Room).cells ({ frames := 1, cells := 0, slots := 0, locals := 13 } : Room).slots) (s₁.setTop (entryFrame m #[(.ref o0), (.ref o1)] 2))
  refine own_of (fun t k => castTop (ef_8e2 m o0 o1) k) ?_
  show own_Out p e below _ (s₁.setTop (mkF m 0 #[.val (.ref o0), .val (.ref o1)] []))
  refine own_of (fun _ k => XS.aloadN X0.here hx rfl (hb hby d8_0) rfl rfl k) ?_
  show own_Out p e below _ (s₁.setTop (mkF m 1 #[.val (.ref o0), .val (.ref o1)] [(.ref o0)]))
  obtain ⟨T1, X1, e1, st1⟩ := getF X0 hx hZ hown (host := "") (Or.inl (hw _ (List.mem_of_getElem? (i := 30) rfl))) Via.refl e0 Fc (g := (mkF m 1 #[.val (.ref o0), .val (.ref o1)] [(.ref o0)])) rfl rfl (hb hby d8_1)
  refine own_of st1 ?_
  show own_Out p e below _ (T1.setTop (mkF m 4 #[.val (.ref o0), .val (.ref o1)] [(.ref b)]))
  refine own_of (fun _ k => XS.aloadN X1.here hx rfl (hb hby d8_4) rfl rfl k) ?_
  show own_Out p e below _ (T1.setTop (mkF m 5 #[.val (.ref o0), .val (.ref o1)] [(.ref o1), (.ref b)]))
  obtain ⟨cq2, kq2, q2a, q2b, q2c⟩ := isOf hZ e1 E1
  obtain ⟨_, _, ⟨T2, L2, k2, n2⟩, -, X2, ⟨Lc2, hQ2, l2, y2, z2⟩, st2⟩ := X1.virtualBackUp hx (x := (⟨"com/example/fides/fides/command/perf/Outcome", "ordinal", "()I"⟩ : MethodName)) (y := (⟨"java/lang/Enum", "ordinal", "()I"⟩ : MethodName)) (owner := "java/lang/Enum") hown (mvT hZ (hw _ (List.mem_of_getElem? (i := 43) rfl))) (mvT hZ (hw _ (List.mem_of_getElem? (i := 44) rfl))) (mvT hZ (hw _ (List.mem_of_getElem? (i := 45) rfl))) (by decide) (mvT hZ (hw _ (List.mem_of_getElem? (i := 47) rfl))) (mvT hZ (hw _ (List.mem_of_getElem? (i := 46) rfl))) (backOf (W := 1) (rm6 l Z a0 hw [] o1 (2 : Int32) h0 n0 Z0 F1) hZ (hw _ (List.mem_of_getElem? (i := 49) rfl)) (hw _ (List.mem_of_getElem? (i := 48) rfl)) (by decide) (by decide)) q2a q2c (g := (mkF m 5 #[.val (.ref o0), .val (.ref o1)] [(.ref o1), (.ref b)])) rfl (by rw [hml]; rfl) (Steps.refl _) (argsL := []) (rest := [(.ref b)]) (lenOf pd_1 rfl) rfl (by show 2 * 0 + _ ≤ _; exact Nat.le_of_eq rfl) (hb hby d8_5) (fun _ _ => ⟨rfl, e1, (by decide : 0 + 0 ≤ _), (by decide : 0 + 0 ≤ _)⟩)
  dsimp only [Pt.U, Pt.locs, Pt.cells, Pt.slots] at X2 l2 y2 z2 st2 hQ2
  subst l2 y2 z2
  obtain ⟨rfl, N2q, hh2⟩ := hQ2
  have N2 := Fr.app N0 N2q
  refine own_of (fun _ k => st2.trans k) ?_
  show own_Out p e below _ (T2.setTop (mkF m 8 #[.val (.ref o0), .val (.ref o1)] [(.int (2 : Int32)), (.ref b)]))
  refine own_of (fun _ k => Jvm.Free.XT.dup2 X2.here hx rfl (hb hby d8_8) rfl rfl rfl k) ?_
  show own_Out p e below _ (T2.setTop (mkF m 9 #[.val (.ref o0), .val (.ref o1)] [(.int (2 : Int32)), (.ref b), (.int (2 : Int32)), (.ref b)]))
  obtain ⟨cl3, Ar3, q3, S3, N3', H3, G3⟩ := id V
  have hin3 : ¬ ((2 : Int32) < 0 ∨ cl3.slots.size ≤ ((2 : Int32)).toNatClampNeg) := inb_of S3 ⟨by decide, by decide⟩
  have hat3 : cl3.slots[((2 : Int32)).toNatClampNeg]? = some (.long x2) := H3 _ (Nat.lt_of_not_le fun q => hin3 (Or.inr q))
  refine own_of (X2.laload hx (j := (2 : Int32)) (v := (.long x2)) (by rw [hh2]; exact Ar3.1) (State.isArrayOf_alike hZ.alike Ar3.2.1) Ar3.2.2 hin3 hat3 (g := (mkF m 9 #[.val (.ref o0), .val (.ref o1)] [(.int (2 : Int32)), (.ref b), (.int (2 : Int32)), (.ref b)])) rfl rfl (hb hby d8_9)) ?_
  show own_Out p e below _ (T2.setTop (mkF m 10 #[.val (.ref o0), .val (.ref o1)] [(.long x2), (.int (2 : Int32)), (.ref b)]))
  refine own_of (fun _ k => XS.lconst X2.here hx rfl (hb hby d8_10) k) ?_
  show own_Out p e below _ (T2.setTop (mkF m 11 #[.val (.ref o0), .val (.ref o1)] [(.long (1 : Int64)), (.long x2), (.int (2 : Int32)), (.ref b)]))
  refine own_of (fun _ k => XS.ladd X2.here hx rfl (hb hby d8_11) rfl k) ?_
  show own_Out p e below _ (T2.setTop (mkF m 12 #[.val (.ref o0), .val (.ref o1)] [(.long (x2 + (1 : Int64))), (.int (2 : Int32)), (.ref b)]))
  obtain ⟨cl4, Ar4, q4, S4, N4', H4, G4⟩ := id V
  have hin5 : ¬ ((2 : Int32) < 0 ∨ cl4.slots.size ≤ ((2 : Int32)).toNatClampNeg) := inb_of S4 ⟨by decide, by decide⟩
  obtain ⟨T5, h5, X5, e5, W5, st5⟩ := stJ X2 hx hZ hh2 Ar4 (j := (2 : Int32)) hin5 (g := (mkF m 12 #[.val (.ref o0), .val (.ref o1)] [(.long (x2 + (1 : Int64))), (.int (2 : Int32)), (.ref b)])) rfl rfl (hb hby d8_12)
  have V5 := Arv.set Ar4 q4 S4 N4' H4 G4 rfl W5 2 rfl (Nat.le_of_ble_eq_true rfl)
  have F_o0_counts_5 := Fc.other W5 (Or.inl n0b)
  have E_o1_5 := E1.wr W5
  have F_o1_ordinal_5 := F1.other W5 (Or.inl n1b)
  have N5 := Fr.snoc X5 N2 g_b
  have Zl5 : n0 ≤ h5.size := Nat.le_trans Z0 (Keep.of_wr W5).1
  have Kp5 := (Keep.refl h0 [b]).wr W5 (Or.inl (List.mem_of_getElem? (i := 0) rfl))
  refine own_of st5 ?_
  show own_Out p e below _ (T5.setTop (mkF m 13 #[.val (.ref o0), .val (.ref o1)] []))
  exact own_outV X5 hx hlk hret (hb hby d8_13) (Q := Q8e2 Z o0 o1 b k x0 x1 x2 x3 h0 n0) (by rw [e5]; exact ⟨rfl, N5, Kp5, V5⟩) (by decide) (by decide)
theorem ef_5e2 (m : MethodId) (x0 : Addr) (x1 : Addr) : entryFrame m #[(.ref x0), (.ref x1)] 2 = mkF m 0 #[.val (.ref x0), .val (.ref x1)] [] := by first | (simp [entryFrame, mkF, argsToLocals, Value.category]; done) | rfl
def Q5e2 (Z : State) (o0 : Addr) (o1 : Addr) (b : Addr) (k : ClassId) (x0 : Int64) (x1 : Int64) (x2 : Int64) (x3 : Int64) (h0 : Heap) (n0 : Nat) (v : Option Value) (h : Heap) (L : List Loc) : Prop := v = some (.long x2) ∧ Fr n0 L ∧ h = h0
set_option maxRecDepth 65536 in
set_option maxHeartbeats 40000000 in
theorem rm5e2 (l : Launch) (Z : State) (a0 : Array Value) (hw : ∀ d ∈ tables_1, d.before a0 Z = true) (ws : List Jvm.Cond) (o0 : Addr) (o1 : Addr) (b : Addr) (k : ClassId) (x0 : Int64) (x1 : Int64) (x2 : Int64) (x3 : Int64) (h0 : Heap) (n0 : Nat) (Z0 : n0 ≤ h0.size) (Fc : Fld Z h0 o0 "com/example/fides/fides/command/perf/Tally" "counts" "[J" (.ref b)) (V : Arv Z h0 b k .long (4 : Int32) [(.long x0), (.long x1), (.long x2), (.long x3)] (.long (0 : Int64))) (E1 : Exa Z h0 o1 "com/example/fides/fides/command/perf/Outcome") (F1 : Fld Z h0 o1 "java/lang/Enum" "ordinal" "I" (.int (2 : Int32))) :
    MetFree l (⟨"com/example/fides/fides/command/perf/Tally", "count", "(Lcom/example/fides/fides/command/perf/Outcome;)J"⟩ : MethodName) (head1 (Jvm.Cond.code (⟨"com/example/fides/fides/command/perf/Tally", "count", "(Lcom/example/fides/fides/command/perf/Outcome;)J"⟩ : MethodName) prog_13_method_4_code 2 (some .long) :: ws) ({ frames := 1, cells := 0, slots := 0, locals := 13 } : Room)) (fun a U => a = #[(.ref o0), (.ref o1)] ∧ Z.Warmed39 U.vm ∧ U.heap = h0) (fun _ _ _ _ _ => True) (fun _ U o U' => ∃ v L, o = .returned v ∧ Q5e2 Z o0 o1 b k x0 x1 x2 x3 h0 n0 v U'.heap L ∧ FrameEnd U o U' L ({ frames := 1, cells := 0, slots := 0, locals := 13 } : Room).cells ({ frames := 1, cells := 0, slots := 0, locals := 13 } : Room).slots) := by
  refine MetFree.of_bodySF (plainFor_of_name pn_2) hisR ?_
  intro p e s m args below meth c s₁ Bd hml0 hP hK
  obtain ⟨rfl, hZ, hh⟩ := hP
  have hx := Bd.exec
  have hby := Bd.bytes
  have hml : c.maxLocals = 2 := hml0
  have hown : s.vm.findClass "com/example/fides/fides/command/perf/Tally" = some m.cls := findClass_of_methodNamed Bd.named
  have hnm := (name_of_methodNamed Bd.named Bd.method).1
  have X0 : Stand p l e ({ frames := 1, cells := 0, slots := 0, locals := 13 } : Room) s m #[(.ref o0), (.ref o1)] below meth c s₁ [] 0 0 := Stand.of_body Bd
  have e0 : s₁.heap = h0 := by rw [← hh, Bd.state]; rfl
  have N0 := Fr.nil n0
  have hret := Bd.returns
  have hlk := BodyLoose.notSynchronized Bd
  show own_Out p e below (fun o U' => ∃ v L, o = .returned v ∧ Q5e2 Z o0 o1 b k x0 x1 x2 x3 h0 n0 v U'.heap L ∧ FrameEnd s o U' L ({ frames := 1, cells := 0, slots := 0, locals := 13 } : Room).cells ({ frames := 1, cells := 0, slots := 0, locals := 13 } : Room).slots) (s₁.setTop (entryFrame m #[(.ref o0), (.ref o1)] 2))
  refine own_of (fun t k => castTop (ef_5e2 m o0 o1) k) ?_
  show own_Out p e below _ (s₁.setTop (mkF m 0 #[.val (.ref o0), .val (.ref o1)] []))
  refine own_of (fun _ k => XS.aloadN X0.here hx rfl (hb hby d5_0) rfl rfl k) ?_
  show own_Out p e below _ (s₁.setTop (mkF m 1 #[.val (.ref o0), .val (.ref o1)] [(.ref o0)]))
  obtain ⟨T1, X1, e1, st1⟩ := getF X0 hx hZ hown (host := "") (Or.inl (hw _ (List.mem_of_getElem? (i := 30) rfl))) Via.refl e0 Fc (g := (mkF m 1 #[.val (.ref o0), .val (.ref o1)] [(.ref o0)])) rfl rfl (hb hby d5_1)
  refine own_of st1 ?_
  show own_Out p e below _ (T1.setTop (mkF m 4 #[.val (.ref o0), .val (.ref o1)] [(.ref b)]))
  refine own_of (fun _ k => XS.aloadN X1.here hx rfl (hb hby d5_4) rfl rfl k) ?_
  show own_Out p e below _ (T1.setTop (mkF m 5 #[.val (.ref o0), .val (.ref o1)] [(.ref o1), (.ref b)]))
  obtain ⟨cq2, kq2, q2a, q2b, q2c⟩ := isOf hZ e1 E1
  obtain ⟨_, _, ⟨T2, L2, k2, n2⟩, -, X2, ⟨Lc2, hQ2, l2, y2, z2⟩, st2⟩ := X1.virtualBackUp hx (x := (⟨"com/example/fides/fides/command/perf/Outcome", "ordinal", "()I"⟩ : MethodName)) (y := (⟨"java/lang/Enum", "ordinal", "()I"⟩ : MethodName)) (owner := "java/lang/Enum") hown (mvT hZ (hw _ (List.mem_of_getElem? (i := 43) rfl))) (mvT hZ (hw _ (List.mem_of_getElem? (i := 44) rfl))) (mvT hZ (hw _ (List.mem_of_getElem? (i := 45) rfl))) (by decide) (mvT hZ (hw _ (List.mem_of_getElem? (i := 47) rfl))) (mvT hZ (hw _ (List.mem_of_getElem? (i := 46) rfl))) (backOf (W := 1) (rm6 l Z a0 hw [] o1 (2 : Int32) h0 n0 Z0 F1) hZ (hw _ (List.mem_of_getElem? (i := 49) rfl)) (hw _ (List.mem_of_getElem? (i := 48) rfl)) (by decide) (by decide)) q2a q2c (g := (mkF m 5 #[.val (.ref o0), .val (.ref o1)] [(.ref o1), (.ref b)])) rfl (by rw [hml]; rfl) (Steps.refl _) (argsL := []) (rest := [(.ref b)]) (lenOf pd_1 rfl) rfl (by show 2 * 0 + _ ≤ _; exact Nat.le_of_eq rfl) (hb hby d5_5) (fun _ _ => ⟨rfl, e1, (by decide : 0 + 0 ≤ _), (by decide : 0 + 0 ≤ _)⟩)
  dsimp only [Pt.U, Pt.locs, Pt.cells, Pt.slots] at X2 l2 y2 z2 st2 hQ2
  subst l2 y2 z2
  obtain ⟨rfl, N2q, hh2⟩ := hQ2
  have N2 := Fr.app N0 N2q
  refine own_of (fun _ k => st2.trans k) ?_
  show own_Out p e below _ (T2.setTop (mkF m 8 #[.val (.ref o0), .val (.ref o1)] [(.int (2 : Int32)), (.ref b)]))
  obtain ⟨cl3, Ar3, q3, S3, N3', H3, G3⟩ := id V
  have hin3 : ¬ ((2 : Int32) < 0 ∨ cl3.slots.size ≤ ((2 : Int32)).toNatClampNeg) := inb_of S3 ⟨by decide, by decide⟩
  have hat3 : cl3.slots[((2 : Int32)).toNatClampNeg]? = some (.long x2) := H3 _ (Nat.lt_of_not_le fun q => hin3 (Or.inr q))
  refine own_of (X2.laload hx (j := (2 : Int32)) (v := (.long x2)) (by rw [hh2]; exact Ar3.1) (State.isArrayOf_alike hZ.alike Ar3.2.1) Ar3.2.2 hin3 hat3 (g := (mkF m 8 #[.val (.ref o0), .val (.ref o1)] [(.int (2 : Int32)), (.ref b)])) rfl rfl (hb hby d5_8)) ?_
  show own_Out p e below _ (T2.setTop (mkF m 9 #[.val (.ref o0), .val (.ref o1)] [(.long x2)]))
  exact own_outL X2 hx hlk hret (hb hby d5_9) (Q := Q5e2 Z o0 o1 b k x0 x1 x2 x3 h0 n0) ⟨rfl, N2, hh2⟩ (by decide) (by decide)
theorem ef_8e3 (m : MethodId) (x0 : Addr) (x1 : Addr) : entryFrame m #[(.ref x0), (.ref x1)] 2 = mkF m 0 #[.val (.ref x0), .val (.ref x1)] [] := by first | (simp [entryFrame, mkF, argsToLocals, Value.category]; done) | rfl
def Q8e3 (Z : State) (o0 : Addr) (o1 : Addr) (b : Addr) (k : ClassId) (x0 : Int64) (x1 : Int64) (x2 : Int64) (x3 : Int64) (h0 : Heap) (n0 : Nat) (v : Option Value) (h : Heap) (L : List Loc) : Prop := v = none ∧ Fr n0 L ∧ Keep h0 h [b] ∧ Arv Z h b k .long (4 : Int32) [(.long x0), (.long x1), (.long x2), (.long (x3 + (1 : Int64)))] (.long (0 : Int64))
set_option maxRecDepth 65536 in
set_option maxHeartbeats 40000000 in
theorem rm8e3 (l : Launch) (Z : State) (a0 : Array Value) (hw : ∀ d ∈ tables_1, d.before a0 Z = true) (ws : List Jvm.Cond) (o0 : Addr) (o1 : Addr) (b : Addr) (k : ClassId) (x0 : Int64) (x1 : Int64) (x2 : Int64) (x3 : Int64) (h0 : Heap) (n0 : Nat) (Z0 : n0 ≤ h0.size) (Fc : Fld Z h0 o0 "com/example/fides/fides/command/perf/Tally" "counts" "[J" (.ref b)) (V : Arv Z h0 b k .long (4 : Int32) [(.long x0), (.long x1), (.long x2), (.long x3)] (.long (0 : Int64))) (E1 : Exa Z h0 o1 "com/example/fides/fides/command/perf/Outcome") (F1 : Fld Z h0 o1 "java/lang/Enum" "ordinal" "I" (.int (3 : Int32))) (g_b : n0 ≤ b) (n0b : o0 ≠ b) (n1b : o1 ≠ b) :
    MetFree l (⟨"com/example/fides/fides/command/perf/Tally", "add", "(Lcom/example/fides/fides/command/perf/Outcome;)V"⟩ : MethodName) (head1 (Jvm.Cond.code (⟨"com/example/fides/fides/command/perf/Tally", "add", "(Lcom/example/fides/fides/command/perf/Outcome;)V"⟩ : MethodName) prog_13_method_2_code 2 none :: ws) ({ frames := 1, cells := 0, slots := 0, locals := 13 } : Room)) (fun a U => a = #[(.ref o0), (.ref o1)] ∧ Z.Warmed39 U.vm ∧ U.heap = h0) (fun _ _ _ _ _ => True) (fun _ U o U' => ∃ v L, o = .returned v ∧ Q8e3 Z o0 o1 b k x0 x1 x2 x3 h0 n0 v U'.heap L ∧ FrameEnd U o U' L ({ frames := 1, cells := 0, slots := 0, locals := 13 } : Room).cells ({ frames := 1, cells := 0, slots := 0, locals := 13 } : Room).slots) := by
  refine MetFree.of_bodySF (plainFor_of_name pn_2) hisR ?_
  intro p e s m args below meth c s₁ Bd hml0 hP hK
  obtain ⟨rfl, hZ, hh⟩ := hP
  have hx := Bd.exec
  have hby := Bd.bytes
  have hml : c.maxLocals = 2 := hml0
  have hown : s.vm.findClass "com/example/fides/fides/command/perf/Tally" = some m.cls := findClass_of_methodNamed Bd.named
  have hnm := (name_of_methodNamed Bd.named Bd.method).1
  have X0 : Stand p l e ({ frames := 1, cells := 0, slots := 0, locals := 13 } : Room) s m #[(.ref o0), (.ref o1)] below meth c s₁ [] 0 0 := Stand.of_body Bd
  have e0 : s₁.heap = h0 := by rw [← hh, Bd.state]; rfl
  have N0 := Fr.nil n0
  have hret := Bd.returns
  have hlk := BodyLoose.notSynchronized Bd
  show own_Out p e below (fun o U' => ∃ v L, o = .returned v ∧ Q8e3 Z o0 o1 b k x0 x1 x2 x3 h0 n0 v U'.heap L ∧ FrameEnd s o U' L ({ frames := 1, cells := 0, slots := 0, locals := 13 } : Room).cells ({ frames := 1, cells := 0, slots := 0, locals := 13 } : Room).slots) (s₁.setTop (entryFrame m #[(.ref o0), (.ref o1)] 2))
  refine own_of (fun t k => castTop (ef_8e3 m o0 o1) k) ?_
  show own_Out p e below _ (s₁.setTop (mkF m 0 #[.val (.ref o0), .val (.ref o1)] []))
  refine own_of (fun _ k => XS.aloadN X0.here hx rfl (hb hby d8_0) rfl rfl k) ?_
  show own_Out p e below _ (s₁.setTop (mkF m 1 #[.val (.ref o0), .val (.ref o1)] [(.ref o0)]))
  obtain ⟨T1, X1, e1, st1⟩ := getF X0 hx hZ hown (host := "") (Or.inl (hw _ (List.mem_of_getElem? (i := 30) rfl))) Via.refl e0 Fc (g := (mkF m 1 #[.val (.ref o0), .val (.ref o1)] [(.ref o0)])) rfl rfl (hb hby d8_1)
  refine own_of st1 ?_
  show own_Out p e below _ (T1.setTop (mkF m 4 #[.val (.ref o0), .val (.ref o1)] [(.ref b)]))
  refine own_of (fun _ k => XS.aloadN X1.here hx rfl (hb hby d8_4) rfl rfl k) ?_
  show own_Out p e below _ (T1.setTop (mkF m 5 #[.val (.ref o0), .val (.ref o1)] [(.ref o1), (.ref b)]))
  obtain ⟨cq2, kq2, q2a, q2b, q2c⟩ := isOf hZ e1 E1
  obtain ⟨_, _, ⟨T2, L2, k2, n2⟩, -, X2, ⟨Lc2, hQ2, l2, y2, z2⟩, st2⟩ := X1.virtualBackUp hx (x := (⟨"com/example/fides/fides/command/perf/Outcome", "ordinal", "()I"⟩ : MethodName)) (y := (⟨"java/lang/Enum", "ordinal", "()I"⟩ : MethodName)) (owner := "java/lang/Enum") hown (mvT hZ (hw _ (List.mem_of_getElem? (i := 43) rfl))) (mvT hZ (hw _ (List.mem_of_getElem? (i := 44) rfl))) (mvT hZ (hw _ (List.mem_of_getElem? (i := 45) rfl))) (by decide) (mvT hZ (hw _ (List.mem_of_getElem? (i := 47) rfl))) (mvT hZ (hw _ (List.mem_of_getElem? (i := 46) rfl))) (backOf (W := 1) (rm6 l Z a0 hw [] o1 (3 : Int32) h0 n0 Z0 F1) hZ (hw _ (List.mem_of_getElem? (i := 49) rfl)) (hw _ (List.mem_of_getElem? (i := 48) rfl)) (by decide) (by decide)) q2a q2c (g := (mkF m 5 #[.val (.ref o0), .val (.ref o1)] [(.ref o1), (.ref b)])) rfl (by rw [hml]; rfl) (Steps.refl _) (argsL := []) (rest := [(.ref b)]) (lenOf pd_1 rfl) rfl (by show 2 * 0 + _ ≤ _; exact Nat.le_of_eq rfl) (hb hby d8_5) (fun _ _ => ⟨rfl, e1, (by decide : 0 + 0 ≤ _), (by decide : 0 + 0 ≤ _)⟩)
  dsimp only [Pt.U, Pt.locs, Pt.cells, Pt.slots] at X2 l2 y2 z2 st2 hQ2
  subst l2 y2 z2
  obtain ⟨rfl, N2q, hh2⟩ := hQ2
  have N2 := Fr.app N0 N2q
  refine own_of (fun _ k => st2.trans k) ?_
  show own_Out p e below _ (T2.setTop (mkF m 8 #[.val (.ref o0), .val (.ref o1)] [(.int (3 : Int32)), (.ref b)]))
  refine own_of (fun _ k => Jvm.Free.XT.dup2 X2.here hx rfl (hb hby d8_8) rfl rfl rfl k) ?_
  show own_Out p e below _ (T2.setTop (mkF m 9 #[.val (.ref o0), .val (.ref o1)] [(.int (3 : Int32)), (.ref b), (.int (3 : Int32)), (.ref b)]))
  obtain ⟨cl3, Ar3, q3, S3, N3', H3, G3⟩ := id V
  have hin3 : ¬ ((3 : Int32) < 0 ∨ cl3.slots.size ≤ ((3 : Int32)).toNatClampNeg) := inb_of S3 ⟨by decide, by decide⟩
  have hat3 : cl3.slots[((3 : Int32)).toNatClampNeg]? = some (.long x3) := H3 _ (Nat.lt_of_not_le fun q => hin3 (Or.inr q))
  refine own_of (X2.laload hx (j := (3 : Int32)) (v := (.long x3)) (by rw [hh2]; exact Ar3.1) (State.isArrayOf_alike hZ.alike Ar3.2.1) Ar3.2.2 hin3 hat3 (g := (mkF m 9 #[.val (.ref o0), .val (.ref o1)] [(.int (3 : Int32)), (.ref b), (.int (3 : Int32)), (.ref b)])) rfl rfl (hb hby d8_9)) ?_
  show own_Out p e below _ (T2.setTop (mkF m 10 #[.val (.ref o0), .val (.ref o1)] [(.long x3), (.int (3 : Int32)), (.ref b)]))
  refine own_of (fun _ k => XS.lconst X2.here hx rfl (hb hby d8_10) k) ?_
  show own_Out p e below _ (T2.setTop (mkF m 11 #[.val (.ref o0), .val (.ref o1)] [(.long (1 : Int64)), (.long x3), (.int (3 : Int32)), (.ref b)]))
  refine own_of (fun _ k => XS.ladd X2.here hx rfl (hb hby d8_11) rfl k) ?_
  show own_Out p e below _ (T2.setTop (mkF m 12 #[.val (.ref o0), .val (.ref o1)] [(.long (x3 + (1 : Int64))), (.int (3 : Int32)), (.ref b)]))
  obtain ⟨cl4, Ar4, q4, S4, N4', H4, G4⟩ := id V
  have hin5 : ¬ ((3 : Int32) < 0 ∨ cl4.slots.size ≤ ((3 : Int32)).toNatClampNeg) := inb_of S4 ⟨by decide, by decide⟩
  obtain ⟨T5, h5, X5, e5, W5, st5⟩ := stJ X2 hx hZ hh2 Ar4 (j := (3 : Int32)) hin5 (g := (mkF m 12 #[.val (.ref o0), .val (.ref o1)] [(.long (x3 + (1 : Int64))), (.int (3 : Int32)), (.ref b)])) rfl rfl (hb hby d8_12)
  have V5 := Arv.set Ar4 q4 S4 N4' H4 G4 rfl W5 3 rfl (Nat.le_of_ble_eq_true rfl)
  have F_o0_counts_5 := Fc.other W5 (Or.inl n0b)
  have E_o1_5 := E1.wr W5
  have F_o1_ordinal_5 := F1.other W5 (Or.inl n1b)
  have N5 := Fr.snoc X5 N2 g_b
  have Zl5 : n0 ≤ h5.size := Nat.le_trans Z0 (Keep.of_wr W5).1
  have Kp5 := (Keep.refl h0 [b]).wr W5 (Or.inl (List.mem_of_getElem? (i := 0) rfl))
  refine own_of st5 ?_
  show own_Out p e below _ (T5.setTop (mkF m 13 #[.val (.ref o0), .val (.ref o1)] []))
  exact own_outV X5 hx hlk hret (hb hby d8_13) (Q := Q8e3 Z o0 o1 b k x0 x1 x2 x3 h0 n0) (by rw [e5]; exact ⟨rfl, N5, Kp5, V5⟩) (by decide) (by decide)
theorem ef_5e3 (m : MethodId) (x0 : Addr) (x1 : Addr) : entryFrame m #[(.ref x0), (.ref x1)] 2 = mkF m 0 #[.val (.ref x0), .val (.ref x1)] [] := by first | (simp [entryFrame, mkF, argsToLocals, Value.category]; done) | rfl
def Q5e3 (Z : State) (o0 : Addr) (o1 : Addr) (b : Addr) (k : ClassId) (x0 : Int64) (x1 : Int64) (x2 : Int64) (x3 : Int64) (h0 : Heap) (n0 : Nat) (v : Option Value) (h : Heap) (L : List Loc) : Prop := v = some (.long x3) ∧ Fr n0 L ∧ h = h0
set_option maxRecDepth 65536 in
set_option maxHeartbeats 40000000 in
theorem rm5e3 (l : Launch) (Z : State) (a0 : Array Value) (hw : ∀ d ∈ tables_1, d.before a0 Z = true) (ws : List Jvm.Cond) (o0 : Addr) (o1 : Addr) (b : Addr) (k : ClassId) (x0 : Int64) (x1 : Int64) (x2 : Int64) (x3 : Int64) (h0 : Heap) (n0 : Nat) (Z0 : n0 ≤ h0.size) (Fc : Fld Z h0 o0 "com/example/fides/fides/command/perf/Tally" "counts" "[J" (.ref b)) (V : Arv Z h0 b k .long (4 : Int32) [(.long x0), (.long x1), (.long x2), (.long x3)] (.long (0 : Int64))) (E1 : Exa Z h0 o1 "com/example/fides/fides/command/perf/Outcome") (F1 : Fld Z h0 o1 "java/lang/Enum" "ordinal" "I" (.int (3 : Int32))) :
    MetFree l (⟨"com/example/fides/fides/command/perf/Tally", "count", "(Lcom/example/fides/fides/command/perf/Outcome;)J"⟩ : MethodName) (head1 (Jvm.Cond.code (⟨"com/example/fides/fides/command/perf/Tally", "count", "(Lcom/example/fides/fides/command/perf/Outcome;)J"⟩ : MethodName) prog_13_method_4_code 2 (some .long) :: ws) ({ frames := 1, cells := 0, slots := 0, locals := 13 } : Room)) (fun a U => a = #[(.ref o0), (.ref o1)] ∧ Z.Warmed39 U.vm ∧ U.heap = h0) (fun _ _ _ _ _ => True) (fun _ U o U' => ∃ v L, o = .returned v ∧ Q5e3 Z o0 o1 b k x0 x1 x2 x3 h0 n0 v U'.heap L ∧ FrameEnd U o U' L ({ frames := 1, cells := 0, slots := 0, locals := 13 } : Room).cells ({ frames := 1, cells := 0, slots := 0, locals := 13 } : Room).slots) := by
  refine MetFree.of_bodySF (plainFor_of_name pn_2) hisR ?_
  intro p e s m args below meth c s₁ Bd hml0 hP hK
  obtain ⟨rfl, hZ, hh⟩ := hP
  have hx := Bd.exec
  have hby := Bd.bytes
  have hml : c.maxLocals = 2 := hml0
  have hown : s.vm.findClass "com/example/fides/fides/command/perf/Tally" = some m.cls := findClass_of_methodNamed Bd.named
  have hnm := (name_of_methodNamed Bd.named Bd.method).1
  have X0 : Stand p l e ({ frames := 1, cells := 0, slots := 0, locals := 13 } : Room) s m #[(.ref o0), (.ref o1)] below meth c s₁ [] 0 0 := Stand.of_body Bd
  have e0 : s₁.heap = h0 := by rw [← hh, Bd.state]; rfl
  have N0 := Fr.nil n0
  have hret := Bd.returns
  have hlk := BodyLoose.notSynchronized Bd
  show own_Out p e below (fun o U' => ∃ v L, o = .returned v ∧ Q5e3 Z o0 o1 b k x0 x1 x2 x3 h0 n0 v U'.heap L ∧ FrameEnd s o U' L ({ frames := 1, cells := 0, slots := 0, locals := 13 } : Room).cells ({ frames := 1, cells := 0, slots := 0, locals := 13 } : Room).slots) (s₁.setTop (entryFrame m #[(.ref o0), (.ref o1)] 2))
  refine own_of (fun t k => castTop (ef_5e3 m o0 o1) k) ?_
  show own_Out p e below _ (s₁.setTop (mkF m 0 #[.val (.ref o0), .val (.ref o1)] []))
  refine own_of (fun _ k => XS.aloadN X0.here hx rfl (hb hby d5_0) rfl rfl k) ?_
  show own_Out p e below _ (s₁.setTop (mkF m 1 #[.val (.ref o0), .val (.ref o1)] [(.ref o0)]))
  obtain ⟨T1, X1, e1, st1⟩ := getF X0 hx hZ hown (host := "") (Or.inl (hw _ (List.mem_of_getElem? (i := 30) rfl))) Via.refl e0 Fc (g := (mkF m 1 #[.val (.ref o0), .val (.ref o1)] [(.ref o0)])) rfl rfl (hb hby d5_1)
  refine own_of st1 ?_
  show own_Out p e below _ (T1.setTop (mkF m 4 #[.val (.ref o0), .val (.ref o1)] [(.ref b)]))
  refine own_of (fun _ k => XS.aloadN X1.here hx rfl (hb hby d5_4) rfl rfl k) ?_
  show own_Out p e below _ (T1.setTop (mkF m 5 #[.val (.ref o0), .val (.ref o1)] [(.ref o1), (.ref b)]))
  obtain ⟨cq2, kq2, q2a, q2b, q2c⟩ := isOf hZ e1 E1
  obtain ⟨_, _, ⟨T2, L2, k2, n2⟩, -, X2, ⟨Lc2, hQ2, l2, y2, z2⟩, st2⟩ := X1.virtualBackUp hx (x := (⟨"com/example/fides/fides/command/perf/Outcome", "ordinal", "()I"⟩ : MethodName)) (y := (⟨"java/lang/Enum", "ordinal", "()I"⟩ : MethodName)) (owner := "java/lang/Enum") hown (mvT hZ (hw _ (List.mem_of_getElem? (i := 43) rfl))) (mvT hZ (hw _ (List.mem_of_getElem? (i := 44) rfl))) (mvT hZ (hw _ (List.mem_of_getElem? (i := 45) rfl))) (by decide) (mvT hZ (hw _ (List.mem_of_getElem? (i := 47) rfl))) (mvT hZ (hw _ (List.mem_of_getElem? (i := 46) rfl))) (backOf (W := 1) (rm6 l Z a0 hw [] o1 (3 : Int32) h0 n0 Z0 F1) hZ (hw _ (List.mem_of_getElem? (i := 49) rfl)) (hw _ (List.mem_of_getElem? (i := 48) rfl)) (by decide) (by decide)) q2a q2c (g := (mkF m 5 #[.val (.ref o0), .val (.ref o1)] [(.ref o1), (.ref b)])) rfl (by rw [hml]; rfl) (Steps.refl _) (argsL := []) (rest := [(.ref b)]) (lenOf pd_1 rfl) rfl (by show 2 * 0 + _ ≤ _; exact Nat.le_of_eq rfl) (hb hby d5_5) (fun _ _ => ⟨rfl, e1, (by decide : 0 + 0 ≤ _), (by decide : 0 + 0 ≤ _)⟩)
  dsimp only [Pt.U, Pt.locs, Pt.cells, Pt.slots] at X2 l2 y2 z2 st2 hQ2
  subst l2 y2 z2
  obtain ⟨rfl, N2q, hh2⟩ := hQ2
  have N2 := Fr.app N0 N2q
  refine own_of (fun _ k => st2.trans k) ?_
  show own_Out p e below _ (T2.setTop (mkF m 8 #[.val (.ref o0), .val (.ref o1)] [(.int (3 : Int32)), (.ref b)]))
  obtain ⟨cl3, Ar3, q3, S3, N3', H3, G3⟩ := id V
  have hin3 : ¬ ((3 : Int32) < 0 ∨ cl3.slots.size ≤ ((3 : Int32)).toNatClampNeg) := inb_of S3 ⟨by decide, by decide⟩
  have hat3 : cl3.slots[((3 : Int32)).toNatClampNeg]? = some (.long x3) := H3 _ (Nat.lt_of_not_le fun q => hin3 (Or.inr q))
  refine own_of (X2.laload hx (j := (3 : Int32)) (v := (.long x3)) (by rw [hh2]; exact Ar3.1) (State.isArrayOf_alike hZ.alike Ar3.2.1) Ar3.2.2 hin3 hat3 (g := (mkF m 8 #[.val (.ref o0), .val (.ref o1)] [(.int (3 : Int32)), (.ref b)])) rfl rfl (hb hby d5_8)) ?_
  show own_Out p e below _ (T2.setTop (mkF m 9 #[.val (.ref o0), .val (.ref o1)] [(.long x3)]))
  exact own_outL X2 hx hlk hret (hb hby d5_9) (Q := Q5e3 Z o0 o1 b k x0 x1 x2 x3 h0 n0) ⟨rfl, N2, hh2⟩ (by decide) (by decide)
theorem d4_0 : decode prog_13_method_5_code 0 = .ok (.lconst 0, 1) := by decide +kernel
theorem d4_1 : decode prog_13_method_5_code 1 = .ok (.lstore_n 1, 1) := by decide +kernel
theorem d4_2 : decode prog_13_method_5_code 2 = .ok (.aload_n 0, 1) := by decide +kernel
theorem d4_3 : decode prog_13_method_5_code 3 = .ok (.getfield 13, 3) := by decide +kernel
theorem d4_6 : decode prog_13_method_5_code 6 = .ok (.astore_n 3, 1) := by decide +kernel
theorem d4_7 : decode prog_13_method_5_code 7 = .ok (.aload_n 3, 1) := by decide +kernel
theorem d4_8 : decode prog_13_method_5_code 8 = .ok (.arraylength, 1) := by decide +kernel
theorem d4_9 : decode prog_13_method_5_code 9 = .ok (.istore 4, 2) := by decide +kernel
theorem d4_11 : decode prog_13_method_5_code 11 = .ok (.iconst 0, 1) := by decide +kernel
theorem d4_12 : decode prog_13_method_5_code 12 = .ok (.istore 5, 2) := by decide +kernel
theorem d4_14 : decode prog_13_method_5_code 14 = .ok (.iload 5, 2) := by decide +kernel
theorem d4_16 : decode prog_13_method_5_code 16 = .ok (.iload 4, 2) := by decide +kernel
theorem d4_18 : decode prog_13_method_5_code 18 = .ok (.if_icmp .ge 20, 3) := by decide +kernel
theorem d4_21 : decode prog_13_method_5_code 21 = .ok (.aload_n 3, 1) := by decide +kernel
theorem d4_22 : decode prog_13_method_5_code 22 = .ok (.iload 5, 2) := by decide +kernel
theorem d4_24 : decode prog_13_method_5_code 24 = .ok (.laload, 1) := by decide +kernel
theorem d4_25 : decode prog_13_method_5_code 25 = .ok (.lstore 6, 2) := by decide +kernel
theorem d4_27 : decode prog_13_method_5_code 27 = .ok (.lload_n 1, 1) := by decide +kernel
theorem d4_28 : decode prog_13_method_5_code 28 = .ok (.lload 6, 2) := by decide +kernel
theorem d4_30 : decode prog_13_method_5_code 30 = .ok (.ladd, 1) := by decide +kernel
theorem d4_31 : decode prog_13_method_5_code 31 = .ok (.lstore_n 1, 1) := by decide +kernel
theorem d4_32 : decode prog_13_method_5_code 32 = .ok (.iinc 5 1, 3) := by decide +kernel
theorem d4_35 : decode prog_13_method_5_code 35 = .ok (.goto (-21), 3) := by decide +kernel
theorem d4_38 : decode prog_13_method_5_code 38 = .ok (.lload_n 1, 1) := by decide +kernel
theorem d4_39 : decode prog_13_method_5_code 39 = .ok (.lreturn, 1) := by decide +kernel
theorem ef_4 (m : MethodId) (x0 : Addr) : entryFrame m #[(.ref x0)] 8 = mkF m 0 #[.val (.ref x0), .unset, .unset, .unset, .unset, .unset, .unset, .unset] [] := by first | (simp [entryFrame, mkF, argsToLocals, Value.category]; done) | rfl
def Q4 (Z : State) (o0 : Addr) (b : Addr) (k : ClassId) (x0 : Int64) (x1 : Int64) (x2 : Int64) (x3 : Int64) (h0 : Heap) (n0 : Nat) (v : Option Value) (h : Heap) (L : List Loc) : Prop := v = some (.long (((((0 : Int64) + x0) + x1) + x2) + x3)) ∧ Fr n0 L ∧ h = h0
set_option maxRecDepth 65536 in
set_option maxHeartbeats 40000000 in
theorem rm4 (l : Launch) (Z : State) (a0 : Array Value) (hw : ∀ d ∈ tables_1, d.before a0 Z = true) (ws : List Jvm.Cond) (o0 : Addr) (b : Addr) (k : ClassId) (x0 : Int64) (x1 : Int64) (x2 : Int64) (x3 : Int64) (h0 : Heap) (n0 : Nat) (Z0 : n0 ≤ h0.size) (Fc : Fld Z h0 o0 "com/example/fides/fides/command/perf/Tally" "counts" "[J" (.ref b)) (V : Arv Z h0 b k .long (4 : Int32) [(.long x0), (.long x1), (.long x2), (.long x3)] (.long (0 : Int64))) :
    MetFree l (⟨"com/example/fides/fides/command/perf/Tally", "total", "()J"⟩ : MethodName) (head1 (Jvm.Cond.code (⟨"com/example/fides/fides/command/perf/Tally", "total", "()J"⟩ : MethodName) prog_13_method_5_code 8 (some .long) :: ws) ({ frames := 0, cells := 0, slots := 0, locals := 0 } : Room)) (fun a U => a = #[(.ref o0)] ∧ Z.Warmed39 U.vm ∧ U.heap = h0) (fun _ _ _ _ _ => True) (fun _ U o U' => ∃ v L, o = .returned v ∧ Q4 Z o0 b k x0 x1 x2 x3 h0 n0 v U'.heap L ∧ FrameEnd U o U' L ({ frames := 0, cells := 0, slots := 0, locals := 0 } : Room).cells ({ frames := 0, cells := 0, slots := 0, locals := 0 } : Room).slots) := by
  refine MetFree.of_bodySF (plainFor_of_name pn_2) hisR ?_
  intro p e s m args below meth c s₁ Bd hml0 hP hK
  obtain ⟨rfl, hZ, hh⟩ := hP
  have hx := Bd.exec
  have hby := Bd.bytes
  have hml : c.maxLocals = 8 := hml0
  have hown : s.vm.findClass "com/example/fides/fides/command/perf/Tally" = some m.cls := findClass_of_methodNamed Bd.named
  have hnm := (name_of_methodNamed Bd.named Bd.method).1
  have X0 : Stand p l e ({ frames := 0, cells := 0, slots := 0, locals := 0 } : Room) s m #[(.ref o0)] below meth c s₁ [] 0 0 := Stand.of_body Bd
  have e0 : s₁.heap = h0 := by rw [← hh, Bd.state]; rfl
  have N0 := Fr.nil n0
  have hret := Bd.returns
  have hlk := BodyLoose.notSynchronized Bd
  show own_Out p e below (fun o U' => ∃ v L, o = .returned v ∧ Q4 Z o0 b k x0 x1 x2 x3 h0 n0 v U'.heap L ∧ FrameEnd s o U' L ({ frames := 0, cells := 0, slots := 0, locals := 0 } : Room).cells ({ frames := 0, cells := 0, slots := 0, locals := 0 } : Room).slots) (s₁.setTop (entryFrame m #[(.ref o0)] 8))
  refine own_of (fun t k => castTop (ef_4 m o0) k) ?_
  show own_Out p e below _ (s₁.setTop (mkF m 0 #[.val (.ref o0), .unset, .unset, .unset, .unset, .unset, .unset, .unset] []))
  refine own_of (fun _ k => XS.lconst X0.here hx rfl (hb hby d4_0) k) ?_
  show own_Out p e below _ (s₁.setTop (mkF m 1 #[.val (.ref o0), .unset, .unset, .unset, .unset, .unset, .unset, .unset] [(.long (0 : Int64))]))
  refine own_of (fun _ k => XS.lstoreN X0.here hx rfl (hb hby d4_1) rfl (l' := #[.val (.ref o0), .val (.long (0 : Int64)), .second, .unset, .unset, .unset, .unset, .unset]) rfl k) ?_
  show own_Out p e below _ (s₁.setTop (mkF m 2 #[.val (.ref o0), .val (.long (0 : Int64)), .second, .unset, .unset, .unset, .unset, .unset] []))
  refine own_of (fun _ k => XS.aloadN X0.here hx rfl (hb hby d4_2) rfl rfl k) ?_
  show own_Out p e below _ (s₁.setTop (mkF m 3 #[.val (.ref o0), .val (.long (0 : Int64)), .second, .unset, .unset, .unset, .unset, .unset] [(.ref o0)]))
  obtain ⟨T1, X1, e1, st1⟩ := getF X0 hx hZ hown (host := "") (Or.inl (hw _ (List.mem_of_getElem? (i := 30) rfl))) Via.refl e0 Fc (g := (mkF m 3 #[.val (.ref o0), .val (.long (0 : Int64)), .second, .unset, .unset, .unset, .unset, .unset] [(.ref o0)])) rfl rfl (hb hby d4_3)
  refine own_of st1 ?_
  show own_Out p e below _ (T1.setTop (mkF m 6 #[.val (.ref o0), .val (.long (0 : Int64)), .second, .unset, .unset, .unset, .unset, .unset] [(.ref b)]))
  refine own_of (fun _ k => XS.astoreN X1.here hx rfl (hb hby d4_6) rfl rfl (l' := #[.val (.ref o0), .val (.long (0 : Int64)), .second, .val (.ref b), .unset, .unset, .unset, .unset]) rfl k) ?_
  show own_Out p e below _ (T1.setTop (mkF m 7 #[.val (.ref o0), .val (.long (0 : Int64)), .second, .val (.ref b), .unset, .unset, .unset, .unset] []))
  refine own_of (fun _ k => XS.aloadN X1.here hx rfl (hb hby d4_7) rfl rfl k) ?_
  show own_Out p e below _ (T1.setTop (mkF m 8 #[.val (.ref o0), .val (.long (0 : Int64)), .second, .val (.ref b), .unset, .unset, .unset, .unset] [(.ref b)]))
  obtain ⟨cl2, Ar2, q2, S2, N2', H2, G2⟩ := id V
  refine own_of (X1.arraylength hx (by rw [e1]; exact Ar2.1) (State.isArrayOf_alike hZ.alike Ar2.2.1) (g := (mkF m 8 #[.val (.ref o0), .val (.long (0 : Int64)), .second, .val (.ref b), .unset, .unset, .unset, .unset] [(.ref b)])) rfl rfl (hb hby d4_8)) ?_
  rw [len_of S2 N2']
  show own_Out p e below _ (T1.setTop (mkF m 9 #[.val (.ref o0), .val (.long (0 : Int64)), .second, .val (.ref b), .unset, .unset, .unset, .unset] [(.int (4 : Int32))]))
  refine own_of (fun _ k => XS.istore X1.here hx rfl (hb hby d4_9) rfl (l' := #[.val (.ref o0), .val (.long (0 : Int64)), .second, .val (.ref b), .val (.int (4 : Int32)), .unset, .unset, .unset]) rfl k) ?_
  show own_Out p e below _ (T1.setTop (mkF m 11 #[.val (.ref o0), .val (.long (0 : Int64)), .second, .val (.ref b), .val (.int (4 : Int32)), .unset, .unset, .unset] []))
  refine own_of (fun _ k => XS.iconst X1.here hx rfl (hb hby d4_11) k) ?_
  show own_Out p e below _ (T1.setTop (mkF m 12 #[.val (.ref o0), .val (.long (0 : Int64)), .second, .val (.ref b), .val (.int (4 : Int32)), .unset, .unset, .unset] [(.int (0 : Int32))]))
  refine own_of (fun _ k => XS.istore X1.here hx rfl (hb hby d4_12) rfl (l' := #[.val (.ref o0), .val (.long (0 : Int64)), .second, .val (.ref b), .val (.int (4 : Int32)), .val (.int (0 : Int32)), .unset, .unset]) rfl k) ?_
  show own_Out p e below _ (T1.setTop (mkF m 14 #[.val (.ref o0), .val (.long (0 : Int64)), .second, .val (.ref b), .val (.int (4 : Int32)), .val (.int (0 : Int32)), .unset, .unset] []))
  refine own_of (fun _ k => XS.iload X1.here hx rfl (hb hby d4_14) rfl k) ?_
  show own_Out p e below _ (T1.setTop (mkF m 16 #[.val (.ref o0), .val (.long (0 : Int64)), .second, .val (.ref b), .val (.int (4 : Int32)), .val (.int (0 : Int32)), .unset, .unset] [(.int (0 : Int32))]))
  refine own_of (fun _ k => XS.iload X1.here hx rfl (hb hby d4_16) rfl k) ?_
  show own_Out p e below _ (T1.setTop (mkF m 18 #[.val (.ref o0), .val (.long (0 : Int64)), .second, .val (.ref b), .val (.int (4 : Int32)), .val (.int (0 : Int32)), .unset, .unset] [(.int (4 : Int32)), (.int (0 : Int32))]))
  refine own_of (fun _ k => XS.icmpNo X1.here hx rfl (hb hby d4_18) rfl (tlt (by decide : (0 : Int32) < (4 : Int32))).2.1 k) ?_
  show own_Out p e below _ (T1.setTop (mkF m 21 #[.val (.ref o0), .val (.long (0 : Int64)), .second, .val (.ref b), .val (.int (4 : Int32)), .val (.int (0 : Int32)), .unset, .unset] []))
  refine own_of (fun _ k => XS.aloadN X1.here hx rfl (hb hby d4_21) rfl rfl k) ?_
  show own_Out p e below _ (T1.setTop (mkF m 22 #[.val (.ref o0), .val (.long (0 : Int64)), .second, .val (.ref b), .val (.int (4 : Int32)), .val (.int (0 : Int32)), .unset, .unset] [(.ref b)]))
  refine own_of (fun _ k => XS.iload X1.here hx rfl (hb hby d4_22) rfl k) ?_
  show own_Out p e below _ (T1.setTop (mkF m 24 #[.val (.ref o0), .val (.long (0 : Int64)), .second, .val (.ref b), .val (.int (4 : Int32)), .val (.int (0 : Int32)), .unset, .unset] [(.int (0 : Int32)), (.ref b)]))
  obtain ⟨cl3, Ar3, q3, S3, N3', H3, G3⟩ := id V
  have hin3 : ¬ ((0 : Int32) < 0 ∨ cl3.slots.size ≤ ((0 : Int32)).toNatClampNeg) := inb_of S3 ⟨by decide, by decide⟩
  have hat3 : cl3.slots[((0 : Int32)).toNatClampNeg]? = some (.long x0) := H3 _ (Nat.lt_of_not_le fun q => hin3 (Or.inr q))
  refine own_of (X1.laload hx (j := (0 : Int32)) (v := (.long x0)) (by rw [e1]; exact Ar3.1) (State.isArrayOf_alike hZ.alike Ar3.2.1) Ar3.2.2 hin3 hat3 (g := (mkF m 24 #[.val (.ref o0), .val (.long (0 : Int64)), .second, .val (.ref b), .val (.int (4 : Int32)), .val (.int (0 : Int32)), .unset, .unset] [(.int (0 : Int32)), (.ref b)])) rfl rfl (hb hby d4_24)) ?_
  show own_Out p e below _ (T1.setTop (mkF m 25 #[.val (.ref o0), .val (.long (0 : Int64)), .second, .val (.ref b), .val (.int (4 : Int32)), .val (.int (0 : Int32)), .unset, .unset] [(.long x0)]))
  refine own_of (fun _ k => XS.lstore X1.here hx rfl (hb hby d4_25) rfl (l' := #[.val (.ref o0), .val (.long (0 : Int64)), .second, .val (.ref b), .val (.int (4 : Int32)), .val (.int (0 : Int32)), .val (.long x0), .second]) rfl k) ?_
  show own_Out p e below _ (T1.setTop (mkF m 27 #[.val (.ref o0), .val (.long (0 : Int64)), .second, .val (.ref b), .val (.int (4 : Int32)), .val (.int (0 : Int32)), .val (.long x0), .second] []))
  refine own_of (fun _ k => XS.lloadN X1.here hx rfl (hb hby d4_27) rfl k) ?_
  show own_Out p e below _ (T1.setTop (mkF m 28 #[.val (.ref o0), .val (.long (0 : Int64)), .second, .val (.ref b), .val (.int (4 : Int32)), .val (.int (0 : Int32)), .val (.long x0), .second] [(.long (0 : Int64))]))
  refine own_of (fun _ k => XS.lload X1.here hx rfl (hb hby d4_28) rfl k) ?_
  show own_Out p e below _ (T1.setTop (mkF m 30 #[.val (.ref o0), .val (.long (0 : Int64)), .second, .val (.ref b), .val (.int (4 : Int32)), .val (.int (0 : Int32)), .val (.long x0), .second] [(.long x0), (.long (0 : Int64))]))
  refine own_of (fun _ k => XS.ladd X1.here hx rfl (hb hby d4_30) rfl k) ?_
  show own_Out p e below _ (T1.setTop (mkF m 31 #[.val (.ref o0), .val (.long (0 : Int64)), .second, .val (.ref b), .val (.int (4 : Int32)), .val (.int (0 : Int32)), .val (.long x0), .second] [(.long ((0 : Int64) + x0))]))
  refine own_of (fun _ k => XS.lstoreN X1.here hx rfl (hb hby d4_31) rfl (l' := #[.val (.ref o0), .val (.long ((0 : Int64) + x0)), .second, .val (.ref b), .val (.int (4 : Int32)), .val (.int (0 : Int32)), .val (.long x0), .second]) rfl k) ?_
  show own_Out p e below _ (T1.setTop (mkF m 32 #[.val (.ref o0), .val (.long ((0 : Int64) + x0)), .second, .val (.ref b), .val (.int (4 : Int32)), .val (.int (0 : Int32)), .val (.long x0), .second] []))
  refine own_of (fun _ k => XS.iinc X1.here hx rfl (hb hby d4_32) rfl (l' := #[.val (.ref o0), .val (.long ((0 : Int64) + x0)), .second, .val (.ref b), .val (.int (4 : Int32)), .val (.int (1 : Int32)), .val (.long x0), .second]) rfl k) ?_
  show own_Out p e below _ (T1.setTop (mkF m 35 #[.val (.ref o0), .val (.long ((0 : Int64) + x0)), .second, .val (.ref b), .val (.int (4 : Int32)), .val (.int (1 : Int32)), .val (.long x0), .second] []))
  refine own_of (fun _ k => XS.goto X1.here hx rfl (pc0 := 35) (pc' := 14) rfl (hb hby d4_35) (by decide) (by decide) k) ?_
  show own_Out p e below _ (T1.setTop (mkF m 14 #[.val (.ref o0), .val (.long ((0 : Int64) + x0)), .second, .val (.ref b), .val (.int (4 : Int32)), .val (.int (1 : Int32)), .val (.long x0), .second] []))
  refine own_of (fun _ k => XS.iload X1.here hx rfl (hb hby d4_14) rfl k) ?_
  show own_Out p e below _ (T1.setTop (mkF m 16 #[.val (.ref o0), .val (.long ((0 : Int64) + x0)), .second, .val (.ref b), .val (.int (4 : Int32)), .val (.int (1 : Int32)), .val (.long x0), .second] [(.int (1 : Int32))]))
  refine own_of (fun _ k => XS.iload X1.here hx rfl (hb hby d4_16) rfl k) ?_
  show own_Out p e below _ (T1.setTop (mkF m 18 #[.val (.ref o0), .val (.long ((0 : Int64) + x0)), .second, .val (.ref b), .val (.int (4 : Int32)), .val (.int (1 : Int32)), .val (.long x0), .second] [(.int (4 : Int32)), (.int (1 : Int32))]))
  refine own_of (fun _ k => XS.icmpNo X1.here hx rfl (hb hby d4_18) rfl (tlt (by decide : (1 : Int32) < (4 : Int32))).2.1 k) ?_
  show own_Out p e below _ (T1.setTop (mkF m 21 #[.val (.ref o0), .val (.long ((0 : Int64) + x0)), .second, .val (.ref b), .val (.int (4 : Int32)), .val (.int (1 : Int32)), .val (.long x0), .second] []))
  refine own_of (fun _ k => XS.aloadN X1.here hx rfl (hb hby d4_21) rfl rfl k) ?_
  show own_Out p e below _ (T1.setTop (mkF m 22 #[.val (.ref o0), .val (.long ((0 : Int64) + x0)), .second, .val (.ref b), .val (.int (4 : Int32)), .val (.int (1 : Int32)), .val (.long x0), .second] [(.ref b)]))
  refine own_of (fun _ k => XS.iload X1.here hx rfl (hb hby d4_22) rfl k) ?_
  show own_Out p e below _ (T1.setTop (mkF m 24 #[.val (.ref o0), .val (.long ((0 : Int64) + x0)), .second, .val (.ref b), .val (.int (4 : Int32)), .val (.int (1 : Int32)), .val (.long x0), .second] [(.int (1 : Int32)), (.ref b)]))
  obtain ⟨cl4, Ar4, q4, S4, N4', H4, G4⟩ := id V
  have hin4 : ¬ ((1 : Int32) < 0 ∨ cl4.slots.size ≤ ((1 : Int32)).toNatClampNeg) := inb_of S4 ⟨by decide, by decide⟩
  have hat4 : cl4.slots[((1 : Int32)).toNatClampNeg]? = some (.long x1) := H4 _ (Nat.lt_of_not_le fun q => hin4 (Or.inr q))
  refine own_of (X1.laload hx (j := (1 : Int32)) (v := (.long x1)) (by rw [e1]; exact Ar4.1) (State.isArrayOf_alike hZ.alike Ar4.2.1) Ar4.2.2 hin4 hat4 (g := (mkF m 24 #[.val (.ref o0), .val (.long ((0 : Int64) + x0)), .second, .val (.ref b), .val (.int (4 : Int32)), .val (.int (1 : Int32)), .val (.long x0), .second] [(.int (1 : Int32)), (.ref b)])) rfl rfl (hb hby d4_24)) ?_
  show own_Out p e below _ (T1.setTop (mkF m 25 #[.val (.ref o0), .val (.long ((0 : Int64) + x0)), .second, .val (.ref b), .val (.int (4 : Int32)), .val (.int (1 : Int32)), .val (.long x0), .second] [(.long x1)]))
  refine own_of (fun _ k => XS.lstore X1.here hx rfl (hb hby d4_25) rfl (l' := #[.val (.ref o0), .val (.long ((0 : Int64) + x0)), .second, .val (.ref b), .val (.int (4 : Int32)), .val (.int (1 : Int32)), .val (.long x1), .second]) rfl k) ?_
  show own_Out p e below _ (T1.setTop (mkF m 27 #[.val (.ref o0), .val (.long ((0 : Int64) + x0)), .second, .val (.ref b), .val (.int (4 : Int32)), .val (.int (1 : Int32)), .val (.long x1), .second] []))
  refine own_of (fun _ k => XS.lloadN X1.here hx rfl (hb hby d4_27) rfl k) ?_
  show own_Out p e below _ (T1.setTop (mkF m 28 #[.val (.ref o0), .val (.long ((0 : Int64) + x0)), .second, .val (.ref b), .val (.int (4 : Int32)), .val (.int (1 : Int32)), .val (.long x1), .second] [(.long ((0 : Int64) + x0))]))
  refine own_of (fun _ k => XS.lload X1.here hx rfl (hb hby d4_28) rfl k) ?_
  show own_Out p e below _ (T1.setTop (mkF m 30 #[.val (.ref o0), .val (.long ((0 : Int64) + x0)), .second, .val (.ref b), .val (.int (4 : Int32)), .val (.int (1 : Int32)), .val (.long x1), .second] [(.long x1), (.long ((0 : Int64) + x0))]))
  refine own_of (fun _ k => XS.ladd X1.here hx rfl (hb hby d4_30) rfl k) ?_
  show own_Out p e below _ (T1.setTop (mkF m 31 #[.val (.ref o0), .val (.long ((0 : Int64) + x0)), .second, .val (.ref b), .val (.int (4 : Int32)), .val (.int (1 : Int32)), .val (.long x1), .second] [(.long (((0 : Int64) + x0) + x1))]))
  refine own_of (fun _ k => XS.lstoreN X1.here hx rfl (hb hby d4_31) rfl (l' := #[.val (.ref o0), .val (.long (((0 : Int64) + x0) + x1)), .second, .val (.ref b), .val (.int (4 : Int32)), .val (.int (1 : Int32)), .val (.long x1), .second]) rfl k) ?_
  show own_Out p e below _ (T1.setTop (mkF m 32 #[.val (.ref o0), .val (.long (((0 : Int64) + x0) + x1)), .second, .val (.ref b), .val (.int (4 : Int32)), .val (.int (1 : Int32)), .val (.long x1), .second] []))
  refine own_of (fun _ k => XS.iinc X1.here hx rfl (hb hby d4_32) rfl (l' := #[.val (.ref o0), .val (.long (((0 : Int64) + x0) + x1)), .second, .val (.ref b), .val (.int (4 : Int32)), .val (.int (2 : Int32)), .val (.long x1), .second]) rfl k) ?_
  show own_Out p e below _ (T1.setTop (mkF m 35 #[.val (.ref o0), .val (.long (((0 : Int64) + x0) + x1)), .second, .val (.ref b), .val (.int (4 : Int32)), .val (.int (2 : Int32)), .val (.long x1), .second] []))
  refine own_of (fun _ k => XS.goto X1.here hx rfl (pc0 := 35) (pc' := 14) rfl (hb hby d4_35) (by decide) (by decide) k) ?_
  show own_Out p e below _ (T1.setTop (mkF m 14 #[.val (.ref o0), .val (.long (((0 : Int64) + x0) + x1)), .second, .val (.ref b), .val (.int (4 : Int32)), .val (.int (2 : Int32)), .val (.long x1), .second] []))
  refine own_of (fun _ k => XS.iload X1.here hx rfl (hb hby d4_14) rfl k) ?_
  show own_Out p e below _ (T1.setTop (mkF m 16 #[.val (.ref o0), .val (.long (((0 : Int64) + x0) + x1)), .second, .val (.ref b), .val (.int (4 : Int32)), .val (.int (2 : Int32)), .val (.long x1), .second] [(.int (2 : Int32))]))
  refine own_of (fun _ k => XS.iload X1.here hx rfl (hb hby d4_16) rfl k) ?_
  show own_Out p e below _ (T1.setTop (mkF m 18 #[.val (.ref o0), .val (.long (((0 : Int64) + x0) + x1)), .second, .val (.ref b), .val (.int (4 : Int32)), .val (.int (2 : Int32)), .val (.long x1), .second] [(.int (4 : Int32)), (.int (2 : Int32))]))
  refine own_of (fun _ k => XS.icmpNo X1.here hx rfl (hb hby d4_18) rfl (tlt (by decide : (2 : Int32) < (4 : Int32))).2.1 k) ?_
  show own_Out p e below _ (T1.setTop (mkF m 21 #[.val (.ref o0), .val (.long (((0 : Int64) + x0) + x1)), .second, .val (.ref b), .val (.int (4 : Int32)), .val (.int (2 : Int32)), .val (.long x1), .second] []))
  refine own_of (fun _ k => XS.aloadN X1.here hx rfl (hb hby d4_21) rfl rfl k) ?_
  show own_Out p e below _ (T1.setTop (mkF m 22 #[.val (.ref o0), .val (.long (((0 : Int64) + x0) + x1)), .second, .val (.ref b), .val (.int (4 : Int32)), .val (.int (2 : Int32)), .val (.long x1), .second] [(.ref b)]))
  refine own_of (fun _ k => XS.iload X1.here hx rfl (hb hby d4_22) rfl k) ?_
  show own_Out p e below _ (T1.setTop (mkF m 24 #[.val (.ref o0), .val (.long (((0 : Int64) + x0) + x1)), .second, .val (.ref b), .val (.int (4 : Int32)), .val (.int (2 : Int32)), .val (.long x1), .second] [(.int (2 : Int32)), (.ref b)]))
  obtain ⟨cl5, Ar5, q5, S5, N5', H5, G5⟩ := id V
  have hin5 : ¬ ((2 : Int32) < 0 ∨ cl5.slots.size ≤ ((2 : Int32)).toNatClampNeg) := inb_of S5 ⟨by decide, by decide⟩
  have hat5 : cl5.slots[((2 : Int32)).toNatClampNeg]? = some (.long x2) := H5 _ (Nat.lt_of_not_le fun q => hin5 (Or.inr q))
  refine own_of (X1.laload hx (j := (2 : Int32)) (v := (.long x2)) (by rw [e1]; exact Ar5.1) (State.isArrayOf_alike hZ.alike Ar5.2.1) Ar5.2.2 hin5 hat5 (g := (mkF m 24 #[.val (.ref o0), .val (.long (((0 : Int64) + x0) + x1)), .second, .val (.ref b), .val (.int (4 : Int32)), .val (.int (2 : Int32)), .val (.long x1), .second] [(.int (2 : Int32)), (.ref b)])) rfl rfl (hb hby d4_24)) ?_
  show own_Out p e below _ (T1.setTop (mkF m 25 #[.val (.ref o0), .val (.long (((0 : Int64) + x0) + x1)), .second, .val (.ref b), .val (.int (4 : Int32)), .val (.int (2 : Int32)), .val (.long x1), .second] [(.long x2)]))
  refine own_of (fun _ k => XS.lstore X1.here hx rfl (hb hby d4_25) rfl (l' := #[.val (.ref o0), .val (.long (((0 : Int64) + x0) + x1)), .second, .val (.ref b), .val (.int (4 : Int32)), .val (.int (2 : Int32)), .val (.long x2), .second]) rfl k) ?_
  show own_Out p e below _ (T1.setTop (mkF m 27 #[.val (.ref o0), .val (.long (((0 : Int64) + x0) + x1)), .second, .val (.ref b), .val (.int (4 : Int32)), .val (.int (2 : Int32)), .val (.long x2), .second] []))
  refine own_of (fun _ k => XS.lloadN X1.here hx rfl (hb hby d4_27) rfl k) ?_
  show own_Out p e below _ (T1.setTop (mkF m 28 #[.val (.ref o0), .val (.long (((0 : Int64) + x0) + x1)), .second, .val (.ref b), .val (.int (4 : Int32)), .val (.int (2 : Int32)), .val (.long x2), .second] [(.long (((0 : Int64) + x0) + x1))]))
  refine own_of (fun _ k => XS.lload X1.here hx rfl (hb hby d4_28) rfl k) ?_
  show own_Out p e below _ (T1.setTop (mkF m 30 #[.val (.ref o0), .val (.long (((0 : Int64) + x0) + x1)), .second, .val (.ref b), .val (.int (4 : Int32)), .val (.int (2 : Int32)), .val (.long x2), .second] [(.long x2), (.long (((0 : Int64) + x0) + x1))]))
  refine own_of (fun _ k => XS.ladd X1.here hx rfl (hb hby d4_30) rfl k) ?_
  show own_Out p e below _ (T1.setTop (mkF m 31 #[.val (.ref o0), .val (.long (((0 : Int64) + x0) + x1)), .second, .val (.ref b), .val (.int (4 : Int32)), .val (.int (2 : Int32)), .val (.long x2), .second] [(.long ((((0 : Int64) + x0) + x1) + x2))]))
  refine own_of (fun _ k => XS.lstoreN X1.here hx rfl (hb hby d4_31) rfl (l' := #[.val (.ref o0), .val (.long ((((0 : Int64) + x0) + x1) + x2)), .second, .val (.ref b), .val (.int (4 : Int32)), .val (.int (2 : Int32)), .val (.long x2), .second]) rfl k) ?_
  show own_Out p e below _ (T1.setTop (mkF m 32 #[.val (.ref o0), .val (.long ((((0 : Int64) + x0) + x1) + x2)), .second, .val (.ref b), .val (.int (4 : Int32)), .val (.int (2 : Int32)), .val (.long x2), .second] []))
  refine own_of (fun _ k => XS.iinc X1.here hx rfl (hb hby d4_32) rfl (l' := #[.val (.ref o0), .val (.long ((((0 : Int64) + x0) + x1) + x2)), .second, .val (.ref b), .val (.int (4 : Int32)), .val (.int (3 : Int32)), .val (.long x2), .second]) rfl k) ?_
  show own_Out p e below _ (T1.setTop (mkF m 35 #[.val (.ref o0), .val (.long ((((0 : Int64) + x0) + x1) + x2)), .second, .val (.ref b), .val (.int (4 : Int32)), .val (.int (3 : Int32)), .val (.long x2), .second] []))
  refine own_of (fun _ k => XS.goto X1.here hx rfl (pc0 := 35) (pc' := 14) rfl (hb hby d4_35) (by decide) (by decide) k) ?_
  show own_Out p e below _ (T1.setTop (mkF m 14 #[.val (.ref o0), .val (.long ((((0 : Int64) + x0) + x1) + x2)), .second, .val (.ref b), .val (.int (4 : Int32)), .val (.int (3 : Int32)), .val (.long x2), .second] []))
  refine own_of (fun _ k => XS.iload X1.here hx rfl (hb hby d4_14) rfl k) ?_
  show own_Out p e below _ (T1.setTop (mkF m 16 #[.val (.ref o0), .val (.long ((((0 : Int64) + x0) + x1) + x2)), .second, .val (.ref b), .val (.int (4 : Int32)), .val (.int (3 : Int32)), .val (.long x2), .second] [(.int (3 : Int32))]))
  refine own_of (fun _ k => XS.iload X1.here hx rfl (hb hby d4_16) rfl k) ?_
  show own_Out p e below _ (T1.setTop (mkF m 18 #[.val (.ref o0), .val (.long ((((0 : Int64) + x0) + x1) + x2)), .second, .val (.ref b), .val (.int (4 : Int32)), .val (.int (3 : Int32)), .val (.long x2), .second] [(.int (4 : Int32)), (.int (3 : Int32))]))
  refine own_of (fun _ k => XS.icmpNo X1.here hx rfl (hb hby d4_18) rfl (tlt (by decide : (3 : Int32) < (4 : Int32))).2.1 k) ?_
  show own_Out p e below _ (T1.setTop (mkF m 21 #[.val (.ref o0), .val (.long ((((0 : Int64) + x0) + x1) + x2)), .second, .val (.ref b), .val (.int (4 : Int32)), .val (.int (3 : Int32)), .val (.long x2), .second] []))
  refine own_of (fun _ k => XS.aloadN X1.here hx rfl (hb hby d4_21) rfl rfl k) ?_
  show own_Out p e below _ (T1.setTop (mkF m 22 #[.val (.ref o0), .val (.long ((((0 : Int64) + x0) + x1) + x2)), .second, .val (.ref b), .val (.int (4 : Int32)), .val (.int (3 : Int32)), .val (.long x2), .second] [(.ref b)]))
  refine own_of (fun _ k => XS.iload X1.here hx rfl (hb hby d4_22) rfl k) ?_
  show own_Out p e below _ (T1.setTop (mkF m 24 #[.val (.ref o0), .val (.long ((((0 : Int64) + x0) + x1) + x2)), .second, .val (.ref b), .val (.int (4 : Int32)), .val (.int (3 : Int32)), .val (.long x2), .second] [(.int (3 : Int32)), (.ref b)]))
  obtain ⟨cl6, Ar6, q6, S6, N6', H6, G6⟩ := id V
  have hin6 : ¬ ((3 : Int32) < 0 ∨ cl6.slots.size ≤ ((3 : Int32)).toNatClampNeg) := inb_of S6 ⟨by decide, by decide⟩
  have hat6 : cl6.slots[((3 : Int32)).toNatClampNeg]? = some (.long x3) := H6 _ (Nat.lt_of_not_le fun q => hin6 (Or.inr q))
  refine own_of (X1.laload hx (j := (3 : Int32)) (v := (.long x3)) (by rw [e1]; exact Ar6.1) (State.isArrayOf_alike hZ.alike Ar6.2.1) Ar6.2.2 hin6 hat6 (g := (mkF m 24 #[.val (.ref o0), .val (.long ((((0 : Int64) + x0) + x1) + x2)), .second, .val (.ref b), .val (.int (4 : Int32)), .val (.int (3 : Int32)), .val (.long x2), .second] [(.int (3 : Int32)), (.ref b)])) rfl rfl (hb hby d4_24)) ?_
  show own_Out p e below _ (T1.setTop (mkF m 25 #[.val (.ref o0), .val (.long ((((0 : Int64) + x0) + x1) + x2)), .second, .val (.ref b), .val (.int (4 : Int32)), .val (.int (3 : Int32)), .val (.long x2), .second] [(.long x3)]))
  refine own_of (fun _ k => XS.lstore X1.here hx rfl (hb hby d4_25) rfl (l' := #[.val (.ref o0), .val (.long ((((0 : Int64) + x0) + x1) + x2)), .second, .val (.ref b), .val (.int (4 : Int32)), .val (.int (3 : Int32)), .val (.long x3), .second]) rfl k) ?_
  show own_Out p e below _ (T1.setTop (mkF m 27 #[.val (.ref o0), .val (.long ((((0 : Int64) + x0) + x1) + x2)), .second, .val (.ref b), .val (.int (4 : Int32)), .val (.int (3 : Int32)), .val (.long x3), .second] []))
  refine own_of (fun _ k => XS.lloadN X1.here hx rfl (hb hby d4_27) rfl k) ?_
  show own_Out p e below _ (T1.setTop (mkF m 28 #[.val (.ref o0), .val (.long ((((0 : Int64) + x0) + x1) + x2)), .second, .val (.ref b), .val (.int (4 : Int32)), .val (.int (3 : Int32)), .val (.long x3), .second] [(.long ((((0 : Int64) + x0) + x1) + x2))]))
  refine own_of (fun _ k => XS.lload X1.here hx rfl (hb hby d4_28) rfl k) ?_
  show own_Out p e below _ (T1.setTop (mkF m 30 #[.val (.ref o0), .val (.long ((((0 : Int64) + x0) + x1) + x2)), .second, .val (.ref b), .val (.int (4 : Int32)), .val (.int (3 : Int32)), .val (.long x3), .second] [(.long x3), (.long ((((0 : Int64) + x0) + x1) + x2))]))
  refine own_of (fun _ k => XS.ladd X1.here hx rfl (hb hby d4_30) rfl k) ?_
  show own_Out p e below _ (T1.setTop (mkF m 31 #[.val (.ref o0), .val (.long ((((0 : Int64) + x0) + x1) + x2)), .second, .val (.ref b), .val (.int (4 : Int32)), .val (.int (3 : Int32)), .val (.long x3), .second] [(.long (((((0 : Int64) + x0) + x1) + x2) + x3))]))
  refine own_of (fun _ k => XS.lstoreN X1.here hx rfl (hb hby d4_31) rfl (l' := #[.val (.ref o0), .val (.long (((((0 : Int64) + x0) + x1) + x2) + x3)), .second, .val (.ref b), .val (.int (4 : Int32)), .val (.int (3 : Int32)), .val (.long x3), .second]) rfl k) ?_
  show own_Out p e below _ (T1.setTop (mkF m 32 #[.val (.ref o0), .val (.long (((((0 : Int64) + x0) + x1) + x2) + x3)), .second, .val (.ref b), .val (.int (4 : Int32)), .val (.int (3 : Int32)), .val (.long x3), .second] []))
  refine own_of (fun _ k => XS.iinc X1.here hx rfl (hb hby d4_32) rfl (l' := #[.val (.ref o0), .val (.long (((((0 : Int64) + x0) + x1) + x2) + x3)), .second, .val (.ref b), .val (.int (4 : Int32)), .val (.int (4 : Int32)), .val (.long x3), .second]) rfl k) ?_
  show own_Out p e below _ (T1.setTop (mkF m 35 #[.val (.ref o0), .val (.long (((((0 : Int64) + x0) + x1) + x2) + x3)), .second, .val (.ref b), .val (.int (4 : Int32)), .val (.int (4 : Int32)), .val (.long x3), .second] []))
  refine own_of (fun _ k => XS.goto X1.here hx rfl (pc0 := 35) (pc' := 14) rfl (hb hby d4_35) (by decide) (by decide) k) ?_
  show own_Out p e below _ (T1.setTop (mkF m 14 #[.val (.ref o0), .val (.long (((((0 : Int64) + x0) + x1) + x2) + x3)), .second, .val (.ref b), .val (.int (4 : Int32)), .val (.int (4 : Int32)), .val (.long x3), .second] []))
  refine own_of (fun _ k => XS.iload X1.here hx rfl (hb hby d4_14) rfl k) ?_
  show own_Out p e below _ (T1.setTop (mkF m 16 #[.val (.ref o0), .val (.long (((((0 : Int64) + x0) + x1) + x2) + x3)), .second, .val (.ref b), .val (.int (4 : Int32)), .val (.int (4 : Int32)), .val (.long x3), .second] [(.int (4 : Int32))]))
  refine own_of (fun _ k => XS.iload X1.here hx rfl (hb hby d4_16) rfl k) ?_
  show own_Out p e below _ (T1.setTop (mkF m 18 #[.val (.ref o0), .val (.long (((((0 : Int64) + x0) + x1) + x2) + x3)), .second, .val (.ref b), .val (.int (4 : Int32)), .val (.int (4 : Int32)), .val (.long x3), .second] [(.int (4 : Int32)), (.int (4 : Int32))]))
  refine own_of (fun _ k => XS.icmpYes X1.here hx rfl (pc0 := 18) (pc' := 38) rfl (hb hby d4_18) rfl (flt (by decide : ¬ ((4 : Int32) < (4 : Int32)))).2.1 (by decide) (by decide) k) ?_
  show own_Out p e below _ (T1.setTop (mkF m 38 #[.val (.ref o0), .val (.long (((((0 : Int64) + x0) + x1) + x2) + x3)), .second, .val (.ref b), .val (.int (4 : Int32)), .val (.int (4 : Int32)), .val (.long x3), .second] []))
  refine own_of (fun _ k => XS.lloadN X1.here hx rfl (hb hby d4_38) rfl k) ?_
  show own_Out p e below _ (T1.setTop (mkF m 39 #[.val (.ref o0), .val (.long (((((0 : Int64) + x0) + x1) + x2) + x3)), .second, .val (.ref b), .val (.int (4 : Int32)), .val (.int (4 : Int32)), .val (.long x3), .second] [(.long (((((0 : Int64) + x0) + x1) + x2) + x3))]))
  exact own_outL X1 hx hlk hret (hb hby d4_39) (Q := Q4 Z o0 b k x0 x1 x2 x3 h0 n0) ⟨rfl, N0, e1⟩ (by decide) (by decide)
theorem d7_0 : decode method_2_code 0 = .ok (.iload_n 0, 1) := by decide +kernel
theorem d7_1 : decode method_2_code 1 = .ok (.iconst 3, 1) := by decide +kernel
theorem d7_2 : decode method_2_code 2 = .ok (.iand, 1) := by decide +kernel
theorem d7_3 : decode method_2_code 3 = .ok (.istore_n 1, 1) := by decide +kernel
theorem d7_4 : decode method_2_code 4 = .ok (.iload_n 1, 1) := by decide +kernel
theorem d7_5 : decode method_2_code 5 = .ok (.ifCond .ne 7, 3) := by decide +kernel
theorem d7_8 : decode method_2_code 8 = .ok (.getstatic 7, 3) := by decide +kernel
theorem d7_11 : decode method_2_code 11 = .ok (.areturn, 1) := by decide +kernel
theorem pn_3 : plainName "com/example/fides/fides/command/perf/TallyTotalPinLaw" = true := by first | (simp [plainName, overriddenIn]; done) | decide +kernel
theorem ef_7e0 (m : MethodId) (x0 : Int32) : entryFrame m #[(.int x0)] 2 = mkF m 0 #[.val (.int x0), .unset] [] := by first | (simp [entryFrame, mkF, argsToLocals, Value.category]; done) | rfl
def Q7e0 (Z : State) (p0 : Int32) (w : Addr) (h0 : Heap) (n0 : Nat) (v : Option Value) (h : Heap) (L : List Loc) : Prop := v = some (.ref w) ∧ Fr n0 L ∧ h = h0
set_option maxRecDepth 65536 in
set_option maxHeartbeats 40000000 in
theorem rm7e0 (l : Launch) (Z : State) (a0 : Array Value) (hw : ∀ d ∈ tables_1, d.before a0 Z = true) (ws : List Jvm.Cond) (p0 : Int32) (w : Addr) (h0 : Heap) (n0 : Nat) (Z0 : n0 ≤ h0.size) (S : Sta Z h0 "com/example/fides/fides/command/perf/Outcome" "COMMITTED" "Lcom/example/fides/fides/command/perf/Outcome;" (.ref w)) (c0 : (p0 &&& (3 : Int32)) = (0 : Int32)) :
    MetFree l (⟨"com/example/fides/fides/command/perf/TallyTotalPinLaw", "pick", "(I)Lcom/example/fides/fides/command/perf/Outcome;"⟩ : MethodName) (head1 (Jvm.Cond.code (⟨"com/example/fides/fides/command/perf/TallyTotalPinLaw", "pick", "(I)Lcom/example/fides/fides/command/perf/Outcome;"⟩ : MethodName) method_2_code 2 (some (.object "com/example/fides/fides/command/perf/Outcome")) :: ws) ({ frames := 0, cells := 0, slots := 0, locals := 0 } : Room)) (fun a U => a = #[(.int p0)] ∧ Z.Warmed39 U.vm ∧ U.heap = h0) (fun _ _ _ _ _ => True) (fun _ U o U' => ∃ v L, o = .returned v ∧ Q7e0 Z p0 w h0 n0 v U'.heap L ∧ FrameEnd U o U' L ({ frames := 0, cells := 0, slots := 0, locals := 0 } : Room).cells ({ frames := 0, cells := 0, slots := 0, locals := 0 } : Room).slots) := by
  refine MetFree.of_bodySF (plainFor_of_name pn_3) hisR ?_
  intro p e s m args below meth c s₁ Bd hml0 hP hK
  obtain ⟨rfl, hZ, hh⟩ := hP
  have hx := Bd.exec
  have hby := Bd.bytes
  have hml : c.maxLocals = 2 := hml0
  have hown : s.vm.findClass "com/example/fides/fides/command/perf/TallyTotalPinLaw" = some m.cls := findClass_of_methodNamed Bd.named
  have hnm := (name_of_methodNamed Bd.named Bd.method).1
  have X0 : Stand p l e ({ frames := 0, cells := 0, slots := 0, locals := 0 } : Room) s m #[(.int p0)] below meth c s₁ [] 0 0 := Stand.of_body Bd
  have e0 : s₁.heap = h0 := by rw [← hh, Bd.state]; rfl
  have N0 := Fr.nil n0
  have hret := Bd.returns
  have hlk := BodyLoose.notSynchronized Bd
  show own_Out p e below (fun o U' => ∃ v L, o = .returned v ∧ Q7e0 Z p0 w h0 n0 v U'.heap L ∧ FrameEnd s o U' L ({ frames := 0, cells := 0, slots := 0, locals := 0 } : Room).cells ({ frames := 0, cells := 0, slots := 0, locals := 0 } : Room).slots) (s₁.setTop (entryFrame m #[(.int p0)] 2))
  refine own_of (fun t k => castTop (ef_7e0 m p0) k) ?_
  show own_Out p e below _ (s₁.setTop (mkF m 0 #[.val (.int p0), .unset] []))
  refine own_of (fun _ k => XS.iloadN X0.here hx rfl (hb hby d7_0) rfl k) ?_
  show own_Out p e below _ (s₁.setTop (mkF m 1 #[.val (.int p0), .unset] [(.int p0)]))
  refine own_of (fun _ k => XS.iconst X0.here hx rfl (hb hby d7_1) k) ?_
  show own_Out p e below _ (s₁.setTop (mkF m 2 #[.val (.int p0), .unset] [(.int (3 : Int32)), (.int p0)]))
  refine own_of (fun _ k => XS.iand X0.here hx rfl (hb hby d7_2) rfl k) ?_
  show own_Out p e below _ (s₁.setTop (mkF m 3 #[.val (.int p0), .unset] [(.int (p0 &&& (3 : Int32)))]))
  refine own_of (fun _ k => XS.istoreN X0.here hx rfl (hb hby d7_3) rfl (l' := #[.val (.int p0), .val (.int (p0 &&& (3 : Int32)))]) rfl k) ?_
  show own_Out p e below _ (s₁.setTop (mkF m 4 #[.val (.int p0), .val (.int (p0 &&& (3 : Int32)))] []))
  refine own_of (fun _ k => XS.iloadN X0.here hx rfl (hb hby d7_4) rfl k) ?_
  show own_Out p e below _ (s₁.setTop (mkF m 5 #[.val (.int p0), .val (.int (p0 &&& (3 : Int32)))] [(.int (p0 &&& (3 : Int32)))]))
  refine own_of (fun _ k => XS.ifNo X0.here hx rfl (hb hby d7_5) rfl ((if0 _ _).trans (teq c0).2) k) ?_
  show own_Out p e below _ (s₁.setTop (mkF m 8 #[.val (.int p0), .val (.int (p0 &&& (3 : Int32)))] []))
  obtain ⟨T1, X1, e1, st1⟩ := getS2 X0 hx hZ hown (host := "") (Or.inl (hw _ (List.mem_of_getElem? (i := 37) rfl))) Via.refl e0 S (g := (mkF m 8 #[.val (.int p0), .val (.int (p0 &&& (3 : Int32)))] [])) rfl (hb hby d7_8)
  refine own_of st1 ?_
  show own_Out p e below _ (T1.setTop (mkF m 11 #[.val (.int p0), .val (.int (p0 &&& (3 : Int32)))] [(.ref w)]))
  exact own_outR X1 hx hlk hret rfl rfl rfl (hb hby d7_11) (Q := Q7e0 Z p0 w h0 n0) ⟨rfl, N0, e1⟩ (by decide) (by decide)
theorem d7_12 : decode method_2_code 12 = .ok (.iload_n 1, 1) := by decide +kernel
theorem d7_13 : decode method_2_code 13 = .ok (.iconst 1, 1) := by decide +kernel
theorem d7_14 : decode method_2_code 14 = .ok (.if_icmp .ne 7, 3) := by decide +kernel
theorem d7_17 : decode method_2_code 17 = .ok (.getstatic 13, 3) := by decide +kernel
theorem d7_20 : decode method_2_code 20 = .ok (.areturn, 1) := by decide +kernel
theorem ef_7e1 (m : MethodId) (x0 : Int32) : entryFrame m #[(.int x0)] 2 = mkF m 0 #[.val (.int x0), .unset] [] := by first | (simp [entryFrame, mkF, argsToLocals, Value.category]; done) | rfl
def Q7e1 (Z : State) (p0 : Int32) (w : Addr) (h0 : Heap) (n0 : Nat) (v : Option Value) (h : Heap) (L : List Loc) : Prop := v = some (.ref w) ∧ Fr n0 L ∧ h = h0
set_option maxRecDepth 65536 in
set_option maxHeartbeats 40000000 in
theorem rm7e1 (l : Launch) (Z : State) (a0 : Array Value) (hw : ∀ d ∈ tables_1, d.before a0 Z = true) (ws : List Jvm.Cond) (p0 : Int32) (w : Addr) (h0 : Heap) (n0 : Nat) (Z0 : n0 ≤ h0.size) (S : Sta Z h0 "com/example/fides/fides/command/perf/Outcome" "ABORTED" "Lcom/example/fides/fides/command/perf/Outcome;" (.ref w)) (c0 : ¬ ((p0 &&& (3 : Int32)) = (0 : Int32))) (c1 : (p0 &&& (3 : Int32)) = (1 : Int32)) :
    MetFree l (⟨"com/example/fides/fides/command/perf/TallyTotalPinLaw", "pick", "(I)Lcom/example/fides/fides/command/perf/Outcome;"⟩ : MethodName) (head1 (Jvm.Cond.code (⟨"com/example/fides/fides/command/perf/TallyTotalPinLaw", "pick", "(I)Lcom/example/fides/fides/command/perf/Outcome;"⟩ : MethodName) method_2_code 2 (some (.object "com/example/fides/fides/command/perf/Outcome")) :: ws) ({ frames := 0, cells := 0, slots := 0, locals := 0 } : Room)) (fun a U => a = #[(.int p0)] ∧ Z.Warmed39 U.vm ∧ U.heap = h0) (fun _ _ _ _ _ => True) (fun _ U o U' => ∃ v L, o = .returned v ∧ Q7e1 Z p0 w h0 n0 v U'.heap L ∧ FrameEnd U o U' L ({ frames := 0, cells := 0, slots := 0, locals := 0 } : Room).cells ({ frames := 0, cells := 0, slots := 0, locals := 0 } : Room).slots) := by
  refine MetFree.of_bodySF (plainFor_of_name pn_3) hisR ?_
  intro p e s m args below meth c s₁ Bd hml0 hP hK
  obtain ⟨rfl, hZ, hh⟩ := hP
  have hx := Bd.exec
  have hby := Bd.bytes
  have hml : c.maxLocals = 2 := hml0
  have hown : s.vm.findClass "com/example/fides/fides/command/perf/TallyTotalPinLaw" = some m.cls := findClass_of_methodNamed Bd.named
  have hnm := (name_of_methodNamed Bd.named Bd.method).1
  have X0 : Stand p l e ({ frames := 0, cells := 0, slots := 0, locals := 0 } : Room) s m #[(.int p0)] below meth c s₁ [] 0 0 := Stand.of_body Bd
  have e0 : s₁.heap = h0 := by rw [← hh, Bd.state]; rfl
  have N0 := Fr.nil n0
  have hret := Bd.returns
  have hlk := BodyLoose.notSynchronized Bd
  show own_Out p e below (fun o U' => ∃ v L, o = .returned v ∧ Q7e1 Z p0 w h0 n0 v U'.heap L ∧ FrameEnd s o U' L ({ frames := 0, cells := 0, slots := 0, locals := 0 } : Room).cells ({ frames := 0, cells := 0, slots := 0, locals := 0 } : Room).slots) (s₁.setTop (entryFrame m #[(.int p0)] 2))
  refine own_of (fun t k => castTop (ef_7e1 m p0) k) ?_
  show own_Out p e below _ (s₁.setTop (mkF m 0 #[.val (.int p0), .unset] []))
  refine own_of (fun _ k => XS.iloadN X0.here hx rfl (hb hby d7_0) rfl k) ?_
  show own_Out p e below _ (s₁.setTop (mkF m 1 #[.val (.int p0), .unset] [(.int p0)]))
  refine own_of (fun _ k => XS.iconst X0.here hx rfl (hb hby d7_1) k) ?_
  show own_Out p e below _ (s₁.setTop (mkF m 2 #[.val (.int p0), .unset] [(.int (3 : Int32)), (.int p0)]))
  refine own_of (fun _ k => XS.iand X0.here hx rfl (hb hby d7_2) rfl k) ?_
  show own_Out p e below _ (s₁.setTop (mkF m 3 #[.val (.int p0), .unset] [(.int (p0 &&& (3 : Int32)))]))
  refine own_of (fun _ k => XS.istoreN X0.here hx rfl (hb hby d7_3) rfl (l' := #[.val (.int p0), .val (.int (p0 &&& (3 : Int32)))]) rfl k) ?_
  show own_Out p e below _ (s₁.setTop (mkF m 4 #[.val (.int p0), .val (.int (p0 &&& (3 : Int32)))] []))
  refine own_of (fun _ k => XS.iloadN X0.here hx rfl (hb hby d7_4) rfl k) ?_
  show own_Out p e below _ (s₁.setTop (mkF m 5 #[.val (.int p0), .val (.int (p0 &&& (3 : Int32)))] [(.int (p0 &&& (3 : Int32)))]))
  refine own_of (fun _ k => XS.ifYes X0.here hx rfl (pc0 := 5) (pc' := 12) rfl (hb hby d7_5) rfl ((if0 _ _).trans (feq c0).2) (by decide) (by decide) k) ?_
  show own_Out p e below _ (s₁.setTop (mkF m 12 #[.val (.int p0), .val (.int (p0 &&& (3 : Int32)))] []))
  refine own_of (fun _ k => XS.iloadN X0.here hx rfl (hb hby d7_12) rfl k) ?_
  show own_Out p e below _ (s₁.setTop (mkF m 13 #[.val (.int p0), .val (.int (p0 &&& (3 : Int32)))] [(.int (p0 &&& (3 : Int32)))]))
  refine own_of (fun _ k => XS.iconst X0.here hx rfl (hb hby d7_13) k) ?_
  show own_Out p e below _ (s₁.setTop (mkF m 14 #[.val (.int p0), .val (.int (p0 &&& (3 : Int32)))] [(.int (1 : Int32)), (.int (p0 &&& (3 : Int32)))]))
  refine own_of (fun _ k => XS.icmpNo X0.here hx rfl (hb hby d7_14) rfl (teq c1).2 k) ?_
  show own_Out p e below _ (s₁.setTop (mkF m 17 #[.val (.int p0), .val (.int (p0 &&& (3 : Int32)))] []))
  obtain ⟨T1, X1, e1, st1⟩ := getS2 X0 hx hZ hown (host := "") (Or.inl (hw _ (List.mem_of_getElem? (i := 52) rfl))) Via.refl e0 S (g := (mkF m 17 #[.val (.int p0), .val (.int (p0 &&& (3 : Int32)))] [])) rfl (hb hby d7_17)
  refine own_of st1 ?_
  show own_Out p e below _ (T1.setTop (mkF m 20 #[.val (.int p0), .val (.int (p0 &&& (3 : Int32)))] [(.ref w)]))
  exact own_outR X1 hx hlk hret rfl rfl rfl (hb hby d7_20) (Q := Q7e1 Z p0 w h0 n0) ⟨rfl, N0, e1⟩ (by decide) (by decide)
theorem d7_21 : decode method_2_code 21 = .ok (.iload_n 1, 1) := by decide +kernel
theorem d7_22 : decode method_2_code 22 = .ok (.iconst 2, 1) := by decide +kernel
theorem d7_23 : decode method_2_code 23 = .ok (.if_icmp .ne 7, 3) := by decide +kernel
theorem d7_26 : decode method_2_code 26 = .ok (.getstatic 16, 3) := by decide +kernel
theorem d7_29 : decode method_2_code 29 = .ok (.areturn, 1) := by decide +kernel
theorem ef_7e2 (m : MethodId) (x0 : Int32) : entryFrame m #[(.int x0)] 2 = mkF m 0 #[.val (.int x0), .unset] [] := by first | (simp [entryFrame, mkF, argsToLocals, Value.category]; done) | rfl
def Q7e2 (Z : State) (p0 : Int32) (w : Addr) (h0 : Heap) (n0 : Nat) (v : Option Value) (h : Heap) (L : List Loc) : Prop := v = some (.ref w) ∧ Fr n0 L ∧ h = h0
set_option maxRecDepth 65536 in
set_option maxHeartbeats 40000000 in
theorem rm7e2 (l : Launch) (Z : State) (a0 : Array Value) (hw : ∀ d ∈ tables_1, d.before a0 Z = true) (ws : List Jvm.Cond) (p0 : Int32) (w : Addr) (h0 : Heap) (n0 : Nat) (Z0 : n0 ≤ h0.size) (S : Sta Z h0 "com/example/fides/fides/command/perf/Outcome" "OPEN" "Lcom/example/fides/fides/command/perf/Outcome;" (.ref w)) (c0 : ¬ ((p0 &&& (3 : Int32)) = (0 : Int32))) (c1 : ¬ ((p0 &&& (3 : Int32)) = (1 : Int32))) (c2 : (p0 &&& (3 : Int32)) = (2 : Int32)) :
    MetFree l (⟨"com/example/fides/fides/command/perf/TallyTotalPinLaw", "pick", "(I)Lcom/example/fides/fides/command/perf/Outcome;"⟩ : MethodName) (head1 (Jvm.Cond.code (⟨"com/example/fides/fides/command/perf/TallyTotalPinLaw", "pick", "(I)Lcom/example/fides/fides/command/perf/Outcome;"⟩ : MethodName) method_2_code 2 (some (.object "com/example/fides/fides/command/perf/Outcome")) :: ws) ({ frames := 0, cells := 0, slots := 0, locals := 0 } : Room)) (fun a U => a = #[(.int p0)] ∧ Z.Warmed39 U.vm ∧ U.heap = h0) (fun _ _ _ _ _ => True) (fun _ U o U' => ∃ v L, o = .returned v ∧ Q7e2 Z p0 w h0 n0 v U'.heap L ∧ FrameEnd U o U' L ({ frames := 0, cells := 0, slots := 0, locals := 0 } : Room).cells ({ frames := 0, cells := 0, slots := 0, locals := 0 } : Room).slots) := by
  refine MetFree.of_bodySF (plainFor_of_name pn_3) hisR ?_
  intro p e s m args below meth c s₁ Bd hml0 hP hK
  obtain ⟨rfl, hZ, hh⟩ := hP
  have hx := Bd.exec
  have hby := Bd.bytes
  have hml : c.maxLocals = 2 := hml0
  have hown : s.vm.findClass "com/example/fides/fides/command/perf/TallyTotalPinLaw" = some m.cls := findClass_of_methodNamed Bd.named
  have hnm := (name_of_methodNamed Bd.named Bd.method).1
  have X0 : Stand p l e ({ frames := 0, cells := 0, slots := 0, locals := 0 } : Room) s m #[(.int p0)] below meth c s₁ [] 0 0 := Stand.of_body Bd
  have e0 : s₁.heap = h0 := by rw [← hh, Bd.state]; rfl
  have N0 := Fr.nil n0
  have hret := Bd.returns
  have hlk := BodyLoose.notSynchronized Bd
  show own_Out p e below (fun o U' => ∃ v L, o = .returned v ∧ Q7e2 Z p0 w h0 n0 v U'.heap L ∧ FrameEnd s o U' L ({ frames := 0, cells := 0, slots := 0, locals := 0 } : Room).cells ({ frames := 0, cells := 0, slots := 0, locals := 0 } : Room).slots) (s₁.setTop (entryFrame m #[(.int p0)] 2))
  refine own_of (fun t k => castTop (ef_7e2 m p0) k) ?_
  show own_Out p e below _ (s₁.setTop (mkF m 0 #[.val (.int p0), .unset] []))
  refine own_of (fun _ k => XS.iloadN X0.here hx rfl (hb hby d7_0) rfl k) ?_
  show own_Out p e below _ (s₁.setTop (mkF m 1 #[.val (.int p0), .unset] [(.int p0)]))
  refine own_of (fun _ k => XS.iconst X0.here hx rfl (hb hby d7_1) k) ?_
  show own_Out p e below _ (s₁.setTop (mkF m 2 #[.val (.int p0), .unset] [(.int (3 : Int32)), (.int p0)]))
  refine own_of (fun _ k => XS.iand X0.here hx rfl (hb hby d7_2) rfl k) ?_
  show own_Out p e below _ (s₁.setTop (mkF m 3 #[.val (.int p0), .unset] [(.int (p0 &&& (3 : Int32)))]))
  refine own_of (fun _ k => XS.istoreN X0.here hx rfl (hb hby d7_3) rfl (l' := #[.val (.int p0), .val (.int (p0 &&& (3 : Int32)))]) rfl k) ?_
  show own_Out p e below _ (s₁.setTop (mkF m 4 #[.val (.int p0), .val (.int (p0 &&& (3 : Int32)))] []))
  refine own_of (fun _ k => XS.iloadN X0.here hx rfl (hb hby d7_4) rfl k) ?_
  show own_Out p e below _ (s₁.setTop (mkF m 5 #[.val (.int p0), .val (.int (p0 &&& (3 : Int32)))] [(.int (p0 &&& (3 : Int32)))]))
  refine own_of (fun _ k => XS.ifYes X0.here hx rfl (pc0 := 5) (pc' := 12) rfl (hb hby d7_5) rfl ((if0 _ _).trans (feq c0).2) (by decide) (by decide) k) ?_
  show own_Out p e below _ (s₁.setTop (mkF m 12 #[.val (.int p0), .val (.int (p0 &&& (3 : Int32)))] []))
  refine own_of (fun _ k => XS.iloadN X0.here hx rfl (hb hby d7_12) rfl k) ?_
  show own_Out p e below _ (s₁.setTop (mkF m 13 #[.val (.int p0), .val (.int (p0 &&& (3 : Int32)))] [(.int (p0 &&& (3 : Int32)))]))
  refine own_of (fun _ k => XS.iconst X0.here hx rfl (hb hby d7_13) k) ?_
  show own_Out p e below _ (s₁.setTop (mkF m 14 #[.val (.int p0), .val (.int (p0 &&& (3 : Int32)))] [(.int (1 : Int32)), (.int (p0 &&& (3 : Int32)))]))
  refine own_of (fun _ k => XS.icmpYes X0.here hx rfl (pc0 := 14) (pc' := 21) rfl (hb hby d7_14) rfl (feq c1).2 (by decide) (by decide) k) ?_
  show own_Out p e below _ (s₁.setTop (mkF m 21 #[.val (.int p0), .val (.int (p0 &&& (3 : Int32)))] []))
  refine own_of (fun _ k => XS.iloadN X0.here hx rfl (hb hby d7_21) rfl k) ?_
  show own_Out p e below _ (s₁.setTop (mkF m 22 #[.val (.int p0), .val (.int (p0 &&& (3 : Int32)))] [(.int (p0 &&& (3 : Int32)))]))
  refine own_of (fun _ k => XS.iconst X0.here hx rfl (hb hby d7_22) k) ?_
  show own_Out p e below _ (s₁.setTop (mkF m 23 #[.val (.int p0), .val (.int (p0 &&& (3 : Int32)))] [(.int (2 : Int32)), (.int (p0 &&& (3 : Int32)))]))
  refine own_of (fun _ k => XS.icmpNo X0.here hx rfl (hb hby d7_23) rfl (teq c2).2 k) ?_
  show own_Out p e below _ (s₁.setTop (mkF m 26 #[.val (.int p0), .val (.int (p0 &&& (3 : Int32)))] []))
  obtain ⟨T1, X1, e1, st1⟩ := getS2 X0 hx hZ hown (host := "") (Or.inl (hw _ (List.mem_of_getElem? (i := 53) rfl))) Via.refl e0 S (g := (mkF m 26 #[.val (.int p0), .val (.int (p0 &&& (3 : Int32)))] [])) rfl (hb hby d7_26)
  refine own_of st1 ?_
  show own_Out p e below _ (T1.setTop (mkF m 29 #[.val (.int p0), .val (.int (p0 &&& (3 : Int32)))] [(.ref w)]))
  exact own_outR X1 hx hlk hret rfl rfl rfl (hb hby d7_29) (Q := Q7e2 Z p0 w h0 n0) ⟨rfl, N0, e1⟩ (by decide) (by decide)
theorem d7_30 : decode method_2_code 30 = .ok (.getstatic 19, 3) := by decide +kernel
theorem d7_33 : decode method_2_code 33 = .ok (.areturn, 1) := by decide +kernel
theorem ef_7e3 (m : MethodId) (x0 : Int32) : entryFrame m #[(.int x0)] 2 = mkF m 0 #[.val (.int x0), .unset] [] := by first | (simp [entryFrame, mkF, argsToLocals, Value.category]; done) | rfl
def Q7e3 (Z : State) (p0 : Int32) (w : Addr) (h0 : Heap) (n0 : Nat) (v : Option Value) (h : Heap) (L : List Loc) : Prop := v = some (.ref w) ∧ Fr n0 L ∧ h = h0
set_option maxRecDepth 65536 in
set_option maxHeartbeats 40000000 in
theorem rm7e3 (l : Launch) (Z : State) (a0 : Array Value) (hw : ∀ d ∈ tables_1, d.before a0 Z = true) (ws : List Jvm.Cond) (p0 : Int32) (w : Addr) (h0 : Heap) (n0 : Nat) (Z0 : n0 ≤ h0.size) (S : Sta Z h0 "com/example/fides/fides/command/perf/Outcome" "TIMED_OUT" "Lcom/example/fides/fides/command/perf/Outcome;" (.ref w)) (c0 : ¬ ((p0 &&& (3 : Int32)) = (0 : Int32))) (c1 : ¬ ((p0 &&& (3 : Int32)) = (1 : Int32))) (c2 : ¬ ((p0 &&& (3 : Int32)) = (2 : Int32))) :
    MetFree l (⟨"com/example/fides/fides/command/perf/TallyTotalPinLaw", "pick", "(I)Lcom/example/fides/fides/command/perf/Outcome;"⟩ : MethodName) (head1 (Jvm.Cond.code (⟨"com/example/fides/fides/command/perf/TallyTotalPinLaw", "pick", "(I)Lcom/example/fides/fides/command/perf/Outcome;"⟩ : MethodName) method_2_code 2 (some (.object "com/example/fides/fides/command/perf/Outcome")) :: ws) ({ frames := 0, cells := 0, slots := 0, locals := 0 } : Room)) (fun a U => a = #[(.int p0)] ∧ Z.Warmed39 U.vm ∧ U.heap = h0) (fun _ _ _ _ _ => True) (fun _ U o U' => ∃ v L, o = .returned v ∧ Q7e3 Z p0 w h0 n0 v U'.heap L ∧ FrameEnd U o U' L ({ frames := 0, cells := 0, slots := 0, locals := 0 } : Room).cells ({ frames := 0, cells := 0, slots := 0, locals := 0 } : Room).slots) := by
  refine MetFree.of_bodySF (plainFor_of_name pn_3) hisR ?_
  intro p e s m args below meth c s₁ Bd hml0 hP hK
  obtain ⟨rfl, hZ, hh⟩ := hP
  have hx := Bd.exec
  have hby := Bd.bytes
  have hml : c.maxLocals = 2 := hml0
  have hown : s.vm.findClass "com/example/fides/fides/command/perf/TallyTotalPinLaw" = some m.cls := findClass_of_methodNamed Bd.named
  have hnm := (name_of_methodNamed Bd.named Bd.method).1
  have X0 : Stand p l e ({ frames := 0, cells := 0, slots := 0, locals := 0 } : Room) s m #[(.int p0)] below meth c s₁ [] 0 0 := Stand.of_body Bd
  have e0 : s₁.heap = h0 := by rw [← hh, Bd.state]; rfl
  have N0 := Fr.nil n0
  have hret := Bd.returns
  have hlk := BodyLoose.notSynchronized Bd
  show own_Out p e below (fun o U' => ∃ v L, o = .returned v ∧ Q7e3 Z p0 w h0 n0 v U'.heap L ∧ FrameEnd s o U' L ({ frames := 0, cells := 0, slots := 0, locals := 0 } : Room).cells ({ frames := 0, cells := 0, slots := 0, locals := 0 } : Room).slots) (s₁.setTop (entryFrame m #[(.int p0)] 2))
  refine own_of (fun t k => castTop (ef_7e3 m p0) k) ?_
  show own_Out p e below _ (s₁.setTop (mkF m 0 #[.val (.int p0), .unset] []))
  refine own_of (fun _ k => XS.iloadN X0.here hx rfl (hb hby d7_0) rfl k) ?_
  show own_Out p e below _ (s₁.setTop (mkF m 1 #[.val (.int p0), .unset] [(.int p0)]))
  refine own_of (fun _ k => XS.iconst X0.here hx rfl (hb hby d7_1) k) ?_
  show own_Out p e below _ (s₁.setTop (mkF m 2 #[.val (.int p0), .unset] [(.int (3 : Int32)), (.int p0)]))
  refine own_of (fun _ k => XS.iand X0.here hx rfl (hb hby d7_2) rfl k) ?_
  show own_Out p e below _ (s₁.setTop (mkF m 3 #[.val (.int p0), .unset] [(.int (p0 &&& (3 : Int32)))]))
  refine own_of (fun _ k => XS.istoreN X0.here hx rfl (hb hby d7_3) rfl (l' := #[.val (.int p0), .val (.int (p0 &&& (3 : Int32)))]) rfl k) ?_
  show own_Out p e below _ (s₁.setTop (mkF m 4 #[.val (.int p0), .val (.int (p0 &&& (3 : Int32)))] []))
  refine own_of (fun _ k => XS.iloadN X0.here hx rfl (hb hby d7_4) rfl k) ?_
  show own_Out p e below _ (s₁.setTop (mkF m 5 #[.val (.int p0), .val (.int (p0 &&& (3 : Int32)))] [(.int (p0 &&& (3 : Int32)))]))
  refine own_of (fun _ k => XS.ifYes X0.here hx rfl (pc0 := 5) (pc' := 12) rfl (hb hby d7_5) rfl ((if0 _ _).trans (feq c0).2) (by decide) (by decide) k) ?_
  show own_Out p e below _ (s₁.setTop (mkF m 12 #[.val (.int p0), .val (.int (p0 &&& (3 : Int32)))] []))
  refine own_of (fun _ k => XS.iloadN X0.here hx rfl (hb hby d7_12) rfl k) ?_
  show own_Out p e below _ (s₁.setTop (mkF m 13 #[.val (.int p0), .val (.int (p0 &&& (3 : Int32)))] [(.int (p0 &&& (3 : Int32)))]))
  refine own_of (fun _ k => XS.iconst X0.here hx rfl (hb hby d7_13) k) ?_
  show own_Out p e below _ (s₁.setTop (mkF m 14 #[.val (.int p0), .val (.int (p0 &&& (3 : Int32)))] [(.int (1 : Int32)), (.int (p0 &&& (3 : Int32)))]))
  refine own_of (fun _ k => XS.icmpYes X0.here hx rfl (pc0 := 14) (pc' := 21) rfl (hb hby d7_14) rfl (feq c1).2 (by decide) (by decide) k) ?_
  show own_Out p e below _ (s₁.setTop (mkF m 21 #[.val (.int p0), .val (.int (p0 &&& (3 : Int32)))] []))
  refine own_of (fun _ k => XS.iloadN X0.here hx rfl (hb hby d7_21) rfl k) ?_
  show own_Out p e below _ (s₁.setTop (mkF m 22 #[.val (.int p0), .val (.int (p0 &&& (3 : Int32)))] [(.int (p0 &&& (3 : Int32)))]))
  refine own_of (fun _ k => XS.iconst X0.here hx rfl (hb hby d7_22) k) ?_
  show own_Out p e below _ (s₁.setTop (mkF m 23 #[.val (.int p0), .val (.int (p0 &&& (3 : Int32)))] [(.int (2 : Int32)), (.int (p0 &&& (3 : Int32)))]))
  refine own_of (fun _ k => XS.icmpYes X0.here hx rfl (pc0 := 23) (pc' := 30) rfl (hb hby d7_23) rfl (feq c2).2 (by decide) (by decide) k) ?_
  show own_Out p e below _ (s₁.setTop (mkF m 30 #[.val (.int p0), .val (.int (p0 &&& (3 : Int32)))] []))
  obtain ⟨T1, X1, e1, st1⟩ := getS2 X0 hx hZ hown (host := "") (Or.inl (hw _ (List.mem_of_getElem? (i := 54) rfl))) Via.refl e0 S (g := (mkF m 30 #[.val (.int p0), .val (.int (p0 &&& (3 : Int32)))] [])) rfl (hb hby d7_30)
  refine own_of st1 ?_
  show own_Out p e below _ (T1.setTop (mkF m 33 #[.val (.int p0), .val (.int (p0 &&& (3 : Int32)))] [(.ref w)]))
  exact own_outR X1 hx hlk hret rfl rfl rfl (hb hby d7_33) (Q := Q7e3 Z p0 w h0 n0) ⟨rfl, N0, e1⟩ (by decide) (by decide)
theorem own_tot (x0 x1 x2 x3 : Int64) : (((((0 : Int64) + x0) + x1) + x2) + x3) = (((x0 + x1) + x2) + x3) := by rw [Int64.zero_add]
theorem own_n0 {x0 x1 x2 x3 nn : Int64} (h : (((x0 + x1) + x2) + x3) = nn) : ((((x0 + (1 : Int64)) + x1) + x2) + x3) = (nn + (1 : Int64)) := by rw [← h]; ac_rfl
theorem own_n1 {x0 x1 x2 x3 nn : Int64} (h : (((x0 + x1) + x2) + x3) = nn) : (((x0 + (x1 + (1 : Int64))) + x2) + x3) = (nn + (1 : Int64)) := by rw [← h]; ac_rfl
theorem own_n2 {x0 x1 x2 x3 nn : Int64} (h : (((x0 + x1) + x2) + x3) = nn) : (((x0 + x1) + (x2 + (1 : Int64))) + x3) = (nn + (1 : Int64)) := by rw [← h]; ac_rfl
theorem own_n3 {x0 x1 x2 x3 nn : Int64} (h : (((x0 + x1) + x2) + x3) = nn) : (((x0 + x1) + x2) + (x3 + (1 : Int64))) = (nn + (1 : Int64)) := by rw [← h]; ac_rfl
theorem pd_2 : parseMethodDescriptor "()J" = some ⟨[], some .long⟩ := by decide +kernel
theorem pd_3 : parseMethodDescriptor "(Lcom/example/fides/fides/command/perf/Outcome;)J" = some ⟨[(.object "com/example/fides/fides/command/perf/Outcome")], some .long⟩ := by decide +kernel
set_option maxRecDepth 65536 in
set_option maxHeartbeats 40000000 in
theorem sg96 {p : Program} {l : Launch} {e : Env} {s : State} {m : MethodId} {args : Array Value} {below : List Frame} {meth : Method} {c : Code} {T0 : State} {locs : List Loc} {Z : State} {a0 : Array Value} {Q : Option Value → Heap → List Loc → Prop} (p0 : Int32) (p1 : Int32) (p2 : Int32) (p3 : Int32) (t : Addr) (b : Addr) (k : ClassId) (x0 : Int64) (x1 : Int64) (x2 : Int64) (x3 : Int64) (nn : Int64) (w_COMMITTED : Addr) (w_ABORTED : Addr) (w_OPEN : Addr) (w_TIMED_OUT : Addr) (h0 : Heap) (n0 : Nat)
    (X0 : Stand p l e room_1 s m args below meth c T0 locs 3 9) (hx : p.tables.exec = Jvm.exec) (hZ : Z.Warmed39 s.vm) (hw : ∀ d ∈ tables_1, d.before a0 Z = true) (hby : c.code = code) (hml : c.maxLocals = 11) (hown : s.vm.findClass "com/example/fides/fides/command/perf/TallyTotalPinLaw" = some m.cls) (hret : meth.sig.returnType = ret) (hlk : meth.locks = false)
    (hQ : ∀ h L, Fr n0 L → Q (some (.int 1)) h L) (e0 : T0.heap = h0) (Z0 : n0 ≤ h0.size) (N0 : Fr n0 locs) (E_t : Exa Z h0 t "com/example/fides/fides/command/perf/Tally") (F_t : Fld Z h0 t "com/example/fides/fides/command/perf/Tally" "counts" "[J" (.ref b)) (V : Arv Z h0 b k .long (4 : Int32) [(.long x0), (.long x1), (.long x2), (.long x3)] (.long (0 : Int64))) (g_b : n0 ≤ b) (ntb : t ≠ b) (S_w_COMMITTED : Sta Z h0 "com/example/fides/fides/command/perf/Outcome" "COMMITTED" "Lcom/example/fides/fides/command/perf/Outcome;" (.ref w_COMMITTED)) (S_w_ABORTED : Sta Z h0 "com/example/fides/fides/command/perf/Outcome" "ABORTED" "Lcom/example/fides/fides/command/perf/Outcome;" (.ref w_ABORTED)) (S_w_OPEN : Sta Z h0 "com/example/fides/fides/command/perf/Outcome" "OPEN" "Lcom/example/fides/fides/command/perf/Outcome;" (.ref w_OPEN)) (S_w_TIMED_OUT : Sta Z h0 "com/example/fides/fides/command/perf/Outcome" "TIMED_OUT" "Lcom/example/fides/fides/command/perf/Outcome;" (.ref w_TIMED_OUT)) (E_w_COMMITTED : Exa Z h0 w_COMMITTED "com/example/fides/fides/command/perf/Outcome") (E_w_ABORTED : Exa Z h0 w_ABORTED "com/example/fides/fides/command/perf/Outcome") (E_w_OPEN : Exa Z h0 w_OPEN "com/example/fides/fides/command/perf/Outcome") (E_w_TIMED_OUT : Exa Z h0 w_TIMED_OUT "com/example/fides/fides/command/perf/Outcome") (F_w_COMMITTED : Fld Z h0 w_COMMITTED "java/lang/Enum" "ordinal" "I" (.int (0 : Int32))) (F_w_ABORTED : Fld Z h0 w_ABORTED "java/lang/Enum" "ordinal" "I" (.int (1 : Int32))) (F_w_OPEN : Fld Z h0 w_OPEN "java/lang/Enum" "ordinal" "I" (.int (2 : Int32))) (F_w_TIMED_OUT : Fld Z h0 w_TIMED_OUT "java/lang/Enum" "ordinal" "I" (.int (3 : Int32))) (n_w_COMMITTED : w_COMMITTED ≠ b) (n_w_ABORTED : w_ABORTED ≠ b) (n_w_OPEN : w_OPEN ≠ b) (n_w_TIMED_OUT : w_TIMED_OUT ≠ b) (hsum : (((x0 + x1) + x2) + x3) = nn) :
    own_Out p e below (fun o U' => ∃ v L, o = .returned v ∧ Q v U'.heap L ∧ FrameEnd s o U' L 3 9) (T0.setTop (mkF m 96 #[.val (.int p0), .val (.int p1), .val (.int p2), .val (.int p3), .val (.ref t), .val (.long nn), .second, .unset, .unset, .unset, .unset] [])) := by
  show own_Out p e below _ (T0.setTop (mkF m 96 #[.val (.int p0), .val (.int p1), .val (.int p2), .val (.int p3), .val (.ref t), .val (.long nn), .second, .unset, .unset, .unset, .unset] []))
  refine own_of (fun _ k => XS.aload X0.here hx rfl (hb hby at_96) rfl rfl k) ?_
  show own_Out p e below _ (T0.setTop (mkF m 98 #[.val (.int p0), .val (.int p1), .val (.int p2), .val (.int p3), .val (.ref t), .val (.long nn), .second, .unset, .unset, .unset, .unset] [(.ref t)]))
  obtain ⟨cq1, kq1, q1a, q1b, q1c⟩ := isOf hZ e0 E_t
  obtain ⟨_, _, ⟨T1, L1, k1, n1⟩, -, X1, ⟨Lc1, hQ1, l1, y1, z1⟩, st1⟩ := X0.virtualBack hx (y := (⟨"com/example/fides/fides/command/perf/Tally", "total", "()J"⟩ : MethodName)) (z := (⟨"com/example/fides/fides/command/perf/Tally", "total", "()J"⟩ : MethodName)) hown (mvT hZ (hw _ (List.mem_of_getElem? (i := 32) rfl))) (mvT hZ (hw _ (List.mem_of_getElem? (i := 33) rfl))) (notFace_of_selects (args := #[]) (mvT hZ (hw _ (List.mem_of_getElem? (i := 35) rfl)))) (mvT hZ (hw _ (List.mem_of_getElem? (i := 35) rfl))) (mvT hZ (hw _ (List.mem_of_getElem? (i := 34) rfl))) (by decide) (backOf (W := 0) (rm4 l Z a0 hw [] t b k x0 x1 x2 x3 h0 n0 Z0 F_t V) hZ (hw _ (List.mem_of_getElem? (i := 36) rfl)) (hw _ (List.mem_of_getElem? (i := 2) rfl)) (by decide) (by decide)) q1a q1c (g := (mkF m 98 #[.val (.int p0), .val (.int p1), .val (.int p2), .val (.int p3), .val (.ref t), .val (.long nn), .second, .unset, .unset, .unset, .unset] [(.ref t)])) rfl (by rw [hml]; rfl) (Steps.refl _) (argsL := []) (rest := []) (lenOf pd_2 rfl) rfl (by show 2 * 0 + _ ≤ _; exact Nat.le_of_eq rfl) (hb hby at_98) (fun _ _ => ⟨rfl, e0, (by decide : 3 + 0 ≤ _), (by decide : 9 + 0 ≤ _)⟩)
  dsimp only [Pt.U, Pt.locs, Pt.cells, Pt.slots] at X1 l1 y1 z1 st1 hQ1
  subst l1 y1 z1
  obtain ⟨rfl, N1q, hh1⟩ := hQ1
  have N1 := Fr.app N0 N1q
  refine own_of (fun _ k => st1.trans k) ?_
  show own_Out p e below _ (T1.setTop (mkF m 101 #[.val (.int p0), .val (.int p1), .val (.int p2), .val (.int p3), .val (.ref t), .val (.long nn), .second, .unset, .unset, .unset, .unset] [(.long (((((0 : Int64) + x0) + x1) + x2) + x3))]))
  refine own_of (fun _ k => XS.lstore X1.here hx rfl (hb hby at_101) rfl (l' := #[.val (.int p0), .val (.int p1), .val (.int p2), .val (.int p3), .val (.ref t), .val (.long nn), .second, .val (.long (((((0 : Int64) + x0) + x1) + x2) + x3)), .second, .unset, .unset]) rfl k) ?_
  show own_Out p e below _ (T1.setTop (mkF m 103 #[.val (.int p0), .val (.int p1), .val (.int p2), .val (.int p3), .val (.ref t), .val (.long nn), .second, .val (.long (((((0 : Int64) + x0) + x1) + x2) + x3)), .second, .unset, .unset] []))
  refine own_of (fun _ k => XS.aload X1.here hx rfl (hb hby at_103) rfl rfl k) ?_
  show own_Out p e below _ (T1.setTop (mkF m 105 #[.val (.int p0), .val (.int p1), .val (.int p2), .val (.int p3), .val (.ref t), .val (.long nn), .second, .val (.long (((((0 : Int64) + x0) + x1) + x2) + x3)), .second, .unset, .unset] [(.ref t)]))
  obtain ⟨T2, X2, e2, st2⟩ := getS2 X1 hx hZ hown (host := "") (Or.inl (hw _ (List.mem_of_getElem? (i := 37) rfl))) Via.refl hh1 S_w_COMMITTED (g := (mkF m 105 #[.val (.int p0), .val (.int p1), .val (.int p2), .val (.int p3), .val (.ref t), .val (.long nn), .second, .val (.long (((((0 : Int64) + x0) + x1) + x2) + x3)), .second, .unset, .unset] [(.ref t)])) rfl (hb hby at_105)
  refine own_of st2 ?_
  show own_Out p e below _ (T2.setTop (mkF m 108 #[.val (.int p0), .val (.int p1), .val (.int p2), .val (.int p3), .val (.ref t), .val (.long nn), .second, .val (.long (((((0 : Int64) + x0) + x1) + x2) + x3)), .second, .unset, .unset] [(.ref w_COMMITTED), (.ref t)]))
  obtain ⟨cq3, kq3, q3a, q3b, q3c⟩ := isOf hZ e2 E_t
  obtain ⟨_, _, ⟨T3, L3, k3, n3⟩, -, X3, ⟨Lc3, hQ3, l3, y3, z3⟩, st3⟩ := X2.virtualBack hx (y := (⟨"com/example/fides/fides/command/perf/Tally", "count", "(Lcom/example/fides/fides/command/perf/Outcome;)J"⟩ : MethodName)) (z := (⟨"com/example/fides/fides/command/perf/Tally", "count", "(Lcom/example/fides/fides/command/perf/Outcome;)J"⟩ : MethodName)) hown (mvT hZ (hw _ (List.mem_of_getElem? (i := 38) rfl))) (mvT hZ (hw _ (List.mem_of_getElem? (i := 39) rfl))) (notFace_of_selects (args := #[]) (mvT hZ (hw _ (List.mem_of_getElem? (i := 41) rfl)))) (mvT hZ (hw _ (List.mem_of_getElem? (i := 41) rfl))) (mvT hZ (hw _ (List.mem_of_getElem? (i := 40) rfl))) (by decide) (backOf (W := 0) (rm5e0 l Z a0 hw [] t w_COMMITTED b k x0 x1 x2 x3 h0 n0 Z0 F_t V E_w_COMMITTED F_w_COMMITTED) hZ (hw _ (List.mem_of_getElem? (i := 42) rfl)) (hw _ (List.mem_of_getElem? (i := 2) rfl)) (by decide) (by decide)) q3a q3c (g := (mkF m 108 #[.val (.int p0), .val (.int p1), .val (.int p2), .val (.int p3), .val (.ref t), .val (.long nn), .second, .val (.long (((((0 : Int64) + x0) + x1) + x2) + x3)), .second, .unset, .unset] [(.ref w_COMMITTED), (.ref t)])) rfl (by rw [hml]; rfl) (Steps.refl _) (argsL := [(.ref w_COMMITTED)]) (rest := []) (lenOf pd_3 rfl) rfl (by show 2 * 0 + _ ≤ _; exact Nat.le_of_eq rfl) (hb hby at_108) (fun _ _ => ⟨rfl, e2, (by decide : 3 + 0 ≤ _), (by decide : 9 + 0 ≤ _)⟩)
  dsimp only [Pt.U, Pt.locs, Pt.cells, Pt.slots] at X3 l3 y3 z3 st3 hQ3
  subst l3 y3 z3
  obtain ⟨rfl, N3q, hh3⟩ := hQ3
  have N3 := Fr.app N1 N3q
  refine own_of (fun _ k => st3.trans k) ?_
  show own_Out p e below _ (T3.setTop (mkF m 111 #[.val (.int p0), .val (.int p1), .val (.int p2), .val (.int p3), .val (.ref t), .val (.long nn), .second, .val (.long (((((0 : Int64) + x0) + x1) + x2) + x3)), .second, .unset, .unset] [(.long x0)]))
  refine own_of (fun _ k => XS.aload X3.here hx rfl (hb hby at_111) rfl rfl k) ?_
  show own_Out p e below _ (T3.setTop (mkF m 113 #[.val (.int p0), .val (.int p1), .val (.int p2), .val (.int p3), .val (.ref t), .val (.long nn), .second, .val (.long (((((0 : Int64) + x0) + x1) + x2) + x3)), .second, .unset, .unset] [(.ref t), (.long x0)]))
  obtain ⟨T4, X4, e4, st4⟩ := getS2 X3 hx hZ hown (host := "") (Or.inl (hw _ (List.mem_of_getElem? (i := 52) rfl))) Via.refl hh3 S_w_ABORTED (g := (mkF m 113 #[.val (.int p0), .val (.int p1), .val (.int p2), .val (.int p3), .val (.ref t), .val (.long nn), .second, .val (.long (((((0 : Int64) + x0) + x1) + x2) + x3)), .second, .unset, .unset] [(.ref t), (.long x0)])) rfl (hb hby at_113)
  refine own_of st4 ?_
  show own_Out p e below _ (T4.setTop (mkF m 116 #[.val (.int p0), .val (.int p1), .val (.int p2), .val (.int p3), .val (.ref t), .val (.long nn), .second, .val (.long (((((0 : Int64) + x0) + x1) + x2) + x3)), .second, .unset, .unset] [(.ref w_ABORTED), (.ref t), (.long x0)]))
  obtain ⟨cq5, kq5, q5a, q5b, q5c⟩ := isOf hZ e4 E_t
  obtain ⟨_, _, ⟨T5, L5, k5, n5⟩, -, X5, ⟨Lc5, hQ5, l5, y5, z5⟩, st5⟩ := X4.virtualBack hx (y := (⟨"com/example/fides/fides/command/perf/Tally", "count", "(Lcom/example/fides/fides/command/perf/Outcome;)J"⟩ : MethodName)) (z := (⟨"com/example/fides/fides/command/perf/Tally", "count", "(Lcom/example/fides/fides/command/perf/Outcome;)J"⟩ : MethodName)) hown (mvT hZ (hw _ (List.mem_of_getElem? (i := 38) rfl))) (mvT hZ (hw _ (List.mem_of_getElem? (i := 39) rfl))) (notFace_of_selects (args := #[]) (mvT hZ (hw _ (List.mem_of_getElem? (i := 41) rfl)))) (mvT hZ (hw _ (List.mem_of_getElem? (i := 41) rfl))) (mvT hZ (hw _ (List.mem_of_getElem? (i := 40) rfl))) (by decide) (backOf (W := 2) (rm5e1 l Z a0 hw [] t w_ABORTED b k x0 x1 x2 x3 h0 n0 Z0 F_t V E_w_ABORTED F_w_ABORTED) hZ (hw _ (List.mem_of_getElem? (i := 42) rfl)) (hw _ (List.mem_of_getElem? (i := 2) rfl)) (by decide) (by decide)) q5a q5c (g := (mkF m 116 #[.val (.int p0), .val (.int p1), .val (.int p2), .val (.int p3), .val (.ref t), .val (.long nn), .second, .val (.long (((((0 : Int64) + x0) + x1) + x2) + x3)), .second, .unset, .unset] [(.ref w_ABORTED), (.ref t), (.long x0)])) rfl (by rw [hml]; rfl) (Steps.refl _) (argsL := [(.ref w_ABORTED)]) (rest := [(.long x0)]) (lenOf pd_3 rfl) rfl (by show 2 * 0 + _ ≤ _; exact Nat.le_of_eq rfl) (hb hby at_116) (fun _ _ => ⟨rfl, e4, (by decide : 3 + 0 ≤ _), (by decide : 9 + 0 ≤ _)⟩)
  dsimp only [Pt.U, Pt.locs, Pt.cells, Pt.slots] at X5 l5 y5 z5 st5 hQ5
  subst l5 y5 z5
  obtain ⟨rfl, N5q, hh5⟩ := hQ5
  have N5 := Fr.app N3 N5q
  refine own_of (fun _ k => st5.trans k) ?_
  show own_Out p e below _ (T5.setTop (mkF m 119 #[.val (.int p0), .val (.int p1), .val (.int p2), .val (.int p3), .val (.ref t), .val (.long nn), .second, .val (.long (((((0 : Int64) + x0) + x1) + x2) + x3)), .second, .unset, .unset] [(.long x1), (.long x0)]))
  refine own_of (fun _ k => XS.ladd X5.here hx rfl (hb hby at_119) rfl k) ?_
  show own_Out p e below _ (T5.setTop (mkF m 120 #[.val (.int p0), .val (.int p1), .val (.int p2), .val (.int p3), .val (.ref t), .val (.long nn), .second, .val (.long (((((0 : Int64) + x0) + x1) + x2) + x3)), .second, .unset, .unset] [(.long (x0 + x1))]))
  refine own_of (fun _ k => XS.aload X5.here hx rfl (hb hby at_120) rfl rfl k) ?_
  show own_Out p e below _ (T5.setTop (mkF m 122 #[.val (.int p0), .val (.int p1), .val (.int p2), .val (.int p3), .val (.ref t), .val (.long nn), .second, .val (.long (((((0 : Int64) + x0) + x1) + x2) + x3)), .second, .unset, .unset] [(.ref t), (.long (x0 + x1))]))
  obtain ⟨T6, X6, e6, st6⟩ := getS2 X5 hx hZ hown (host := "") (Or.inl (hw _ (List.mem_of_getElem? (i := 53) rfl))) Via.refl hh5 S_w_OPEN (g := (mkF m 122 #[.val (.int p0), .val (.int p1), .val (.int p2), .val (.int p3), .val (.ref t), .val (.long nn), .second, .val (.long (((((0 : Int64) + x0) + x1) + x2) + x3)), .second, .unset, .unset] [(.ref t), (.long (x0 + x1))])) rfl (hb hby at_122)
  refine own_of st6 ?_
  show own_Out p e below _ (T6.setTop (mkF m 125 #[.val (.int p0), .val (.int p1), .val (.int p2), .val (.int p3), .val (.ref t), .val (.long nn), .second, .val (.long (((((0 : Int64) + x0) + x1) + x2) + x3)), .second, .unset, .unset] [(.ref w_OPEN), (.ref t), (.long (x0 + x1))]))
  obtain ⟨cq7, kq7, q7a, q7b, q7c⟩ := isOf hZ e6 E_t
  obtain ⟨_, _, ⟨T7, L7, k7, n7⟩, -, X7, ⟨Lc7, hQ7, l7, y7, z7⟩, st7⟩ := X6.virtualBack hx (y := (⟨"com/example/fides/fides/command/perf/Tally", "count", "(Lcom/example/fides/fides/command/perf/Outcome;)J"⟩ : MethodName)) (z := (⟨"com/example/fides/fides/command/perf/Tally", "count", "(Lcom/example/fides/fides/command/perf/Outcome;)J"⟩ : MethodName)) hown (mvT hZ (hw _ (List.mem_of_getElem? (i := 38) rfl))) (mvT hZ (hw _ (List.mem_of_getElem? (i := 39) rfl))) (notFace_of_selects (args := #[]) (mvT hZ (hw _ (List.mem_of_getElem? (i := 41) rfl)))) (mvT hZ (hw _ (List.mem_of_getElem? (i := 41) rfl))) (mvT hZ (hw _ (List.mem_of_getElem? (i := 40) rfl))) (by decide) (backOf (W := 2) (rm5e2 l Z a0 hw [] t w_OPEN b k x0 x1 x2 x3 h0 n0 Z0 F_t V E_w_OPEN F_w_OPEN) hZ (hw _ (List.mem_of_getElem? (i := 42) rfl)) (hw _ (List.mem_of_getElem? (i := 2) rfl)) (by decide) (by decide)) q7a q7c (g := (mkF m 125 #[.val (.int p0), .val (.int p1), .val (.int p2), .val (.int p3), .val (.ref t), .val (.long nn), .second, .val (.long (((((0 : Int64) + x0) + x1) + x2) + x3)), .second, .unset, .unset] [(.ref w_OPEN), (.ref t), (.long (x0 + x1))])) rfl (by rw [hml]; rfl) (Steps.refl _) (argsL := [(.ref w_OPEN)]) (rest := [(.long (x0 + x1))]) (lenOf pd_3 rfl) rfl (by show 2 * 0 + _ ≤ _; exact Nat.le_of_eq rfl) (hb hby at_125) (fun _ _ => ⟨rfl, e6, (by decide : 3 + 0 ≤ _), (by decide : 9 + 0 ≤ _)⟩)
  dsimp only [Pt.U, Pt.locs, Pt.cells, Pt.slots] at X7 l7 y7 z7 st7 hQ7
  subst l7 y7 z7
  obtain ⟨rfl, N7q, hh7⟩ := hQ7
  have N7 := Fr.app N5 N7q
  refine own_of (fun _ k => st7.trans k) ?_
  show own_Out p e below _ (T7.setTop (mkF m 128 #[.val (.int p0), .val (.int p1), .val (.int p2), .val (.int p3), .val (.ref t), .val (.long nn), .second, .val (.long (((((0 : Int64) + x0) + x1) + x2) + x3)), .second, .unset, .unset] [(.long x2), (.long (x0 + x1))]))
  refine own_of (fun _ k => XS.ladd X7.here hx rfl (hb hby at_128) rfl k) ?_
  show own_Out p e below _ (T7.setTop (mkF m 129 #[.val (.int p0), .val (.int p1), .val (.int p2), .val (.int p3), .val (.ref t), .val (.long nn), .second, .val (.long (((((0 : Int64) + x0) + x1) + x2) + x3)), .second, .unset, .unset] [(.long ((x0 + x1) + x2))]))
  refine own_of (fun _ k => XS.aload X7.here hx rfl (hb hby at_129) rfl rfl k) ?_
  show own_Out p e below _ (T7.setTop (mkF m 131 #[.val (.int p0), .val (.int p1), .val (.int p2), .val (.int p3), .val (.ref t), .val (.long nn), .second, .val (.long (((((0 : Int64) + x0) + x1) + x2) + x3)), .second, .unset, .unset] [(.ref t), (.long ((x0 + x1) + x2))]))
  obtain ⟨T8, X8, e8, st8⟩ := getS2 X7 hx hZ hown (host := "") (Or.inl (hw _ (List.mem_of_getElem? (i := 54) rfl))) Via.refl hh7 S_w_TIMED_OUT (g := (mkF m 131 #[.val (.int p0), .val (.int p1), .val (.int p2), .val (.int p3), .val (.ref t), .val (.long nn), .second, .val (.long (((((0 : Int64) + x0) + x1) + x2) + x3)), .second, .unset, .unset] [(.ref t), (.long ((x0 + x1) + x2))])) rfl (hb hby at_131)
  refine own_of st8 ?_
  show own_Out p e below _ (T8.setTop (mkF m 134 #[.val (.int p0), .val (.int p1), .val (.int p2), .val (.int p3), .val (.ref t), .val (.long nn), .second, .val (.long (((((0 : Int64) + x0) + x1) + x2) + x3)), .second, .unset, .unset] [(.ref w_TIMED_OUT), (.ref t), (.long ((x0 + x1) + x2))]))
  obtain ⟨cq9, kq9, q9a, q9b, q9c⟩ := isOf hZ e8 E_t
  obtain ⟨_, _, ⟨T9, L9, k9, n9⟩, -, X9, ⟨Lc9, hQ9, l9, y9, z9⟩, st9⟩ := X8.virtualBack hx (y := (⟨"com/example/fides/fides/command/perf/Tally", "count", "(Lcom/example/fides/fides/command/perf/Outcome;)J"⟩ : MethodName)) (z := (⟨"com/example/fides/fides/command/perf/Tally", "count", "(Lcom/example/fides/fides/command/perf/Outcome;)J"⟩ : MethodName)) hown (mvT hZ (hw _ (List.mem_of_getElem? (i := 38) rfl))) (mvT hZ (hw _ (List.mem_of_getElem? (i := 39) rfl))) (notFace_of_selects (args := #[]) (mvT hZ (hw _ (List.mem_of_getElem? (i := 41) rfl)))) (mvT hZ (hw _ (List.mem_of_getElem? (i := 41) rfl))) (mvT hZ (hw _ (List.mem_of_getElem? (i := 40) rfl))) (by decide) (backOf (W := 2) (rm5e3 l Z a0 hw [] t w_TIMED_OUT b k x0 x1 x2 x3 h0 n0 Z0 F_t V E_w_TIMED_OUT F_w_TIMED_OUT) hZ (hw _ (List.mem_of_getElem? (i := 42) rfl)) (hw _ (List.mem_of_getElem? (i := 2) rfl)) (by decide) (by decide)) q9a q9c (g := (mkF m 134 #[.val (.int p0), .val (.int p1), .val (.int p2), .val (.int p3), .val (.ref t), .val (.long nn), .second, .val (.long (((((0 : Int64) + x0) + x1) + x2) + x3)), .second, .unset, .unset] [(.ref w_TIMED_OUT), (.ref t), (.long ((x0 + x1) + x2))])) rfl (by rw [hml]; rfl) (Steps.refl _) (argsL := [(.ref w_TIMED_OUT)]) (rest := [(.long ((x0 + x1) + x2))]) (lenOf pd_3 rfl) rfl (by show 2 * 0 + _ ≤ _; exact Nat.le_of_eq rfl) (hb hby at_134) (fun _ _ => ⟨rfl, e8, (by decide : 3 + 0 ≤ _), (by decide : 9 + 0 ≤ _)⟩)
  dsimp only [Pt.U, Pt.locs, Pt.cells, Pt.slots] at X9 l9 y9 z9 st9 hQ9
  subst l9 y9 z9
  obtain ⟨rfl, N9q, hh9⟩ := hQ9
  have N9 := Fr.app N7 N9q
  refine own_of (fun _ k => st9.trans k) ?_
  show own_Out p e below _ (T9.setTop (mkF m 137 #[.val (.int p0), .val (.int p1), .val (.int p2), .val (.int p3), .val (.ref t), .val (.long nn), .second, .val (.long (((((0 : Int64) + x0) + x1) + x2) + x3)), .second, .unset, .unset] [(.long x3), (.long ((x0 + x1) + x2))]))
  refine own_of (fun _ k => XS.ladd X9.here hx rfl (hb hby at_137) rfl k) ?_
  show own_Out p e below _ (T9.setTop (mkF m 138 #[.val (.int p0), .val (.int p1), .val (.int p2), .val (.int p3), .val (.ref t), .val (.long nn), .second, .val (.long (((((0 : Int64) + x0) + x1) + x2) + x3)), .second, .unset, .unset] [(.long (((x0 + x1) + x2) + x3))]))
  refine own_of (fun _ k => XS.lstore X9.here hx rfl (hb hby at_138) rfl (l' := #[.val (.int p0), .val (.int p1), .val (.int p2), .val (.int p3), .val (.ref t), .val (.long nn), .second, .val (.long (((((0 : Int64) + x0) + x1) + x2) + x3)), .second, .val (.long (((x0 + x1) + x2) + x3)), .second]) rfl k) ?_
  show own_Out p e below _ (T9.setTop (mkF m 140 #[.val (.int p0), .val (.int p1), .val (.int p2), .val (.int p3), .val (.ref t), .val (.long nn), .second, .val (.long (((((0 : Int64) + x0) + x1) + x2) + x3)), .second, .val (.long (((x0 + x1) + x2) + x3)), .second] []))
  refine own_of (fun _ k => XS.lload X9.here hx rfl (hb hby at_140) rfl k) ?_
  show own_Out p e below _ (T9.setTop (mkF m 142 #[.val (.int p0), .val (.int p1), .val (.int p2), .val (.int p3), .val (.ref t), .val (.long nn), .second, .val (.long (((((0 : Int64) + x0) + x1) + x2) + x3)), .second, .val (.long (((x0 + x1) + x2) + x3)), .second] [(.long (((((0 : Int64) + x0) + x1) + x2) + x3))]))
  refine own_of (fun _ k => XS.lload X9.here hx rfl (hb hby at_142) rfl k) ?_
  show own_Out p e below _ (T9.setTop (mkF m 144 #[.val (.int p0), .val (.int p1), .val (.int p2), .val (.int p3), .val (.ref t), .val (.long nn), .second, .val (.long (((((0 : Int64) + x0) + x1) + x2) + x3)), .second, .val (.long (((x0 + x1) + x2) + x3)), .second] [(.long nn), (.long (((((0 : Int64) + x0) + x1) + x2) + x3))]))
  refine own_of (fun _ k => XS.lcmp X9.here hx rfl (hb hby at_144) rfl k) ?_
  show own_Out p e below _ (T9.setTop (mkF m 145 #[.val (.int p0), .val (.int p1), .val (.int p2), .val (.int p3), .val (.ref t), .val (.long nn), .second, .val (.long (((((0 : Int64) + x0) + x1) + x2) + x3)), .second, .val (.long (((x0 + x1) + x2) + x3)), .second] [(.int (lcmpW (((((0 : Int64) + x0) + x1) + x2) + x3) nn))]))
  refine own_of (fun _ k => XS.ifNo X9.here hx rfl (hb hby at_145) rfl (own_leq (Eq.trans (own_tot x0 x1 x2 x3) hsum : (((((0 : Int64) + x0) + x1) + x2) + x3) = nn)).2 k) ?_
  show own_Out p e below _ (T9.setTop (mkF m 148 #[.val (.int p0), .val (.int p1), .val (.int p2), .val (.int p3), .val (.ref t), .val (.long nn), .second, .val (.long (((((0 : Int64) + x0) + x1) + x2) + x3)), .second, .val (.long (((x0 + x1) + x2) + x3)), .second] []))
  refine own_of (fun _ k => XS.lload X9.here hx rfl (hb hby at_148) rfl k) ?_
  show own_Out p e below _ (T9.setTop (mkF m 150 #[.val (.int p0), .val (.int p1), .val (.int p2), .val (.int p3), .val (.ref t), .val (.long nn), .second, .val (.long (((((0 : Int64) + x0) + x1) + x2) + x3)), .second, .val (.long (((x0 + x1) + x2) + x3)), .second] [(.long (((((0 : Int64) + x0) + x1) + x2) + x3))]))
  refine own_of (fun _ k => XS.lload X9.here hx rfl (hb hby at_150) rfl k) ?_
  show own_Out p e below _ (T9.setTop (mkF m 152 #[.val (.int p0), .val (.int p1), .val (.int p2), .val (.int p3), .val (.ref t), .val (.long nn), .second, .val (.long (((((0 : Int64) + x0) + x1) + x2) + x3)), .second, .val (.long (((x0 + x1) + x2) + x3)), .second] [(.long (((x0 + x1) + x2) + x3)), (.long (((((0 : Int64) + x0) + x1) + x2) + x3))]))
  refine own_of (fun _ k => XS.lcmp X9.here hx rfl (hb hby at_152) rfl k) ?_
  show own_Out p e below _ (T9.setTop (mkF m 153 #[.val (.int p0), .val (.int p1), .val (.int p2), .val (.int p3), .val (.ref t), .val (.long nn), .second, .val (.long (((((0 : Int64) + x0) + x1) + x2) + x3)), .second, .val (.long (((x0 + x1) + x2) + x3)), .second] [(.int (lcmpW (((((0 : Int64) + x0) + x1) + x2) + x3) (((x0 + x1) + x2) + x3)))]))
  refine own_of (fun _ k => XS.ifNo X9.here hx rfl (hb hby at_153) rfl (own_leq (own_tot x0 x1 x2 x3 : (((((0 : Int64) + x0) + x1) + x2) + x3) = (((x0 + x1) + x2) + x3))).2 k) ?_
  show own_Out p e below _ (T9.setTop (mkF m 156 #[.val (.int p0), .val (.int p1), .val (.int p2), .val (.int p3), .val (.ref t), .val (.long nn), .second, .val (.long (((((0 : Int64) + x0) + x1) + x2) + x3)), .second, .val (.long (((x0 + x1) + x2) + x3)), .second] []))
  refine own_of (fun _ k => XS.iconst X9.here hx rfl (hb hby at_156) k) ?_
  show own_Out p e below _ (T9.setTop (mkF m 157 #[.val (.int p0), .val (.int p1), .val (.int p2), .val (.int p3), .val (.ref t), .val (.long nn), .second, .val (.long (((((0 : Int64) + x0) + x1) + x2) + x3)), .second, .val (.long (((x0 + x1) + x2) + x3)), .second] [(.int (1 : Int32))]))
  refine own_of (fun _ k => XS.goto X9.here hx rfl (pc0 := 157) (pc' := 161) rfl (hb hby at_157) (by decide) (by decide) k) ?_
  show own_Out p e below _ (T9.setTop (mkF m 161 #[.val (.int p0), .val (.int p1), .val (.int p2), .val (.int p3), .val (.ref t), .val (.long nn), .second, .val (.long (((((0 : Int64) + x0) + x1) + x2) + x3)), .second, .val (.long (((x0 + x1) + x2) + x3)), .second] [(.int (1 : Int32))]))
  exact own_outN X9 hx hlk (t := .boolean) hret (by simp) (hb hby at_161) (z' := (1 : Int32)) rfl (Q := Q) (hQ _ _ N9) (by decide) (by decide)
theorem pd_4 : parseMethodDescriptor "(I)Lcom/example/fides/fides/command/perf/Outcome;" = some ⟨[.int], some (.object "com/example/fides/fides/command/perf/Outcome")⟩ := by decide +kernel
theorem pd_5 : parseMethodDescriptor "(Lcom/example/fides/fides/command/perf/Outcome;)V" = some ⟨[(.object "com/example/fides/fides/command/perf/Outcome")], none⟩ := by decide +kernel
set_option maxRecDepth 65536 in
set_option maxHeartbeats 40000000 in
theorem sg75 {p : Program} {l : Launch} {e : Env} {s : State} {m : MethodId} {args : Array Value} {below : List Frame} {meth : Method} {c : Code} {T0 : State} {locs : List Loc} {Z : State} {a0 : Array Value} {Q : Option Value → Heap → List Loc → Prop} (p0 : Int32) (p1 : Int32) (p2 : Int32) (p3 : Int32) (t : Addr) (b : Addr) (k : ClassId) (x0 : Int64) (x1 : Int64) (x2 : Int64) (x3 : Int64) (nn : Int64) (w_COMMITTED : Addr) (w_ABORTED : Addr) (w_OPEN : Addr) (w_TIMED_OUT : Addr) (h0 : Heap) (n0 : Nat)
    (X0 : Stand p l e room_1 s m args below meth c T0 locs 3 9) (hx : p.tables.exec = Jvm.exec) (hZ : Z.Warmed39 s.vm) (hw : ∀ d ∈ tables_1, d.before a0 Z = true) (hby : c.code = code) (hml : c.maxLocals = 11) (hown : s.vm.findClass "com/example/fides/fides/command/perf/TallyTotalPinLaw" = some m.cls) (hret : meth.sig.returnType = ret) (hlk : meth.locks = false)
    (hQ : ∀ h L, Fr n0 L → Q (some (.int 1)) h L) (e0 : T0.heap = h0) (Z0 : n0 ≤ h0.size) (N0 : Fr n0 locs) (E_t : Exa Z h0 t "com/example/fides/fides/command/perf/Tally") (F_t : Fld Z h0 t "com/example/fides/fides/command/perf/Tally" "counts" "[J" (.ref b)) (V : Arv Z h0 b k .long (4 : Int32) [(.long x0), (.long x1), (.long x2), (.long x3)] (.long (0 : Int64))) (g_b : n0 ≤ b) (ntb : t ≠ b) (S_w_COMMITTED : Sta Z h0 "com/example/fides/fides/command/perf/Outcome" "COMMITTED" "Lcom/example/fides/fides/command/perf/Outcome;" (.ref w_COMMITTED)) (S_w_ABORTED : Sta Z h0 "com/example/fides/fides/command/perf/Outcome" "ABORTED" "Lcom/example/fides/fides/command/perf/Outcome;" (.ref w_ABORTED)) (S_w_OPEN : Sta Z h0 "com/example/fides/fides/command/perf/Outcome" "OPEN" "Lcom/example/fides/fides/command/perf/Outcome;" (.ref w_OPEN)) (S_w_TIMED_OUT : Sta Z h0 "com/example/fides/fides/command/perf/Outcome" "TIMED_OUT" "Lcom/example/fides/fides/command/perf/Outcome;" (.ref w_TIMED_OUT)) (E_w_COMMITTED : Exa Z h0 w_COMMITTED "com/example/fides/fides/command/perf/Outcome") (E_w_ABORTED : Exa Z h0 w_ABORTED "com/example/fides/fides/command/perf/Outcome") (E_w_OPEN : Exa Z h0 w_OPEN "com/example/fides/fides/command/perf/Outcome") (E_w_TIMED_OUT : Exa Z h0 w_TIMED_OUT "com/example/fides/fides/command/perf/Outcome") (F_w_COMMITTED : Fld Z h0 w_COMMITTED "java/lang/Enum" "ordinal" "I" (.int (0 : Int32))) (F_w_ABORTED : Fld Z h0 w_ABORTED "java/lang/Enum" "ordinal" "I" (.int (1 : Int32))) (F_w_OPEN : Fld Z h0 w_OPEN "java/lang/Enum" "ordinal" "I" (.int (2 : Int32))) (F_w_TIMED_OUT : Fld Z h0 w_TIMED_OUT "java/lang/Enum" "ordinal" "I" (.int (3 : Int32))) (n_w_COMMITTED : w_COMMITTED ≠ b) (n_w_ABORTED : w_ABORTED ≠ b) (n_w_OPEN : w_OPEN ≠ b) (n_w_TIMED_OUT : w_TIMED_OUT ≠ b) (hsum : (((x0 + x1) + x2) + x3) = nn) :
    own_Out p e below (fun o U' => ∃ v L, o = .returned v ∧ Q v U'.heap L ∧ FrameEnd s o U' L 3 9) (T0.setTop (mkF m 75 #[.val (.int p0), .val (.int p1), .val (.int p2), .val (.int p3), .val (.ref t), .val (.long nn), .second, .unset, .unset, .unset, .unset] [])) := by
  show own_Out p e below _ (T0.setTop (mkF m 75 #[.val (.int p0), .val (.int p1), .val (.int p2), .val (.int p3), .val (.ref t), .val (.long nn), .second, .unset, .unset, .unset, .unset] []))
  refine own_of (fun _ k => XS.iloadN X0.here hx rfl (hb hby at_75) rfl k) ?_
  show own_Out p e below _ (T0.setTop (mkF m 76 #[.val (.int p0), .val (.int p1), .val (.int p2), .val (.int p3), .val (.ref t), .val (.long nn), .second, .unset, .unset, .unset, .unset] [(.int p3)]))
  refine own_of (fun _ k => XS.iconst X0.here hx rfl (hb hby at_76) k) ?_
  show own_Out p e below _ (T0.setTop (mkF m 77 #[.val (.int p0), .val (.int p1), .val (.int p2), .val (.int p3), .val (.ref t), .val (.long nn), .second, .unset, .unset, .unset, .unset] [(.int (4 : Int32)), (.int p3)]))
  refine own_of (fun _ k => XS.iand X0.here hx rfl (hb hby at_77) rfl k) ?_
  show own_Out p e below _ (T0.setTop (mkF m 78 #[.val (.int p0), .val (.int p1), .val (.int p2), .val (.int p3), .val (.ref t), .val (.long nn), .second, .unset, .unset, .unset, .unset] [(.int (p3 &&& (4 : Int32)))]))
  by_cases hc78_1 : (p3 &&& (4 : Int32)) = (0 : Int32)
  · skip
    refine own_of (fun _ k => XS.ifYes X0.here hx rfl (pc0 := 78) (pc' := 96) rfl (hb hby at_78) rfl ((if0 _ _).trans (teq hc78_1).1) (by decide) (by decide) k) ?_
    show own_Out p e below _ (T0.setTop (mkF m 96 #[.val (.int p0), .val (.int p1), .val (.int p2), .val (.int p3), .val (.ref t), .val (.long nn), .second, .unset, .unset, .unset, .unset] []))
    exact sg96 (Q := Q) p0 p1 p2 p3 t b k x0 x1 x2 x3 nn w_COMMITTED w_ABORTED w_OPEN w_TIMED_OUT h0 n0 X0 hx hZ hw hby hml hown hret hlk hQ e0 Z0 N0 E_t F_t V g_b ntb S_w_COMMITTED S_w_ABORTED S_w_OPEN S_w_TIMED_OUT E_w_COMMITTED E_w_ABORTED E_w_OPEN E_w_TIMED_OUT F_w_COMMITTED F_w_ABORTED F_w_OPEN F_w_TIMED_OUT n_w_COMMITTED n_w_ABORTED n_w_OPEN n_w_TIMED_OUT hsum
  · skip
    refine own_of (fun _ k => XS.ifNo X0.here hx rfl (hb hby at_78) rfl ((if0 _ _).trans (feq hc78_1).1) k) ?_
    show own_Out p e below _ (T0.setTop (mkF m 81 #[.val (.int p0), .val (.int p1), .val (.int p2), .val (.int p3), .val (.ref t), .val (.long nn), .second, .unset, .unset, .unset, .unset] []))
    refine own_of (fun _ k => XS.aload X0.here hx rfl (hb hby at_81) rfl rfl k) ?_
    show own_Out p e below _ (T0.setTop (mkF m 83 #[.val (.int p0), .val (.int p1), .val (.int p2), .val (.int p3), .val (.ref t), .val (.long nn), .second, .unset, .unset, .unset, .unset] [(.ref t)]))
    refine own_of (fun _ k => XS.iloadN X0.here hx rfl (hb hby at_83) rfl k) ?_
    show own_Out p e below _ (T0.setTop (mkF m 84 #[.val (.int p0), .val (.int p1), .val (.int p2), .val (.int p3), .val (.ref t), .val (.long nn), .second, .unset, .unset, .unset, .unset] [(.int p3), (.ref t)]))
    by_cases hc84_2 : (p3 &&& (3 : Int32)) = (0 : Int32)
    · skip
      obtain ⟨_, _, ⟨T3, L3, k3, n3⟩, -, X3, ⟨Lc3, hQ3, l3, y3, z3⟩, st3⟩ := Jvm.LawKit.callS X0 hx (y := (⟨"com/example/fides/fides/command/perf/TallyTotalPinLaw", "pick", "(I)Lcom/example/fides/fides/command/perf/Outcome;"⟩ : MethodName)) hown (mvT hZ (hw _ (List.mem_of_getElem? (i := 55) rfl))) (mvT hZ (hw _ (List.mem_of_getElem? (i := 56) rfl))) (mvT hZ (hw _ (List.mem_of_getElem? (i := 57) rfl))) (mvT hZ (hw _ (List.mem_of_getElem? (i := 58) rfl))) (by decide) (backOf (W := 1) (rm7e0 l Z a0 hw [] p3 w_COMMITTED h0 n0 Z0 S_w_COMMITTED hc84_2) hZ (hw _ (List.mem_of_getElem? (i := 58) rfl)) (hw _ (List.mem_of_getElem? (i := 57) rfl)) (by decide) (by decide)) (g := (mkF m 84 #[.val (.int p0), .val (.int p1), .val (.int p2), .val (.int p3), .val (.ref t), .val (.long nn), .second, .unset, .unset, .unset, .unset] [(.int p3), (.ref t)])) rfl (by rw [hml]; rfl) (argsL := [(.int p3)]) (rest := [(.ref t)]) (lenOf pd_4 rfl) rfl (by show 2 * 0 + _ ≤ _; exact Nat.le_of_eq rfl) (hb hby at_84) (fun _ _ => ⟨rfl, e0, (by decide : 3 + 0 ≤ _), (by decide : 9 + 0 ≤ _)⟩)
      dsimp only [Pt.U, Pt.locs, Pt.cells, Pt.slots] at X3 l3 y3 z3 st3 hQ3
      subst l3 y3 z3
      obtain ⟨rfl, N3q, hh3⟩ := hQ3
      have N3 := Fr.app N0 N3q
      refine own_of st3 ?_
      show own_Out p e below _ (T3.setTop (mkF m 87 #[.val (.int p0), .val (.int p1), .val (.int p2), .val (.int p3), .val (.ref t), .val (.long nn), .second, .unset, .unset, .unset, .unset] [(.ref w_COMMITTED), (.ref t)]))
      obtain ⟨cq4, kq4, q4a, q4b, q4c⟩ := isOf hZ hh3 E_t
      obtain ⟨_, _, ⟨T4, L4, k4, n4⟩, -, X4, ⟨Lc4, hQ4, l4, y4, z4⟩, st4⟩ := X3.virtualBack hx (y := (⟨"com/example/fides/fides/command/perf/Tally", "add", "(Lcom/example/fides/fides/command/perf/Outcome;)V"⟩ : MethodName)) (z := (⟨"com/example/fides/fides/command/perf/Tally", "add", "(Lcom/example/fides/fides/command/perf/Outcome;)V"⟩ : MethodName)) hown (mvT hZ (hw _ (List.mem_of_getElem? (i := 59) rfl))) (mvT hZ (hw _ (List.mem_of_getElem? (i := 60) rfl))) (notFace_of_selects (args := #[]) (mvT hZ (hw _ (List.mem_of_getElem? (i := 62) rfl)))) (mvT hZ (hw _ (List.mem_of_getElem? (i := 62) rfl))) (mvT hZ (hw _ (List.mem_of_getElem? (i := 61) rfl))) (by decide) (backOf (W := 0) (rm8e0 l Z a0 hw [] t w_COMMITTED b k x0 x1 x2 x3 h0 n0 Z0 F_t V E_w_COMMITTED F_w_COMMITTED g_b ntb n_w_COMMITTED) hZ (hw _ (List.mem_of_getElem? (i := 63) rfl)) (hw _ (List.mem_of_getElem? (i := 2) rfl)) (by decide) (by decide)) q4a q4c (g := (mkF m 87 #[.val (.int p0), .val (.int p1), .val (.int p2), .val (.int p3), .val (.ref t), .val (.long nn), .second, .unset, .unset, .unset, .unset] [(.ref w_COMMITTED), (.ref t)])) rfl (by rw [hml]; rfl) (Steps.refl _) (argsL := [(.ref w_COMMITTED)]) (rest := []) (lenOf pd_5 rfl) rfl (by show 2 * 0 + _ ≤ _; exact Nat.le_of_eq rfl) (hb hby at_87) (fun _ _ => ⟨rfl, hh3, (by decide : 3 + 0 ≤ _), (by decide : 9 + 0 ≤ _)⟩)
      dsimp only [Pt.U, Pt.locs, Pt.cells, Pt.slots] at X4 l4 y4 z4 st4 hQ4
      subst l4 y4 z4
      obtain ⟨rfl, N4q, K4, V4⟩ := hQ4
      have N4 := Fr.app N3 N4q
      have E_t_K4 := E_t.keep K4
      have F_t_counts_K4 := F_t.keep K4 (ninS ntb nin0)
      have S_com_example_fides_fides_command_perf_Outcome_COMMITTED_K4 := own_staK1 S_w_COMMITTED K4 (own_plainV V)
      have E_w_COMMITTED_K4 := E_w_COMMITTED.keep K4
      have F_w_COMMITTED_ordinal_K4 := F_w_COMMITTED.keep K4 (ninS n_w_COMMITTED nin0)
      have S_com_example_fides_fides_command_perf_Outcome_ABORTED_K4 := own_staK1 S_w_ABORTED K4 (own_plainV V)
      have E_w_ABORTED_K4 := E_w_ABORTED.keep K4
      have F_w_ABORTED_ordinal_K4 := F_w_ABORTED.keep K4 (ninS n_w_ABORTED nin0)
      have S_com_example_fides_fides_command_perf_Outcome_OPEN_K4 := own_staK1 S_w_OPEN K4 (own_plainV V)
      have E_w_OPEN_K4 := E_w_OPEN.keep K4
      have F_w_OPEN_ordinal_K4 := F_w_OPEN.keep K4 (ninS n_w_OPEN nin0)
      have S_com_example_fides_fides_command_perf_Outcome_TIMED_OUT_K4 := own_staK1 S_w_TIMED_OUT K4 (own_plainV V)
      have E_w_TIMED_OUT_K4 := E_w_TIMED_OUT.keep K4
      have F_w_TIMED_OUT_ordinal_K4 := F_w_TIMED_OUT.keep K4 (ninS n_w_TIMED_OUT nin0)
      have Zl4 : n0 ≤ T4.heap.size := Nat.le_trans Z0 K4.1
      refine own_of (fun _ k => st4.trans k) ?_
      show own_Out p e below _ (T4.setTop (mkF m 90 #[.val (.int p0), .val (.int p1), .val (.int p2), .val (.int p3), .val (.ref t), .val (.long nn), .second, .unset, .unset, .unset, .unset] []))
      refine own_of (fun _ k => XS.lload X4.here hx rfl (hb hby at_90) rfl k) ?_
      show own_Out p e below _ (T4.setTop (mkF m 92 #[.val (.int p0), .val (.int p1), .val (.int p2), .val (.int p3), .val (.ref t), .val (.long nn), .second, .unset, .unset, .unset, .unset] [(.long nn)]))
      refine own_of (fun _ k => XS.lconst X4.here hx rfl (hb hby at_92) k) ?_
      show own_Out p e below _ (T4.setTop (mkF m 93 #[.val (.int p0), .val (.int p1), .val (.int p2), .val (.int p3), .val (.ref t), .val (.long nn), .second, .unset, .unset, .unset, .unset] [(.long (1 : Int64)), (.long nn)]))
      refine own_of (fun _ k => XS.ladd X4.here hx rfl (hb hby at_93) rfl k) ?_
      show own_Out p e below _ (T4.setTop (mkF m 94 #[.val (.int p0), .val (.int p1), .val (.int p2), .val (.int p3), .val (.ref t), .val (.long nn), .second, .unset, .unset, .unset, .unset] [(.long (nn + (1 : Int64)))]))
      refine own_of (fun _ k => XS.lstore X4.here hx rfl (hb hby at_94) rfl (l' := #[.val (.int p0), .val (.int p1), .val (.int p2), .val (.int p3), .val (.ref t), .val (.long (nn + (1 : Int64))), .second, .unset, .unset, .unset, .unset]) rfl k) ?_
      show own_Out p e below _ (T4.setTop (mkF m 96 #[.val (.int p0), .val (.int p1), .val (.int p2), .val (.int p3), .val (.ref t), .val (.long (nn + (1 : Int64))), .second, .unset, .unset, .unset, .unset] []))
      exact sg96 (Q := Q) p0 p1 p2 p3 t b k (x0 + (1 : Int64)) x1 x2 x3 (nn + (1 : Int64)) w_COMMITTED w_ABORTED w_OPEN w_TIMED_OUT T4.heap n0 X4 hx hZ hw hby hml hown hret hlk hQ rfl Zl4 N4 E_t_K4 F_t_counts_K4 V4 g_b ntb S_com_example_fides_fides_command_perf_Outcome_COMMITTED_K4 S_com_example_fides_fides_command_perf_Outcome_ABORTED_K4 S_com_example_fides_fides_command_perf_Outcome_OPEN_K4 S_com_example_fides_fides_command_perf_Outcome_TIMED_OUT_K4 E_w_COMMITTED_K4 E_w_ABORTED_K4 E_w_OPEN_K4 E_w_TIMED_OUT_K4 F_w_COMMITTED_ordinal_K4 F_w_ABORTED_ordinal_K4 F_w_OPEN_ordinal_K4 F_w_TIMED_OUT_ordinal_K4 n_w_COMMITTED n_w_ABORTED n_w_OPEN n_w_TIMED_OUT (own_n0 hsum)
    · skip
      by_cases hc84_5 : (p3 &&& (3 : Int32)) = (1 : Int32)
      · skip
        obtain ⟨_, _, ⟨T6, L6, k6, n6⟩, -, X6, ⟨Lc6, hQ6, l6, y6, z6⟩, st6⟩ := Jvm.LawKit.callS X0 hx (y := (⟨"com/example/fides/fides/command/perf/TallyTotalPinLaw", "pick", "(I)Lcom/example/fides/fides/command/perf/Outcome;"⟩ : MethodName)) hown (mvT hZ (hw _ (List.mem_of_getElem? (i := 55) rfl))) (mvT hZ (hw _ (List.mem_of_getElem? (i := 56) rfl))) (mvT hZ (hw _ (List.mem_of_getElem? (i := 57) rfl))) (mvT hZ (hw _ (List.mem_of_getElem? (i := 58) rfl))) (by decide) (backOf (W := 1) (rm7e1 l Z a0 hw [] p3 w_ABORTED h0 n0 Z0 S_w_ABORTED hc84_2 hc84_5) hZ (hw _ (List.mem_of_getElem? (i := 58) rfl)) (hw _ (List.mem_of_getElem? (i := 57) rfl)) (by decide) (by decide)) (g := (mkF m 84 #[.val (.int p0), .val (.int p1), .val (.int p2), .val (.int p3), .val (.ref t), .val (.long nn), .second, .unset, .unset, .unset, .unset] [(.int p3), (.ref t)])) rfl (by rw [hml]; rfl) (argsL := [(.int p3)]) (rest := [(.ref t)]) (lenOf pd_4 rfl) rfl (by show 2 * 0 + _ ≤ _; exact Nat.le_of_eq rfl) (hb hby at_84) (fun _ _ => ⟨rfl, e0, (by decide : 3 + 0 ≤ _), (by decide : 9 + 0 ≤ _)⟩)
        dsimp only [Pt.U, Pt.locs, Pt.cells, Pt.slots] at X6 l6 y6 z6 st6 hQ6
        subst l6 y6 z6
        obtain ⟨rfl, N6q, hh6⟩ := hQ6
        have N6 := Fr.app N0 N6q
        refine own_of st6 ?_
        show own_Out p e below _ (T6.setTop (mkF m 87 #[.val (.int p0), .val (.int p1), .val (.int p2), .val (.int p3), .val (.ref t), .val (.long nn), .second, .unset, .unset, .unset, .unset] [(.ref w_ABORTED), (.ref t)]))
        obtain ⟨cq7, kq7, q7a, q7b, q7c⟩ := isOf hZ hh6 E_t
        obtain ⟨_, _, ⟨T7, L7, k7, n7⟩, -, X7, ⟨Lc7, hQ7, l7, y7, z7⟩, st7⟩ := X6.virtualBack hx (y := (⟨"com/example/fides/fides/command/perf/Tally", "add", "(Lcom/example/fides/fides/command/perf/Outcome;)V"⟩ : MethodName)) (z := (⟨"com/example/fides/fides/command/perf/Tally", "add", "(Lcom/example/fides/fides/command/perf/Outcome;)V"⟩ : MethodName)) hown (mvT hZ (hw _ (List.mem_of_getElem? (i := 59) rfl))) (mvT hZ (hw _ (List.mem_of_getElem? (i := 60) rfl))) (notFace_of_selects (args := #[]) (mvT hZ (hw _ (List.mem_of_getElem? (i := 62) rfl)))) (mvT hZ (hw _ (List.mem_of_getElem? (i := 62) rfl))) (mvT hZ (hw _ (List.mem_of_getElem? (i := 61) rfl))) (by decide) (backOf (W := 0) (rm8e1 l Z a0 hw [] t w_ABORTED b k x0 x1 x2 x3 h0 n0 Z0 F_t V E_w_ABORTED F_w_ABORTED g_b ntb n_w_ABORTED) hZ (hw _ (List.mem_of_getElem? (i := 63) rfl)) (hw _ (List.mem_of_getElem? (i := 2) rfl)) (by decide) (by decide)) q7a q7c (g := (mkF m 87 #[.val (.int p0), .val (.int p1), .val (.int p2), .val (.int p3), .val (.ref t), .val (.long nn), .second, .unset, .unset, .unset, .unset] [(.ref w_ABORTED), (.ref t)])) rfl (by rw [hml]; rfl) (Steps.refl _) (argsL := [(.ref w_ABORTED)]) (rest := []) (lenOf pd_5 rfl) rfl (by show 2 * 0 + _ ≤ _; exact Nat.le_of_eq rfl) (hb hby at_87) (fun _ _ => ⟨rfl, hh6, (by decide : 3 + 0 ≤ _), (by decide : 9 + 0 ≤ _)⟩)
        dsimp only [Pt.U, Pt.locs, Pt.cells, Pt.slots] at X7 l7 y7 z7 st7 hQ7
        subst l7 y7 z7
        obtain ⟨rfl, N7q, K7, V7⟩ := hQ7
        have N7 := Fr.app N6 N7q
        have E_t_K7 := E_t.keep K7
        have F_t_counts_K7 := F_t.keep K7 (ninS ntb nin0)
        have S_com_example_fides_fides_command_perf_Outcome_COMMITTED_K7 := own_staK1 S_w_COMMITTED K7 (own_plainV V)
        have E_w_COMMITTED_K7 := E_w_COMMITTED.keep K7
        have F_w_COMMITTED_ordinal_K7 := F_w_COMMITTED.keep K7 (ninS n_w_COMMITTED nin0)
        have S_com_example_fides_fides_command_perf_Outcome_ABORTED_K7 := own_staK1 S_w_ABORTED K7 (own_plainV V)
        have E_w_ABORTED_K7 := E_w_ABORTED.keep K7
        have F_w_ABORTED_ordinal_K7 := F_w_ABORTED.keep K7 (ninS n_w_ABORTED nin0)
        have S_com_example_fides_fides_command_perf_Outcome_OPEN_K7 := own_staK1 S_w_OPEN K7 (own_plainV V)
        have E_w_OPEN_K7 := E_w_OPEN.keep K7
        have F_w_OPEN_ordinal_K7 := F_w_OPEN.keep K7 (ninS n_w_OPEN nin0)
        have S_com_example_fides_fides_command_perf_Outcome_TIMED_OUT_K7 := own_staK1 S_w_TIMED_OUT K7 (own_plainV V)
        have E_w_TIMED_OUT_K7 := E_w_TIMED_OUT.keep K7
        have F_w_TIMED_OUT_ordinal_K7 := F_w_TIMED_OUT.keep K7 (ninS n_w_TIMED_OUT nin0)
        have Zl7 : n0 ≤ T7.heap.size := Nat.le_trans Z0 K7.1
        refine own_of (fun _ k => st7.trans k) ?_
        show own_Out p e below _ (T7.setTop (mkF m 90 #[.val (.int p0), .val (.int p1), .val (.int p2), .val (.int p3), .val (.ref t), .val (.long nn), .second, .unset, .unset, .unset, .unset] []))
        refine own_of (fun _ k => XS.lload X7.here hx rfl (hb hby at_90) rfl k) ?_
        show own_Out p e below _ (T7.setTop (mkF m 92 #[.val (.int p0), .val (.int p1), .val (.int p2), .val (.int p3), .val (.ref t), .val (.long nn), .second, .unset, .unset, .unset, .unset] [(.long nn)]))
        refine own_of (fun _ k => XS.lconst X7.here hx rfl (hb hby at_92) k) ?_
        show own_Out p e below _ (T7.setTop (mkF m 93 #[.val (.int p0), .val (.int p1), .val (.int p2), .val (.int p3), .val (.ref t), .val (.long nn), .second, .unset, .unset, .unset, .unset] [(.long (1 : Int64)), (.long nn)]))
        refine own_of (fun _ k => XS.ladd X7.here hx rfl (hb hby at_93) rfl k) ?_
        show own_Out p e below _ (T7.setTop (mkF m 94 #[.val (.int p0), .val (.int p1), .val (.int p2), .val (.int p3), .val (.ref t), .val (.long nn), .second, .unset, .unset, .unset, .unset] [(.long (nn + (1 : Int64)))]))
        refine own_of (fun _ k => XS.lstore X7.here hx rfl (hb hby at_94) rfl (l' := #[.val (.int p0), .val (.int p1), .val (.int p2), .val (.int p3), .val (.ref t), .val (.long (nn + (1 : Int64))), .second, .unset, .unset, .unset, .unset]) rfl k) ?_
        show own_Out p e below _ (T7.setTop (mkF m 96 #[.val (.int p0), .val (.int p1), .val (.int p2), .val (.int p3), .val (.ref t), .val (.long (nn + (1 : Int64))), .second, .unset, .unset, .unset, .unset] []))
        exact sg96 (Q := Q) p0 p1 p2 p3 t b k x0 (x1 + (1 : Int64)) x2 x3 (nn + (1 : Int64)) w_COMMITTED w_ABORTED w_OPEN w_TIMED_OUT T7.heap n0 X7 hx hZ hw hby hml hown hret hlk hQ rfl Zl7 N7 E_t_K7 F_t_counts_K7 V7 g_b ntb S_com_example_fides_fides_command_perf_Outcome_COMMITTED_K7 S_com_example_fides_fides_command_perf_Outcome_ABORTED_K7 S_com_example_fides_fides_command_perf_Outcome_OPEN_K7 S_com_example_fides_fides_command_perf_Outcome_TIMED_OUT_K7 E_w_COMMITTED_K7 E_w_ABORTED_K7 E_w_OPEN_K7 E_w_TIMED_OUT_K7 F_w_COMMITTED_ordinal_K7 F_w_ABORTED_ordinal_K7 F_w_OPEN_ordinal_K7 F_w_TIMED_OUT_ordinal_K7 n_w_COMMITTED n_w_ABORTED n_w_OPEN n_w_TIMED_OUT (own_n1 hsum)
      · skip
        by_cases hc84_8 : (p3 &&& (3 : Int32)) = (2 : Int32)
        · skip
          obtain ⟨_, _, ⟨T9, L9, k9, n9⟩, -, X9, ⟨Lc9, hQ9, l9, y9, z9⟩, st9⟩ := Jvm.LawKit.callS X0 hx (y := (⟨"com/example/fides/fides/command/perf/TallyTotalPinLaw", "pick", "(I)Lcom/example/fides/fides/command/perf/Outcome;"⟩ : MethodName)) hown (mvT hZ (hw _ (List.mem_of_getElem? (i := 55) rfl))) (mvT hZ (hw _ (List.mem_of_getElem? (i := 56) rfl))) (mvT hZ (hw _ (List.mem_of_getElem? (i := 57) rfl))) (mvT hZ (hw _ (List.mem_of_getElem? (i := 58) rfl))) (by decide) (backOf (W := 1) (rm7e2 l Z a0 hw [] p3 w_OPEN h0 n0 Z0 S_w_OPEN hc84_2 hc84_5 hc84_8) hZ (hw _ (List.mem_of_getElem? (i := 58) rfl)) (hw _ (List.mem_of_getElem? (i := 57) rfl)) (by decide) (by decide)) (g := (mkF m 84 #[.val (.int p0), .val (.int p1), .val (.int p2), .val (.int p3), .val (.ref t), .val (.long nn), .second, .unset, .unset, .unset, .unset] [(.int p3), (.ref t)])) rfl (by rw [hml]; rfl) (argsL := [(.int p3)]) (rest := [(.ref t)]) (lenOf pd_4 rfl) rfl (by show 2 * 0 + _ ≤ _; exact Nat.le_of_eq rfl) (hb hby at_84) (fun _ _ => ⟨rfl, e0, (by decide : 3 + 0 ≤ _), (by decide : 9 + 0 ≤ _)⟩)
          dsimp only [Pt.U, Pt.locs, Pt.cells, Pt.slots] at X9 l9 y9 z9 st9 hQ9
          subst l9 y9 z9
          obtain ⟨rfl, N9q, hh9⟩ := hQ9
          have N9 := Fr.app N0 N9q
          refine own_of st9 ?_
          show own_Out p e below _ (T9.setTop (mkF m 87 #[.val (.int p0), .val (.int p1), .val (.int p2), .val (.int p3), .val (.ref t), .val (.long nn), .second, .unset, .unset, .unset, .unset] [(.ref w_OPEN), (.ref t)]))
          obtain ⟨cq10, kq10, q10a, q10b, q10c⟩ := isOf hZ hh9 E_t
          obtain ⟨_, _, ⟨T10, L10, k10, n10⟩, -, X10, ⟨Lc10, hQ10, l10, y10, z10⟩, st10⟩ := X9.virtualBack hx (y := (⟨"com/example/fides/fides/command/perf/Tally", "add", "(Lcom/example/fides/fides/command/perf/Outcome;)V"⟩ : MethodName)) (z := (⟨"com/example/fides/fides/command/perf/Tally", "add", "(Lcom/example/fides/fides/command/perf/Outcome;)V"⟩ : MethodName)) hown (mvT hZ (hw _ (List.mem_of_getElem? (i := 59) rfl))) (mvT hZ (hw _ (List.mem_of_getElem? (i := 60) rfl))) (notFace_of_selects (args := #[]) (mvT hZ (hw _ (List.mem_of_getElem? (i := 62) rfl)))) (mvT hZ (hw _ (List.mem_of_getElem? (i := 62) rfl))) (mvT hZ (hw _ (List.mem_of_getElem? (i := 61) rfl))) (by decide) (backOf (W := 0) (rm8e2 l Z a0 hw [] t w_OPEN b k x0 x1 x2 x3 h0 n0 Z0 F_t V E_w_OPEN F_w_OPEN g_b ntb n_w_OPEN) hZ (hw _ (List.mem_of_getElem? (i := 63) rfl)) (hw _ (List.mem_of_getElem? (i := 2) rfl)) (by decide) (by decide)) q10a q10c (g := (mkF m 87 #[.val (.int p0), .val (.int p1), .val (.int p2), .val (.int p3), .val (.ref t), .val (.long nn), .second, .unset, .unset, .unset, .unset] [(.ref w_OPEN), (.ref t)])) rfl (by rw [hml]; rfl) (Steps.refl _) (argsL := [(.ref w_OPEN)]) (rest := []) (lenOf pd_5 rfl) rfl (by show 2 * 0 + _ ≤ _; exact Nat.le_of_eq rfl) (hb hby at_87) (fun _ _ => ⟨rfl, hh9, (by decide : 3 + 0 ≤ _), (by decide : 9 + 0 ≤ _)⟩)
          dsimp only [Pt.U, Pt.locs, Pt.cells, Pt.slots] at X10 l10 y10 z10 st10 hQ10
          subst l10 y10 z10
          obtain ⟨rfl, N10q, K10, V10⟩ := hQ10
          have N10 := Fr.app N9 N10q
          have E_t_K10 := E_t.keep K10
          have F_t_counts_K10 := F_t.keep K10 (ninS ntb nin0)
          have S_com_example_fides_fides_command_perf_Outcome_COMMITTED_K10 := own_staK1 S_w_COMMITTED K10 (own_plainV V)
          have E_w_COMMITTED_K10 := E_w_COMMITTED.keep K10
          have F_w_COMMITTED_ordinal_K10 := F_w_COMMITTED.keep K10 (ninS n_w_COMMITTED nin0)
          have S_com_example_fides_fides_command_perf_Outcome_ABORTED_K10 := own_staK1 S_w_ABORTED K10 (own_plainV V)
          have E_w_ABORTED_K10 := E_w_ABORTED.keep K10
          have F_w_ABORTED_ordinal_K10 := F_w_ABORTED.keep K10 (ninS n_w_ABORTED nin0)
          have S_com_example_fides_fides_command_perf_Outcome_OPEN_K10 := own_staK1 S_w_OPEN K10 (own_plainV V)
          have E_w_OPEN_K10 := E_w_OPEN.keep K10
          have F_w_OPEN_ordinal_K10 := F_w_OPEN.keep K10 (ninS n_w_OPEN nin0)
          have S_com_example_fides_fides_command_perf_Outcome_TIMED_OUT_K10 := own_staK1 S_w_TIMED_OUT K10 (own_plainV V)
          have E_w_TIMED_OUT_K10 := E_w_TIMED_OUT.keep K10
          have F_w_TIMED_OUT_ordinal_K10 := F_w_TIMED_OUT.keep K10 (ninS n_w_TIMED_OUT nin0)
          have Zl10 : n0 ≤ T10.heap.size := Nat.le_trans Z0 K10.1
          refine own_of (fun _ k => st10.trans k) ?_
          show own_Out p e below _ (T10.setTop (mkF m 90 #[.val (.int p0), .val (.int p1), .val (.int p2), .val (.int p3), .val (.ref t), .val (.long nn), .second, .unset, .unset, .unset, .unset] []))
          refine own_of (fun _ k => XS.lload X10.here hx rfl (hb hby at_90) rfl k) ?_
          show own_Out p e below _ (T10.setTop (mkF m 92 #[.val (.int p0), .val (.int p1), .val (.int p2), .val (.int p3), .val (.ref t), .val (.long nn), .second, .unset, .unset, .unset, .unset] [(.long nn)]))
          refine own_of (fun _ k => XS.lconst X10.here hx rfl (hb hby at_92) k) ?_
          show own_Out p e below _ (T10.setTop (mkF m 93 #[.val (.int p0), .val (.int p1), .val (.int p2), .val (.int p3), .val (.ref t), .val (.long nn), .second, .unset, .unset, .unset, .unset] [(.long (1 : Int64)), (.long nn)]))
          refine own_of (fun _ k => XS.ladd X10.here hx rfl (hb hby at_93) rfl k) ?_
          show own_Out p e below _ (T10.setTop (mkF m 94 #[.val (.int p0), .val (.int p1), .val (.int p2), .val (.int p3), .val (.ref t), .val (.long nn), .second, .unset, .unset, .unset, .unset] [(.long (nn + (1 : Int64)))]))
          refine own_of (fun _ k => XS.lstore X10.here hx rfl (hb hby at_94) rfl (l' := #[.val (.int p0), .val (.int p1), .val (.int p2), .val (.int p3), .val (.ref t), .val (.long (nn + (1 : Int64))), .second, .unset, .unset, .unset, .unset]) rfl k) ?_
          show own_Out p e below _ (T10.setTop (mkF m 96 #[.val (.int p0), .val (.int p1), .val (.int p2), .val (.int p3), .val (.ref t), .val (.long (nn + (1 : Int64))), .second, .unset, .unset, .unset, .unset] []))
          exact sg96 (Q := Q) p0 p1 p2 p3 t b k x0 x1 (x2 + (1 : Int64)) x3 (nn + (1 : Int64)) w_COMMITTED w_ABORTED w_OPEN w_TIMED_OUT T10.heap n0 X10 hx hZ hw hby hml hown hret hlk hQ rfl Zl10 N10 E_t_K10 F_t_counts_K10 V10 g_b ntb S_com_example_fides_fides_command_perf_Outcome_COMMITTED_K10 S_com_example_fides_fides_command_perf_Outcome_ABORTED_K10 S_com_example_fides_fides_command_perf_Outcome_OPEN_K10 S_com_example_fides_fides_command_perf_Outcome_TIMED_OUT_K10 E_w_COMMITTED_K10 E_w_ABORTED_K10 E_w_OPEN_K10 E_w_TIMED_OUT_K10 F_w_COMMITTED_ordinal_K10 F_w_ABORTED_ordinal_K10 F_w_OPEN_ordinal_K10 F_w_TIMED_OUT_ordinal_K10 n_w_COMMITTED n_w_ABORTED n_w_OPEN n_w_TIMED_OUT (own_n2 hsum)
        · skip
          obtain ⟨_, _, ⟨T11, L11, k11, n11⟩, -, X11, ⟨Lc11, hQ11, l11, y11, z11⟩, st11⟩ := Jvm.LawKit.callS X0 hx (y := (⟨"com/example/fides/fides/command/perf/TallyTotalPinLaw", "pick", "(I)Lcom/example/fides/fides/command/perf/Outcome;"⟩ : MethodName)) hown (mvT hZ (hw _ (List.mem_of_getElem? (i := 55) rfl))) (mvT hZ (hw _ (List.mem_of_getElem? (i := 56) rfl))) (mvT hZ (hw _ (List.mem_of_getElem? (i := 57) rfl))) (mvT hZ (hw _ (List.mem_of_getElem? (i := 58) rfl))) (by decide) (backOf (W := 1) (rm7e3 l Z a0 hw [] p3 w_TIMED_OUT h0 n0 Z0 S_w_TIMED_OUT hc84_2 hc84_5 hc84_8) hZ (hw _ (List.mem_of_getElem? (i := 58) rfl)) (hw _ (List.mem_of_getElem? (i := 57) rfl)) (by decide) (by decide)) (g := (mkF m 84 #[.val (.int p0), .val (.int p1), .val (.int p2), .val (.int p3), .val (.ref t), .val (.long nn), .second, .unset, .unset, .unset, .unset] [(.int p3), (.ref t)])) rfl (by rw [hml]; rfl) (argsL := [(.int p3)]) (rest := [(.ref t)]) (lenOf pd_4 rfl) rfl (by show 2 * 0 + _ ≤ _; exact Nat.le_of_eq rfl) (hb hby at_84) (fun _ _ => ⟨rfl, e0, (by decide : 3 + 0 ≤ _), (by decide : 9 + 0 ≤ _)⟩)
          dsimp only [Pt.U, Pt.locs, Pt.cells, Pt.slots] at X11 l11 y11 z11 st11 hQ11
          subst l11 y11 z11
          obtain ⟨rfl, N11q, hh11⟩ := hQ11
          have N11 := Fr.app N0 N11q
          refine own_of st11 ?_
          show own_Out p e below _ (T11.setTop (mkF m 87 #[.val (.int p0), .val (.int p1), .val (.int p2), .val (.int p3), .val (.ref t), .val (.long nn), .second, .unset, .unset, .unset, .unset] [(.ref w_TIMED_OUT), (.ref t)]))
          obtain ⟨cq12, kq12, q12a, q12b, q12c⟩ := isOf hZ hh11 E_t
          obtain ⟨_, _, ⟨T12, L12, k12, n12⟩, -, X12, ⟨Lc12, hQ12, l12, y12, z12⟩, st12⟩ := X11.virtualBack hx (y := (⟨"com/example/fides/fides/command/perf/Tally", "add", "(Lcom/example/fides/fides/command/perf/Outcome;)V"⟩ : MethodName)) (z := (⟨"com/example/fides/fides/command/perf/Tally", "add", "(Lcom/example/fides/fides/command/perf/Outcome;)V"⟩ : MethodName)) hown (mvT hZ (hw _ (List.mem_of_getElem? (i := 59) rfl))) (mvT hZ (hw _ (List.mem_of_getElem? (i := 60) rfl))) (notFace_of_selects (args := #[]) (mvT hZ (hw _ (List.mem_of_getElem? (i := 62) rfl)))) (mvT hZ (hw _ (List.mem_of_getElem? (i := 62) rfl))) (mvT hZ (hw _ (List.mem_of_getElem? (i := 61) rfl))) (by decide) (backOf (W := 0) (rm8e3 l Z a0 hw [] t w_TIMED_OUT b k x0 x1 x2 x3 h0 n0 Z0 F_t V E_w_TIMED_OUT F_w_TIMED_OUT g_b ntb n_w_TIMED_OUT) hZ (hw _ (List.mem_of_getElem? (i := 63) rfl)) (hw _ (List.mem_of_getElem? (i := 2) rfl)) (by decide) (by decide)) q12a q12c (g := (mkF m 87 #[.val (.int p0), .val (.int p1), .val (.int p2), .val (.int p3), .val (.ref t), .val (.long nn), .second, .unset, .unset, .unset, .unset] [(.ref w_TIMED_OUT), (.ref t)])) rfl (by rw [hml]; rfl) (Steps.refl _) (argsL := [(.ref w_TIMED_OUT)]) (rest := []) (lenOf pd_5 rfl) rfl (by show 2 * 0 + _ ≤ _; exact Nat.le_of_eq rfl) (hb hby at_87) (fun _ _ => ⟨rfl, hh11, (by decide : 3 + 0 ≤ _), (by decide : 9 + 0 ≤ _)⟩)
          dsimp only [Pt.U, Pt.locs, Pt.cells, Pt.slots] at X12 l12 y12 z12 st12 hQ12
          subst l12 y12 z12
          obtain ⟨rfl, N12q, K12, V12⟩ := hQ12
          have N12 := Fr.app N11 N12q
          have E_t_K12 := E_t.keep K12
          have F_t_counts_K12 := F_t.keep K12 (ninS ntb nin0)
          have S_com_example_fides_fides_command_perf_Outcome_COMMITTED_K12 := own_staK1 S_w_COMMITTED K12 (own_plainV V)
          have E_w_COMMITTED_K12 := E_w_COMMITTED.keep K12
          have F_w_COMMITTED_ordinal_K12 := F_w_COMMITTED.keep K12 (ninS n_w_COMMITTED nin0)
          have S_com_example_fides_fides_command_perf_Outcome_ABORTED_K12 := own_staK1 S_w_ABORTED K12 (own_plainV V)
          have E_w_ABORTED_K12 := E_w_ABORTED.keep K12
          have F_w_ABORTED_ordinal_K12 := F_w_ABORTED.keep K12 (ninS n_w_ABORTED nin0)
          have S_com_example_fides_fides_command_perf_Outcome_OPEN_K12 := own_staK1 S_w_OPEN K12 (own_plainV V)
          have E_w_OPEN_K12 := E_w_OPEN.keep K12
          have F_w_OPEN_ordinal_K12 := F_w_OPEN.keep K12 (ninS n_w_OPEN nin0)
          have S_com_example_fides_fides_command_perf_Outcome_TIMED_OUT_K12 := own_staK1 S_w_TIMED_OUT K12 (own_plainV V)
          have E_w_TIMED_OUT_K12 := E_w_TIMED_OUT.keep K12
          have F_w_TIMED_OUT_ordinal_K12 := F_w_TIMED_OUT.keep K12 (ninS n_w_TIMED_OUT nin0)
          have Zl12 : n0 ≤ T12.heap.size := Nat.le_trans Z0 K12.1
          refine own_of (fun _ k => st12.trans k) ?_
          show own_Out p e below _ (T12.setTop (mkF m 90 #[.val (.int p0), .val (.int p1), .val (.int p2), .val (.int p3), .val (.ref t), .val (.long nn), .second, .unset, .unset, .unset, .unset] []))
          refine own_of (fun _ k => XS.lload X12.here hx rfl (hb hby at_90) rfl k) ?_
          show own_Out p e below _ (T12.setTop (mkF m 92 #[.val (.int p0), .val (.int p1), .val (.int p2), .val (.int p3), .val (.ref t), .val (.long nn), .second, .unset, .unset, .unset, .unset] [(.long nn)]))
          refine own_of (fun _ k => XS.lconst X12.here hx rfl (hb hby at_92) k) ?_
          show own_Out p e below _ (T12.setTop (mkF m 93 #[.val (.int p0), .val (.int p1), .val (.int p2), .val (.int p3), .val (.ref t), .val (.long nn), .second, .unset, .unset, .unset, .unset] [(.long (1 : Int64)), (.long nn)]))
          refine own_of (fun _ k => XS.ladd X12.here hx rfl (hb hby at_93) rfl k) ?_
          show own_Out p e below _ (T12.setTop (mkF m 94 #[.val (.int p0), .val (.int p1), .val (.int p2), .val (.int p3), .val (.ref t), .val (.long nn), .second, .unset, .unset, .unset, .unset] [(.long (nn + (1 : Int64)))]))
          refine own_of (fun _ k => XS.lstore X12.here hx rfl (hb hby at_94) rfl (l' := #[.val (.int p0), .val (.int p1), .val (.int p2), .val (.int p3), .val (.ref t), .val (.long (nn + (1 : Int64))), .second, .unset, .unset, .unset, .unset]) rfl k) ?_
          show own_Out p e below _ (T12.setTop (mkF m 96 #[.val (.int p0), .val (.int p1), .val (.int p2), .val (.int p3), .val (.ref t), .val (.long (nn + (1 : Int64))), .second, .unset, .unset, .unset, .unset] []))
          exact sg96 (Q := Q) p0 p1 p2 p3 t b k x0 x1 x2 (x3 + (1 : Int64)) (nn + (1 : Int64)) w_COMMITTED w_ABORTED w_OPEN w_TIMED_OUT T12.heap n0 X12 hx hZ hw hby hml hown hret hlk hQ rfl Zl12 N12 E_t_K12 F_t_counts_K12 V12 g_b ntb S_com_example_fides_fides_command_perf_Outcome_COMMITTED_K12 S_com_example_fides_fides_command_perf_Outcome_ABORTED_K12 S_com_example_fides_fides_command_perf_Outcome_OPEN_K12 S_com_example_fides_fides_command_perf_Outcome_TIMED_OUT_K12 E_w_COMMITTED_K12 E_w_ABORTED_K12 E_w_OPEN_K12 E_w_TIMED_OUT_K12 F_w_COMMITTED_ordinal_K12 F_w_ABORTED_ordinal_K12 F_w_OPEN_ordinal_K12 F_w_TIMED_OUT_ordinal_K12 n_w_COMMITTED n_w_ABORTED n_w_OPEN n_w_TIMED_OUT (own_n3 hsum)
set_option maxRecDepth 65536 in
set_option maxHeartbeats 40000000 in
theorem sg54 {p : Program} {l : Launch} {e : Env} {s : State} {m : MethodId} {args : Array Value} {below : List Frame} {meth : Method} {c : Code} {T0 : State} {locs : List Loc} {Z : State} {a0 : Array Value} {Q : Option Value → Heap → List Loc → Prop} (p0 : Int32) (p1 : Int32) (p2 : Int32) (p3 : Int32) (t : Addr) (b : Addr) (k : ClassId) (x0 : Int64) (x1 : Int64) (x2 : Int64) (x3 : Int64) (nn : Int64) (w_COMMITTED : Addr) (w_ABORTED : Addr) (w_OPEN : Addr) (w_TIMED_OUT : Addr) (h0 : Heap) (n0 : Nat)
    (X0 : Stand p l e room_1 s m args below meth c T0 locs 3 9) (hx : p.tables.exec = Jvm.exec) (hZ : Z.Warmed39 s.vm) (hw : ∀ d ∈ tables_1, d.before a0 Z = true) (hby : c.code = code) (hml : c.maxLocals = 11) (hown : s.vm.findClass "com/example/fides/fides/command/perf/TallyTotalPinLaw" = some m.cls) (hret : meth.sig.returnType = ret) (hlk : meth.locks = false)
    (hQ : ∀ h L, Fr n0 L → Q (some (.int 1)) h L) (e0 : T0.heap = h0) (Z0 : n0 ≤ h0.size) (N0 : Fr n0 locs) (E_t : Exa Z h0 t "com/example/fides/fides/command/perf/Tally") (F_t : Fld Z h0 t "com/example/fides/fides/command/perf/Tally" "counts" "[J" (.ref b)) (V : Arv Z h0 b k .long (4 : Int32) [(.long x0), (.long x1), (.long x2), (.long x3)] (.long (0 : Int64))) (g_b : n0 ≤ b) (ntb : t ≠ b) (S_w_COMMITTED : Sta Z h0 "com/example/fides/fides/command/perf/Outcome" "COMMITTED" "Lcom/example/fides/fides/command/perf/Outcome;" (.ref w_COMMITTED)) (S_w_ABORTED : Sta Z h0 "com/example/fides/fides/command/perf/Outcome" "ABORTED" "Lcom/example/fides/fides/command/perf/Outcome;" (.ref w_ABORTED)) (S_w_OPEN : Sta Z h0 "com/example/fides/fides/command/perf/Outcome" "OPEN" "Lcom/example/fides/fides/command/perf/Outcome;" (.ref w_OPEN)) (S_w_TIMED_OUT : Sta Z h0 "com/example/fides/fides/command/perf/Outcome" "TIMED_OUT" "Lcom/example/fides/fides/command/perf/Outcome;" (.ref w_TIMED_OUT)) (E_w_COMMITTED : Exa Z h0 w_COMMITTED "com/example/fides/fides/command/perf/Outcome") (E_w_ABORTED : Exa Z h0 w_ABORTED "com/example/fides/fides/command/perf/Outcome") (E_w_OPEN : Exa Z h0 w_OPEN "com/example/fides/fides/command/perf/Outcome") (E_w_TIMED_OUT : Exa Z h0 w_TIMED_OUT "com/example/fides/fides/command/perf/Outcome") (F_w_COMMITTED : Fld Z h0 w_COMMITTED "java/lang/Enum" "ordinal" "I" (.int (0 : Int32))) (F_w_ABORTED : Fld Z h0 w_ABORTED "java/lang/Enum" "ordinal" "I" (.int (1 : Int32))) (F_w_OPEN : Fld Z h0 w_OPEN "java/lang/Enum" "ordinal" "I" (.int (2 : Int32))) (F_w_TIMED_OUT : Fld Z h0 w_TIMED_OUT "java/lang/Enum" "ordinal" "I" (.int (3 : Int32))) (n_w_COMMITTED : w_COMMITTED ≠ b) (n_w_ABORTED : w_ABORTED ≠ b) (n_w_OPEN : w_OPEN ≠ b) (n_w_TIMED_OUT : w_TIMED_OUT ≠ b) (hsum : (((x0 + x1) + x2) + x3) = nn) :
    own_Out p e below (fun o U' => ∃ v L, o = .returned v ∧ Q v U'.heap L ∧ FrameEnd s o U' L 3 9) (T0.setTop (mkF m 54 #[.val (.int p0), .val (.int p1), .val (.int p2), .val (.int p3), .val (.ref t), .val (.long nn), .second, .unset, .unset, .unset, .unset] [])) := by
  show own_Out p e below _ (T0.setTop (mkF m 54 #[.val (.int p0), .val (.int p1), .val (.int p2), .val (.int p3), .val (.ref t), .val (.long nn), .second, .unset, .unset, .unset, .unset] []))
  refine own_of (fun _ k => XS.iloadN X0.here hx rfl (hb hby at_54) rfl k) ?_
  show own_Out p e below _ (T0.setTop (mkF m 55 #[.val (.int p0), .val (.int p1), .val (.int p2), .val (.int p3), .val (.ref t), .val (.long nn), .second, .unset, .unset, .unset, .unset] [(.int p2)]))
  refine own_of (fun _ k => XS.iconst X0.here hx rfl (hb hby at_55) k) ?_
  show own_Out p e below _ (T0.setTop (mkF m 56 #[.val (.int p0), .val (.int p1), .val (.int p2), .val (.int p3), .val (.ref t), .val (.long nn), .second, .unset, .unset, .unset, .unset] [(.int (4 : Int32)), (.int p2)]))
  refine own_of (fun _ k => XS.iand X0.here hx rfl (hb hby at_56) rfl k) ?_
  show own_Out p e below _ (T0.setTop (mkF m 57 #[.val (.int p0), .val (.int p1), .val (.int p2), .val (.int p3), .val (.ref t), .val (.long nn), .second, .unset, .unset, .unset, .unset] [(.int (p2 &&& (4 : Int32)))]))
  by_cases hc57_1 : (p2 &&& (4 : Int32)) = (0 : Int32)
  · skip
    refine own_of (fun _ k => XS.ifYes X0.here hx rfl (pc0 := 57) (pc' := 75) rfl (hb hby at_57) rfl ((if0 _ _).trans (teq hc57_1).1) (by decide) (by decide) k) ?_
    show own_Out p e below _ (T0.setTop (mkF m 75 #[.val (.int p0), .val (.int p1), .val (.int p2), .val (.int p3), .val (.ref t), .val (.long nn), .second, .unset, .unset, .unset, .unset] []))
    exact sg75 (Q := Q) p0 p1 p2 p3 t b k x0 x1 x2 x3 nn w_COMMITTED w_ABORTED w_OPEN w_TIMED_OUT h0 n0 X0 hx hZ hw hby hml hown hret hlk hQ e0 Z0 N0 E_t F_t V g_b ntb S_w_COMMITTED S_w_ABORTED S_w_OPEN S_w_TIMED_OUT E_w_COMMITTED E_w_ABORTED E_w_OPEN E_w_TIMED_OUT F_w_COMMITTED F_w_ABORTED F_w_OPEN F_w_TIMED_OUT n_w_COMMITTED n_w_ABORTED n_w_OPEN n_w_TIMED_OUT hsum
  · skip
    refine own_of (fun _ k => XS.ifNo X0.here hx rfl (hb hby at_57) rfl ((if0 _ _).trans (feq hc57_1).1) k) ?_
    show own_Out p e below _ (T0.setTop (mkF m 60 #[.val (.int p0), .val (.int p1), .val (.int p2), .val (.int p3), .val (.ref t), .val (.long nn), .second, .unset, .unset, .unset, .unset] []))
    refine own_of (fun _ k => XS.aload X0.here hx rfl (hb hby at_60) rfl rfl k) ?_
    show own_Out p e below _ (T0.setTop (mkF m 62 #[.val (.int p0), .val (.int p1), .val (.int p2), .val (.int p3), .val (.ref t), .val (.long nn), .second, .unset, .unset, .unset, .unset] [(.ref t)]))
    refine own_of (fun _ k => XS.iloadN X0.here hx rfl (hb hby at_62) rfl k) ?_
    show own_Out p e below _ (T0.setTop (mkF m 63 #[.val (.int p0), .val (.int p1), .val (.int p2), .val (.int p3), .val (.ref t), .val (.long nn), .second, .unset, .unset, .unset, .unset] [(.int p2), (.ref t)]))
    by_cases hc63_2 : (p2 &&& (3 : Int32)) = (0 : Int32)
    · skip
      obtain ⟨_, _, ⟨T3, L3, k3, n3⟩, -, X3, ⟨Lc3, hQ3, l3, y3, z3⟩, st3⟩ := Jvm.LawKit.callS X0 hx (y := (⟨"com/example/fides/fides/command/perf/TallyTotalPinLaw", "pick", "(I)Lcom/example/fides/fides/command/perf/Outcome;"⟩ : MethodName)) hown (mvT hZ (hw _ (List.mem_of_getElem? (i := 55) rfl))) (mvT hZ (hw _ (List.mem_of_getElem? (i := 56) rfl))) (mvT hZ (hw _ (List.mem_of_getElem? (i := 57) rfl))) (mvT hZ (hw _ (List.mem_of_getElem? (i := 58) rfl))) (by decide) (backOf (W := 1) (rm7e0 l Z a0 hw [] p2 w_COMMITTED h0 n0 Z0 S_w_COMMITTED hc63_2) hZ (hw _ (List.mem_of_getElem? (i := 58) rfl)) (hw _ (List.mem_of_getElem? (i := 57) rfl)) (by decide) (by decide)) (g := (mkF m 63 #[.val (.int p0), .val (.int p1), .val (.int p2), .val (.int p3), .val (.ref t), .val (.long nn), .second, .unset, .unset, .unset, .unset] [(.int p2), (.ref t)])) rfl (by rw [hml]; rfl) (argsL := [(.int p2)]) (rest := [(.ref t)]) (lenOf pd_4 rfl) rfl (by show 2 * 0 + _ ≤ _; exact Nat.le_of_eq rfl) (hb hby at_63) (fun _ _ => ⟨rfl, e0, (by decide : 3 + 0 ≤ _), (by decide : 9 + 0 ≤ _)⟩)
      dsimp only [Pt.U, Pt.locs, Pt.cells, Pt.slots] at X3 l3 y3 z3 st3 hQ3
      subst l3 y3 z3
      obtain ⟨rfl, N3q, hh3⟩ := hQ3
      have N3 := Fr.app N0 N3q
      refine own_of st3 ?_
      show own_Out p e below _ (T3.setTop (mkF m 66 #[.val (.int p0), .val (.int p1), .val (.int p2), .val (.int p3), .val (.ref t), .val (.long nn), .second, .unset, .unset, .unset, .unset] [(.ref w_COMMITTED), (.ref t)]))
      obtain ⟨cq4, kq4, q4a, q4b, q4c⟩ := isOf hZ hh3 E_t
      obtain ⟨_, _, ⟨T4, L4, k4, n4⟩, -, X4, ⟨Lc4, hQ4, l4, y4, z4⟩, st4⟩ := X3.virtualBack hx (y := (⟨"com/example/fides/fides/command/perf/Tally", "add", "(Lcom/example/fides/fides/command/perf/Outcome;)V"⟩ : MethodName)) (z := (⟨"com/example/fides/fides/command/perf/Tally", "add", "(Lcom/example/fides/fides/command/perf/Outcome;)V"⟩ : MethodName)) hown (mvT hZ (hw _ (List.mem_of_getElem? (i := 59) rfl))) (mvT hZ (hw _ (List.mem_of_getElem? (i := 60) rfl))) (notFace_of_selects (args := #[]) (mvT hZ (hw _ (List.mem_of_getElem? (i := 62) rfl)))) (mvT hZ (hw _ (List.mem_of_getElem? (i := 62) rfl))) (mvT hZ (hw _ (List.mem_of_getElem? (i := 61) rfl))) (by decide) (backOf (W := 0) (rm8e0 l Z a0 hw [] t w_COMMITTED b k x0 x1 x2 x3 h0 n0 Z0 F_t V E_w_COMMITTED F_w_COMMITTED g_b ntb n_w_COMMITTED) hZ (hw _ (List.mem_of_getElem? (i := 63) rfl)) (hw _ (List.mem_of_getElem? (i := 2) rfl)) (by decide) (by decide)) q4a q4c (g := (mkF m 66 #[.val (.int p0), .val (.int p1), .val (.int p2), .val (.int p3), .val (.ref t), .val (.long nn), .second, .unset, .unset, .unset, .unset] [(.ref w_COMMITTED), (.ref t)])) rfl (by rw [hml]; rfl) (Steps.refl _) (argsL := [(.ref w_COMMITTED)]) (rest := []) (lenOf pd_5 rfl) rfl (by show 2 * 0 + _ ≤ _; exact Nat.le_of_eq rfl) (hb hby at_66) (fun _ _ => ⟨rfl, hh3, (by decide : 3 + 0 ≤ _), (by decide : 9 + 0 ≤ _)⟩)
      dsimp only [Pt.U, Pt.locs, Pt.cells, Pt.slots] at X4 l4 y4 z4 st4 hQ4
      subst l4 y4 z4
      obtain ⟨rfl, N4q, K4, V4⟩ := hQ4
      have N4 := Fr.app N3 N4q
      have E_t_K4 := E_t.keep K4
      have F_t_counts_K4 := F_t.keep K4 (ninS ntb nin0)
      have S_com_example_fides_fides_command_perf_Outcome_COMMITTED_K4 := own_staK1 S_w_COMMITTED K4 (own_plainV V)
      have E_w_COMMITTED_K4 := E_w_COMMITTED.keep K4
      have F_w_COMMITTED_ordinal_K4 := F_w_COMMITTED.keep K4 (ninS n_w_COMMITTED nin0)
      have S_com_example_fides_fides_command_perf_Outcome_ABORTED_K4 := own_staK1 S_w_ABORTED K4 (own_plainV V)
      have E_w_ABORTED_K4 := E_w_ABORTED.keep K4
      have F_w_ABORTED_ordinal_K4 := F_w_ABORTED.keep K4 (ninS n_w_ABORTED nin0)
      have S_com_example_fides_fides_command_perf_Outcome_OPEN_K4 := own_staK1 S_w_OPEN K4 (own_plainV V)
      have E_w_OPEN_K4 := E_w_OPEN.keep K4
      have F_w_OPEN_ordinal_K4 := F_w_OPEN.keep K4 (ninS n_w_OPEN nin0)
      have S_com_example_fides_fides_command_perf_Outcome_TIMED_OUT_K4 := own_staK1 S_w_TIMED_OUT K4 (own_plainV V)
      have E_w_TIMED_OUT_K4 := E_w_TIMED_OUT.keep K4
      have F_w_TIMED_OUT_ordinal_K4 := F_w_TIMED_OUT.keep K4 (ninS n_w_TIMED_OUT nin0)
      have Zl4 : n0 ≤ T4.heap.size := Nat.le_trans Z0 K4.1
      refine own_of (fun _ k => st4.trans k) ?_
      show own_Out p e below _ (T4.setTop (mkF m 69 #[.val (.int p0), .val (.int p1), .val (.int p2), .val (.int p3), .val (.ref t), .val (.long nn), .second, .unset, .unset, .unset, .unset] []))
      refine own_of (fun _ k => XS.lload X4.here hx rfl (hb hby at_69) rfl k) ?_
      show own_Out p e below _ (T4.setTop (mkF m 71 #[.val (.int p0), .val (.int p1), .val (.int p2), .val (.int p3), .val (.ref t), .val (.long nn), .second, .unset, .unset, .unset, .unset] [(.long nn)]))
      refine own_of (fun _ k => XS.lconst X4.here hx rfl (hb hby at_71) k) ?_
      show own_Out p e below _ (T4.setTop (mkF m 72 #[.val (.int p0), .val (.int p1), .val (.int p2), .val (.int p3), .val (.ref t), .val (.long nn), .second, .unset, .unset, .unset, .unset] [(.long (1 : Int64)), (.long nn)]))
      refine own_of (fun _ k => XS.ladd X4.here hx rfl (hb hby at_72) rfl k) ?_
      show own_Out p e below _ (T4.setTop (mkF m 73 #[.val (.int p0), .val (.int p1), .val (.int p2), .val (.int p3), .val (.ref t), .val (.long nn), .second, .unset, .unset, .unset, .unset] [(.long (nn + (1 : Int64)))]))
      refine own_of (fun _ k => XS.lstore X4.here hx rfl (hb hby at_73) rfl (l' := #[.val (.int p0), .val (.int p1), .val (.int p2), .val (.int p3), .val (.ref t), .val (.long (nn + (1 : Int64))), .second, .unset, .unset, .unset, .unset]) rfl k) ?_
      show own_Out p e below _ (T4.setTop (mkF m 75 #[.val (.int p0), .val (.int p1), .val (.int p2), .val (.int p3), .val (.ref t), .val (.long (nn + (1 : Int64))), .second, .unset, .unset, .unset, .unset] []))
      exact sg75 (Q := Q) p0 p1 p2 p3 t b k (x0 + (1 : Int64)) x1 x2 x3 (nn + (1 : Int64)) w_COMMITTED w_ABORTED w_OPEN w_TIMED_OUT T4.heap n0 X4 hx hZ hw hby hml hown hret hlk hQ rfl Zl4 N4 E_t_K4 F_t_counts_K4 V4 g_b ntb S_com_example_fides_fides_command_perf_Outcome_COMMITTED_K4 S_com_example_fides_fides_command_perf_Outcome_ABORTED_K4 S_com_example_fides_fides_command_perf_Outcome_OPEN_K4 S_com_example_fides_fides_command_perf_Outcome_TIMED_OUT_K4 E_w_COMMITTED_K4 E_w_ABORTED_K4 E_w_OPEN_K4 E_w_TIMED_OUT_K4 F_w_COMMITTED_ordinal_K4 F_w_ABORTED_ordinal_K4 F_w_OPEN_ordinal_K4 F_w_TIMED_OUT_ordinal_K4 n_w_COMMITTED n_w_ABORTED n_w_OPEN n_w_TIMED_OUT (own_n0 hsum)
    · skip
      by_cases hc63_5 : (p2 &&& (3 : Int32)) = (1 : Int32)
      · skip
        obtain ⟨_, _, ⟨T6, L6, k6, n6⟩, -, X6, ⟨Lc6, hQ6, l6, y6, z6⟩, st6⟩ := Jvm.LawKit.callS X0 hx (y := (⟨"com/example/fides/fides/command/perf/TallyTotalPinLaw", "pick", "(I)Lcom/example/fides/fides/command/perf/Outcome;"⟩ : MethodName)) hown (mvT hZ (hw _ (List.mem_of_getElem? (i := 55) rfl))) (mvT hZ (hw _ (List.mem_of_getElem? (i := 56) rfl))) (mvT hZ (hw _ (List.mem_of_getElem? (i := 57) rfl))) (mvT hZ (hw _ (List.mem_of_getElem? (i := 58) rfl))) (by decide) (backOf (W := 1) (rm7e1 l Z a0 hw [] p2 w_ABORTED h0 n0 Z0 S_w_ABORTED hc63_2 hc63_5) hZ (hw _ (List.mem_of_getElem? (i := 58) rfl)) (hw _ (List.mem_of_getElem? (i := 57) rfl)) (by decide) (by decide)) (g := (mkF m 63 #[.val (.int p0), .val (.int p1), .val (.int p2), .val (.int p3), .val (.ref t), .val (.long nn), .second, .unset, .unset, .unset, .unset] [(.int p2), (.ref t)])) rfl (by rw [hml]; rfl) (argsL := [(.int p2)]) (rest := [(.ref t)]) (lenOf pd_4 rfl) rfl (by show 2 * 0 + _ ≤ _; exact Nat.le_of_eq rfl) (hb hby at_63) (fun _ _ => ⟨rfl, e0, (by decide : 3 + 0 ≤ _), (by decide : 9 + 0 ≤ _)⟩)
        dsimp only [Pt.U, Pt.locs, Pt.cells, Pt.slots] at X6 l6 y6 z6 st6 hQ6
        subst l6 y6 z6
        obtain ⟨rfl, N6q, hh6⟩ := hQ6
        have N6 := Fr.app N0 N6q
        refine own_of st6 ?_
        show own_Out p e below _ (T6.setTop (mkF m 66 #[.val (.int p0), .val (.int p1), .val (.int p2), .val (.int p3), .val (.ref t), .val (.long nn), .second, .unset, .unset, .unset, .unset] [(.ref w_ABORTED), (.ref t)]))
        obtain ⟨cq7, kq7, q7a, q7b, q7c⟩ := isOf hZ hh6 E_t
        obtain ⟨_, _, ⟨T7, L7, k7, n7⟩, -, X7, ⟨Lc7, hQ7, l7, y7, z7⟩, st7⟩ := X6.virtualBack hx (y := (⟨"com/example/fides/fides/command/perf/Tally", "add", "(Lcom/example/fides/fides/command/perf/Outcome;)V"⟩ : MethodName)) (z := (⟨"com/example/fides/fides/command/perf/Tally", "add", "(Lcom/example/fides/fides/command/perf/Outcome;)V"⟩ : MethodName)) hown (mvT hZ (hw _ (List.mem_of_getElem? (i := 59) rfl))) (mvT hZ (hw _ (List.mem_of_getElem? (i := 60) rfl))) (notFace_of_selects (args := #[]) (mvT hZ (hw _ (List.mem_of_getElem? (i := 62) rfl)))) (mvT hZ (hw _ (List.mem_of_getElem? (i := 62) rfl))) (mvT hZ (hw _ (List.mem_of_getElem? (i := 61) rfl))) (by decide) (backOf (W := 0) (rm8e1 l Z a0 hw [] t w_ABORTED b k x0 x1 x2 x3 h0 n0 Z0 F_t V E_w_ABORTED F_w_ABORTED g_b ntb n_w_ABORTED) hZ (hw _ (List.mem_of_getElem? (i := 63) rfl)) (hw _ (List.mem_of_getElem? (i := 2) rfl)) (by decide) (by decide)) q7a q7c (g := (mkF m 66 #[.val (.int p0), .val (.int p1), .val (.int p2), .val (.int p3), .val (.ref t), .val (.long nn), .second, .unset, .unset, .unset, .unset] [(.ref w_ABORTED), (.ref t)])) rfl (by rw [hml]; rfl) (Steps.refl _) (argsL := [(.ref w_ABORTED)]) (rest := []) (lenOf pd_5 rfl) rfl (by show 2 * 0 + _ ≤ _; exact Nat.le_of_eq rfl) (hb hby at_66) (fun _ _ => ⟨rfl, hh6, (by decide : 3 + 0 ≤ _), (by decide : 9 + 0 ≤ _)⟩)
        dsimp only [Pt.U, Pt.locs, Pt.cells, Pt.slots] at X7 l7 y7 z7 st7 hQ7
        subst l7 y7 z7
        obtain ⟨rfl, N7q, K7, V7⟩ := hQ7
        have N7 := Fr.app N6 N7q
        have E_t_K7 := E_t.keep K7
        have F_t_counts_K7 := F_t.keep K7 (ninS ntb nin0)
        have S_com_example_fides_fides_command_perf_Outcome_COMMITTED_K7 := own_staK1 S_w_COMMITTED K7 (own_plainV V)
        have E_w_COMMITTED_K7 := E_w_COMMITTED.keep K7
        have F_w_COMMITTED_ordinal_K7 := F_w_COMMITTED.keep K7 (ninS n_w_COMMITTED nin0)
        have S_com_example_fides_fides_command_perf_Outcome_ABORTED_K7 := own_staK1 S_w_ABORTED K7 (own_plainV V)
        have E_w_ABORTED_K7 := E_w_ABORTED.keep K7
        have F_w_ABORTED_ordinal_K7 := F_w_ABORTED.keep K7 (ninS n_w_ABORTED nin0)
        have S_com_example_fides_fides_command_perf_Outcome_OPEN_K7 := own_staK1 S_w_OPEN K7 (own_plainV V)
        have E_w_OPEN_K7 := E_w_OPEN.keep K7
        have F_w_OPEN_ordinal_K7 := F_w_OPEN.keep K7 (ninS n_w_OPEN nin0)
        have S_com_example_fides_fides_command_perf_Outcome_TIMED_OUT_K7 := own_staK1 S_w_TIMED_OUT K7 (own_plainV V)
        have E_w_TIMED_OUT_K7 := E_w_TIMED_OUT.keep K7
        have F_w_TIMED_OUT_ordinal_K7 := F_w_TIMED_OUT.keep K7 (ninS n_w_TIMED_OUT nin0)
        have Zl7 : n0 ≤ T7.heap.size := Nat.le_trans Z0 K7.1
        refine own_of (fun _ k => st7.trans k) ?_
        show own_Out p e below _ (T7.setTop (mkF m 69 #[.val (.int p0), .val (.int p1), .val (.int p2), .val (.int p3), .val (.ref t), .val (.long nn), .second, .unset, .unset, .unset, .unset] []))
        refine own_of (fun _ k => XS.lload X7.here hx rfl (hb hby at_69) rfl k) ?_
        show own_Out p e below _ (T7.setTop (mkF m 71 #[.val (.int p0), .val (.int p1), .val (.int p2), .val (.int p3), .val (.ref t), .val (.long nn), .second, .unset, .unset, .unset, .unset] [(.long nn)]))
        refine own_of (fun _ k => XS.lconst X7.here hx rfl (hb hby at_71) k) ?_
        show own_Out p e below _ (T7.setTop (mkF m 72 #[.val (.int p0), .val (.int p1), .val (.int p2), .val (.int p3), .val (.ref t), .val (.long nn), .second, .unset, .unset, .unset, .unset] [(.long (1 : Int64)), (.long nn)]))
        refine own_of (fun _ k => XS.ladd X7.here hx rfl (hb hby at_72) rfl k) ?_
        show own_Out p e below _ (T7.setTop (mkF m 73 #[.val (.int p0), .val (.int p1), .val (.int p2), .val (.int p3), .val (.ref t), .val (.long nn), .second, .unset, .unset, .unset, .unset] [(.long (nn + (1 : Int64)))]))
        refine own_of (fun _ k => XS.lstore X7.here hx rfl (hb hby at_73) rfl (l' := #[.val (.int p0), .val (.int p1), .val (.int p2), .val (.int p3), .val (.ref t), .val (.long (nn + (1 : Int64))), .second, .unset, .unset, .unset, .unset]) rfl k) ?_
        show own_Out p e below _ (T7.setTop (mkF m 75 #[.val (.int p0), .val (.int p1), .val (.int p2), .val (.int p3), .val (.ref t), .val (.long (nn + (1 : Int64))), .second, .unset, .unset, .unset, .unset] []))
        exact sg75 (Q := Q) p0 p1 p2 p3 t b k x0 (x1 + (1 : Int64)) x2 x3 (nn + (1 : Int64)) w_COMMITTED w_ABORTED w_OPEN w_TIMED_OUT T7.heap n0 X7 hx hZ hw hby hml hown hret hlk hQ rfl Zl7 N7 E_t_K7 F_t_counts_K7 V7 g_b ntb S_com_example_fides_fides_command_perf_Outcome_COMMITTED_K7 S_com_example_fides_fides_command_perf_Outcome_ABORTED_K7 S_com_example_fides_fides_command_perf_Outcome_OPEN_K7 S_com_example_fides_fides_command_perf_Outcome_TIMED_OUT_K7 E_w_COMMITTED_K7 E_w_ABORTED_K7 E_w_OPEN_K7 E_w_TIMED_OUT_K7 F_w_COMMITTED_ordinal_K7 F_w_ABORTED_ordinal_K7 F_w_OPEN_ordinal_K7 F_w_TIMED_OUT_ordinal_K7 n_w_COMMITTED n_w_ABORTED n_w_OPEN n_w_TIMED_OUT (own_n1 hsum)
      · skip
        by_cases hc63_8 : (p2 &&& (3 : Int32)) = (2 : Int32)
        · skip
          obtain ⟨_, _, ⟨T9, L9, k9, n9⟩, -, X9, ⟨Lc9, hQ9, l9, y9, z9⟩, st9⟩ := Jvm.LawKit.callS X0 hx (y := (⟨"com/example/fides/fides/command/perf/TallyTotalPinLaw", "pick", "(I)Lcom/example/fides/fides/command/perf/Outcome;"⟩ : MethodName)) hown (mvT hZ (hw _ (List.mem_of_getElem? (i := 55) rfl))) (mvT hZ (hw _ (List.mem_of_getElem? (i := 56) rfl))) (mvT hZ (hw _ (List.mem_of_getElem? (i := 57) rfl))) (mvT hZ (hw _ (List.mem_of_getElem? (i := 58) rfl))) (by decide) (backOf (W := 1) (rm7e2 l Z a0 hw [] p2 w_OPEN h0 n0 Z0 S_w_OPEN hc63_2 hc63_5 hc63_8) hZ (hw _ (List.mem_of_getElem? (i := 58) rfl)) (hw _ (List.mem_of_getElem? (i := 57) rfl)) (by decide) (by decide)) (g := (mkF m 63 #[.val (.int p0), .val (.int p1), .val (.int p2), .val (.int p3), .val (.ref t), .val (.long nn), .second, .unset, .unset, .unset, .unset] [(.int p2), (.ref t)])) rfl (by rw [hml]; rfl) (argsL := [(.int p2)]) (rest := [(.ref t)]) (lenOf pd_4 rfl) rfl (by show 2 * 0 + _ ≤ _; exact Nat.le_of_eq rfl) (hb hby at_63) (fun _ _ => ⟨rfl, e0, (by decide : 3 + 0 ≤ _), (by decide : 9 + 0 ≤ _)⟩)
          dsimp only [Pt.U, Pt.locs, Pt.cells, Pt.slots] at X9 l9 y9 z9 st9 hQ9
          subst l9 y9 z9
          obtain ⟨rfl, N9q, hh9⟩ := hQ9
          have N9 := Fr.app N0 N9q
          refine own_of st9 ?_
          show own_Out p e below _ (T9.setTop (mkF m 66 #[.val (.int p0), .val (.int p1), .val (.int p2), .val (.int p3), .val (.ref t), .val (.long nn), .second, .unset, .unset, .unset, .unset] [(.ref w_OPEN), (.ref t)]))
          obtain ⟨cq10, kq10, q10a, q10b, q10c⟩ := isOf hZ hh9 E_t
          obtain ⟨_, _, ⟨T10, L10, k10, n10⟩, -, X10, ⟨Lc10, hQ10, l10, y10, z10⟩, st10⟩ := X9.virtualBack hx (y := (⟨"com/example/fides/fides/command/perf/Tally", "add", "(Lcom/example/fides/fides/command/perf/Outcome;)V"⟩ : MethodName)) (z := (⟨"com/example/fides/fides/command/perf/Tally", "add", "(Lcom/example/fides/fides/command/perf/Outcome;)V"⟩ : MethodName)) hown (mvT hZ (hw _ (List.mem_of_getElem? (i := 59) rfl))) (mvT hZ (hw _ (List.mem_of_getElem? (i := 60) rfl))) (notFace_of_selects (args := #[]) (mvT hZ (hw _ (List.mem_of_getElem? (i := 62) rfl)))) (mvT hZ (hw _ (List.mem_of_getElem? (i := 62) rfl))) (mvT hZ (hw _ (List.mem_of_getElem? (i := 61) rfl))) (by decide) (backOf (W := 0) (rm8e2 l Z a0 hw [] t w_OPEN b k x0 x1 x2 x3 h0 n0 Z0 F_t V E_w_OPEN F_w_OPEN g_b ntb n_w_OPEN) hZ (hw _ (List.mem_of_getElem? (i := 63) rfl)) (hw _ (List.mem_of_getElem? (i := 2) rfl)) (by decide) (by decide)) q10a q10c (g := (mkF m 66 #[.val (.int p0), .val (.int p1), .val (.int p2), .val (.int p3), .val (.ref t), .val (.long nn), .second, .unset, .unset, .unset, .unset] [(.ref w_OPEN), (.ref t)])) rfl (by rw [hml]; rfl) (Steps.refl _) (argsL := [(.ref w_OPEN)]) (rest := []) (lenOf pd_5 rfl) rfl (by show 2 * 0 + _ ≤ _; exact Nat.le_of_eq rfl) (hb hby at_66) (fun _ _ => ⟨rfl, hh9, (by decide : 3 + 0 ≤ _), (by decide : 9 + 0 ≤ _)⟩)
          dsimp only [Pt.U, Pt.locs, Pt.cells, Pt.slots] at X10 l10 y10 z10 st10 hQ10
          subst l10 y10 z10
          obtain ⟨rfl, N10q, K10, V10⟩ := hQ10
          have N10 := Fr.app N9 N10q
          have E_t_K10 := E_t.keep K10
          have F_t_counts_K10 := F_t.keep K10 (ninS ntb nin0)
          have S_com_example_fides_fides_command_perf_Outcome_COMMITTED_K10 := own_staK1 S_w_COMMITTED K10 (own_plainV V)
          have E_w_COMMITTED_K10 := E_w_COMMITTED.keep K10
          have F_w_COMMITTED_ordinal_K10 := F_w_COMMITTED.keep K10 (ninS n_w_COMMITTED nin0)
          have S_com_example_fides_fides_command_perf_Outcome_ABORTED_K10 := own_staK1 S_w_ABORTED K10 (own_plainV V)
          have E_w_ABORTED_K10 := E_w_ABORTED.keep K10
          have F_w_ABORTED_ordinal_K10 := F_w_ABORTED.keep K10 (ninS n_w_ABORTED nin0)
          have S_com_example_fides_fides_command_perf_Outcome_OPEN_K10 := own_staK1 S_w_OPEN K10 (own_plainV V)
          have E_w_OPEN_K10 := E_w_OPEN.keep K10
          have F_w_OPEN_ordinal_K10 := F_w_OPEN.keep K10 (ninS n_w_OPEN nin0)
          have S_com_example_fides_fides_command_perf_Outcome_TIMED_OUT_K10 := own_staK1 S_w_TIMED_OUT K10 (own_plainV V)
          have E_w_TIMED_OUT_K10 := E_w_TIMED_OUT.keep K10
          have F_w_TIMED_OUT_ordinal_K10 := F_w_TIMED_OUT.keep K10 (ninS n_w_TIMED_OUT nin0)
          have Zl10 : n0 ≤ T10.heap.size := Nat.le_trans Z0 K10.1
          refine own_of (fun _ k => st10.trans k) ?_
          show own_Out p e below _ (T10.setTop (mkF m 69 #[.val (.int p0), .val (.int p1), .val (.int p2), .val (.int p3), .val (.ref t), .val (.long nn), .second, .unset, .unset, .unset, .unset] []))
          refine own_of (fun _ k => XS.lload X10.here hx rfl (hb hby at_69) rfl k) ?_
          show own_Out p e below _ (T10.setTop (mkF m 71 #[.val (.int p0), .val (.int p1), .val (.int p2), .val (.int p3), .val (.ref t), .val (.long nn), .second, .unset, .unset, .unset, .unset] [(.long nn)]))
          refine own_of (fun _ k => XS.lconst X10.here hx rfl (hb hby at_71) k) ?_
          show own_Out p e below _ (T10.setTop (mkF m 72 #[.val (.int p0), .val (.int p1), .val (.int p2), .val (.int p3), .val (.ref t), .val (.long nn), .second, .unset, .unset, .unset, .unset] [(.long (1 : Int64)), (.long nn)]))
          refine own_of (fun _ k => XS.ladd X10.here hx rfl (hb hby at_72) rfl k) ?_
          show own_Out p e below _ (T10.setTop (mkF m 73 #[.val (.int p0), .val (.int p1), .val (.int p2), .val (.int p3), .val (.ref t), .val (.long nn), .second, .unset, .unset, .unset, .unset] [(.long (nn + (1 : Int64)))]))
          refine own_of (fun _ k => XS.lstore X10.here hx rfl (hb hby at_73) rfl (l' := #[.val (.int p0), .val (.int p1), .val (.int p2), .val (.int p3), .val (.ref t), .val (.long (nn + (1 : Int64))), .second, .unset, .unset, .unset, .unset]) rfl k) ?_
          show own_Out p e below _ (T10.setTop (mkF m 75 #[.val (.int p0), .val (.int p1), .val (.int p2), .val (.int p3), .val (.ref t), .val (.long (nn + (1 : Int64))), .second, .unset, .unset, .unset, .unset] []))
          exact sg75 (Q := Q) p0 p1 p2 p3 t b k x0 x1 (x2 + (1 : Int64)) x3 (nn + (1 : Int64)) w_COMMITTED w_ABORTED w_OPEN w_TIMED_OUT T10.heap n0 X10 hx hZ hw hby hml hown hret hlk hQ rfl Zl10 N10 E_t_K10 F_t_counts_K10 V10 g_b ntb S_com_example_fides_fides_command_perf_Outcome_COMMITTED_K10 S_com_example_fides_fides_command_perf_Outcome_ABORTED_K10 S_com_example_fides_fides_command_perf_Outcome_OPEN_K10 S_com_example_fides_fides_command_perf_Outcome_TIMED_OUT_K10 E_w_COMMITTED_K10 E_w_ABORTED_K10 E_w_OPEN_K10 E_w_TIMED_OUT_K10 F_w_COMMITTED_ordinal_K10 F_w_ABORTED_ordinal_K10 F_w_OPEN_ordinal_K10 F_w_TIMED_OUT_ordinal_K10 n_w_COMMITTED n_w_ABORTED n_w_OPEN n_w_TIMED_OUT (own_n2 hsum)
        · skip
          obtain ⟨_, _, ⟨T11, L11, k11, n11⟩, -, X11, ⟨Lc11, hQ11, l11, y11, z11⟩, st11⟩ := Jvm.LawKit.callS X0 hx (y := (⟨"com/example/fides/fides/command/perf/TallyTotalPinLaw", "pick", "(I)Lcom/example/fides/fides/command/perf/Outcome;"⟩ : MethodName)) hown (mvT hZ (hw _ (List.mem_of_getElem? (i := 55) rfl))) (mvT hZ (hw _ (List.mem_of_getElem? (i := 56) rfl))) (mvT hZ (hw _ (List.mem_of_getElem? (i := 57) rfl))) (mvT hZ (hw _ (List.mem_of_getElem? (i := 58) rfl))) (by decide) (backOf (W := 1) (rm7e3 l Z a0 hw [] p2 w_TIMED_OUT h0 n0 Z0 S_w_TIMED_OUT hc63_2 hc63_5 hc63_8) hZ (hw _ (List.mem_of_getElem? (i := 58) rfl)) (hw _ (List.mem_of_getElem? (i := 57) rfl)) (by decide) (by decide)) (g := (mkF m 63 #[.val (.int p0), .val (.int p1), .val (.int p2), .val (.int p3), .val (.ref t), .val (.long nn), .second, .unset, .unset, .unset, .unset] [(.int p2), (.ref t)])) rfl (by rw [hml]; rfl) (argsL := [(.int p2)]) (rest := [(.ref t)]) (lenOf pd_4 rfl) rfl (by show 2 * 0 + _ ≤ _; exact Nat.le_of_eq rfl) (hb hby at_63) (fun _ _ => ⟨rfl, e0, (by decide : 3 + 0 ≤ _), (by decide : 9 + 0 ≤ _)⟩)
          dsimp only [Pt.U, Pt.locs, Pt.cells, Pt.slots] at X11 l11 y11 z11 st11 hQ11
          subst l11 y11 z11
          obtain ⟨rfl, N11q, hh11⟩ := hQ11
          have N11 := Fr.app N0 N11q
          refine own_of st11 ?_
          show own_Out p e below _ (T11.setTop (mkF m 66 #[.val (.int p0), .val (.int p1), .val (.int p2), .val (.int p3), .val (.ref t), .val (.long nn), .second, .unset, .unset, .unset, .unset] [(.ref w_TIMED_OUT), (.ref t)]))
          obtain ⟨cq12, kq12, q12a, q12b, q12c⟩ := isOf hZ hh11 E_t
          obtain ⟨_, _, ⟨T12, L12, k12, n12⟩, -, X12, ⟨Lc12, hQ12, l12, y12, z12⟩, st12⟩ := X11.virtualBack hx (y := (⟨"com/example/fides/fides/command/perf/Tally", "add", "(Lcom/example/fides/fides/command/perf/Outcome;)V"⟩ : MethodName)) (z := (⟨"com/example/fides/fides/command/perf/Tally", "add", "(Lcom/example/fides/fides/command/perf/Outcome;)V"⟩ : MethodName)) hown (mvT hZ (hw _ (List.mem_of_getElem? (i := 59) rfl))) (mvT hZ (hw _ (List.mem_of_getElem? (i := 60) rfl))) (notFace_of_selects (args := #[]) (mvT hZ (hw _ (List.mem_of_getElem? (i := 62) rfl)))) (mvT hZ (hw _ (List.mem_of_getElem? (i := 62) rfl))) (mvT hZ (hw _ (List.mem_of_getElem? (i := 61) rfl))) (by decide) (backOf (W := 0) (rm8e3 l Z a0 hw [] t w_TIMED_OUT b k x0 x1 x2 x3 h0 n0 Z0 F_t V E_w_TIMED_OUT F_w_TIMED_OUT g_b ntb n_w_TIMED_OUT) hZ (hw _ (List.mem_of_getElem? (i := 63) rfl)) (hw _ (List.mem_of_getElem? (i := 2) rfl)) (by decide) (by decide)) q12a q12c (g := (mkF m 66 #[.val (.int p0), .val (.int p1), .val (.int p2), .val (.int p3), .val (.ref t), .val (.long nn), .second, .unset, .unset, .unset, .unset] [(.ref w_TIMED_OUT), (.ref t)])) rfl (by rw [hml]; rfl) (Steps.refl _) (argsL := [(.ref w_TIMED_OUT)]) (rest := []) (lenOf pd_5 rfl) rfl (by show 2 * 0 + _ ≤ _; exact Nat.le_of_eq rfl) (hb hby at_66) (fun _ _ => ⟨rfl, hh11, (by decide : 3 + 0 ≤ _), (by decide : 9 + 0 ≤ _)⟩)
          dsimp only [Pt.U, Pt.locs, Pt.cells, Pt.slots] at X12 l12 y12 z12 st12 hQ12
          subst l12 y12 z12
          obtain ⟨rfl, N12q, K12, V12⟩ := hQ12
          have N12 := Fr.app N11 N12q
          have E_t_K12 := E_t.keep K12
          have F_t_counts_K12 := F_t.keep K12 (ninS ntb nin0)
          have S_com_example_fides_fides_command_perf_Outcome_COMMITTED_K12 := own_staK1 S_w_COMMITTED K12 (own_plainV V)
          have E_w_COMMITTED_K12 := E_w_COMMITTED.keep K12
          have F_w_COMMITTED_ordinal_K12 := F_w_COMMITTED.keep K12 (ninS n_w_COMMITTED nin0)
          have S_com_example_fides_fides_command_perf_Outcome_ABORTED_K12 := own_staK1 S_w_ABORTED K12 (own_plainV V)
          have E_w_ABORTED_K12 := E_w_ABORTED.keep K12
          have F_w_ABORTED_ordinal_K12 := F_w_ABORTED.keep K12 (ninS n_w_ABORTED nin0)
          have S_com_example_fides_fides_command_perf_Outcome_OPEN_K12 := own_staK1 S_w_OPEN K12 (own_plainV V)
          have E_w_OPEN_K12 := E_w_OPEN.keep K12
          have F_w_OPEN_ordinal_K12 := F_w_OPEN.keep K12 (ninS n_w_OPEN nin0)
          have S_com_example_fides_fides_command_perf_Outcome_TIMED_OUT_K12 := own_staK1 S_w_TIMED_OUT K12 (own_plainV V)
          have E_w_TIMED_OUT_K12 := E_w_TIMED_OUT.keep K12
          have F_w_TIMED_OUT_ordinal_K12 := F_w_TIMED_OUT.keep K12 (ninS n_w_TIMED_OUT nin0)
          have Zl12 : n0 ≤ T12.heap.size := Nat.le_trans Z0 K12.1
          refine own_of (fun _ k => st12.trans k) ?_
          show own_Out p e below _ (T12.setTop (mkF m 69 #[.val (.int p0), .val (.int p1), .val (.int p2), .val (.int p3), .val (.ref t), .val (.long nn), .second, .unset, .unset, .unset, .unset] []))
          refine own_of (fun _ k => XS.lload X12.here hx rfl (hb hby at_69) rfl k) ?_
          show own_Out p e below _ (T12.setTop (mkF m 71 #[.val (.int p0), .val (.int p1), .val (.int p2), .val (.int p3), .val (.ref t), .val (.long nn), .second, .unset, .unset, .unset, .unset] [(.long nn)]))
          refine own_of (fun _ k => XS.lconst X12.here hx rfl (hb hby at_71) k) ?_
          show own_Out p e below _ (T12.setTop (mkF m 72 #[.val (.int p0), .val (.int p1), .val (.int p2), .val (.int p3), .val (.ref t), .val (.long nn), .second, .unset, .unset, .unset, .unset] [(.long (1 : Int64)), (.long nn)]))
          refine own_of (fun _ k => XS.ladd X12.here hx rfl (hb hby at_72) rfl k) ?_
          show own_Out p e below _ (T12.setTop (mkF m 73 #[.val (.int p0), .val (.int p1), .val (.int p2), .val (.int p3), .val (.ref t), .val (.long nn), .second, .unset, .unset, .unset, .unset] [(.long (nn + (1 : Int64)))]))
          refine own_of (fun _ k => XS.lstore X12.here hx rfl (hb hby at_73) rfl (l' := #[.val (.int p0), .val (.int p1), .val (.int p2), .val (.int p3), .val (.ref t), .val (.long (nn + (1 : Int64))), .second, .unset, .unset, .unset, .unset]) rfl k) ?_
          show own_Out p e below _ (T12.setTop (mkF m 75 #[.val (.int p0), .val (.int p1), .val (.int p2), .val (.int p3), .val (.ref t), .val (.long (nn + (1 : Int64))), .second, .unset, .unset, .unset, .unset] []))
          exact sg75 (Q := Q) p0 p1 p2 p3 t b k x0 x1 x2 (x3 + (1 : Int64)) (nn + (1 : Int64)) w_COMMITTED w_ABORTED w_OPEN w_TIMED_OUT T12.heap n0 X12 hx hZ hw hby hml hown hret hlk hQ rfl Zl12 N12 E_t_K12 F_t_counts_K12 V12 g_b ntb S_com_example_fides_fides_command_perf_Outcome_COMMITTED_K12 S_com_example_fides_fides_command_perf_Outcome_ABORTED_K12 S_com_example_fides_fides_command_perf_Outcome_OPEN_K12 S_com_example_fides_fides_command_perf_Outcome_TIMED_OUT_K12 E_w_COMMITTED_K12 E_w_ABORTED_K12 E_w_OPEN_K12 E_w_TIMED_OUT_K12 F_w_COMMITTED_ordinal_K12 F_w_ABORTED_ordinal_K12 F_w_OPEN_ordinal_K12 F_w_TIMED_OUT_ordinal_K12 n_w_COMMITTED n_w_ABORTED n_w_OPEN n_w_TIMED_OUT (own_n3 hsum)
set_option maxRecDepth 65536 in
set_option maxHeartbeats 40000000 in
theorem sg33 {p : Program} {l : Launch} {e : Env} {s : State} {m : MethodId} {args : Array Value} {below : List Frame} {meth : Method} {c : Code} {T0 : State} {locs : List Loc} {Z : State} {a0 : Array Value} {Q : Option Value → Heap → List Loc → Prop} (p0 : Int32) (p1 : Int32) (p2 : Int32) (p3 : Int32) (t : Addr) (b : Addr) (k : ClassId) (x0 : Int64) (x1 : Int64) (x2 : Int64) (x3 : Int64) (nn : Int64) (w_COMMITTED : Addr) (w_ABORTED : Addr) (w_OPEN : Addr) (w_TIMED_OUT : Addr) (h0 : Heap) (n0 : Nat)
    (X0 : Stand p l e room_1 s m args below meth c T0 locs 3 9) (hx : p.tables.exec = Jvm.exec) (hZ : Z.Warmed39 s.vm) (hw : ∀ d ∈ tables_1, d.before a0 Z = true) (hby : c.code = code) (hml : c.maxLocals = 11) (hown : s.vm.findClass "com/example/fides/fides/command/perf/TallyTotalPinLaw" = some m.cls) (hret : meth.sig.returnType = ret) (hlk : meth.locks = false)
    (hQ : ∀ h L, Fr n0 L → Q (some (.int 1)) h L) (e0 : T0.heap = h0) (Z0 : n0 ≤ h0.size) (N0 : Fr n0 locs) (E_t : Exa Z h0 t "com/example/fides/fides/command/perf/Tally") (F_t : Fld Z h0 t "com/example/fides/fides/command/perf/Tally" "counts" "[J" (.ref b)) (V : Arv Z h0 b k .long (4 : Int32) [(.long x0), (.long x1), (.long x2), (.long x3)] (.long (0 : Int64))) (g_b : n0 ≤ b) (ntb : t ≠ b) (S_w_COMMITTED : Sta Z h0 "com/example/fides/fides/command/perf/Outcome" "COMMITTED" "Lcom/example/fides/fides/command/perf/Outcome;" (.ref w_COMMITTED)) (S_w_ABORTED : Sta Z h0 "com/example/fides/fides/command/perf/Outcome" "ABORTED" "Lcom/example/fides/fides/command/perf/Outcome;" (.ref w_ABORTED)) (S_w_OPEN : Sta Z h0 "com/example/fides/fides/command/perf/Outcome" "OPEN" "Lcom/example/fides/fides/command/perf/Outcome;" (.ref w_OPEN)) (S_w_TIMED_OUT : Sta Z h0 "com/example/fides/fides/command/perf/Outcome" "TIMED_OUT" "Lcom/example/fides/fides/command/perf/Outcome;" (.ref w_TIMED_OUT)) (E_w_COMMITTED : Exa Z h0 w_COMMITTED "com/example/fides/fides/command/perf/Outcome") (E_w_ABORTED : Exa Z h0 w_ABORTED "com/example/fides/fides/command/perf/Outcome") (E_w_OPEN : Exa Z h0 w_OPEN "com/example/fides/fides/command/perf/Outcome") (E_w_TIMED_OUT : Exa Z h0 w_TIMED_OUT "com/example/fides/fides/command/perf/Outcome") (F_w_COMMITTED : Fld Z h0 w_COMMITTED "java/lang/Enum" "ordinal" "I" (.int (0 : Int32))) (F_w_ABORTED : Fld Z h0 w_ABORTED "java/lang/Enum" "ordinal" "I" (.int (1 : Int32))) (F_w_OPEN : Fld Z h0 w_OPEN "java/lang/Enum" "ordinal" "I" (.int (2 : Int32))) (F_w_TIMED_OUT : Fld Z h0 w_TIMED_OUT "java/lang/Enum" "ordinal" "I" (.int (3 : Int32))) (n_w_COMMITTED : w_COMMITTED ≠ b) (n_w_ABORTED : w_ABORTED ≠ b) (n_w_OPEN : w_OPEN ≠ b) (n_w_TIMED_OUT : w_TIMED_OUT ≠ b) (hsum : (((x0 + x1) + x2) + x3) = nn) :
    own_Out p e below (fun o U' => ∃ v L, o = .returned v ∧ Q v U'.heap L ∧ FrameEnd s o U' L 3 9) (T0.setTop (mkF m 33 #[.val (.int p0), .val (.int p1), .val (.int p2), .val (.int p3), .val (.ref t), .val (.long nn), .second, .unset, .unset, .unset, .unset] [])) := by
  show own_Out p e below _ (T0.setTop (mkF m 33 #[.val (.int p0), .val (.int p1), .val (.int p2), .val (.int p3), .val (.ref t), .val (.long nn), .second, .unset, .unset, .unset, .unset] []))
  refine own_of (fun _ k => XS.iloadN X0.here hx rfl (hb hby at_33) rfl k) ?_
  show own_Out p e below _ (T0.setTop (mkF m 34 #[.val (.int p0), .val (.int p1), .val (.int p2), .val (.int p3), .val (.ref t), .val (.long nn), .second, .unset, .unset, .unset, .unset] [(.int p1)]))
  refine own_of (fun _ k => XS.iconst X0.here hx rfl (hb hby at_34) k) ?_
  show own_Out p e below _ (T0.setTop (mkF m 35 #[.val (.int p0), .val (.int p1), .val (.int p2), .val (.int p3), .val (.ref t), .val (.long nn), .second, .unset, .unset, .unset, .unset] [(.int (4 : Int32)), (.int p1)]))
  refine own_of (fun _ k => XS.iand X0.here hx rfl (hb hby at_35) rfl k) ?_
  show own_Out p e below _ (T0.setTop (mkF m 36 #[.val (.int p0), .val (.int p1), .val (.int p2), .val (.int p3), .val (.ref t), .val (.long nn), .second, .unset, .unset, .unset, .unset] [(.int (p1 &&& (4 : Int32)))]))
  by_cases hc36_1 : (p1 &&& (4 : Int32)) = (0 : Int32)
  · skip
    refine own_of (fun _ k => XS.ifYes X0.here hx rfl (pc0 := 36) (pc' := 54) rfl (hb hby at_36) rfl ((if0 _ _).trans (teq hc36_1).1) (by decide) (by decide) k) ?_
    show own_Out p e below _ (T0.setTop (mkF m 54 #[.val (.int p0), .val (.int p1), .val (.int p2), .val (.int p3), .val (.ref t), .val (.long nn), .second, .unset, .unset, .unset, .unset] []))
    exact sg54 (Q := Q) p0 p1 p2 p3 t b k x0 x1 x2 x3 nn w_COMMITTED w_ABORTED w_OPEN w_TIMED_OUT h0 n0 X0 hx hZ hw hby hml hown hret hlk hQ e0 Z0 N0 E_t F_t V g_b ntb S_w_COMMITTED S_w_ABORTED S_w_OPEN S_w_TIMED_OUT E_w_COMMITTED E_w_ABORTED E_w_OPEN E_w_TIMED_OUT F_w_COMMITTED F_w_ABORTED F_w_OPEN F_w_TIMED_OUT n_w_COMMITTED n_w_ABORTED n_w_OPEN n_w_TIMED_OUT hsum
  · skip
    refine own_of (fun _ k => XS.ifNo X0.here hx rfl (hb hby at_36) rfl ((if0 _ _).trans (feq hc36_1).1) k) ?_
    show own_Out p e below _ (T0.setTop (mkF m 39 #[.val (.int p0), .val (.int p1), .val (.int p2), .val (.int p3), .val (.ref t), .val (.long nn), .second, .unset, .unset, .unset, .unset] []))
    refine own_of (fun _ k => XS.aload X0.here hx rfl (hb hby at_39) rfl rfl k) ?_
    show own_Out p e below _ (T0.setTop (mkF m 41 #[.val (.int p0), .val (.int p1), .val (.int p2), .val (.int p3), .val (.ref t), .val (.long nn), .second, .unset, .unset, .unset, .unset] [(.ref t)]))
    refine own_of (fun _ k => XS.iloadN X0.here hx rfl (hb hby at_41) rfl k) ?_
    show own_Out p e below _ (T0.setTop (mkF m 42 #[.val (.int p0), .val (.int p1), .val (.int p2), .val (.int p3), .val (.ref t), .val (.long nn), .second, .unset, .unset, .unset, .unset] [(.int p1), (.ref t)]))
    by_cases hc42_2 : (p1 &&& (3 : Int32)) = (0 : Int32)
    · skip
      obtain ⟨_, _, ⟨T3, L3, k3, n3⟩, -, X3, ⟨Lc3, hQ3, l3, y3, z3⟩, st3⟩ := Jvm.LawKit.callS X0 hx (y := (⟨"com/example/fides/fides/command/perf/TallyTotalPinLaw", "pick", "(I)Lcom/example/fides/fides/command/perf/Outcome;"⟩ : MethodName)) hown (mvT hZ (hw _ (List.mem_of_getElem? (i := 55) rfl))) (mvT hZ (hw _ (List.mem_of_getElem? (i := 56) rfl))) (mvT hZ (hw _ (List.mem_of_getElem? (i := 57) rfl))) (mvT hZ (hw _ (List.mem_of_getElem? (i := 58) rfl))) (by decide) (backOf (W := 1) (rm7e0 l Z a0 hw [] p1 w_COMMITTED h0 n0 Z0 S_w_COMMITTED hc42_2) hZ (hw _ (List.mem_of_getElem? (i := 58) rfl)) (hw _ (List.mem_of_getElem? (i := 57) rfl)) (by decide) (by decide)) (g := (mkF m 42 #[.val (.int p0), .val (.int p1), .val (.int p2), .val (.int p3), .val (.ref t), .val (.long nn), .second, .unset, .unset, .unset, .unset] [(.int p1), (.ref t)])) rfl (by rw [hml]; rfl) (argsL := [(.int p1)]) (rest := [(.ref t)]) (lenOf pd_4 rfl) rfl (by show 2 * 0 + _ ≤ _; exact Nat.le_of_eq rfl) (hb hby at_42) (fun _ _ => ⟨rfl, e0, (by decide : 3 + 0 ≤ _), (by decide : 9 + 0 ≤ _)⟩)
      dsimp only [Pt.U, Pt.locs, Pt.cells, Pt.slots] at X3 l3 y3 z3 st3 hQ3
      subst l3 y3 z3
      obtain ⟨rfl, N3q, hh3⟩ := hQ3
      have N3 := Fr.app N0 N3q
      refine own_of st3 ?_
      show own_Out p e below _ (T3.setTop (mkF m 45 #[.val (.int p0), .val (.int p1), .val (.int p2), .val (.int p3), .val (.ref t), .val (.long nn), .second, .unset, .unset, .unset, .unset] [(.ref w_COMMITTED), (.ref t)]))
      obtain ⟨cq4, kq4, q4a, q4b, q4c⟩ := isOf hZ hh3 E_t
      obtain ⟨_, _, ⟨T4, L4, k4, n4⟩, -, X4, ⟨Lc4, hQ4, l4, y4, z4⟩, st4⟩ := X3.virtualBack hx (y := (⟨"com/example/fides/fides/command/perf/Tally", "add", "(Lcom/example/fides/fides/command/perf/Outcome;)V"⟩ : MethodName)) (z := (⟨"com/example/fides/fides/command/perf/Tally", "add", "(Lcom/example/fides/fides/command/perf/Outcome;)V"⟩ : MethodName)) hown (mvT hZ (hw _ (List.mem_of_getElem? (i := 59) rfl))) (mvT hZ (hw _ (List.mem_of_getElem? (i := 60) rfl))) (notFace_of_selects (args := #[]) (mvT hZ (hw _ (List.mem_of_getElem? (i := 62) rfl)))) (mvT hZ (hw _ (List.mem_of_getElem? (i := 62) rfl))) (mvT hZ (hw _ (List.mem_of_getElem? (i := 61) rfl))) (by decide) (backOf (W := 0) (rm8e0 l Z a0 hw [] t w_COMMITTED b k x0 x1 x2 x3 h0 n0 Z0 F_t V E_w_COMMITTED F_w_COMMITTED g_b ntb n_w_COMMITTED) hZ (hw _ (List.mem_of_getElem? (i := 63) rfl)) (hw _ (List.mem_of_getElem? (i := 2) rfl)) (by decide) (by decide)) q4a q4c (g := (mkF m 45 #[.val (.int p0), .val (.int p1), .val (.int p2), .val (.int p3), .val (.ref t), .val (.long nn), .second, .unset, .unset, .unset, .unset] [(.ref w_COMMITTED), (.ref t)])) rfl (by rw [hml]; rfl) (Steps.refl _) (argsL := [(.ref w_COMMITTED)]) (rest := []) (lenOf pd_5 rfl) rfl (by show 2 * 0 + _ ≤ _; exact Nat.le_of_eq rfl) (hb hby at_45) (fun _ _ => ⟨rfl, hh3, (by decide : 3 + 0 ≤ _), (by decide : 9 + 0 ≤ _)⟩)
      dsimp only [Pt.U, Pt.locs, Pt.cells, Pt.slots] at X4 l4 y4 z4 st4 hQ4
      subst l4 y4 z4
      obtain ⟨rfl, N4q, K4, V4⟩ := hQ4
      have N4 := Fr.app N3 N4q
      have E_t_K4 := E_t.keep K4
      have F_t_counts_K4 := F_t.keep K4 (ninS ntb nin0)
      have S_com_example_fides_fides_command_perf_Outcome_COMMITTED_K4 := own_staK1 S_w_COMMITTED K4 (own_plainV V)
      have E_w_COMMITTED_K4 := E_w_COMMITTED.keep K4
      have F_w_COMMITTED_ordinal_K4 := F_w_COMMITTED.keep K4 (ninS n_w_COMMITTED nin0)
      have S_com_example_fides_fides_command_perf_Outcome_ABORTED_K4 := own_staK1 S_w_ABORTED K4 (own_plainV V)
      have E_w_ABORTED_K4 := E_w_ABORTED.keep K4
      have F_w_ABORTED_ordinal_K4 := F_w_ABORTED.keep K4 (ninS n_w_ABORTED nin0)
      have S_com_example_fides_fides_command_perf_Outcome_OPEN_K4 := own_staK1 S_w_OPEN K4 (own_plainV V)
      have E_w_OPEN_K4 := E_w_OPEN.keep K4
      have F_w_OPEN_ordinal_K4 := F_w_OPEN.keep K4 (ninS n_w_OPEN nin0)
      have S_com_example_fides_fides_command_perf_Outcome_TIMED_OUT_K4 := own_staK1 S_w_TIMED_OUT K4 (own_plainV V)
      have E_w_TIMED_OUT_K4 := E_w_TIMED_OUT.keep K4
      have F_w_TIMED_OUT_ordinal_K4 := F_w_TIMED_OUT.keep K4 (ninS n_w_TIMED_OUT nin0)
      have Zl4 : n0 ≤ T4.heap.size := Nat.le_trans Z0 K4.1
      refine own_of (fun _ k => st4.trans k) ?_
      show own_Out p e below _ (T4.setTop (mkF m 48 #[.val (.int p0), .val (.int p1), .val (.int p2), .val (.int p3), .val (.ref t), .val (.long nn), .second, .unset, .unset, .unset, .unset] []))
      refine own_of (fun _ k => XS.lload X4.here hx rfl (hb hby at_48) rfl k) ?_
      show own_Out p e below _ (T4.setTop (mkF m 50 #[.val (.int p0), .val (.int p1), .val (.int p2), .val (.int p3), .val (.ref t), .val (.long nn), .second, .unset, .unset, .unset, .unset] [(.long nn)]))
      refine own_of (fun _ k => XS.lconst X4.here hx rfl (hb hby at_50) k) ?_
      show own_Out p e below _ (T4.setTop (mkF m 51 #[.val (.int p0), .val (.int p1), .val (.int p2), .val (.int p3), .val (.ref t), .val (.long nn), .second, .unset, .unset, .unset, .unset] [(.long (1 : Int64)), (.long nn)]))
      refine own_of (fun _ k => XS.ladd X4.here hx rfl (hb hby at_51) rfl k) ?_
      show own_Out p e below _ (T4.setTop (mkF m 52 #[.val (.int p0), .val (.int p1), .val (.int p2), .val (.int p3), .val (.ref t), .val (.long nn), .second, .unset, .unset, .unset, .unset] [(.long (nn + (1 : Int64)))]))
      refine own_of (fun _ k => XS.lstore X4.here hx rfl (hb hby at_52) rfl (l' := #[.val (.int p0), .val (.int p1), .val (.int p2), .val (.int p3), .val (.ref t), .val (.long (nn + (1 : Int64))), .second, .unset, .unset, .unset, .unset]) rfl k) ?_
      show own_Out p e below _ (T4.setTop (mkF m 54 #[.val (.int p0), .val (.int p1), .val (.int p2), .val (.int p3), .val (.ref t), .val (.long (nn + (1 : Int64))), .second, .unset, .unset, .unset, .unset] []))
      exact sg54 (Q := Q) p0 p1 p2 p3 t b k (x0 + (1 : Int64)) x1 x2 x3 (nn + (1 : Int64)) w_COMMITTED w_ABORTED w_OPEN w_TIMED_OUT T4.heap n0 X4 hx hZ hw hby hml hown hret hlk hQ rfl Zl4 N4 E_t_K4 F_t_counts_K4 V4 g_b ntb S_com_example_fides_fides_command_perf_Outcome_COMMITTED_K4 S_com_example_fides_fides_command_perf_Outcome_ABORTED_K4 S_com_example_fides_fides_command_perf_Outcome_OPEN_K4 S_com_example_fides_fides_command_perf_Outcome_TIMED_OUT_K4 E_w_COMMITTED_K4 E_w_ABORTED_K4 E_w_OPEN_K4 E_w_TIMED_OUT_K4 F_w_COMMITTED_ordinal_K4 F_w_ABORTED_ordinal_K4 F_w_OPEN_ordinal_K4 F_w_TIMED_OUT_ordinal_K4 n_w_COMMITTED n_w_ABORTED n_w_OPEN n_w_TIMED_OUT (own_n0 hsum)
    · skip
      by_cases hc42_5 : (p1 &&& (3 : Int32)) = (1 : Int32)
      · skip
        obtain ⟨_, _, ⟨T6, L6, k6, n6⟩, -, X6, ⟨Lc6, hQ6, l6, y6, z6⟩, st6⟩ := Jvm.LawKit.callS X0 hx (y := (⟨"com/example/fides/fides/command/perf/TallyTotalPinLaw", "pick", "(I)Lcom/example/fides/fides/command/perf/Outcome;"⟩ : MethodName)) hown (mvT hZ (hw _ (List.mem_of_getElem? (i := 55) rfl))) (mvT hZ (hw _ (List.mem_of_getElem? (i := 56) rfl))) (mvT hZ (hw _ (List.mem_of_getElem? (i := 57) rfl))) (mvT hZ (hw _ (List.mem_of_getElem? (i := 58) rfl))) (by decide) (backOf (W := 1) (rm7e1 l Z a0 hw [] p1 w_ABORTED h0 n0 Z0 S_w_ABORTED hc42_2 hc42_5) hZ (hw _ (List.mem_of_getElem? (i := 58) rfl)) (hw _ (List.mem_of_getElem? (i := 57) rfl)) (by decide) (by decide)) (g := (mkF m 42 #[.val (.int p0), .val (.int p1), .val (.int p2), .val (.int p3), .val (.ref t), .val (.long nn), .second, .unset, .unset, .unset, .unset] [(.int p1), (.ref t)])) rfl (by rw [hml]; rfl) (argsL := [(.int p1)]) (rest := [(.ref t)]) (lenOf pd_4 rfl) rfl (by show 2 * 0 + _ ≤ _; exact Nat.le_of_eq rfl) (hb hby at_42) (fun _ _ => ⟨rfl, e0, (by decide : 3 + 0 ≤ _), (by decide : 9 + 0 ≤ _)⟩)
        dsimp only [Pt.U, Pt.locs, Pt.cells, Pt.slots] at X6 l6 y6 z6 st6 hQ6
        subst l6 y6 z6
        obtain ⟨rfl, N6q, hh6⟩ := hQ6
        have N6 := Fr.app N0 N6q
        refine own_of st6 ?_
        show own_Out p e below _ (T6.setTop (mkF m 45 #[.val (.int p0), .val (.int p1), .val (.int p2), .val (.int p3), .val (.ref t), .val (.long nn), .second, .unset, .unset, .unset, .unset] [(.ref w_ABORTED), (.ref t)]))
        obtain ⟨cq7, kq7, q7a, q7b, q7c⟩ := isOf hZ hh6 E_t
        obtain ⟨_, _, ⟨T7, L7, k7, n7⟩, -, X7, ⟨Lc7, hQ7, l7, y7, z7⟩, st7⟩ := X6.virtualBack hx (y := (⟨"com/example/fides/fides/command/perf/Tally", "add", "(Lcom/example/fides/fides/command/perf/Outcome;)V"⟩ : MethodName)) (z := (⟨"com/example/fides/fides/command/perf/Tally", "add", "(Lcom/example/fides/fides/command/perf/Outcome;)V"⟩ : MethodName)) hown (mvT hZ (hw _ (List.mem_of_getElem? (i := 59) rfl))) (mvT hZ (hw _ (List.mem_of_getElem? (i := 60) rfl))) (notFace_of_selects (args := #[]) (mvT hZ (hw _ (List.mem_of_getElem? (i := 62) rfl)))) (mvT hZ (hw _ (List.mem_of_getElem? (i := 62) rfl))) (mvT hZ (hw _ (List.mem_of_getElem? (i := 61) rfl))) (by decide) (backOf (W := 0) (rm8e1 l Z a0 hw [] t w_ABORTED b k x0 x1 x2 x3 h0 n0 Z0 F_t V E_w_ABORTED F_w_ABORTED g_b ntb n_w_ABORTED) hZ (hw _ (List.mem_of_getElem? (i := 63) rfl)) (hw _ (List.mem_of_getElem? (i := 2) rfl)) (by decide) (by decide)) q7a q7c (g := (mkF m 45 #[.val (.int p0), .val (.int p1), .val (.int p2), .val (.int p3), .val (.ref t), .val (.long nn), .second, .unset, .unset, .unset, .unset] [(.ref w_ABORTED), (.ref t)])) rfl (by rw [hml]; rfl) (Steps.refl _) (argsL := [(.ref w_ABORTED)]) (rest := []) (lenOf pd_5 rfl) rfl (by show 2 * 0 + _ ≤ _; exact Nat.le_of_eq rfl) (hb hby at_45) (fun _ _ => ⟨rfl, hh6, (by decide : 3 + 0 ≤ _), (by decide : 9 + 0 ≤ _)⟩)
        dsimp only [Pt.U, Pt.locs, Pt.cells, Pt.slots] at X7 l7 y7 z7 st7 hQ7
        subst l7 y7 z7
        obtain ⟨rfl, N7q, K7, V7⟩ := hQ7
        have N7 := Fr.app N6 N7q
        have E_t_K7 := E_t.keep K7
        have F_t_counts_K7 := F_t.keep K7 (ninS ntb nin0)
        have S_com_example_fides_fides_command_perf_Outcome_COMMITTED_K7 := own_staK1 S_w_COMMITTED K7 (own_plainV V)
        have E_w_COMMITTED_K7 := E_w_COMMITTED.keep K7
        have F_w_COMMITTED_ordinal_K7 := F_w_COMMITTED.keep K7 (ninS n_w_COMMITTED nin0)
        have S_com_example_fides_fides_command_perf_Outcome_ABORTED_K7 := own_staK1 S_w_ABORTED K7 (own_plainV V)
        have E_w_ABORTED_K7 := E_w_ABORTED.keep K7
        have F_w_ABORTED_ordinal_K7 := F_w_ABORTED.keep K7 (ninS n_w_ABORTED nin0)
        have S_com_example_fides_fides_command_perf_Outcome_OPEN_K7 := own_staK1 S_w_OPEN K7 (own_plainV V)
        have E_w_OPEN_K7 := E_w_OPEN.keep K7
        have F_w_OPEN_ordinal_K7 := F_w_OPEN.keep K7 (ninS n_w_OPEN nin0)
        have S_com_example_fides_fides_command_perf_Outcome_TIMED_OUT_K7 := own_staK1 S_w_TIMED_OUT K7 (own_plainV V)
        have E_w_TIMED_OUT_K7 := E_w_TIMED_OUT.keep K7
        have F_w_TIMED_OUT_ordinal_K7 := F_w_TIMED_OUT.keep K7 (ninS n_w_TIMED_OUT nin0)
        have Zl7 : n0 ≤ T7.heap.size := Nat.le_trans Z0 K7.1
        refine own_of (fun _ k => st7.trans k) ?_
        show own_Out p e below _ (T7.setTop (mkF m 48 #[.val (.int p0), .val (.int p1), .val (.int p2), .val (.int p3), .val (.ref t), .val (.long nn), .second, .unset, .unset, .unset, .unset] []))
        refine own_of (fun _ k => XS.lload X7.here hx rfl (hb hby at_48) rfl k) ?_
        show own_Out p e below _ (T7.setTop (mkF m 50 #[.val (.int p0), .val (.int p1), .val (.int p2), .val (.int p3), .val (.ref t), .val (.long nn), .second, .unset, .unset, .unset, .unset] [(.long nn)]))
        refine own_of (fun _ k => XS.lconst X7.here hx rfl (hb hby at_50) k) ?_
        show own_Out p e below _ (T7.setTop (mkF m 51 #[.val (.int p0), .val (.int p1), .val (.int p2), .val (.int p3), .val (.ref t), .val (.long nn), .second, .unset, .unset, .unset, .unset] [(.long (1 : Int64)), (.long nn)]))
        refine own_of (fun _ k => XS.ladd X7.here hx rfl (hb hby at_51) rfl k) ?_
        show own_Out p e below _ (T7.setTop (mkF m 52 #[.val (.int p0), .val (.int p1), .val (.int p2), .val (.int p3), .val (.ref t), .val (.long nn), .second, .unset, .unset, .unset, .unset] [(.long (nn + (1 : Int64)))]))
        refine own_of (fun _ k => XS.lstore X7.here hx rfl (hb hby at_52) rfl (l' := #[.val (.int p0), .val (.int p1), .val (.int p2), .val (.int p3), .val (.ref t), .val (.long (nn + (1 : Int64))), .second, .unset, .unset, .unset, .unset]) rfl k) ?_
        show own_Out p e below _ (T7.setTop (mkF m 54 #[.val (.int p0), .val (.int p1), .val (.int p2), .val (.int p3), .val (.ref t), .val (.long (nn + (1 : Int64))), .second, .unset, .unset, .unset, .unset] []))
        exact sg54 (Q := Q) p0 p1 p2 p3 t b k x0 (x1 + (1 : Int64)) x2 x3 (nn + (1 : Int64)) w_COMMITTED w_ABORTED w_OPEN w_TIMED_OUT T7.heap n0 X7 hx hZ hw hby hml hown hret hlk hQ rfl Zl7 N7 E_t_K7 F_t_counts_K7 V7 g_b ntb S_com_example_fides_fides_command_perf_Outcome_COMMITTED_K7 S_com_example_fides_fides_command_perf_Outcome_ABORTED_K7 S_com_example_fides_fides_command_perf_Outcome_OPEN_K7 S_com_example_fides_fides_command_perf_Outcome_TIMED_OUT_K7 E_w_COMMITTED_K7 E_w_ABORTED_K7 E_w_OPEN_K7 E_w_TIMED_OUT_K7 F_w_COMMITTED_ordinal_K7 F_w_ABORTED_ordinal_K7 F_w_OPEN_ordinal_K7 F_w_TIMED_OUT_ordinal_K7 n_w_COMMITTED n_w_ABORTED n_w_OPEN n_w_TIMED_OUT (own_n1 hsum)
      · skip
        by_cases hc42_8 : (p1 &&& (3 : Int32)) = (2 : Int32)
        · skip
          obtain ⟨_, _, ⟨T9, L9, k9, n9⟩, -, X9, ⟨Lc9, hQ9, l9, y9, z9⟩, st9⟩ := Jvm.LawKit.callS X0 hx (y := (⟨"com/example/fides/fides/command/perf/TallyTotalPinLaw", "pick", "(I)Lcom/example/fides/fides/command/perf/Outcome;"⟩ : MethodName)) hown (mvT hZ (hw _ (List.mem_of_getElem? (i := 55) rfl))) (mvT hZ (hw _ (List.mem_of_getElem? (i := 56) rfl))) (mvT hZ (hw _ (List.mem_of_getElem? (i := 57) rfl))) (mvT hZ (hw _ (List.mem_of_getElem? (i := 58) rfl))) (by decide) (backOf (W := 1) (rm7e2 l Z a0 hw [] p1 w_OPEN h0 n0 Z0 S_w_OPEN hc42_2 hc42_5 hc42_8) hZ (hw _ (List.mem_of_getElem? (i := 58) rfl)) (hw _ (List.mem_of_getElem? (i := 57) rfl)) (by decide) (by decide)) (g := (mkF m 42 #[.val (.int p0), .val (.int p1), .val (.int p2), .val (.int p3), .val (.ref t), .val (.long nn), .second, .unset, .unset, .unset, .unset] [(.int p1), (.ref t)])) rfl (by rw [hml]; rfl) (argsL := [(.int p1)]) (rest := [(.ref t)]) (lenOf pd_4 rfl) rfl (by show 2 * 0 + _ ≤ _; exact Nat.le_of_eq rfl) (hb hby at_42) (fun _ _ => ⟨rfl, e0, (by decide : 3 + 0 ≤ _), (by decide : 9 + 0 ≤ _)⟩)
          dsimp only [Pt.U, Pt.locs, Pt.cells, Pt.slots] at X9 l9 y9 z9 st9 hQ9
          subst l9 y9 z9
          obtain ⟨rfl, N9q, hh9⟩ := hQ9
          have N9 := Fr.app N0 N9q
          refine own_of st9 ?_
          show own_Out p e below _ (T9.setTop (mkF m 45 #[.val (.int p0), .val (.int p1), .val (.int p2), .val (.int p3), .val (.ref t), .val (.long nn), .second, .unset, .unset, .unset, .unset] [(.ref w_OPEN), (.ref t)]))
          obtain ⟨cq10, kq10, q10a, q10b, q10c⟩ := isOf hZ hh9 E_t
          obtain ⟨_, _, ⟨T10, L10, k10, n10⟩, -, X10, ⟨Lc10, hQ10, l10, y10, z10⟩, st10⟩ := X9.virtualBack hx (y := (⟨"com/example/fides/fides/command/perf/Tally", "add", "(Lcom/example/fides/fides/command/perf/Outcome;)V"⟩ : MethodName)) (z := (⟨"com/example/fides/fides/command/perf/Tally", "add", "(Lcom/example/fides/fides/command/perf/Outcome;)V"⟩ : MethodName)) hown (mvT hZ (hw _ (List.mem_of_getElem? (i := 59) rfl))) (mvT hZ (hw _ (List.mem_of_getElem? (i := 60) rfl))) (notFace_of_selects (args := #[]) (mvT hZ (hw _ (List.mem_of_getElem? (i := 62) rfl)))) (mvT hZ (hw _ (List.mem_of_getElem? (i := 62) rfl))) (mvT hZ (hw _ (List.mem_of_getElem? (i := 61) rfl))) (by decide) (backOf (W := 0) (rm8e2 l Z a0 hw [] t w_OPEN b k x0 x1 x2 x3 h0 n0 Z0 F_t V E_w_OPEN F_w_OPEN g_b ntb n_w_OPEN) hZ (hw _ (List.mem_of_getElem? (i := 63) rfl)) (hw _ (List.mem_of_getElem? (i := 2) rfl)) (by decide) (by decide)) q10a q10c (g := (mkF m 45 #[.val (.int p0), .val (.int p1), .val (.int p2), .val (.int p3), .val (.ref t), .val (.long nn), .second, .unset, .unset, .unset, .unset] [(.ref w_OPEN), (.ref t)])) rfl (by rw [hml]; rfl) (Steps.refl _) (argsL := [(.ref w_OPEN)]) (rest := []) (lenOf pd_5 rfl) rfl (by show 2 * 0 + _ ≤ _; exact Nat.le_of_eq rfl) (hb hby at_45) (fun _ _ => ⟨rfl, hh9, (by decide : 3 + 0 ≤ _), (by decide : 9 + 0 ≤ _)⟩)
          dsimp only [Pt.U, Pt.locs, Pt.cells, Pt.slots] at X10 l10 y10 z10 st10 hQ10
          subst l10 y10 z10
          obtain ⟨rfl, N10q, K10, V10⟩ := hQ10
          have N10 := Fr.app N9 N10q
          have E_t_K10 := E_t.keep K10
          have F_t_counts_K10 := F_t.keep K10 (ninS ntb nin0)
          have S_com_example_fides_fides_command_perf_Outcome_COMMITTED_K10 := own_staK1 S_w_COMMITTED K10 (own_plainV V)
          have E_w_COMMITTED_K10 := E_w_COMMITTED.keep K10
          have F_w_COMMITTED_ordinal_K10 := F_w_COMMITTED.keep K10 (ninS n_w_COMMITTED nin0)
          have S_com_example_fides_fides_command_perf_Outcome_ABORTED_K10 := own_staK1 S_w_ABORTED K10 (own_plainV V)
          have E_w_ABORTED_K10 := E_w_ABORTED.keep K10
          have F_w_ABORTED_ordinal_K10 := F_w_ABORTED.keep K10 (ninS n_w_ABORTED nin0)
          have S_com_example_fides_fides_command_perf_Outcome_OPEN_K10 := own_staK1 S_w_OPEN K10 (own_plainV V)
          have E_w_OPEN_K10 := E_w_OPEN.keep K10
          have F_w_OPEN_ordinal_K10 := F_w_OPEN.keep K10 (ninS n_w_OPEN nin0)
          have S_com_example_fides_fides_command_perf_Outcome_TIMED_OUT_K10 := own_staK1 S_w_TIMED_OUT K10 (own_plainV V)
          have E_w_TIMED_OUT_K10 := E_w_TIMED_OUT.keep K10
          have F_w_TIMED_OUT_ordinal_K10 := F_w_TIMED_OUT.keep K10 (ninS n_w_TIMED_OUT nin0)
          have Zl10 : n0 ≤ T10.heap.size := Nat.le_trans Z0 K10.1
          refine own_of (fun _ k => st10.trans k) ?_
          show own_Out p e below _ (T10.setTop (mkF m 48 #[.val (.int p0), .val (.int p1), .val (.int p2), .val (.int p3), .val (.ref t), .val (.long nn), .second, .unset, .unset, .unset, .unset] []))
          refine own_of (fun _ k => XS.lload X10.here hx rfl (hb hby at_48) rfl k) ?_
          show own_Out p e below _ (T10.setTop (mkF m 50 #[.val (.int p0), .val (.int p1), .val (.int p2), .val (.int p3), .val (.ref t), .val (.long nn), .second, .unset, .unset, .unset, .unset] [(.long nn)]))
          refine own_of (fun _ k => XS.lconst X10.here hx rfl (hb hby at_50) k) ?_
          show own_Out p e below _ (T10.setTop (mkF m 51 #[.val (.int p0), .val (.int p1), .val (.int p2), .val (.int p3), .val (.ref t), .val (.long nn), .second, .unset, .unset, .unset, .unset] [(.long (1 : Int64)), (.long nn)]))
          refine own_of (fun _ k => XS.ladd X10.here hx rfl (hb hby at_51) rfl k) ?_
          show own_Out p e below _ (T10.setTop (mkF m 52 #[.val (.int p0), .val (.int p1), .val (.int p2), .val (.int p3), .val (.ref t), .val (.long nn), .second, .unset, .unset, .unset, .unset] [(.long (nn + (1 : Int64)))]))
          refine own_of (fun _ k => XS.lstore X10.here hx rfl (hb hby at_52) rfl (l' := #[.val (.int p0), .val (.int p1), .val (.int p2), .val (.int p3), .val (.ref t), .val (.long (nn + (1 : Int64))), .second, .unset, .unset, .unset, .unset]) rfl k) ?_
          show own_Out p e below _ (T10.setTop (mkF m 54 #[.val (.int p0), .val (.int p1), .val (.int p2), .val (.int p3), .val (.ref t), .val (.long (nn + (1 : Int64))), .second, .unset, .unset, .unset, .unset] []))
          exact sg54 (Q := Q) p0 p1 p2 p3 t b k x0 x1 (x2 + (1 : Int64)) x3 (nn + (1 : Int64)) w_COMMITTED w_ABORTED w_OPEN w_TIMED_OUT T10.heap n0 X10 hx hZ hw hby hml hown hret hlk hQ rfl Zl10 N10 E_t_K10 F_t_counts_K10 V10 g_b ntb S_com_example_fides_fides_command_perf_Outcome_COMMITTED_K10 S_com_example_fides_fides_command_perf_Outcome_ABORTED_K10 S_com_example_fides_fides_command_perf_Outcome_OPEN_K10 S_com_example_fides_fides_command_perf_Outcome_TIMED_OUT_K10 E_w_COMMITTED_K10 E_w_ABORTED_K10 E_w_OPEN_K10 E_w_TIMED_OUT_K10 F_w_COMMITTED_ordinal_K10 F_w_ABORTED_ordinal_K10 F_w_OPEN_ordinal_K10 F_w_TIMED_OUT_ordinal_K10 n_w_COMMITTED n_w_ABORTED n_w_OPEN n_w_TIMED_OUT (own_n2 hsum)
        · skip
          obtain ⟨_, _, ⟨T11, L11, k11, n11⟩, -, X11, ⟨Lc11, hQ11, l11, y11, z11⟩, st11⟩ := Jvm.LawKit.callS X0 hx (y := (⟨"com/example/fides/fides/command/perf/TallyTotalPinLaw", "pick", "(I)Lcom/example/fides/fides/command/perf/Outcome;"⟩ : MethodName)) hown (mvT hZ (hw _ (List.mem_of_getElem? (i := 55) rfl))) (mvT hZ (hw _ (List.mem_of_getElem? (i := 56) rfl))) (mvT hZ (hw _ (List.mem_of_getElem? (i := 57) rfl))) (mvT hZ (hw _ (List.mem_of_getElem? (i := 58) rfl))) (by decide) (backOf (W := 1) (rm7e3 l Z a0 hw [] p1 w_TIMED_OUT h0 n0 Z0 S_w_TIMED_OUT hc42_2 hc42_5 hc42_8) hZ (hw _ (List.mem_of_getElem? (i := 58) rfl)) (hw _ (List.mem_of_getElem? (i := 57) rfl)) (by decide) (by decide)) (g := (mkF m 42 #[.val (.int p0), .val (.int p1), .val (.int p2), .val (.int p3), .val (.ref t), .val (.long nn), .second, .unset, .unset, .unset, .unset] [(.int p1), (.ref t)])) rfl (by rw [hml]; rfl) (argsL := [(.int p1)]) (rest := [(.ref t)]) (lenOf pd_4 rfl) rfl (by show 2 * 0 + _ ≤ _; exact Nat.le_of_eq rfl) (hb hby at_42) (fun _ _ => ⟨rfl, e0, (by decide : 3 + 0 ≤ _), (by decide : 9 + 0 ≤ _)⟩)
          dsimp only [Pt.U, Pt.locs, Pt.cells, Pt.slots] at X11 l11 y11 z11 st11 hQ11
          subst l11 y11 z11
          obtain ⟨rfl, N11q, hh11⟩ := hQ11
          have N11 := Fr.app N0 N11q
          refine own_of st11 ?_
          show own_Out p e below _ (T11.setTop (mkF m 45 #[.val (.int p0), .val (.int p1), .val (.int p2), .val (.int p3), .val (.ref t), .val (.long nn), .second, .unset, .unset, .unset, .unset] [(.ref w_TIMED_OUT), (.ref t)]))
          obtain ⟨cq12, kq12, q12a, q12b, q12c⟩ := isOf hZ hh11 E_t
          obtain ⟨_, _, ⟨T12, L12, k12, n12⟩, -, X12, ⟨Lc12, hQ12, l12, y12, z12⟩, st12⟩ := X11.virtualBack hx (y := (⟨"com/example/fides/fides/command/perf/Tally", "add", "(Lcom/example/fides/fides/command/perf/Outcome;)V"⟩ : MethodName)) (z := (⟨"com/example/fides/fides/command/perf/Tally", "add", "(Lcom/example/fides/fides/command/perf/Outcome;)V"⟩ : MethodName)) hown (mvT hZ (hw _ (List.mem_of_getElem? (i := 59) rfl))) (mvT hZ (hw _ (List.mem_of_getElem? (i := 60) rfl))) (notFace_of_selects (args := #[]) (mvT hZ (hw _ (List.mem_of_getElem? (i := 62) rfl)))) (mvT hZ (hw _ (List.mem_of_getElem? (i := 62) rfl))) (mvT hZ (hw _ (List.mem_of_getElem? (i := 61) rfl))) (by decide) (backOf (W := 0) (rm8e3 l Z a0 hw [] t w_TIMED_OUT b k x0 x1 x2 x3 h0 n0 Z0 F_t V E_w_TIMED_OUT F_w_TIMED_OUT g_b ntb n_w_TIMED_OUT) hZ (hw _ (List.mem_of_getElem? (i := 63) rfl)) (hw _ (List.mem_of_getElem? (i := 2) rfl)) (by decide) (by decide)) q12a q12c (g := (mkF m 45 #[.val (.int p0), .val (.int p1), .val (.int p2), .val (.int p3), .val (.ref t), .val (.long nn), .second, .unset, .unset, .unset, .unset] [(.ref w_TIMED_OUT), (.ref t)])) rfl (by rw [hml]; rfl) (Steps.refl _) (argsL := [(.ref w_TIMED_OUT)]) (rest := []) (lenOf pd_5 rfl) rfl (by show 2 * 0 + _ ≤ _; exact Nat.le_of_eq rfl) (hb hby at_45) (fun _ _ => ⟨rfl, hh11, (by decide : 3 + 0 ≤ _), (by decide : 9 + 0 ≤ _)⟩)
          dsimp only [Pt.U, Pt.locs, Pt.cells, Pt.slots] at X12 l12 y12 z12 st12 hQ12
          subst l12 y12 z12
          obtain ⟨rfl, N12q, K12, V12⟩ := hQ12
          have N12 := Fr.app N11 N12q
          have E_t_K12 := E_t.keep K12
          have F_t_counts_K12 := F_t.keep K12 (ninS ntb nin0)
          have S_com_example_fides_fides_command_perf_Outcome_COMMITTED_K12 := own_staK1 S_w_COMMITTED K12 (own_plainV V)
          have E_w_COMMITTED_K12 := E_w_COMMITTED.keep K12
          have F_w_COMMITTED_ordinal_K12 := F_w_COMMITTED.keep K12 (ninS n_w_COMMITTED nin0)
          have S_com_example_fides_fides_command_perf_Outcome_ABORTED_K12 := own_staK1 S_w_ABORTED K12 (own_plainV V)
          have E_w_ABORTED_K12 := E_w_ABORTED.keep K12
          have F_w_ABORTED_ordinal_K12 := F_w_ABORTED.keep K12 (ninS n_w_ABORTED nin0)
          have S_com_example_fides_fides_command_perf_Outcome_OPEN_K12 := own_staK1 S_w_OPEN K12 (own_plainV V)
          have E_w_OPEN_K12 := E_w_OPEN.keep K12
          have F_w_OPEN_ordinal_K12 := F_w_OPEN.keep K12 (ninS n_w_OPEN nin0)
          have S_com_example_fides_fides_command_perf_Outcome_TIMED_OUT_K12 := own_staK1 S_w_TIMED_OUT K12 (own_plainV V)
          have E_w_TIMED_OUT_K12 := E_w_TIMED_OUT.keep K12
          have F_w_TIMED_OUT_ordinal_K12 := F_w_TIMED_OUT.keep K12 (ninS n_w_TIMED_OUT nin0)
          have Zl12 : n0 ≤ T12.heap.size := Nat.le_trans Z0 K12.1
          refine own_of (fun _ k => st12.trans k) ?_
          show own_Out p e below _ (T12.setTop (mkF m 48 #[.val (.int p0), .val (.int p1), .val (.int p2), .val (.int p3), .val (.ref t), .val (.long nn), .second, .unset, .unset, .unset, .unset] []))
          refine own_of (fun _ k => XS.lload X12.here hx rfl (hb hby at_48) rfl k) ?_
          show own_Out p e below _ (T12.setTop (mkF m 50 #[.val (.int p0), .val (.int p1), .val (.int p2), .val (.int p3), .val (.ref t), .val (.long nn), .second, .unset, .unset, .unset, .unset] [(.long nn)]))
          refine own_of (fun _ k => XS.lconst X12.here hx rfl (hb hby at_50) k) ?_
          show own_Out p e below _ (T12.setTop (mkF m 51 #[.val (.int p0), .val (.int p1), .val (.int p2), .val (.int p3), .val (.ref t), .val (.long nn), .second, .unset, .unset, .unset, .unset] [(.long (1 : Int64)), (.long nn)]))
          refine own_of (fun _ k => XS.ladd X12.here hx rfl (hb hby at_51) rfl k) ?_
          show own_Out p e below _ (T12.setTop (mkF m 52 #[.val (.int p0), .val (.int p1), .val (.int p2), .val (.int p3), .val (.ref t), .val (.long nn), .second, .unset, .unset, .unset, .unset] [(.long (nn + (1 : Int64)))]))
          refine own_of (fun _ k => XS.lstore X12.here hx rfl (hb hby at_52) rfl (l' := #[.val (.int p0), .val (.int p1), .val (.int p2), .val (.int p3), .val (.ref t), .val (.long (nn + (1 : Int64))), .second, .unset, .unset, .unset, .unset]) rfl k) ?_
          show own_Out p e below _ (T12.setTop (mkF m 54 #[.val (.int p0), .val (.int p1), .val (.int p2), .val (.int p3), .val (.ref t), .val (.long (nn + (1 : Int64))), .second, .unset, .unset, .unset, .unset] []))
          exact sg54 (Q := Q) p0 p1 p2 p3 t b k x0 x1 x2 (x3 + (1 : Int64)) (nn + (1 : Int64)) w_COMMITTED w_ABORTED w_OPEN w_TIMED_OUT T12.heap n0 X12 hx hZ hw hby hml hown hret hlk hQ rfl Zl12 N12 E_t_K12 F_t_counts_K12 V12 g_b ntb S_com_example_fides_fides_command_perf_Outcome_COMMITTED_K12 S_com_example_fides_fides_command_perf_Outcome_ABORTED_K12 S_com_example_fides_fides_command_perf_Outcome_OPEN_K12 S_com_example_fides_fides_command_perf_Outcome_TIMED_OUT_K12 E_w_COMMITTED_K12 E_w_ABORTED_K12 E_w_OPEN_K12 E_w_TIMED_OUT_K12 F_w_COMMITTED_ordinal_K12 F_w_ABORTED_ordinal_K12 F_w_OPEN_ordinal_K12 F_w_TIMED_OUT_ordinal_K12 n_w_COMMITTED n_w_ABORTED n_w_OPEN n_w_TIMED_OUT (own_n3 hsum)
theorem own_z : ((((0 : Int64) + (0 : Int64)) + (0 : Int64)) + (0 : Int64)) = (0 : Int64) := by decide
theorem pd_6 : parseMethodDescriptor "()V" = some ⟨[], none⟩ := by decide +kernel
theorem ef_0 (m : MethodId) (x0 : Int32) (x1 : Int32) (x2 : Int32) (x3 : Int32) : entryFrame m #[(.int x0), (.int x1), (.int x2), (.int x3)] maxLocals = mkF m 0 #[.val (.int x0), .val (.int x1), .val (.int x2), .val (.int x3), .unset, .unset, .unset, .unset, .unset, .unset, .unset] [] := by first | (simp [entryFrame, mkF, argsToLocals, Value.category, maxLocals]; done) | rfl
def Q0 (Z : State) (p0 : Int32) (p1 : Int32) (p2 : Int32) (p3 : Int32) (wV : Addr) (cl : Cell) (w_COMMITTED : Addr) (w_ABORTED : Addr) (w_OPEN : Addr) (w_TIMED_OUT : Addr) (h0 : Heap) (n0 : Nat) (v : Option Value) (h : Heap) (L : List Loc) : Prop := v = some (.int 1) ∧ Fr n0 L
set_option maxRecDepth 65536 in
set_option maxHeartbeats 40000000 in
theorem rm0 (l : Launch) (Z : State) (a0 : Array Value) (hw : ∀ d ∈ tables_1, d.before a0 Z = true) (ws : List Jvm.Cond) (p0 : Int32) (p1 : Int32) (p2 : Int32) (p3 : Int32) (wV : Addr) (cl : Cell) (w_COMMITTED : Addr) (w_ABORTED : Addr) (w_OPEN : Addr) (w_TIMED_OUT : Addr) (h0 : Heap) (n0 : Nat) (Z0 : n0 ≤ h0.size) (S : Sta Z h0 "com/example/fides/fides/command/perf/Outcome" "$VALUES" "[Lcom/example/fides/fides/command/perf/Outcome;" (.ref wV)) (A_wV : Arr Z h0 wV cl (.object "com/example/fides/fides/command/perf/Outcome")) (E : Exa Z h0 wV "[Lcom/example/fides/fides/command/perf/Outcome;") (FC : FitC Z cl) (hsz : cl.slots.size = (4 : Int32).toNatClampNeg) (S_w_COMMITTED : Sta Z h0 "com/example/fides/fides/command/perf/Outcome" "COMMITTED" "Lcom/example/fides/fides/command/perf/Outcome;" (.ref w_COMMITTED)) (S_w_ABORTED : Sta Z h0 "com/example/fides/fides/command/perf/Outcome" "ABORTED" "Lcom/example/fides/fides/command/perf/Outcome;" (.ref w_ABORTED)) (S_w_OPEN : Sta Z h0 "com/example/fides/fides/command/perf/Outcome" "OPEN" "Lcom/example/fides/fides/command/perf/Outcome;" (.ref w_OPEN)) (S_w_TIMED_OUT : Sta Z h0 "com/example/fides/fides/command/perf/Outcome" "TIMED_OUT" "Lcom/example/fides/fides/command/perf/Outcome;" (.ref w_TIMED_OUT)) (E_w_COMMITTED : Exa Z h0 w_COMMITTED "com/example/fides/fides/command/perf/Outcome") (E_w_ABORTED : Exa Z h0 w_ABORTED "com/example/fides/fides/command/perf/Outcome") (E_w_OPEN : Exa Z h0 w_OPEN "com/example/fides/fides/command/perf/Outcome") (E_w_TIMED_OUT : Exa Z h0 w_TIMED_OUT "com/example/fides/fides/command/perf/Outcome") (F_w_COMMITTED : Fld Z h0 w_COMMITTED "java/lang/Enum" "ordinal" "I" (.int (0 : Int32))) (F_w_ABORTED : Fld Z h0 w_ABORTED "java/lang/Enum" "ordinal" "I" (.int (1 : Int32))) (F_w_OPEN : Fld Z h0 w_OPEN "java/lang/Enum" "ordinal" "I" (.int (2 : Int32))) (F_w_TIMED_OUT : Fld Z h0 w_TIMED_OUT "java/lang/Enum" "ordinal" "I" (.int (3 : Int32))) :
    MetFree l x (head1 (Jvm.Cond.code x code maxLocals ret :: ws) room_1) (fun a U => a = #[(.int p0), (.int p1), (.int p2), (.int p3)] ∧ Z.Warmed39 U.vm ∧ U.heap = h0) (fun _ _ _ _ _ => True) (fun _ U o U' => ∃ v L, o = .returned v ∧ Q0 Z p0 p1 p2 p3 wV cl w_COMMITTED w_ABORTED w_OPEN w_TIMED_OUT h0 n0 v U'.heap L ∧ FrameEnd U o U' L 3 9) := by
  refine MetFree.of_bodySF (plainFor_of_name pn_3) hisR ?_
  intro p e s m args below meth c s₁ Bd hml0 hP hK
  obtain ⟨rfl, hZ, hh⟩ := hP
  have hx := Bd.exec
  have hby := Bd.bytes
  have hml : c.maxLocals = 11 := hml0
  have hown : s.vm.findClass "com/example/fides/fides/command/perf/TallyTotalPinLaw" = some m.cls := findClass_of_methodNamed Bd.named
  have hnm := (name_of_methodNamed Bd.named Bd.method).1
  have X0 : Stand p l e room_1 s m #[(.int p0), (.int p1), (.int p2), (.int p3)] below meth c s₁ [] 0 0 := Stand.of_body Bd
  have e0 : s₁.heap = h0 := by rw [← hh, Bd.state]; rfl
  have N0 := Fr.nil n0
  have hret := Bd.returns
  have hlk := BodyLoose.notSynchronized Bd
  show own_Out p e below (fun o U' => ∃ v L, o = .returned v ∧ Q0 Z p0 p1 p2 p3 wV cl w_COMMITTED w_ABORTED w_OPEN w_TIMED_OUT h0 n0 v U'.heap L ∧ FrameEnd s o U' L 3 9) (s₁.setTop (entryFrame m #[(.int p0), (.int p1), (.int p2), (.int p3)] maxLocals))
  refine own_of (fun t k => castTop (ef_0 m p0 p1 p2 p3) k) ?_
  show own_Out p e below _ (s₁.setTop (mkF m 0 #[.val (.int p0), .val (.int p1), .val (.int p2), .val (.int p3), .unset, .unset, .unset, .unset, .unset, .unset, .unset] []))
  obtain ⟨T1, h1, X1, e1, E1, A1, D1, -, st1⟩ := newO X0 hx hZ hown (hw _ (List.mem_of_getElem? (i := 0) rfl)) (hw _ (List.mem_of_getElem? (i := 1) rfl)) (hw _ (List.mem_of_getElem? (i := 2) rfl)) e0 (g := (mkF m 0 #[.val (.int p0), .val (.int p1), .val (.int p2), .val (.int p3), .unset, .unset, .unset, .unset, .unset, .unset, .unset] [])) rfl (hb hby at_0) (by decide) (by decide)
  obtain ⟨b1, g1⟩ : ∃ z, z = h0.size := ⟨_, rfl⟩
  rw [← g1] at A1 D1 st1
  have ne_wV_b1 : wV ≠ b1 := Nat.ne_of_lt (Nat.lt_of_lt_of_le E.lt (Nat.le_of_eq g1.symm))
  have ne_w_COMMITTED_b1 : w_COMMITTED ≠ b1 := Nat.ne_of_lt (Nat.lt_of_lt_of_le E_w_COMMITTED.lt (Nat.le_of_eq g1.symm))
  have ne_w_ABORTED_b1 : w_ABORTED ≠ b1 := Nat.ne_of_lt (Nat.lt_of_lt_of_le E_w_ABORTED.lt (Nat.le_of_eq g1.symm))
  have ne_w_OPEN_b1 : w_OPEN ≠ b1 := Nat.ne_of_lt (Nat.lt_of_lt_of_le E_w_OPEN.lt (Nat.le_of_eq g1.symm))
  have ne_w_TIMED_OUT_b1 : w_TIMED_OUT ≠ b1 := Nat.ne_of_lt (Nat.lt_of_lt_of_le E_w_TIMED_OUT.lt (Nat.le_of_eq g1.symm))
  have g_b1 : n0 ≤ b1 := Nat.le_trans Z0 (Nat.le_of_eq g1.symm)
  have Zl1 : n0 ≤ h1.size := Nat.le_trans Z0 E1.1
  have S_com_example_fides_fides_command_perf_Outcome__VALUES_1 := S.ext E1
  have E_wV_1 := E.ext E1
  have A_wV_1 := A_wV.ext E1
  have S_com_example_fides_fides_command_perf_Outcome_COMMITTED_1 := S_w_COMMITTED.ext E1
  have E_w_COMMITTED_1 := E_w_COMMITTED.ext E1
  have F_w_COMMITTED_ordinal_1 := F_w_COMMITTED.ext E1
  have S_com_example_fides_fides_command_perf_Outcome_ABORTED_1 := S_w_ABORTED.ext E1
  have E_w_ABORTED_1 := E_w_ABORTED.ext E1
  have F_w_ABORTED_ordinal_1 := F_w_ABORTED.ext E1
  have S_com_example_fides_fides_command_perf_Outcome_OPEN_1 := S_w_OPEN.ext E1
  have E_w_OPEN_1 := E_w_OPEN.ext E1
  have F_w_OPEN_ordinal_1 := F_w_OPEN.ext E1
  have S_com_example_fides_fides_command_perf_Outcome_TIMED_OUT_1 := S_w_TIMED_OUT.ext E1
  have E_w_TIMED_OUT_1 := E_w_TIMED_OUT.ext E1
  have F_w_TIMED_OUT_ordinal_1 := F_w_TIMED_OUT.ext E1
  have F_b1_counts : Fld Z h1 b1 "com/example/fides/fides/command/perf/Tally" "counts" "[J" .null := D1 (Or.inr (hw _ (List.mem_of_getElem? (i := 31) rfl))) (ty := (.array .long)) (by decide)
  refine own_of st1 ?_
  show own_Out p e below _ (T1.setTop (mkF m 3 #[.val (.int p0), .val (.int p1), .val (.int p2), .val (.int p3), .unset, .unset, .unset, .unset, .unset, .unset, .unset] [(.ref b1)]))
  refine own_of (fun _ k => XS.dup X1.here hx rfl (hb hby at_3) rfl rfl k) ?_
  show own_Out p e below _ (T1.setTop (mkF m 4 #[.val (.int p0), .val (.int p1), .val (.int p2), .val (.int p3), .unset, .unset, .unset, .unset, .unset, .unset, .unset] [(.ref b1), (.ref b1)]))
  obtain ⟨_, _, ⟨T2, L2, k2, n2⟩, -, X2, ⟨Lc2, hQ2, l2, y2, z2⟩, st2⟩ := X1.specialBack hx (y := (⟨"com/example/fides/fides/command/perf/Tally", "<init>", "()V"⟩ : MethodName)) rfl hown (mvT hZ (hw _ (List.mem_of_getElem? (i := 3) rfl))) (mvT hZ (hw _ (List.mem_of_getElem? (i := 4) rfl))) (mvT hZ (hw _ (List.mem_of_getElem? (i := 5) rfl))) (by decide) (backOf (W := 1) (rm1 l Z a0 hw [] b1 wV cl h1 n0 Zl1 S_com_example_fides_fides_command_perf_Outcome__VALUES_1 A_wV_1 E_wV_1 FC hsz A1 F_b1_counts g_b1 ne_wV_b1) hZ (hw _ (List.mem_of_getElem? (i := 5) rfl)) (hw _ (List.mem_of_getElem? (i := 2) rfl)) (by decide) (by decide)) (g := (mkF m 4 #[.val (.int p0), .val (.int p1), .val (.int p2), .val (.int p3), .unset, .unset, .unset, .unset, .unset, .unset, .unset] [(.ref b1), (.ref b1)])) rfl (by rw [hml]; rfl) (Steps.refl _) (a := b1) (argsL := []) (rest := [(.ref b1)]) (lenOf pd_6 rfl) rfl (by show 2 * 0 + _ ≤ _; exact Nat.le_of_eq rfl) (hb hby at_4) (fun _ _ => ⟨rfl, e1, (by decide : 1 + 2 ≤ _), (by decide : 1 + 8 ≤ _)⟩)
  dsimp only [Pt.U, Pt.locs, Pt.cells, Pt.slots] at X2 l2 y2 z2 st2 hQ2
  subst l2 y2 z2
  obtain ⟨b2, k2, rfl, N2q, K2, E2, F2, V2, hg2, hs2⟩ := hQ2
  have N2 := Fr.app N0 N2q
  have ne_wV_b2 : wV ≠ b2 := Nat.ne_of_lt (Nat.lt_of_lt_of_le E_wV_1.lt hs2)
  have ne_w_COMMITTED_b2 : w_COMMITTED ≠ b2 := Nat.ne_of_lt (Nat.lt_of_lt_of_le E_w_COMMITTED_1.lt hs2)
  have ne_w_ABORTED_b2 : w_ABORTED ≠ b2 := Nat.ne_of_lt (Nat.lt_of_lt_of_le E_w_ABORTED_1.lt hs2)
  have ne_w_OPEN_b2 : w_OPEN ≠ b2 := Nat.ne_of_lt (Nat.lt_of_lt_of_le E_w_OPEN_1.lt hs2)
  have ne_w_TIMED_OUT_b2 : w_TIMED_OUT ≠ b2 := Nat.ne_of_lt (Nat.lt_of_lt_of_le E_w_TIMED_OUT_1.lt hs2)
  have ne_b1_b2 : b1 ≠ b2 := Nat.ne_of_lt (Nat.lt_of_lt_of_le A1.lt hs2)
  have S_com_example_fides_fides_command_perf_Outcome__VALUES_K2 := own_staK1 S_com_example_fides_fides_command_perf_Outcome__VALUES_1 K2 (own_plainE A1)
  have E_wV_K2 := E_wV_1.keep K2
  have S_com_example_fides_fides_command_perf_Outcome_COMMITTED_K2 := own_staK1 S_com_example_fides_fides_command_perf_Outcome_COMMITTED_1 K2 (own_plainE A1)
  have E_w_COMMITTED_K2 := E_w_COMMITTED_1.keep K2
  have F_w_COMMITTED_ordinal_K2 := F_w_COMMITTED_ordinal_1.keep K2 (ninS ne_w_COMMITTED_b1 nin0)
  have S_com_example_fides_fides_command_perf_Outcome_ABORTED_K2 := own_staK1 S_com_example_fides_fides_command_perf_Outcome_ABORTED_1 K2 (own_plainE A1)
  have E_w_ABORTED_K2 := E_w_ABORTED_1.keep K2
  have F_w_ABORTED_ordinal_K2 := F_w_ABORTED_ordinal_1.keep K2 (ninS ne_w_ABORTED_b1 nin0)
  have S_com_example_fides_fides_command_perf_Outcome_OPEN_K2 := own_staK1 S_com_example_fides_fides_command_perf_Outcome_OPEN_1 K2 (own_plainE A1)
  have E_w_OPEN_K2 := E_w_OPEN_1.keep K2
  have F_w_OPEN_ordinal_K2 := F_w_OPEN_ordinal_1.keep K2 (ninS ne_w_OPEN_b1 nin0)
  have S_com_example_fides_fides_command_perf_Outcome_TIMED_OUT_K2 := own_staK1 S_com_example_fides_fides_command_perf_Outcome_TIMED_OUT_1 K2 (own_plainE A1)
  have E_w_TIMED_OUT_K2 := E_w_TIMED_OUT_1.keep K2
  have F_w_TIMED_OUT_ordinal_K2 := F_w_TIMED_OUT_ordinal_1.keep K2 (ninS ne_w_TIMED_OUT_b1 nin0)
  have Zl2 : n0 ≤ T2.heap.size := Nat.le_trans Zl1 K2.1
  refine own_of (fun _ k => st2.trans k) ?_
  show own_Out p e below _ (T2.setTop (mkF m 7 #[.val (.int p0), .val (.int p1), .val (.int p2), .val (.int p3), .unset, .unset, .unset, .unset, .unset, .unset, .unset] [(.ref b1)]))
  refine own_of (fun _ k => XS.astore X2.here hx rfl (hb hby at_7) rfl rfl (l' := #[.val (.int p0), .val (.int p1), .val (.int p2), .val (.int p3), .val (.ref b1), .unset, .unset, .unset, .unset, .unset, .unset]) rfl k) ?_
  show own_Out p e below _ (T2.setTop (mkF m 9 #[.val (.int p0), .val (.int p1), .val (.int p2), .val (.int p3), .val (.ref b1), .unset, .unset, .unset, .unset, .unset, .unset] []))
  refine own_of (fun _ k => XS.lconst X2.here hx rfl (hb hby at_9) k) ?_
  show own_Out p e below _ (T2.setTop (mkF m 10 #[.val (.int p0), .val (.int p1), .val (.int p2), .val (.int p3), .val (.ref b1), .unset, .unset, .unset, .unset, .unset, .unset] [(.long (0 : Int64))]))
  refine own_of (fun _ k => XS.lstore X2.here hx rfl (hb hby at_10) rfl (l' := #[.val (.int p0), .val (.int p1), .val (.int p2), .val (.int p3), .val (.ref b1), .val (.long (0 : Int64)), .second, .unset, .unset, .unset, .unset]) rfl k) ?_
  show own_Out p e below _ (T2.setTop (mkF m 12 #[.val (.int p0), .val (.int p1), .val (.int p2), .val (.int p3), .val (.ref b1), .val (.long (0 : Int64)), .second, .unset, .unset, .unset, .unset] []))
  refine own_of (fun _ k => XS.iloadN X2.here hx rfl (hb hby at_12) rfl k) ?_
  show own_Out p e below _ (T2.setTop (mkF m 13 #[.val (.int p0), .val (.int p1), .val (.int p2), .val (.int p3), .val (.ref b1), .val (.long (0 : Int64)), .second, .unset, .unset, .unset, .unset] [(.int p0)]))
  refine own_of (fun _ k => XS.iconst X2.here hx rfl (hb hby at_13) k) ?_
  show own_Out p e below _ (T2.setTop (mkF m 14 #[.val (.int p0), .val (.int p1), .val (.int p2), .val (.int p3), .val (.ref b1), .val (.long (0 : Int64)), .second, .unset, .unset, .unset, .unset] [(.int (4 : Int32)), (.int p0)]))
  refine own_of (fun _ k => XS.iand X2.here hx rfl (hb hby at_14) rfl k) ?_
  show own_Out p e below _ (T2.setTop (mkF m 15 #[.val (.int p0), .val (.int p1), .val (.int p2), .val (.int p3), .val (.ref b1), .val (.long (0 : Int64)), .second, .unset, .unset, .unset, .unset] [(.int (p0 &&& (4 : Int32)))]))
  by_cases hc15_3 : (p0 &&& (4 : Int32)) = (0 : Int32)
  · skip
    refine own_of (fun _ k => XS.ifYes X2.here hx rfl (pc0 := 15) (pc' := 33) rfl (hb hby at_15) rfl ((if0 _ _).trans (teq hc15_3).1) (by decide) (by decide) k) ?_
    show own_Out p e below _ (T2.setTop (mkF m 33 #[.val (.int p0), .val (.int p1), .val (.int p2), .val (.int p3), .val (.ref b1), .val (.long (0 : Int64)), .second, .unset, .unset, .unset, .unset] []))
    exact sg33 (Q := Q0 Z p0 p1 p2 p3 wV cl w_COMMITTED w_ABORTED w_OPEN w_TIMED_OUT h0 n0) p0 p1 p2 p3 b1 b2 k2 (0 : Int64) (0 : Int64) (0 : Int64) (0 : Int64) (0 : Int64) w_COMMITTED w_ABORTED w_OPEN w_TIMED_OUT T2.heap n0 X2 hx hZ hw hby hml hown hret hlk (fun _ _ N => ⟨rfl, N⟩) rfl Zl2 N2 E2 F2 V2 hg2 ne_b1_b2 S_com_example_fides_fides_command_perf_Outcome_COMMITTED_K2 S_com_example_fides_fides_command_perf_Outcome_ABORTED_K2 S_com_example_fides_fides_command_perf_Outcome_OPEN_K2 S_com_example_fides_fides_command_perf_Outcome_TIMED_OUT_K2 E_w_COMMITTED_K2 E_w_ABORTED_K2 E_w_OPEN_K2 E_w_TIMED_OUT_K2 F_w_COMMITTED_ordinal_K2 F_w_ABORTED_ordinal_K2 F_w_OPEN_ordinal_K2 F_w_TIMED_OUT_ordinal_K2 ne_w_COMMITTED_b2 ne_w_ABORTED_b2 ne_w_OPEN_b2 ne_w_TIMED_OUT_b2 own_z
  · skip
    refine own_of (fun _ k => XS.ifNo X2.here hx rfl (hb hby at_15) rfl ((if0 _ _).trans (feq hc15_3).1) k) ?_
    show own_Out p e below _ (T2.setTop (mkF m 18 #[.val (.int p0), .val (.int p1), .val (.int p2), .val (.int p3), .val (.ref b1), .val (.long (0 : Int64)), .second, .unset, .unset, .unset, .unset] []))
    refine own_of (fun _ k => XS.aload X2.here hx rfl (hb hby at_18) rfl rfl k) ?_
    show own_Out p e below _ (T2.setTop (mkF m 20 #[.val (.int p0), .val (.int p1), .val (.int p2), .val (.int p3), .val (.ref b1), .val (.long (0 : Int64)), .second, .unset, .unset, .unset, .unset] [(.ref b1)]))
    refine own_of (fun _ k => XS.iloadN X2.here hx rfl (hb hby at_20) rfl k) ?_
    show own_Out p e below _ (T2.setTop (mkF m 21 #[.val (.int p0), .val (.int p1), .val (.int p2), .val (.int p3), .val (.ref b1), .val (.long (0 : Int64)), .second, .unset, .unset, .unset, .unset] [(.int p0), (.ref b1)]))
    by_cases hc21_4 : (p0 &&& (3 : Int32)) = (0 : Int32)
    · skip
      obtain ⟨_, _, ⟨T5, L5, k5, n5⟩, -, X5, ⟨Lc5, hQ5, l5, y5, z5⟩, st5⟩ := Jvm.LawKit.callS X2 hx (y := (⟨"com/example/fides/fides/command/perf/TallyTotalPinLaw", "pick", "(I)Lcom/example/fides/fides/command/perf/Outcome;"⟩ : MethodName)) hown (mvT hZ (hw _ (List.mem_of_getElem? (i := 55) rfl))) (mvT hZ (hw _ (List.mem_of_getElem? (i := 56) rfl))) (mvT hZ (hw _ (List.mem_of_getElem? (i := 57) rfl))) (mvT hZ (hw _ (List.mem_of_getElem? (i := 58) rfl))) (by decide) (backOf (W := 1) (rm7e0 l Z a0 hw [] p0 w_COMMITTED T2.heap n0 Zl2 S_com_example_fides_fides_command_perf_Outcome_COMMITTED_K2 hc21_4) hZ (hw _ (List.mem_of_getElem? (i := 58) rfl)) (hw _ (List.mem_of_getElem? (i := 57) rfl)) (by decide) (by decide)) (g := (mkF m 21 #[.val (.int p0), .val (.int p1), .val (.int p2), .val (.int p3), .val (.ref b1), .val (.long (0 : Int64)), .second, .unset, .unset, .unset, .unset] [(.int p0), (.ref b1)])) rfl (by rw [hml]; rfl) (argsL := [(.int p0)]) (rest := [(.ref b1)]) (lenOf pd_4 rfl) rfl (by show 2 * 0 + _ ≤ _; exact Nat.le_of_eq rfl) (hb hby at_21) (fun _ _ => ⟨rfl, rfl, (by decide : 3 + 0 ≤ _), (by decide : 9 + 0 ≤ _)⟩)
      dsimp only [Pt.U, Pt.locs, Pt.cells, Pt.slots] at X5 l5 y5 z5 st5 hQ5
      subst l5 y5 z5
      obtain ⟨rfl, N5q, hh5⟩ := hQ5
      have N5 := Fr.app N2 N5q
      refine own_of st5 ?_
      show own_Out p e below _ (T5.setTop (mkF m 24 #[.val (.int p0), .val (.int p1), .val (.int p2), .val (.int p3), .val (.ref b1), .val (.long (0 : Int64)), .second, .unset, .unset, .unset, .unset] [(.ref w_COMMITTED), (.ref b1)]))
      obtain ⟨cq6, kq6, q6a, q6b, q6c⟩ := isOf hZ hh5 E2
      obtain ⟨_, _, ⟨T6, L6, k6, n6⟩, -, X6, ⟨Lc6, hQ6, l6, y6, z6⟩, st6⟩ := X5.virtualBack hx (y := (⟨"com/example/fides/fides/command/perf/Tally", "add", "(Lcom/example/fides/fides/command/perf/Outcome;)V"⟩ : MethodName)) (z := (⟨"com/example/fides/fides/command/perf/Tally", "add", "(Lcom/example/fides/fides/command/perf/Outcome;)V"⟩ : MethodName)) hown (mvT hZ (hw _ (List.mem_of_getElem? (i := 59) rfl))) (mvT hZ (hw _ (List.mem_of_getElem? (i := 60) rfl))) (notFace_of_selects (args := #[]) (mvT hZ (hw _ (List.mem_of_getElem? (i := 62) rfl)))) (mvT hZ (hw _ (List.mem_of_getElem? (i := 62) rfl))) (mvT hZ (hw _ (List.mem_of_getElem? (i := 61) rfl))) (by decide) (backOf (W := 0) (rm8e0 l Z a0 hw [] b1 w_COMMITTED b2 k2 (0 : Int64) (0 : Int64) (0 : Int64) (0 : Int64) T2.heap n0 Zl2 F2 V2 E_w_COMMITTED_K2 F_w_COMMITTED_ordinal_K2 hg2 ne_b1_b2 ne_w_COMMITTED_b2) hZ (hw _ (List.mem_of_getElem? (i := 63) rfl)) (hw _ (List.mem_of_getElem? (i := 2) rfl)) (by decide) (by decide)) q6a q6c (g := (mkF m 24 #[.val (.int p0), .val (.int p1), .val (.int p2), .val (.int p3), .val (.ref b1), .val (.long (0 : Int64)), .second, .unset, .unset, .unset, .unset] [(.ref w_COMMITTED), (.ref b1)])) rfl (by rw [hml]; rfl) (Steps.refl _) (argsL := [(.ref w_COMMITTED)]) (rest := []) (lenOf pd_5 rfl) rfl (by show 2 * 0 + _ ≤ _; exact Nat.le_of_eq rfl) (hb hby at_24) (fun _ _ => ⟨rfl, hh5, (by decide : 3 + 0 ≤ _), (by decide : 9 + 0 ≤ _)⟩)
      dsimp only [Pt.U, Pt.locs, Pt.cells, Pt.slots] at X6 l6 y6 z6 st6 hQ6
      subst l6 y6 z6
      obtain ⟨rfl, N6q, K6, V6⟩ := hQ6
      have N6 := Fr.app N5 N6q
      have S_com_example_fides_fides_command_perf_Outcome__VALUES_K6 := own_staK1 S_com_example_fides_fides_command_perf_Outcome__VALUES_K2 K6 (own_plainV V2)
      have E_wV_K6 := E_wV_K2.keep K6
      have S_com_example_fides_fides_command_perf_Outcome_COMMITTED_K6 := own_staK1 S_com_example_fides_fides_command_perf_Outcome_COMMITTED_K2 K6 (own_plainV V2)
      have E_w_COMMITTED_K6 := E_w_COMMITTED_K2.keep K6
      have F_w_COMMITTED_ordinal_K6 := F_w_COMMITTED_ordinal_K2.keep K6 (ninS ne_w_COMMITTED_b2 nin0)
      have S_com_example_fides_fides_command_perf_Outcome_ABORTED_K6 := own_staK1 S_com_example_fides_fides_command_perf_Outcome_ABORTED_K2 K6 (own_plainV V2)
      have E_w_ABORTED_K6 := E_w_ABORTED_K2.keep K6
      have F_w_ABORTED_ordinal_K6 := F_w_ABORTED_ordinal_K2.keep K6 (ninS ne_w_ABORTED_b2 nin0)
      have S_com_example_fides_fides_command_perf_Outcome_OPEN_K6 := own_staK1 S_com_example_fides_fides_command_perf_Outcome_OPEN_K2 K6 (own_plainV V2)
      have E_w_OPEN_K6 := E_w_OPEN_K2.keep K6
      have F_w_OPEN_ordinal_K6 := F_w_OPEN_ordinal_K2.keep K6 (ninS ne_w_OPEN_b2 nin0)
      have S_com_example_fides_fides_command_perf_Outcome_TIMED_OUT_K6 := own_staK1 S_com_example_fides_fides_command_perf_Outcome_TIMED_OUT_K2 K6 (own_plainV V2)
      have E_w_TIMED_OUT_K6 := E_w_TIMED_OUT_K2.keep K6
      have F_w_TIMED_OUT_ordinal_K6 := F_w_TIMED_OUT_ordinal_K2.keep K6 (ninS ne_w_TIMED_OUT_b2 nin0)
      have E_b1_K6 := E2.keep K6
      have F_b1_counts_K6 := F2.keep K6 (ninS ne_b1_b2 nin0)
      have Zl6 : n0 ≤ T6.heap.size := Nat.le_trans Zl2 K6.1
      refine own_of (fun _ k => st6.trans k) ?_
      show own_Out p e below _ (T6.setTop (mkF m 27 #[.val (.int p0), .val (.int p1), .val (.int p2), .val (.int p3), .val (.ref b1), .val (.long (0 : Int64)), .second, .unset, .unset, .unset, .unset] []))
      refine own_of (fun _ k => XS.lload X6.here hx rfl (hb hby at_27) rfl k) ?_
      show own_Out p e below _ (T6.setTop (mkF m 29 #[.val (.int p0), .val (.int p1), .val (.int p2), .val (.int p3), .val (.ref b1), .val (.long (0 : Int64)), .second, .unset, .unset, .unset, .unset] [(.long (0 : Int64))]))
      refine own_of (fun _ k => XS.lconst X6.here hx rfl (hb hby at_29) k) ?_
      show own_Out p e below _ (T6.setTop (mkF m 30 #[.val (.int p0), .val (.int p1), .val (.int p2), .val (.int p3), .val (.ref b1), .val (.long (0 : Int64)), .second, .unset, .unset, .unset, .unset] [(.long (1 : Int64)), (.long (0 : Int64))]))
      refine own_of (fun _ k => XS.ladd X6.here hx rfl (hb hby at_30) rfl k) ?_
      show own_Out p e below _ (T6.setTop (mkF m 31 #[.val (.int p0), .val (.int p1), .val (.int p2), .val (.int p3), .val (.ref b1), .val (.long (0 : Int64)), .second, .unset, .unset, .unset, .unset] [(.long (1 : Int64))]))
      refine own_of (fun _ k => XS.lstore X6.here hx rfl (hb hby at_31) rfl (l' := #[.val (.int p0), .val (.int p1), .val (.int p2), .val (.int p3), .val (.ref b1), .val (.long (1 : Int64)), .second, .unset, .unset, .unset, .unset]) rfl k) ?_
      show own_Out p e below _ (T6.setTop (mkF m 33 #[.val (.int p0), .val (.int p1), .val (.int p2), .val (.int p3), .val (.ref b1), .val (.long (1 : Int64)), .second, .unset, .unset, .unset, .unset] []))
      exact sg33 (Q := Q0 Z p0 p1 p2 p3 wV cl w_COMMITTED w_ABORTED w_OPEN w_TIMED_OUT h0 n0) p0 p1 p2 p3 b1 b2 k2 ((0 : Int64) + (1 : Int64)) (0 : Int64) (0 : Int64) (0 : Int64) (1 : Int64) w_COMMITTED w_ABORTED w_OPEN w_TIMED_OUT T6.heap n0 X6 hx hZ hw hby hml hown hret hlk (fun _ _ N => ⟨rfl, N⟩) rfl Zl6 N6 E_b1_K6 F_b1_counts_K6 V6 hg2 ne_b1_b2 S_com_example_fides_fides_command_perf_Outcome_COMMITTED_K6 S_com_example_fides_fides_command_perf_Outcome_ABORTED_K6 S_com_example_fides_fides_command_perf_Outcome_OPEN_K6 S_com_example_fides_fides_command_perf_Outcome_TIMED_OUT_K6 E_w_COMMITTED_K6 E_w_ABORTED_K6 E_w_OPEN_K6 E_w_TIMED_OUT_K6 F_w_COMMITTED_ordinal_K6 F_w_ABORTED_ordinal_K6 F_w_OPEN_ordinal_K6 F_w_TIMED_OUT_ordinal_K6 ne_w_COMMITTED_b2 ne_w_ABORTED_b2 ne_w_OPEN_b2 ne_w_TIMED_OUT_b2 (own_n0 own_z)
    · skip
      by_cases hc21_7 : (p0 &&& (3 : Int32)) = (1 : Int32)
      · skip
        obtain ⟨_, _, ⟨T8, L8, k8, n8⟩, -, X8, ⟨Lc8, hQ8, l8, y8, z8⟩, st8⟩ := Jvm.LawKit.callS X2 hx (y := (⟨"com/example/fides/fides/command/perf/TallyTotalPinLaw", "pick", "(I)Lcom/example/fides/fides/command/perf/Outcome;"⟩ : MethodName)) hown (mvT hZ (hw _ (List.mem_of_getElem? (i := 55) rfl))) (mvT hZ (hw _ (List.mem_of_getElem? (i := 56) rfl))) (mvT hZ (hw _ (List.mem_of_getElem? (i := 57) rfl))) (mvT hZ (hw _ (List.mem_of_getElem? (i := 58) rfl))) (by decide) (backOf (W := 1) (rm7e1 l Z a0 hw [] p0 w_ABORTED T2.heap n0 Zl2 S_com_example_fides_fides_command_perf_Outcome_ABORTED_K2 hc21_4 hc21_7) hZ (hw _ (List.mem_of_getElem? (i := 58) rfl)) (hw _ (List.mem_of_getElem? (i := 57) rfl)) (by decide) (by decide)) (g := (mkF m 21 #[.val (.int p0), .val (.int p1), .val (.int p2), .val (.int p3), .val (.ref b1), .val (.long (0 : Int64)), .second, .unset, .unset, .unset, .unset] [(.int p0), (.ref b1)])) rfl (by rw [hml]; rfl) (argsL := [(.int p0)]) (rest := [(.ref b1)]) (lenOf pd_4 rfl) rfl (by show 2 * 0 + _ ≤ _; exact Nat.le_of_eq rfl) (hb hby at_21) (fun _ _ => ⟨rfl, rfl, (by decide : 3 + 0 ≤ _), (by decide : 9 + 0 ≤ _)⟩)
        dsimp only [Pt.U, Pt.locs, Pt.cells, Pt.slots] at X8 l8 y8 z8 st8 hQ8
        subst l8 y8 z8
        obtain ⟨rfl, N8q, hh8⟩ := hQ8
        have N8 := Fr.app N2 N8q
        refine own_of st8 ?_
        show own_Out p e below _ (T8.setTop (mkF m 24 #[.val (.int p0), .val (.int p1), .val (.int p2), .val (.int p3), .val (.ref b1), .val (.long (0 : Int64)), .second, .unset, .unset, .unset, .unset] [(.ref w_ABORTED), (.ref b1)]))
        obtain ⟨cq9, kq9, q9a, q9b, q9c⟩ := isOf hZ hh8 E2
        obtain ⟨_, _, ⟨T9, L9, k9, n9⟩, -, X9, ⟨Lc9, hQ9, l9, y9, z9⟩, st9⟩ := X8.virtualBack hx (y := (⟨"com/example/fides/fides/command/perf/Tally", "add", "(Lcom/example/fides/fides/command/perf/Outcome;)V"⟩ : MethodName)) (z := (⟨"com/example/fides/fides/command/perf/Tally", "add", "(Lcom/example/fides/fides/command/perf/Outcome;)V"⟩ : MethodName)) hown (mvT hZ (hw _ (List.mem_of_getElem? (i := 59) rfl))) (mvT hZ (hw _ (List.mem_of_getElem? (i := 60) rfl))) (notFace_of_selects (args := #[]) (mvT hZ (hw _ (List.mem_of_getElem? (i := 62) rfl)))) (mvT hZ (hw _ (List.mem_of_getElem? (i := 62) rfl))) (mvT hZ (hw _ (List.mem_of_getElem? (i := 61) rfl))) (by decide) (backOf (W := 0) (rm8e1 l Z a0 hw [] b1 w_ABORTED b2 k2 (0 : Int64) (0 : Int64) (0 : Int64) (0 : Int64) T2.heap n0 Zl2 F2 V2 E_w_ABORTED_K2 F_w_ABORTED_ordinal_K2 hg2 ne_b1_b2 ne_w_ABORTED_b2) hZ (hw _ (List.mem_of_getElem? (i := 63) rfl)) (hw _ (List.mem_of_getElem? (i := 2) rfl)) (by decide) (by decide)) q9a q9c (g := (mkF m 24 #[.val (.int p0), .val (.int p1), .val (.int p2), .val (.int p3), .val (.ref b1), .val (.long (0 : Int64)), .second, .unset, .unset, .unset, .unset] [(.ref w_ABORTED), (.ref b1)])) rfl (by rw [hml]; rfl) (Steps.refl _) (argsL := [(.ref w_ABORTED)]) (rest := []) (lenOf pd_5 rfl) rfl (by show 2 * 0 + _ ≤ _; exact Nat.le_of_eq rfl) (hb hby at_24) (fun _ _ => ⟨rfl, hh8, (by decide : 3 + 0 ≤ _), (by decide : 9 + 0 ≤ _)⟩)
        dsimp only [Pt.U, Pt.locs, Pt.cells, Pt.slots] at X9 l9 y9 z9 st9 hQ9
        subst l9 y9 z9
        obtain ⟨rfl, N9q, K9, V9⟩ := hQ9
        have N9 := Fr.app N8 N9q
        have S_com_example_fides_fides_command_perf_Outcome__VALUES_K9 := own_staK1 S_com_example_fides_fides_command_perf_Outcome__VALUES_K2 K9 (own_plainV V2)
        have E_wV_K9 := E_wV_K2.keep K9
        have S_com_example_fides_fides_command_perf_Outcome_COMMITTED_K9 := own_staK1 S_com_example_fides_fides_command_perf_Outcome_COMMITTED_K2 K9 (own_plainV V2)
        have E_w_COMMITTED_K9 := E_w_COMMITTED_K2.keep K9
        have F_w_COMMITTED_ordinal_K9 := F_w_COMMITTED_ordinal_K2.keep K9 (ninS ne_w_COMMITTED_b2 nin0)
        have S_com_example_fides_fides_command_perf_Outcome_ABORTED_K9 := own_staK1 S_com_example_fides_fides_command_perf_Outcome_ABORTED_K2 K9 (own_plainV V2)
        have E_w_ABORTED_K9 := E_w_ABORTED_K2.keep K9
        have F_w_ABORTED_ordinal_K9 := F_w_ABORTED_ordinal_K2.keep K9 (ninS ne_w_ABORTED_b2 nin0)
        have S_com_example_fides_fides_command_perf_Outcome_OPEN_K9 := own_staK1 S_com_example_fides_fides_command_perf_Outcome_OPEN_K2 K9 (own_plainV V2)
        have E_w_OPEN_K9 := E_w_OPEN_K2.keep K9
        have F_w_OPEN_ordinal_K9 := F_w_OPEN_ordinal_K2.keep K9 (ninS ne_w_OPEN_b2 nin0)
        have S_com_example_fides_fides_command_perf_Outcome_TIMED_OUT_K9 := own_staK1 S_com_example_fides_fides_command_perf_Outcome_TIMED_OUT_K2 K9 (own_plainV V2)
        have E_w_TIMED_OUT_K9 := E_w_TIMED_OUT_K2.keep K9
        have F_w_TIMED_OUT_ordinal_K9 := F_w_TIMED_OUT_ordinal_K2.keep K9 (ninS ne_w_TIMED_OUT_b2 nin0)
        have E_b1_K9 := E2.keep K9
        have F_b1_counts_K9 := F2.keep K9 (ninS ne_b1_b2 nin0)
        have Zl9 : n0 ≤ T9.heap.size := Nat.le_trans Zl2 K9.1
        refine own_of (fun _ k => st9.trans k) ?_
        show own_Out p e below _ (T9.setTop (mkF m 27 #[.val (.int p0), .val (.int p1), .val (.int p2), .val (.int p3), .val (.ref b1), .val (.long (0 : Int64)), .second, .unset, .unset, .unset, .unset] []))
        refine own_of (fun _ k => XS.lload X9.here hx rfl (hb hby at_27) rfl k) ?_
        show own_Out p e below _ (T9.setTop (mkF m 29 #[.val (.int p0), .val (.int p1), .val (.int p2), .val (.int p3), .val (.ref b1), .val (.long (0 : Int64)), .second, .unset, .unset, .unset, .unset] [(.long (0 : Int64))]))
        refine own_of (fun _ k => XS.lconst X9.here hx rfl (hb hby at_29) k) ?_
        show own_Out p e below _ (T9.setTop (mkF m 30 #[.val (.int p0), .val (.int p1), .val (.int p2), .val (.int p3), .val (.ref b1), .val (.long (0 : Int64)), .second, .unset, .unset, .unset, .unset] [(.long (1 : Int64)), (.long (0 : Int64))]))
        refine own_of (fun _ k => XS.ladd X9.here hx rfl (hb hby at_30) rfl k) ?_
        show own_Out p e below _ (T9.setTop (mkF m 31 #[.val (.int p0), .val (.int p1), .val (.int p2), .val (.int p3), .val (.ref b1), .val (.long (0 : Int64)), .second, .unset, .unset, .unset, .unset] [(.long (1 : Int64))]))
        refine own_of (fun _ k => XS.lstore X9.here hx rfl (hb hby at_31) rfl (l' := #[.val (.int p0), .val (.int p1), .val (.int p2), .val (.int p3), .val (.ref b1), .val (.long (1 : Int64)), .second, .unset, .unset, .unset, .unset]) rfl k) ?_
        show own_Out p e below _ (T9.setTop (mkF m 33 #[.val (.int p0), .val (.int p1), .val (.int p2), .val (.int p3), .val (.ref b1), .val (.long (1 : Int64)), .second, .unset, .unset, .unset, .unset] []))
        exact sg33 (Q := Q0 Z p0 p1 p2 p3 wV cl w_COMMITTED w_ABORTED w_OPEN w_TIMED_OUT h0 n0) p0 p1 p2 p3 b1 b2 k2 (0 : Int64) ((0 : Int64) + (1 : Int64)) (0 : Int64) (0 : Int64) (1 : Int64) w_COMMITTED w_ABORTED w_OPEN w_TIMED_OUT T9.heap n0 X9 hx hZ hw hby hml hown hret hlk (fun _ _ N => ⟨rfl, N⟩) rfl Zl9 N9 E_b1_K9 F_b1_counts_K9 V9 hg2 ne_b1_b2 S_com_example_fides_fides_command_perf_Outcome_COMMITTED_K9 S_com_example_fides_fides_command_perf_Outcome_ABORTED_K9 S_com_example_fides_fides_command_perf_Outcome_OPEN_K9 S_com_example_fides_fides_command_perf_Outcome_TIMED_OUT_K9 E_w_COMMITTED_K9 E_w_ABORTED_K9 E_w_OPEN_K9 E_w_TIMED_OUT_K9 F_w_COMMITTED_ordinal_K9 F_w_ABORTED_ordinal_K9 F_w_OPEN_ordinal_K9 F_w_TIMED_OUT_ordinal_K9 ne_w_COMMITTED_b2 ne_w_ABORTED_b2 ne_w_OPEN_b2 ne_w_TIMED_OUT_b2 (own_n1 own_z)
      · skip
        by_cases hc21_10 : (p0 &&& (3 : Int32)) = (2 : Int32)
        · skip
          obtain ⟨_, _, ⟨T11, L11, k11, n11⟩, -, X11, ⟨Lc11, hQ11, l11, y11, z11⟩, st11⟩ := Jvm.LawKit.callS X2 hx (y := (⟨"com/example/fides/fides/command/perf/TallyTotalPinLaw", "pick", "(I)Lcom/example/fides/fides/command/perf/Outcome;"⟩ : MethodName)) hown (mvT hZ (hw _ (List.mem_of_getElem? (i := 55) rfl))) (mvT hZ (hw _ (List.mem_of_getElem? (i := 56) rfl))) (mvT hZ (hw _ (List.mem_of_getElem? (i := 57) rfl))) (mvT hZ (hw _ (List.mem_of_getElem? (i := 58) rfl))) (by decide) (backOf (W := 1) (rm7e2 l Z a0 hw [] p0 w_OPEN T2.heap n0 Zl2 S_com_example_fides_fides_command_perf_Outcome_OPEN_K2 hc21_4 hc21_7 hc21_10) hZ (hw _ (List.mem_of_getElem? (i := 58) rfl)) (hw _ (List.mem_of_getElem? (i := 57) rfl)) (by decide) (by decide)) (g := (mkF m 21 #[.val (.int p0), .val (.int p1), .val (.int p2), .val (.int p3), .val (.ref b1), .val (.long (0 : Int64)), .second, .unset, .unset, .unset, .unset] [(.int p0), (.ref b1)])) rfl (by rw [hml]; rfl) (argsL := [(.int p0)]) (rest := [(.ref b1)]) (lenOf pd_4 rfl) rfl (by show 2 * 0 + _ ≤ _; exact Nat.le_of_eq rfl) (hb hby at_21) (fun _ _ => ⟨rfl, rfl, (by decide : 3 + 0 ≤ _), (by decide : 9 + 0 ≤ _)⟩)
          dsimp only [Pt.U, Pt.locs, Pt.cells, Pt.slots] at X11 l11 y11 z11 st11 hQ11
          subst l11 y11 z11
          obtain ⟨rfl, N11q, hh11⟩ := hQ11
          have N11 := Fr.app N2 N11q
          refine own_of st11 ?_
          show own_Out p e below _ (T11.setTop (mkF m 24 #[.val (.int p0), .val (.int p1), .val (.int p2), .val (.int p3), .val (.ref b1), .val (.long (0 : Int64)), .second, .unset, .unset, .unset, .unset] [(.ref w_OPEN), (.ref b1)]))
          obtain ⟨cq12, kq12, q12a, q12b, q12c⟩ := isOf hZ hh11 E2
          obtain ⟨_, _, ⟨T12, L12, k12, n12⟩, -, X12, ⟨Lc12, hQ12, l12, y12, z12⟩, st12⟩ := X11.virtualBack hx (y := (⟨"com/example/fides/fides/command/perf/Tally", "add", "(Lcom/example/fides/fides/command/perf/Outcome;)V"⟩ : MethodName)) (z := (⟨"com/example/fides/fides/command/perf/Tally", "add", "(Lcom/example/fides/fides/command/perf/Outcome;)V"⟩ : MethodName)) hown (mvT hZ (hw _ (List.mem_of_getElem? (i := 59) rfl))) (mvT hZ (hw _ (List.mem_of_getElem? (i := 60) rfl))) (notFace_of_selects (args := #[]) (mvT hZ (hw _ (List.mem_of_getElem? (i := 62) rfl)))) (mvT hZ (hw _ (List.mem_of_getElem? (i := 62) rfl))) (mvT hZ (hw _ (List.mem_of_getElem? (i := 61) rfl))) (by decide) (backOf (W := 0) (rm8e2 l Z a0 hw [] b1 w_OPEN b2 k2 (0 : Int64) (0 : Int64) (0 : Int64) (0 : Int64) T2.heap n0 Zl2 F2 V2 E_w_OPEN_K2 F_w_OPEN_ordinal_K2 hg2 ne_b1_b2 ne_w_OPEN_b2) hZ (hw _ (List.mem_of_getElem? (i := 63) rfl)) (hw _ (List.mem_of_getElem? (i := 2) rfl)) (by decide) (by decide)) q12a q12c (g := (mkF m 24 #[.val (.int p0), .val (.int p1), .val (.int p2), .val (.int p3), .val (.ref b1), .val (.long (0 : Int64)), .second, .unset, .unset, .unset, .unset] [(.ref w_OPEN), (.ref b1)])) rfl (by rw [hml]; rfl) (Steps.refl _) (argsL := [(.ref w_OPEN)]) (rest := []) (lenOf pd_5 rfl) rfl (by show 2 * 0 + _ ≤ _; exact Nat.le_of_eq rfl) (hb hby at_24) (fun _ _ => ⟨rfl, hh11, (by decide : 3 + 0 ≤ _), (by decide : 9 + 0 ≤ _)⟩)
          dsimp only [Pt.U, Pt.locs, Pt.cells, Pt.slots] at X12 l12 y12 z12 st12 hQ12
          subst l12 y12 z12
          obtain ⟨rfl, N12q, K12, V12⟩ := hQ12
          have N12 := Fr.app N11 N12q
          have S_com_example_fides_fides_command_perf_Outcome__VALUES_K12 := own_staK1 S_com_example_fides_fides_command_perf_Outcome__VALUES_K2 K12 (own_plainV V2)
          have E_wV_K12 := E_wV_K2.keep K12
          have S_com_example_fides_fides_command_perf_Outcome_COMMITTED_K12 := own_staK1 S_com_example_fides_fides_command_perf_Outcome_COMMITTED_K2 K12 (own_plainV V2)
          have E_w_COMMITTED_K12 := E_w_COMMITTED_K2.keep K12
          have F_w_COMMITTED_ordinal_K12 := F_w_COMMITTED_ordinal_K2.keep K12 (ninS ne_w_COMMITTED_b2 nin0)
          have S_com_example_fides_fides_command_perf_Outcome_ABORTED_K12 := own_staK1 S_com_example_fides_fides_command_perf_Outcome_ABORTED_K2 K12 (own_plainV V2)
          have E_w_ABORTED_K12 := E_w_ABORTED_K2.keep K12
          have F_w_ABORTED_ordinal_K12 := F_w_ABORTED_ordinal_K2.keep K12 (ninS ne_w_ABORTED_b2 nin0)
          have S_com_example_fides_fides_command_perf_Outcome_OPEN_K12 := own_staK1 S_com_example_fides_fides_command_perf_Outcome_OPEN_K2 K12 (own_plainV V2)
          have E_w_OPEN_K12 := E_w_OPEN_K2.keep K12
          have F_w_OPEN_ordinal_K12 := F_w_OPEN_ordinal_K2.keep K12 (ninS ne_w_OPEN_b2 nin0)
          have S_com_example_fides_fides_command_perf_Outcome_TIMED_OUT_K12 := own_staK1 S_com_example_fides_fides_command_perf_Outcome_TIMED_OUT_K2 K12 (own_plainV V2)
          have E_w_TIMED_OUT_K12 := E_w_TIMED_OUT_K2.keep K12
          have F_w_TIMED_OUT_ordinal_K12 := F_w_TIMED_OUT_ordinal_K2.keep K12 (ninS ne_w_TIMED_OUT_b2 nin0)
          have E_b1_K12 := E2.keep K12
          have F_b1_counts_K12 := F2.keep K12 (ninS ne_b1_b2 nin0)
          have Zl12 : n0 ≤ T12.heap.size := Nat.le_trans Zl2 K12.1
          refine own_of (fun _ k => st12.trans k) ?_
          show own_Out p e below _ (T12.setTop (mkF m 27 #[.val (.int p0), .val (.int p1), .val (.int p2), .val (.int p3), .val (.ref b1), .val (.long (0 : Int64)), .second, .unset, .unset, .unset, .unset] []))
          refine own_of (fun _ k => XS.lload X12.here hx rfl (hb hby at_27) rfl k) ?_
          show own_Out p e below _ (T12.setTop (mkF m 29 #[.val (.int p0), .val (.int p1), .val (.int p2), .val (.int p3), .val (.ref b1), .val (.long (0 : Int64)), .second, .unset, .unset, .unset, .unset] [(.long (0 : Int64))]))
          refine own_of (fun _ k => XS.lconst X12.here hx rfl (hb hby at_29) k) ?_
          show own_Out p e below _ (T12.setTop (mkF m 30 #[.val (.int p0), .val (.int p1), .val (.int p2), .val (.int p3), .val (.ref b1), .val (.long (0 : Int64)), .second, .unset, .unset, .unset, .unset] [(.long (1 : Int64)), (.long (0 : Int64))]))
          refine own_of (fun _ k => XS.ladd X12.here hx rfl (hb hby at_30) rfl k) ?_
          show own_Out p e below _ (T12.setTop (mkF m 31 #[.val (.int p0), .val (.int p1), .val (.int p2), .val (.int p3), .val (.ref b1), .val (.long (0 : Int64)), .second, .unset, .unset, .unset, .unset] [(.long (1 : Int64))]))
          refine own_of (fun _ k => XS.lstore X12.here hx rfl (hb hby at_31) rfl (l' := #[.val (.int p0), .val (.int p1), .val (.int p2), .val (.int p3), .val (.ref b1), .val (.long (1 : Int64)), .second, .unset, .unset, .unset, .unset]) rfl k) ?_
          show own_Out p e below _ (T12.setTop (mkF m 33 #[.val (.int p0), .val (.int p1), .val (.int p2), .val (.int p3), .val (.ref b1), .val (.long (1 : Int64)), .second, .unset, .unset, .unset, .unset] []))
          exact sg33 (Q := Q0 Z p0 p1 p2 p3 wV cl w_COMMITTED w_ABORTED w_OPEN w_TIMED_OUT h0 n0) p0 p1 p2 p3 b1 b2 k2 (0 : Int64) (0 : Int64) ((0 : Int64) + (1 : Int64)) (0 : Int64) (1 : Int64) w_COMMITTED w_ABORTED w_OPEN w_TIMED_OUT T12.heap n0 X12 hx hZ hw hby hml hown hret hlk (fun _ _ N => ⟨rfl, N⟩) rfl Zl12 N12 E_b1_K12 F_b1_counts_K12 V12 hg2 ne_b1_b2 S_com_example_fides_fides_command_perf_Outcome_COMMITTED_K12 S_com_example_fides_fides_command_perf_Outcome_ABORTED_K12 S_com_example_fides_fides_command_perf_Outcome_OPEN_K12 S_com_example_fides_fides_command_perf_Outcome_TIMED_OUT_K12 E_w_COMMITTED_K12 E_w_ABORTED_K12 E_w_OPEN_K12 E_w_TIMED_OUT_K12 F_w_COMMITTED_ordinal_K12 F_w_ABORTED_ordinal_K12 F_w_OPEN_ordinal_K12 F_w_TIMED_OUT_ordinal_K12 ne_w_COMMITTED_b2 ne_w_ABORTED_b2 ne_w_OPEN_b2 ne_w_TIMED_OUT_b2 (own_n2 own_z)
        · skip
          obtain ⟨_, _, ⟨T13, L13, k13, n13⟩, -, X13, ⟨Lc13, hQ13, l13, y13, z13⟩, st13⟩ := Jvm.LawKit.callS X2 hx (y := (⟨"com/example/fides/fides/command/perf/TallyTotalPinLaw", "pick", "(I)Lcom/example/fides/fides/command/perf/Outcome;"⟩ : MethodName)) hown (mvT hZ (hw _ (List.mem_of_getElem? (i := 55) rfl))) (mvT hZ (hw _ (List.mem_of_getElem? (i := 56) rfl))) (mvT hZ (hw _ (List.mem_of_getElem? (i := 57) rfl))) (mvT hZ (hw _ (List.mem_of_getElem? (i := 58) rfl))) (by decide) (backOf (W := 1) (rm7e3 l Z a0 hw [] p0 w_TIMED_OUT T2.heap n0 Zl2 S_com_example_fides_fides_command_perf_Outcome_TIMED_OUT_K2 hc21_4 hc21_7 hc21_10) hZ (hw _ (List.mem_of_getElem? (i := 58) rfl)) (hw _ (List.mem_of_getElem? (i := 57) rfl)) (by decide) (by decide)) (g := (mkF m 21 #[.val (.int p0), .val (.int p1), .val (.int p2), .val (.int p3), .val (.ref b1), .val (.long (0 : Int64)), .second, .unset, .unset, .unset, .unset] [(.int p0), (.ref b1)])) rfl (by rw [hml]; rfl) (argsL := [(.int p0)]) (rest := [(.ref b1)]) (lenOf pd_4 rfl) rfl (by show 2 * 0 + _ ≤ _; exact Nat.le_of_eq rfl) (hb hby at_21) (fun _ _ => ⟨rfl, rfl, (by decide : 3 + 0 ≤ _), (by decide : 9 + 0 ≤ _)⟩)
          dsimp only [Pt.U, Pt.locs, Pt.cells, Pt.slots] at X13 l13 y13 z13 st13 hQ13
          subst l13 y13 z13
          obtain ⟨rfl, N13q, hh13⟩ := hQ13
          have N13 := Fr.app N2 N13q
          refine own_of st13 ?_
          show own_Out p e below _ (T13.setTop (mkF m 24 #[.val (.int p0), .val (.int p1), .val (.int p2), .val (.int p3), .val (.ref b1), .val (.long (0 : Int64)), .second, .unset, .unset, .unset, .unset] [(.ref w_TIMED_OUT), (.ref b1)]))
          obtain ⟨cq14, kq14, q14a, q14b, q14c⟩ := isOf hZ hh13 E2
          obtain ⟨_, _, ⟨T14, L14, k14, n14⟩, -, X14, ⟨Lc14, hQ14, l14, y14, z14⟩, st14⟩ := X13.virtualBack hx (y := (⟨"com/example/fides/fides/command/perf/Tally", "add", "(Lcom/example/fides/fides/command/perf/Outcome;)V"⟩ : MethodName)) (z := (⟨"com/example/fides/fides/command/perf/Tally", "add", "(Lcom/example/fides/fides/command/perf/Outcome;)V"⟩ : MethodName)) hown (mvT hZ (hw _ (List.mem_of_getElem? (i := 59) rfl))) (mvT hZ (hw _ (List.mem_of_getElem? (i := 60) rfl))) (notFace_of_selects (args := #[]) (mvT hZ (hw _ (List.mem_of_getElem? (i := 62) rfl)))) (mvT hZ (hw _ (List.mem_of_getElem? (i := 62) rfl))) (mvT hZ (hw _ (List.mem_of_getElem? (i := 61) rfl))) (by decide) (backOf (W := 0) (rm8e3 l Z a0 hw [] b1 w_TIMED_OUT b2 k2 (0 : Int64) (0 : Int64) (0 : Int64) (0 : Int64) T2.heap n0 Zl2 F2 V2 E_w_TIMED_OUT_K2 F_w_TIMED_OUT_ordinal_K2 hg2 ne_b1_b2 ne_w_TIMED_OUT_b2) hZ (hw _ (List.mem_of_getElem? (i := 63) rfl)) (hw _ (List.mem_of_getElem? (i := 2) rfl)) (by decide) (by decide)) q14a q14c (g := (mkF m 24 #[.val (.int p0), .val (.int p1), .val (.int p2), .val (.int p3), .val (.ref b1), .val (.long (0 : Int64)), .second, .unset, .unset, .unset, .unset] [(.ref w_TIMED_OUT), (.ref b1)])) rfl (by rw [hml]; rfl) (Steps.refl _) (argsL := [(.ref w_TIMED_OUT)]) (rest := []) (lenOf pd_5 rfl) rfl (by show 2 * 0 + _ ≤ _; exact Nat.le_of_eq rfl) (hb hby at_24) (fun _ _ => ⟨rfl, hh13, (by decide : 3 + 0 ≤ _), (by decide : 9 + 0 ≤ _)⟩)
          dsimp only [Pt.U, Pt.locs, Pt.cells, Pt.slots] at X14 l14 y14 z14 st14 hQ14
          subst l14 y14 z14
          obtain ⟨rfl, N14q, K14, V14⟩ := hQ14
          have N14 := Fr.app N13 N14q
          have S_com_example_fides_fides_command_perf_Outcome__VALUES_K14 := own_staK1 S_com_example_fides_fides_command_perf_Outcome__VALUES_K2 K14 (own_plainV V2)
          have E_wV_K14 := E_wV_K2.keep K14
          have S_com_example_fides_fides_command_perf_Outcome_COMMITTED_K14 := own_staK1 S_com_example_fides_fides_command_perf_Outcome_COMMITTED_K2 K14 (own_plainV V2)
          have E_w_COMMITTED_K14 := E_w_COMMITTED_K2.keep K14
          have F_w_COMMITTED_ordinal_K14 := F_w_COMMITTED_ordinal_K2.keep K14 (ninS ne_w_COMMITTED_b2 nin0)
          have S_com_example_fides_fides_command_perf_Outcome_ABORTED_K14 := own_staK1 S_com_example_fides_fides_command_perf_Outcome_ABORTED_K2 K14 (own_plainV V2)
          have E_w_ABORTED_K14 := E_w_ABORTED_K2.keep K14
          have F_w_ABORTED_ordinal_K14 := F_w_ABORTED_ordinal_K2.keep K14 (ninS ne_w_ABORTED_b2 nin0)
          have S_com_example_fides_fides_command_perf_Outcome_OPEN_K14 := own_staK1 S_com_example_fides_fides_command_perf_Outcome_OPEN_K2 K14 (own_plainV V2)
          have E_w_OPEN_K14 := E_w_OPEN_K2.keep K14
          have F_w_OPEN_ordinal_K14 := F_w_OPEN_ordinal_K2.keep K14 (ninS ne_w_OPEN_b2 nin0)
          have S_com_example_fides_fides_command_perf_Outcome_TIMED_OUT_K14 := own_staK1 S_com_example_fides_fides_command_perf_Outcome_TIMED_OUT_K2 K14 (own_plainV V2)
          have E_w_TIMED_OUT_K14 := E_w_TIMED_OUT_K2.keep K14
          have F_w_TIMED_OUT_ordinal_K14 := F_w_TIMED_OUT_ordinal_K2.keep K14 (ninS ne_w_TIMED_OUT_b2 nin0)
          have E_b1_K14 := E2.keep K14
          have F_b1_counts_K14 := F2.keep K14 (ninS ne_b1_b2 nin0)
          have Zl14 : n0 ≤ T14.heap.size := Nat.le_trans Zl2 K14.1
          refine own_of (fun _ k => st14.trans k) ?_
          show own_Out p e below _ (T14.setTop (mkF m 27 #[.val (.int p0), .val (.int p1), .val (.int p2), .val (.int p3), .val (.ref b1), .val (.long (0 : Int64)), .second, .unset, .unset, .unset, .unset] []))
          refine own_of (fun _ k => XS.lload X14.here hx rfl (hb hby at_27) rfl k) ?_
          show own_Out p e below _ (T14.setTop (mkF m 29 #[.val (.int p0), .val (.int p1), .val (.int p2), .val (.int p3), .val (.ref b1), .val (.long (0 : Int64)), .second, .unset, .unset, .unset, .unset] [(.long (0 : Int64))]))
          refine own_of (fun _ k => XS.lconst X14.here hx rfl (hb hby at_29) k) ?_
          show own_Out p e below _ (T14.setTop (mkF m 30 #[.val (.int p0), .val (.int p1), .val (.int p2), .val (.int p3), .val (.ref b1), .val (.long (0 : Int64)), .second, .unset, .unset, .unset, .unset] [(.long (1 : Int64)), (.long (0 : Int64))]))
          refine own_of (fun _ k => XS.ladd X14.here hx rfl (hb hby at_30) rfl k) ?_
          show own_Out p e below _ (T14.setTop (mkF m 31 #[.val (.int p0), .val (.int p1), .val (.int p2), .val (.int p3), .val (.ref b1), .val (.long (0 : Int64)), .second, .unset, .unset, .unset, .unset] [(.long (1 : Int64))]))
          refine own_of (fun _ k => XS.lstore X14.here hx rfl (hb hby at_31) rfl (l' := #[.val (.int p0), .val (.int p1), .val (.int p2), .val (.int p3), .val (.ref b1), .val (.long (1 : Int64)), .second, .unset, .unset, .unset, .unset]) rfl k) ?_
          show own_Out p e below _ (T14.setTop (mkF m 33 #[.val (.int p0), .val (.int p1), .val (.int p2), .val (.int p3), .val (.ref b1), .val (.long (1 : Int64)), .second, .unset, .unset, .unset, .unset] []))
          exact sg33 (Q := Q0 Z p0 p1 p2 p3 wV cl w_COMMITTED w_ABORTED w_OPEN w_TIMED_OUT h0 n0) p0 p1 p2 p3 b1 b2 k2 (0 : Int64) (0 : Int64) (0 : Int64) ((0 : Int64) + (1 : Int64)) (1 : Int64) w_COMMITTED w_ABORTED w_OPEN w_TIMED_OUT T14.heap n0 X14 hx hZ hw hby hml hown hret hlk (fun _ _ N => ⟨rfl, N⟩) rfl Zl14 N14 E_b1_K14 F_b1_counts_K14 V14 hg2 ne_b1_b2 S_com_example_fides_fides_command_perf_Outcome_COMMITTED_K14 S_com_example_fides_fides_command_perf_Outcome_ABORTED_K14 S_com_example_fides_fides_command_perf_Outcome_OPEN_K14 S_com_example_fides_fides_command_perf_Outcome_TIMED_OUT_K14 E_w_COMMITTED_K14 E_w_ABORTED_K14 E_w_OPEN_K14 E_w_TIMED_OUT_K14 F_w_COMMITTED_ordinal_K14 F_w_ABORTED_ordinal_K14 F_w_OPEN_ordinal_K14 F_w_TIMED_OUT_ordinal_K14 ne_w_COMMITTED_b2 ne_w_ABORTED_b2 ne_w_OPEN_b2 ne_w_TIMED_OUT_b2 (own_n3 own_z)
theorem own_len {args : Array Value} {s : State} {t : Term} {a : Addr} {cl : Cell} {ty : FieldType} {z : Int32} (ev : t.eval args s none [] s = some (.ref a)) (A : Arr s s.heap a cl ty) (h : (Term.length t).eval args s none [] s = some (.int z)) : cl.slots.size < 2 ^ 31 ∧ cl.slots.size.toInt32 = z := by
  have ha := A.fin (Vm.Alike.refl _)
  simp only [Term.eval, ev, ha, Option.bind_eq_bind, Option.bind_some] at h
  split at h
  · rename_i q
    exact ⟨q, by simpa using h⟩
  · cases h
theorem own_inb {n : Nat} {z j : Int32} (h31 : n < 2 ^ 31) (e : n.toInt32 = z) (h1 : ¬ j < 0) (h2 : j < z) : ¬ (j < 0 ∨ n ≤ j.toNatClampNeg) := by
  subst e
  have e1 : (n.toInt32).toInt = n := len_toInt h31
  rw [Int32.lt_iff_toInt_lt, e1] at h2
  have h0 : 0 ≤ j.toInt := by
    rw [Int32.lt_iff_toInt_lt] at h1
    have e0 : (0 : Int32).toInt = 0 := rfl
    omega
  rintro (q | q)
  · exact h1 q
  · simp only [Int32.toNatClampNeg] at q; omega

set_option maxRecDepth 65536 in
set_option maxHeartbeats 40000000 in
theorem comes_1 {Post : Tables → Env → Array Value → State → Outcome → State → Prop} (hpost : ∀ tb e args s v u, (limb_1_1.after args s (.returned v) u = true ∧ limb_1_2.after args s (.returned v) u = true ∧ True) → FrameEnd s (.returned v) u (Jvm.fieldLocs frame_1_writes args s ++ Jvm.arrayLocs frame_1_arrays args s ++ Jvm.staticLocs frame_1_statics s) 16 128 → Post tb e args s (.returned v) u) :
    ArmFor flags0 classFile x code maxLocals ret World_1 tables_1 room_1 Calls_1 rest_1 Pre_1 Post := by
  intro l hfl _ _ p e ha hc hk s m args below hf hA hF happ hP
  obtain ⟨hcalls, hrest, hpre⟩ := hP
  obtain ⟨-, -, -, hnamed, -, -, -, hat⟩ := (Spec.applies_iff hf).mp happ
  obtain ⟨hg, hn⟩ := and_e (Cond.before_iff.mp (show (Jvm.Cond.and given_1 narrow_1).before args s = true from hpre))
  obtain ⟨g1, g2⟩ := and_e hg
  obtain ⟨g3, g4⟩ := and_e g2
  obtain ⟨g5, g6⟩ := and_e g4
  obtain ⟨g7, g8⟩ := and_e g6
  obtain ⟨w0, w1, w2, w3, rfl⟩ : ∃ w0 w1 w2 w3 : Value, args = #[w0, w1, w2, w3] := by
    have hs : args.size = 4 := by simpa [Cond.value, given_1] using g1
    obtain ⟨L⟩ := args
    match L, hs with
    | [w0, w1, w2, w3], _ => exact ⟨w0, w1, w2, w3, rfl⟩
  have hw := fun d (hd : d ∈ tables_1) => atoms_spec (ws := Jvm.Cond.code x code maxLocals ret :: tables_1) hat d (List.mem_cons_of_mem _ hd)
  have hfit : Fit s := fun {y c} hc i hi => by
    obtain ⟨ha, rfl⟩ := Array.getElem?_eq_some_iff.mp hc
    have q := List.all_eq_true.mp ((Array.all_eq_true_iff_forall_mem.mp hF) _ (Array.getElem_mem ha)) i (List.mem_range.mpr hi)
    simpa [Array.getElem?_eq_getElem hi] using q
  obtain ⟨i0, ei0⟩ := is_v g3
  obtain rfl : w0 = (.int i0) := Option.some.inj ei0
  obtain ⟨i1, ei1⟩ := is_v g5
  obtain rfl : w1 = (.int i1) := Option.some.inj ei1
  obtain ⟨i2, ei2⟩ := is_v g7
  obtain rfl : w2 = (.int i2) := Option.some.inj ei2
  obtain ⟨i3, ei3⟩ := is_v g8
  obtain rfl : w3 = (.int i3) := Option.some.inj ei3
  have hn0 : narrow_1.value _ s none s [] = some true := hn
  obtain ⟨hn_0, hr_0⟩ := and_e hn0
  obtain ⟨hn_1, hr_1⟩ := and_e hr_0
  obtain ⟨hn_2, hr_2⟩ := and_e hr_1
  obtain ⟨hn_3, hr_3⟩ := and_e hr_2
  obtain ⟨hn_4, hr_4⟩ := and_e hr_3
  obtain ⟨hn_5, hr_5⟩ := and_e hr_4
  obtain ⟨hn_6, hr_6⟩ := and_e hr_5
  obtain ⟨hn_7, hr_7⟩ := and_e hr_6
  obtain ⟨hn_8, hr_8⟩ := and_e hr_7
  obtain ⟨hn_9, hr_9⟩ := and_e hr_8
  obtain ⟨hn_10, hr_10⟩ := and_e hr_9
  obtain ⟨hn_11, hr_11⟩ := and_e hr_10
  obtain ⟨hn_12, hr_12⟩ := and_e hr_11
  obtain ⟨hn_13, hr_13⟩ := and_e hr_12
  obtain ⟨w__VALUES, ev_w__VALUES⟩ := arr_v hn_0
  have S_w__VALUES : Sta s s.heap "com/example/fides/fides/command/perf/Outcome" "$VALUES" "[Lcom/example/fides/fides/command/perf/Outcome;" (.ref w__VALUES) := Sta.start ev_w__VALUES (Or.inr ⟨(hw _ (List.mem_of_getElem? (i := 11) rfl)), (hw _ (List.mem_of_getElem? (i := 14) rfl))⟩)
  obtain ⟨cl_w__VALUES, A_w__VALUES⟩ := Arr.start ev_w__VALUES hn_0
  have E_w__VALUES := Exa.start ev_w__VALUES hn_1
  have L_w__VALUES := eqv_i (Term.int_eval (4)) hn_2
  obtain ⟨w_COMMITTED, ev_w_COMMITTED⟩ := exa_v hn_3
  have S_w_COMMITTED : Sta s s.heap "com/example/fides/fides/command/perf/Outcome" "COMMITTED" "Lcom/example/fides/fides/command/perf/Outcome;" (.ref w_COMMITTED) := Sta.start ev_w_COMMITTED (Or.inr ⟨(hw _ (List.mem_of_getElem? (i := 11) rfl)), (hw _ (List.mem_of_getElem? (i := 22) rfl))⟩)
  have E_w_COMMITTED := Exa.start ev_w_COMMITTED hn_3
  obtain ⟨w_ABORTED, ev_w_ABORTED⟩ := exa_v hn_5
  have S_w_ABORTED : Sta s s.heap "com/example/fides/fides/command/perf/Outcome" "ABORTED" "Lcom/example/fides/fides/command/perf/Outcome;" (.ref w_ABORTED) := Sta.start ev_w_ABORTED (Or.inr ⟨(hw _ (List.mem_of_getElem? (i := 11) rfl)), (hw _ (List.mem_of_getElem? (i := 23) rfl))⟩)
  have E_w_ABORTED := Exa.start ev_w_ABORTED hn_5
  obtain ⟨w_OPEN, ev_w_OPEN⟩ := exa_v hn_7
  have S_w_OPEN : Sta s s.heap "com/example/fides/fides/command/perf/Outcome" "OPEN" "Lcom/example/fides/fides/command/perf/Outcome;" (.ref w_OPEN) := Sta.start ev_w_OPEN (Or.inr ⟨(hw _ (List.mem_of_getElem? (i := 11) rfl)), (hw _ (List.mem_of_getElem? (i := 24) rfl))⟩)
  have E_w_OPEN := Exa.start ev_w_OPEN hn_7
  obtain ⟨w_TIMED_OUT, ev_w_TIMED_OUT⟩ := exa_v hn_9
  have S_w_TIMED_OUT : Sta s s.heap "com/example/fides/fides/command/perf/Outcome" "TIMED_OUT" "Lcom/example/fides/fides/command/perf/Outcome;" (.ref w_TIMED_OUT) := Sta.start ev_w_TIMED_OUT (Or.inr ⟨(hw _ (List.mem_of_getElem? (i := 11) rfl)), (hw _ (List.mem_of_getElem? (i := 25) rfl))⟩)
  have E_w_TIMED_OUT := Exa.start ev_w_TIMED_OUT hn_9
  have F_w_COMMITTED_ordinal := Fld.start ((fld_at ev_w_COMMITTED).symm.trans (eqv_i (Term.int_eval (0)) hn_11))
  have F_w_ABORTED_ordinal := Fld.start ((fld_at ev_w_ABORTED).symm.trans (eqv_i (Term.int_eval (1)) hn_12))
  have F_w_OPEN_ordinal := Fld.start ((fld_at ev_w_OPEN).symm.trans (eqv_i (Term.int_eval (2)) hn_13))
  have F_w_TIMED_OUT_ordinal := Fld.start ((fld_at ev_w_TIMED_OUT).symm.trans (eqv_i (Term.int_eval (3)) hr_13))
  have hszz := own_len ev_w__VALUES A_w__VALUES L_w__VALUES
  have hsz : cl_w__VALUES.slots.size = (4 : Int32).toNatClampNeg := by rw [← hszz.2]; simp only [Int32.toNatClampNeg, len_toInt hszz.1]; rfl
  obtain ⟨n, o, h1, h2, h3, _, L, rfl, ⟨rfl, N⟩, hq⟩ := rm0 l s _ hw tables_1 i0 i1 i2 i3 w__VALUES cl_w__VALUES w_COMMITTED w_ABORTED w_OPEN w_TIMED_OUT s.heap s.heap.size (Nat.le_refl _) S_w__VALUES A_w__VALUES E_w__VALUES (FitC.start hfit A_w__VALUES) hsz S_w_COMMITTED S_w_ABORTED S_w_OPEN S_w_TIMED_OUT E_w_COMMITTED E_w_ABORTED E_w_OPEN E_w_TIMED_OUT F_w_COMMITTED_ordinal F_w_ABORTED_ordinal F_w_OPEN_ordinal F_w_TIMED_OUT_ordinal p e ha hc hk s m _ below hf ((Spec.applies_iff_loose hf).mp happ).1 ⟨rfl, State.Warmed39.refl s, rfl⟩ trivial
  refine ⟨n, _, h1, h2, h3, hpost _ _ _ _ _ _ ⟨Cond.after_iff.mpr rfl, Cond.after_iff.mpr (eq_i res_at (Term.int_eval (1)) rfl), trivial⟩ ⟨hq.1, hq.2.1, (hq.2.2.sift fun y hy => Or.inr (N y hy)).mono (by decide) (by decide)⟩⟩
theorem main_1_1 : Claimed_1_1 := comes_1 fun _ _ _ _ _ _ h hF => ⟨h.1, hF⟩
theorem main_1_2 : Claimed_1_2 := comes_1 fun _ _ _ _ _ _ h hF => ⟨h.2.1, hF⟩
end Jvm.Pilot.@@N@@
namespace Jvm.Pilot.@@N@@
open Jvm Jvm.ClassFile Sem Op Lib Jvm.Free Jvm.Stand Jvm.Pilot.@@N@@.Jvm.D
/-! MADE BY PROGRAM (witnessworld.py) out of the Statement's table words and the real class files: 16 classes; the members and pool entries that the words name. The judged class is class 1, her method 2. -/
namespace start1
open Jvm.ClassFile
def u (s : String) : CpInfo := .utf8 (stringToUtf16 s)
/-- a pool by its gaps: so many unusable entries, then the entry; so many at the end -/
def gap : Nat → List CpInfo → List CpInfo
  | 0, r => r
  | n + 1, r => .unusable :: gap n r
def poolList (es : List (Nat × CpInfo)) (last : Nat) : List CpInfo := es.foldr (fun e r => gap e.1 (e.2 :: r)) (gap last [])
def pool (es : List (Nat × CpInfo)) (last : Nat) : Array CpInfo := ⟨poolList es last⟩
def fileOf (pool : Array CpInfo) (this : Nat) (attrs : Array Attribute := #[]) (ms : Array MethodInfo := #[]) (fl : Nat := 33) (sup : Nat := 0) (ifs : Array Nat := #[]) (fds : Array FieldInfo := #[]) : ClassFile where
  minorVersion := 0
  majorVersion := 65
  constantPool := pool
  accessFlags := fl
  thisClass := this
  superClass := sup
  interfaces := ifs
  fields := fds
  methods := ms
  attributes := attrs
def plain (name : String) (sup : Option ClassId) : Class where
  name := name
  kind := .ordinary
  loader := none
  accessFlags := 33
  super := sup
  interfaces := #[]
  cf := none
  fields := #[]
  methods := #[]
  instanceTypes := #[]
  staticTypes := #[]
  resolved := #[]
  callSites := []
  init := .initialized
  statics := none
  mirror := none

def pool0 : Array CpInfo := pool [(5, u "<init>"), (0, u "()V"), (1, .class_ 10), (1, u "java/lang/Object"), (85, u "clone"), (0, u "()Ljava/lang/Object;")] 26

def k0c0 : Code := { maxStack := 0, maxLocals := 1, code := object_method_1_code, exceptionTable := #[], attributes := #[] }
def k0m0 : Method := { name := "<init>", desc := "()V", sig := { parameters := [], returnType := none }, accessFlags := 1, code := some k0c0 }
def k0m1 : Method := { name := "clone", desc := "()Ljava/lang/Object;", sig := { parameters := [], returnType := some (.object "java/lang/Object") }, accessFlags := 260, code := none }
/-- java/lang/Object -/
def k0 : Class := { plain "java/lang/Object" none with
  accessFlags := 33
  interfaces := #[]
  cf := some (fileOf pool0 8 #[] #[{ accessFlags := 1, nameIndex := 5, descriptorIndex := 6, attributes := #[] }, { accessFlags := 260, nameIndex := 96, descriptorIndex := 97, attributes := #[] }] 33 0 #[] #[])
  fields := #[]
  methods := #[k0m0, k0m1]
  instanceTypes := #[]
  staticTypes := #[]
  resolved := Array.replicate 124 none
  statics := none }

def pool1 : Array CpInfo := pool [(2, .class_ 4), (0, .nameAndType 5 6), (0, u "java/lang/Object"), (0, u "<init>"), (0, u "()V"), (0, .fieldref 8 9), (0, .class_ 10), (0, .nameAndType 11 12), (0, u "com/example/fides/fides/command/perf/Outcome"), (0, u "COMMITTED"), (0, u "Lcom/example/fides/fides/command/perf/Outcome;"), (0, .fieldref 8 14), (0, .nameAndType 15 12), (0, u "ABORTED"), (0, .fieldref 8 17), (0, .nameAndType 18 12), (0, u "OPEN"), (0, .fieldref 8 20), (0, .nameAndType 21 12), (0, u "TIMED_OUT"), (0, .class_ 23), (0, u "com/example/fides/fides/command/perf/Tally"), (0, .methodref 22 3), (0, .methodref 26 27), (0, .class_ 28), (0, .nameAndType 29 30), (0, u "com/example/fides/fides/command/perf/TallyTotalPinLaw"), (0, u "pick"), (0, u "(I)Lcom/example/fides/fides/command/perf/Outcome;"), (0, .methodref 22 32), (0, .nameAndType 33 34), (0, u "add"), (0, u "(Lcom/example/fides/fides/command/perf/Outcome;)V"), (0, .methodref 22 36), (0, .nameAndType 37 38), (0, u "total"), (0, u "()J"), (0, .methodref 22 40), (0, .nameAndType 41 42), (0, u "count"), (0, u "(Lcom/example/fides/fides/command/perf/Outcome;)J"), (3, u "law"), (0, u "(IIII)Z")] 2

def k1m0 : Method := { name := "<init>", desc := "()V", sig := { parameters := [], returnType := none }, accessFlags := 1, code := none }
def k1c1 : Code := { maxStack := 2, maxLocals := 2, code := method_2_code, exceptionTable := #[], attributes := #[] }
def k1m1 : Method := { name := "pick", desc := "(I)Lcom/example/fides/fides/command/perf/Outcome;", sig := { parameters := [.int], returnType := some (.object "com/example/fides/fides/command/perf/Outcome") }, accessFlags := 10, code := some k1c1 }
def k1c2 : Code := { maxStack := 4, maxLocals := 11, code := code, exceptionTable := #[], attributes := #[] }
def k1m2 : Method := { name := "law", desc := "(IIII)Z", sig := { parameters := [.int, .int, .int, .int], returnType := some .boolean }, accessFlags := 9, code := some k1c2 }
/-- com/example/fides/fides/command/perf/TallyTotalPinLaw -/
def k1 : Class := { plain "com/example/fides/fides/command/perf/TallyTotalPinLaw" (some 0) with
  accessFlags := 49
  interfaces := #[]
  cf := some (fileOf pool1 26 #[] #[{ accessFlags := 1, nameIndex := 5, descriptorIndex := 6, attributes := #[] }, { accessFlags := 10, nameIndex := 29, descriptorIndex := 30, attributes := #[] }, { accessFlags := 9, nameIndex := 46, descriptorIndex := 47, attributes := #[] }] 49 2 #[] #[])
  fields := #[]
  methods := #[k1m0, k1m1, k1m2]
  instanceTypes := #[]
  staticTypes := #[]
  resolved := Array.replicate 50 none
  statics := none }

def pool2 : Array CpInfo := pool [(1, .methodref 2 3), (0, .class_ 4), (0, .nameAndType 5 6), (0, u "java/lang/Object"), (0, u "<init>"), (0, u "()V"), (0, .methodref 8 9), (0, .class_ 10), (0, .nameAndType 11 12), (0, u "com/example/fides/fides/command/perf/Outcome"), (0, u "values"), (0, u "()[Lcom/example/fides/fides/command/perf/Outcome;"), (0, .fieldref 14 15), (0, .class_ 16), (0, .nameAndType 17 18), (0, u "com/example/fides/fides/command/perf/Tally"), (0, u "counts"), (0, u "[J"), (0, .methodref 8 20), (0, .nameAndType 21 22), (0, u "ordinal"), (0, u "()I"), (2, u "count"), (0, u "(Lcom/example/fides/fides/command/perf/Outcome;)J"), (2, u "add"), (0, u "(Lcom/example/fides/fides/command/perf/Outcome;)V"), (4, u "total"), (0, u "()J")] 3

def k2c0 : Code := { maxStack := 2, maxLocals := 1, code := prog_13_method_1_code, exceptionTable := #[], attributes := #[] }
def k2m0 : Method := { name := "<init>", desc := "()V", sig := { parameters := [], returnType := none }, accessFlags := 0, code := some k2c0 }
def k2c1 : Code := { maxStack := 6, maxLocals := 2, code := prog_13_method_2_code, exceptionTable := #[], attributes := #[] }
def k2m1 : Method := { name := "add", desc := "(Lcom/example/fides/fides/command/perf/Outcome;)V", sig := { parameters := [(.object "com/example/fides/fides/command/perf/Outcome")], returnType := none }, accessFlags := 0, code := some k2c1 }
def k2c2 : Code := { maxStack := 2, maxLocals := 2, code := prog_13_method_4_code, exceptionTable := #[], attributes := #[] }
def k2m2 : Method := { name := "count", desc := "(Lcom/example/fides/fides/command/perf/Outcome;)J", sig := { parameters := [(.object "com/example/fides/fides/command/perf/Outcome")], returnType := some .long }, accessFlags := 0, code := some k2c2 }
def k2c3 : Code := { maxStack := 4, maxLocals := 8, code := prog_13_method_5_code, exceptionTable := #[], attributes := #[] }
def k2m3 : Method := { name := "total", desc := "()J", sig := { parameters := [], returnType := some .long }, accessFlags := 0, code := some k2c3 }
/-- com/example/fides/fides/command/perf/Tally -/
def k2 : Class := { plain "com/example/fides/fides/command/perf/Tally" (some 0) with
  accessFlags := 48
  interfaces := #[]
  cf := some (fileOf pool2 14 #[] #[{ accessFlags := 0, nameIndex := 5, descriptorIndex := 6, attributes := #[] }, { accessFlags := 0, nameIndex := 29, descriptorIndex := 30, attributes := #[] }, { accessFlags := 0, nameIndex := 25, descriptorIndex := 26, attributes := #[] }, { accessFlags := 0, nameIndex := 35, descriptorIndex := 36, attributes := #[] }] 48 2 #[] #[{ accessFlags := 18, nameIndex := 17, descriptorIndex := 18, attributes := #[] }])
  fields := #[{ name := "counts", type := (.array .long), accessFlags := 18, slot := 0, constantValue := 0 }]
  methods := #[k2m0, k2m1, k2m2, k2m3]
  instanceTypes := #[(.array .long)]
  staticTypes := #[]
  resolved := Array.replicate 40 none
  statics := none }

def pool3 : Array CpInfo := pool [(1, .class_ 2), (0, u "java/lang/constant/Constable"), (0, .class_ 4), (0, u "java/lang/Object")] 6

/-- java/lang/constant/Constable -/
def k3 : Class := { plain "java/lang/constant/Constable" (some 0) with
  accessFlags := 1537
  interfaces := #[]
  cf := some (fileOf pool3 1 #[] #[] 1537 3 #[] #[])
  fields := #[]
  methods := #[]
  instanceTypes := #[]
  staticTypes := #[]
  resolved := Array.replicate 11 none
  statics := none }

def pool4 : Array CpInfo := pool [(1, .class_ 2), (0, u "java/lang/Comparable"), (0, .class_ 4), (0, u "java/lang/Object")] 7

/-- java/lang/Comparable -/
def k4 : Class := { plain "java/lang/Comparable" (some 0) with
  accessFlags := 1537
  interfaces := #[]
  cf := some (fileOf pool4 1 #[] #[] 1537 3 #[] #[])
  fields := #[]
  methods := #[]
  instanceTypes := #[]
  staticTypes := #[]
  resolved := Array.replicate 12 none
  statics := none }

def pool5 : Array CpInfo := pool [(1, .class_ 2), (0, u "java/io/Serializable"), (0, .class_ 4), (0, u "java/lang/Object")] 2

/-- java/io/Serializable -/
def k5 : Class := { plain "java/io/Serializable" (some 0) with
  accessFlags := 1537
  interfaces := #[]
  cf := some (fileOf pool5 1 #[] #[] 1537 3 #[] #[])
  fields := #[]
  methods := #[]
  instanceTypes := #[]
  staticTypes := #[]
  resolved := Array.replicate 7 none
  statics := none }

def pool6 : Array CpInfo := pool [(2, .class_ 4), (1, u "java/lang/Enum"), (0, u "name"), (0, u "Ljava/lang/String;"), (0, .fieldref 2 8), (0, .nameAndType 9 10), (0, u "ordinal"), (0, u "I"), (1, .class_ 14), (1, u "java/lang/Object"), (4, u "hash"), (86, .class_ 108), (1, u "java/lang/Enum$EnumDesc"), (2, .class_ 112), (0, u "java/lang/constant/Constable"), (0, .class_ 114), (0, u "java/lang/Comparable"), (0, .class_ 116), (0, u "java/io/Serializable"), (9, u "()I")] 77

def k6c0 : Code := { maxStack := 1, maxLocals := 1, code := jdk_37_method_2_code, exceptionTable := #[], attributes := #[] }
def k6m0 : Method := { name := "ordinal", desc := "()I", sig := { parameters := [], returnType := some .int }, accessFlags := 17, code := some k6c0 }
/-- java/lang/Enum -/
def k6 : Class := { plain "java/lang/Enum" (some 0) with
  accessFlags := 1057
  interfaces := #[3, 4, 5]
  cf := some (fileOf pool6 2 #[.nestMembers #[106]] #[{ accessFlags := 17, nameIndex := 9, descriptorIndex := 126, attributes := #[] }] 1057 12 #[111, 113, 115] #[{ accessFlags := 18, nameIndex := 5, descriptorIndex := 6, attributes := #[] }, { accessFlags := 18, nameIndex := 9, descriptorIndex := 10, attributes := #[] }, { accessFlags := 2, nameIndex := 19, descriptorIndex := 10, attributes := #[] }])
  fields := #[{ name := "name", type := (.object "java/lang/String"), accessFlags := 18, slot := 0, constantValue := 0 }, { name := "ordinal", type := .int, accessFlags := 18, slot := 1, constantValue := 0 }, { name := "hash", type := .int, accessFlags := 2, slot := 2, constantValue := 0 }]
  methods := #[k6m0]
  instanceTypes := #[(.object "java/lang/String"), .int, .int]
  staticTypes := #[]
  resolved := Array.replicate 204 none
  statics := none }

def pool7 : Array CpInfo := pool [(1, .class_ 2), (0, u "com/example/fides/fides/command/perf/Outcome"), (2, u "COMMITTED"), (0, u "Lcom/example/fides/fides/command/perf/Outcome;"), (2, u "ABORTED"), (2, u "OPEN"), (2, u "TIMED_OUT"), (0, .fieldref 1 17), (0, .nameAndType 18 19), (0, u "$VALUES"), (0, u "[Lcom/example/fides/fides/command/perf/Outcome;"), (0, .methodref 21 22), (0, .class_ 19), (0, .nameAndType 23 24), (0, u "clone"), (0, u "()Ljava/lang/Object;"), (1, .class_ 28), (1, u "java/lang/Enum"), (8, u "label"), (0, u "Ljava/lang/String;"), (18, u "()[Lcom/example/fides/fides/command/perf/Outcome;"), (0, u "values")] 11

def k7c0 : Code := { maxStack := 1, maxLocals := 0, code := prog_9_method_1_code, exceptionTable := #[], attributes := #[] }
def k7m0 : Method := { name := "values", desc := "()[Lcom/example/fides/fides/command/perf/Outcome;", sig := { parameters := [], returnType := some (.array (.object "com/example/fides/fides/command/perf/Outcome")) }, accessFlags := 9, code := some k7c0 }
/-- com/example/fides/fides/command/perf/Outcome -/
def k7 : Class := { plain "com/example/fides/fides/command/perf/Outcome" (some 6) with
  accessFlags := 16432
  interfaces := #[]
  cf := some (fileOf pool7 1 #[] #[{ accessFlags := 9, nameIndex := 58, descriptorIndex := 57, attributes := #[] }] 16432 26 #[] #[{ accessFlags := 16409, nameIndex := 5, descriptorIndex := 6, attributes := #[] }, { accessFlags := 16409, nameIndex := 9, descriptorIndex := 6, attributes := #[] }, { accessFlags := 16409, nameIndex := 12, descriptorIndex := 6, attributes := #[] }, { accessFlags := 16409, nameIndex := 15, descriptorIndex := 6, attributes := #[] }, { accessFlags := 16, nameIndex := 37, descriptorIndex := 38, attributes := #[] }, { accessFlags := 4122, nameIndex := 18, descriptorIndex := 19, attributes := #[] }])
  fields := #[{ name := "COMMITTED", type := (.object "com/example/fides/fides/command/perf/Outcome"), accessFlags := 16409, slot := 0, constantValue := 0 }, { name := "ABORTED", type := (.object "com/example/fides/fides/command/perf/Outcome"), accessFlags := 16409, slot := 1, constantValue := 0 }, { name := "OPEN", type := (.object "com/example/fides/fides/command/perf/Outcome"), accessFlags := 16409, slot := 2, constantValue := 0 }, { name := "TIMED_OUT", type := (.object "com/example/fides/fides/command/perf/Outcome"), accessFlags := 16409, slot := 3, constantValue := 0 }, { name := "label", type := (.object "java/lang/String"), accessFlags := 16, slot := 3, constantValue := 0 }, { name := "$VALUES", type := (.array (.object "com/example/fides/fides/command/perf/Outcome")), accessFlags := 4122, slot := 4, constantValue := 0 }]
  methods := #[k7m0]
  instanceTypes := #[(.object "java/lang/String"), .int, .int, (.object "java/lang/String")]
  staticTypes := #[(.object "com/example/fides/fides/command/perf/Outcome"), (.object "com/example/fides/fides/command/perf/Outcome"), (.object "com/example/fides/fides/command/perf/Outcome"), (.object "com/example/fides/fides/command/perf/Outcome"), (.array (.object "com/example/fides/fides/command/perf/Outcome"))]
  resolved := Array.replicate 70 none
  statics := some 0 }

def pool8 : Array CpInfo := pool [(1, .class_ 2), (0, u "java/lang/Cloneable"), (0, .class_ 4), (0, u "java/lang/Object")] 2

/-- java/lang/Cloneable -/
def k8 : Class := { plain "java/lang/Cloneable" (some 0) with
  accessFlags := 1537
  interfaces := #[]
  cf := some (fileOf pool8 1 #[] #[] 1537 3 #[] #[])
  fields := #[]
  methods := #[]
  instanceTypes := #[]
  staticTypes := #[]
  resolved := Array.replicate 7 none
  statics := none }

/-- the primitive byte -/
def k9 : Class := { plain "byte" none with kind := .primitive 'B', accessFlags := 0x411 }
/-- [B -/
def k10 : Class := { plain "[B" (some 0) with kind := .array 9 .byte, interfaces := #[8, 5], accessFlags := 1041 }

/-- the primitive int -/
def k11 : Class := { plain "int" none with kind := .primitive 'I', accessFlags := 0x411 }
/-- [I -/
def k12 : Class := { plain "[I" (some 0) with kind := .array 11 .int, interfaces := #[8, 5], accessFlags := 1041 }

/-- the primitive long -/
def k13 : Class := { plain "long" none with kind := .primitive 'J', accessFlags := 0x411 }
/-- [J -/
def k14 : Class := { plain "[J" (some 0) with kind := .array 13 .long, interfaces := #[8, 5], accessFlags := 1041 }

/-- [Lcom/example/fides/fides/command/perf/Outcome; -/
def k15 : Class := { plain "[Lcom/example/fides/fides/command/perf/Outcome;" (some 0) with kind := .array 7 (.object "com/example/fides/fides/command/perf/Outcome"), interfaces := #[8, 5], accessFlags := 1041 }

def heap : Heap := #[{ cls := 7, slots := #[.ref 2, .ref 3, .ref 4, .ref 5, .ref 1], vm := .statics 7 },
  { cls := 15, slots := #[.ref 2, .ref 3, .ref 4, .ref 5], vm := .none },
  { cls := 7, slots := #[.null, .int 0, .int 0, .null], vm := .none },
  { cls := 7, slots := #[.null, .int 1, .int 0, .null], vm := .none },
  { cls := 7, slots := #[.null, .int 2, .int 0, .null], vm := .none },
  { cls := 7, slots := #[.null, .int 3, .int 0, .null], vm := .none }]
def classes : Array Class := #[k0, k1, k2, k3, k4, k5, k6, k7, k8, k9, k10, k11, k12, k13, k14, k15]
def interned : List (Array UInt16 × Addr) := []
def slotsUsed : Nat := 25
def theMethod : MethodId := ⟨1, 2⟩
def args0 : Array Value := #[.int 5, .int 1, .int 6, .int 7]
def aboutOver (below : List Frame) : State where
  vm := { classes := classes, interned := interned.toArray }
  heap := heap
  slotsUsed := slotsUsed
  threads := #[{ frames := .invoking theMethod args0 :: below }]
def below0 : List Frame := [.native { method := ⟨0, 0⟩, args := #[] }]
def about1 : State := aboutOver below0
def p0 : Program := .bare "" "" ""
def e0 : Env := launch0.env 0 0 0
theorem w_frames : about1.frames = Frame.invoking theMethod args0 :: below0 := rfl
set_option maxRecDepth 65536 in
theorem w_args : argsFit about1.vm theMethod args0 = true := by decide +kernel
set_option maxRecDepth 65536 in
theorem w_heap : heapFits about1 = true := by decide +kernel
set_option maxRecDepth 65536 in
theorem w_runnable : about1.curStatus? = some .runnable := by decide +kernel
set_option maxRecDepth 65536 in
theorem w_alone : about1.alone = true := by decide +kernel
set_option maxRecDepth 65536 in
theorem w_named : about1.methodNamed? x = some theMethod := by decide +kernel
set_option maxRecDepth 65536 in
theorem w_hears : about1.hears theMethod below0 = true := by decide +kernel
set_option maxRecDepth 65536 in
theorem w_ripe : about1.ripe theMethod args0 below0 = true := by decide +kernel
theorem w_running : about1.status = .running := rfl
set_option maxRecDepth 65536 in
theorem w_room : about1.hasRoom e0.platform room_1 = true :=
  launch0.hasRoom_least _ room_1 (by decide +kernel) (by decide +kernel) (by decide +kernel) (by decide +kernel) (by decide +kernel) (by decide +kernel)
theorem allAtoms_all (ts : List Jvm.Cond) (a : Array Jvm.Value) (st : Jvm.State) : (allAtoms ts).before a st = ts.all (fun c => c.before a st) := by
  induction ts with
  | nil => rfl
  | cons c t ih =>
    show (Jvm.Cond.and c (allAtoms t)).before a st = _
    rw [Jvm.Cond.before_and, ih, List.all_cons]
def words1 : List Jvm.Cond := Jvm.Cond.code x code maxLocals ret :: tables_1
/-- a 'code' word, met by the world's own term for the bytes: nothing is compared byte by byte -/
theorem code_word {y : MethodName} {bytes : ByteArray} {mx : Nat} {rt : Option FieldType} {a : Array Value} {s : State} {m : MethodId} {meth : Method} {c : Code} (h1 : s.methodNamed? y = some m) (h2 : s.vm.method? m = some meth) (h3 : meth.code = some c) (h4 : c.code = bytes)
    (h5 : (c.maxLocals == mx && c.exceptionTable.isEmpty && decide (c.maxStack ≤ mostOperands) && decide (meth.sig.returnType = rt) && !meth.locks && decide (parseMethodDescriptor y.desc = some meth.sig)) = true) : (Jvm.Cond.code y bytes mx rt).before a s = true := by
  simp only [Bool.and_eq_true, beq_iff_eq, Bool.not_eq_true', decide_eq_true_eq] at h5
  obtain ⟨⟨⟨⟨⟨g1, g2⟩, g3⟩, g4⟩, g5⟩, g6⟩ := h5
  simp [Cond.before, Cond.holds, Cond.value, h1, h2, h3, h4, g1, g2, g3, g4, g5, g6]
def isCode : Jvm.Cond → Bool
  | .code _ _ _ _ => true
  | _ => false
theorem all_split {L : List Jvm.Cond} {P : Jvm.Cond → Bool} (h1 : L.all (fun c => isCode c || P c) = true) (h2 : ∀ c ∈ L.filter isCode, P c = true) : L.all P = true := by
  refine List.all_eq_true.mpr fun c hc => ?_
  have h := List.all_eq_true.mp h1 c hc
  rcases Bool.eq_false_or_eq_true (isCode c) with hi | hi
  · exact h2 c (List.mem_filter.mpr ⟨hc, hi⟩)
  · simpa [hi] using h
set_option maxRecDepth 65536 in
theorem w_c0 : (Jvm.Cond.code x code maxLocals ret).before args0 about1 = true := code_word (m := ⟨1, 2⟩) (meth := k1m2) (c := k1c2) (by decide +kernel) rfl rfl rfl (by decide +kernel)
set_option maxRecDepth 65536 in
theorem w_c1 : (Jvm.Cond.code ({ cls := "com/example/fides/fides/command/perf/Tally", name := "<init>", desc := "()V" } : Jvm.MethodName) prog_13_method_1_code (1 : Nat) (Option.none : Option Jvm.ClassFile.FieldType)).before args0 about1 = true := code_word (m := ⟨2, 0⟩) (meth := k2m0) (c := k2c0) (by decide +kernel) rfl rfl rfl (by decide +kernel)
set_option maxRecDepth 65536 in
theorem w_c2 : (Jvm.Cond.code ({ cls := "java/lang/Object", name := "<init>", desc := "()V" } : Jvm.MethodName) object_method_1_code (1 : Nat) (Option.none : Option Jvm.ClassFile.FieldType)).before args0 about1 = true := code_word (m := ⟨0, 0⟩) (meth := k0m0) (c := k0c0) (by decide +kernel) rfl rfl rfl (by decide +kernel)
set_option maxRecDepth 65536 in
theorem w_c3 : (Jvm.Cond.code ({ cls := "com/example/fides/fides/command/perf/Outcome", name := "values", desc := "()[Lcom/example/fides/fides/command/perf/Outcome;" } : Jvm.MethodName) prog_9_method_1_code (0 : Nat) (Option.some (Jvm.ClassFile.FieldType.array (Jvm.ClassFile.FieldType.object "com/example/fides/fides/command/perf/Outcome")))).before args0 about1 = true := code_word (m := ⟨7, 0⟩) (meth := k7m0) (c := k7c0) (by decide +kernel) rfl rfl rfl (by decide +kernel)
set_option maxRecDepth 65536 in
theorem w_c4 : (Jvm.Cond.code ({ cls := "com/example/fides/fides/command/perf/Tally", name := "total", desc := "()J" } : Jvm.MethodName) prog_13_method_5_code (8 : Nat) (Option.some Jvm.ClassFile.FieldType.long)).before args0 about1 = true := code_word (m := ⟨2, 3⟩) (meth := k2m3) (c := k2c3) (by decide +kernel) rfl rfl rfl (by decide +kernel)
set_option maxRecDepth 65536 in
theorem w_c5 : (Jvm.Cond.code ({ cls := "com/example/fides/fides/command/perf/Tally", name := "count", desc := "(Lcom/example/fides/fides/command/perf/Outcome;)J" } : Jvm.MethodName) prog_13_method_4_code (2 : Nat) (Option.some Jvm.ClassFile.FieldType.long)).before args0 about1 = true := code_word (m := ⟨2, 2⟩) (meth := k2m2) (c := k2c2) (by decide +kernel) rfl rfl rfl (by decide +kernel)
set_option maxRecDepth 65536 in
theorem w_c6 : (Jvm.Cond.code ({ cls := "java/lang/Enum", name := "ordinal", desc := "()I" } : Jvm.MethodName) jdk_37_method_2_code (1 : Nat) (Option.some Jvm.ClassFile.FieldType.int)).before args0 about1 = true := code_word (m := ⟨6, 0⟩) (meth := k6m0) (c := k6c0) (by decide +kernel) rfl rfl rfl (by decide +kernel)
set_option maxRecDepth 65536 in
theorem w_c7 : (Jvm.Cond.code ({ cls := "com/example/fides/fides/command/perf/TallyTotalPinLaw", name := "pick", desc := "(I)Lcom/example/fides/fides/command/perf/Outcome;" } : Jvm.MethodName) method_2_code (2 : Nat) (Option.some (Jvm.ClassFile.FieldType.object "com/example/fides/fides/command/perf/Outcome"))).before args0 about1 = true := code_word (m := ⟨1, 1⟩) (meth := k1m1) (c := k1c1) (by decide +kernel) rfl rfl rfl (by decide +kernel)
set_option maxRecDepth 65536 in
theorem w_c8 : (Jvm.Cond.code ({ cls := "com/example/fides/fides/command/perf/Tally", name := "add", desc := "(Lcom/example/fides/fides/command/perf/Outcome;)V" } : Jvm.MethodName) prog_13_method_2_code (2 : Nat) (Option.none : Option Jvm.ClassFile.FieldType)).before args0 about1 = true := code_word (m := ⟨2, 1⟩) (meth := k2m1) (c := k2c1) (by decide +kernel) rfl rfl rfl (by decide +kernel)
def codes1 : List Jvm.Cond := [Jvm.Cond.code x code maxLocals ret, Jvm.Cond.code ({ cls := "com/example/fides/fides/command/perf/Tally", name := "<init>", desc := "()V" } : Jvm.MethodName) prog_13_method_1_code (1 : Nat) (Option.none : Option Jvm.ClassFile.FieldType), Jvm.Cond.code ({ cls := "java/lang/Object", name := "<init>", desc := "()V" } : Jvm.MethodName) object_method_1_code (1 : Nat) (Option.none : Option Jvm.ClassFile.FieldType), Jvm.Cond.code ({ cls := "com/example/fides/fides/command/perf/Outcome", name := "values", desc := "()[Lcom/example/fides/fides/command/perf/Outcome;" } : Jvm.MethodName) prog_9_method_1_code (0 : Nat) (Option.some (Jvm.ClassFile.FieldType.array (Jvm.ClassFile.FieldType.object "com/example/fides/fides/command/perf/Outcome"))), Jvm.Cond.code ({ cls := "com/example/fides/fides/command/perf/Tally", name := "total", desc := "()J" } : Jvm.MethodName) prog_13_method_5_code (8 : Nat) (Option.some Jvm.ClassFile.FieldType.long), Jvm.Cond.code ({ cls := "com/example/fides/fides/command/perf/Tally", name := "count", desc := "(Lcom/example/fides/fides/command/perf/Outcome;)J" } : Jvm.MethodName) prog_13_method_4_code (2 : Nat) (Option.some Jvm.ClassFile.FieldType.long), Jvm.Cond.code ({ cls := "java/lang/Enum", name := "ordinal", desc := "()I" } : Jvm.MethodName) jdk_37_method_2_code (1 : Nat) (Option.some Jvm.ClassFile.FieldType.int), Jvm.Cond.code ({ cls := "com/example/fides/fides/command/perf/TallyTotalPinLaw", name := "pick", desc := "(I)Lcom/example/fides/fides/command/perf/Outcome;" } : Jvm.MethodName) method_2_code (2 : Nat) (Option.some (Jvm.ClassFile.FieldType.object "com/example/fides/fides/command/perf/Outcome")), Jvm.Cond.code ({ cls := "com/example/fides/fides/command/perf/Tally", name := "add", desc := "(Lcom/example/fides/fides/command/perf/Outcome;)V" } : Jvm.MethodName) prog_13_method_2_code (2 : Nat) (Option.none : Option Jvm.ClassFile.FieldType)]
set_option maxRecDepth 65536 in
theorem codes_eq : words1.filter isCode = codes1 := rfl
theorem w_codes : ∀ c ∈ words1.filter isCode, c.before args0 about1 = true := by
  rw [codes_eq]
  intro c hc
  simp only [codes1, List.mem_cons, List.not_mem_nil, or_false] at hc
  rcases hc with rfl | rfl | rfl | rfl | rfl | rfl | rfl | rfl | rfl
  · exact w_c0
  · exact w_c1
  · exact w_c2
  · exact w_c3
  · exact w_c4
  · exact w_c5
  · exact w_c6
  · exact w_c7
  · exact w_c8
set_option maxRecDepth 65536 in
theorem w_t1 : (words1.take 24).all (fun c => isCode c || c.before args0 about1) = true := by decide +kernel
set_option maxRecDepth 65536 in
theorem w_t2 : ((words1.drop 24).take 24).all (fun c => isCode c || c.before args0 about1) = true := by decide +kernel
set_option maxRecDepth 65536 in
theorem w_t3 : ((words1.drop 24).drop 24).all (fun c => isCode c || c.before args0 about1) = true := by decide +kernel
theorem w_tables : (allAtoms (Jvm.Cond.code x code maxLocals ret :: tables_1)).before args0 about1 = true := by
  rw [allAtoms_all]
  show words1.all (fun c => c.before args0 about1) = true
  refine all_split ?_ w_codes
  rw [← List.take_append_drop 24 words1, List.all_append, w_t1, ← List.take_append_drop 24 (words1.drop 24), List.all_append, w_t2, w_t3]
  rfl
set_option maxRecDepth 65536 in
theorem w_case : (Jvm.Cond.and given_1 narrow_1).before args0 about1 = true := by decide +kernel
theorem w_applies : (headSpec (Jvm.Cond.code x code maxLocals ret :: tables_1) room_1).applies x e0.platform about1 = true :=
  (Spec.applies_iff w_frames).mpr ⟨w_running, w_runnable, w_alone, w_named, w_hears, w_ripe, w_room, w_tables⟩
theorem atStart : AtStart classFile x code maxLocals ret World_1 tables_1 room_1 Calls_1 rest_1 Pre_1 launch0 p0 e0 about1 theMethod args0 below0 :=
  ⟨lists_1, trivial, launch0.admits_env _ _ _, launch0.least_env, fairChoices_fair.cas, fairChoices_fair.clock, w_frames, w_args, w_heap, w_applies, trivial, trivial, w_case⟩
end start1
theorem witness_1 : WitnessClaimed_1 := ⟨start1.p0, start1.e0, start1.about1, start1.theMethod, start1.args0, start1.below0, start1.atStart⟩
end Jvm.Pilot.@@N@@
