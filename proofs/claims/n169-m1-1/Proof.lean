import JvmDerived
import JvmDerived.Pilot.@@N@@Statement
import JvmDerived.Pilot.@@N@@Code
set_option linter.unusedVariables false
set_option linter.unusedSimpArgs false
@@BLOCK:NumsL.lean.txt@@
namespace Jvm.RoadKit
open Sem ClassFile Op Lib Jvm.Stand Jvm.Free Jvm.LawKit
/-- from the state S the run comes to an end that P holds of -/
def own_Out (p : Program) (e : Env) (below : List Frame) (P : Outcome → State → Prop) (S : State) : Prop := ∃ s₂ o, Steps p.tables e below S s₂ ∧ s₂.status = .running ∧ Ended s₂ below o ∧ P o s₂
theorem own_of {p : Program} {e : Env} {below : List Frame} {P : Outcome → State → Prop} {S S' : State} (h : ∀ t, Steps p.tables e below S' t → Steps p.tables e below S t) (k : own_Out p e below P S') : own_Out p e below P S := by
  obtain ⟨a, b, c, d⟩ := k
  exact ⟨a, b, h a c, d⟩
section New
variable {p : Program} {l : Launch} {e : Env} {R : Room} {s : State} {m : MethodId} {args : Array Value} {below : List Frame} {meth : Method} {c : Code} {T : State} {locs : List Loc} {cells slots : Nat}
theorem own_retI (X : Stand p l e R s m args below meth c T locs cells slots) (hx : p.tables.exec = Jvm.exec) {pc : Nat} {Ls : Array Slot} {z : Int32} {rest : List Value} (hret : meth.sig.returnType = some .int) (hd : decode c.code pc = .ok (.ireturn, 1)) {fs : List Frame}
    (hl : ∀ (f : JFrame) (acts : List Action), f.method = m → f.locked = none → f.entered = [] → (doReturn e (T.setTop f) acts (some (.int z))).1 = T.setFrames fs) : Steps p.tables e below (T.setTop (mkF m pc Ls (.int z :: rest))) (T.setFrames fs) := retOut X hx hret rfl (Or.inl ⟨rfl, Or.inl rfl, z, rfl⟩) hd hl
theorem own_end (X : Stand p l e R s m args below meth c T locs cells slots) (hlk : meth.locks = false) {v : Option Value} (hv : meth.sig.returnType = none → v = none) {g : JFrame}
    (hs : ∀ fs, (∀ (f : JFrame) (acts : List Action), f.method = m → f.locked = none → f.entered = [] → (doReturn e (T.setTop f) acts v).1 = T.setFrames fs) → Steps p.tables e below (T.setTop g) (T.setFrames fs))
    {Q : Option Value → Heap → List Loc → Prop} (hQ : Q v T.heap locs) {C N : Nat} (hC : cells ≤ C) (hN : slots ≤ N) :
    own_Out p e below (fun o U' => ∃ v L, o = .returned v ∧ Q v U'.heap L ∧ FrameEnd s o U' L C N) (T.setTop g) := by
  obtain ⟨fs, hr, hrun, hended, hW, hsame⟩ := X.leave (v := v) hv hlk
  exact ⟨_, _, hs fs hr, hrun, hended, _, _, rfl, hQ, ⟨_, rfl⟩, hW, hsame.mono hC hN⟩
theorem own_outI (X : Stand p l e R s m args below meth c T locs cells slots) (hx : p.tables.exec = Jvm.exec) (hlk : meth.locks = false) {pc : Nat} {Ls : Array Slot} {z : Int32} {rest : List Value} (hret : meth.sig.returnType = some .int) (hd : decode c.code pc = .ok (.ireturn, 1))
    {Q : Option Value → Heap → List Loc → Prop} (hQ : Q (some (.int z)) T.heap locs) {C N : Nat} (hC : cells ≤ C) (hN : slots ≤ N) :
    own_Out p e below (fun o U' => ∃ v L, o = .returned v ∧ Q v U'.heap L ∧ FrameEnd s o U' L C N) (T.setTop (mkF m pc Ls (.int z :: rest))) :=
  own_end X hlk (fun h => by rw [hret] at h; cases h) (fun fs hr => own_retI X hx hret hd hr) hQ hC hN
theorem own_outN (X : Stand p l e R s m args below meth c T locs cells slots) (hx : p.tables.exec = Jvm.exec) (hlk : meth.locks = false) {pc : Nat} {Ls : Array Slot} {z z' : Int32} {t : FieldType} {rest : List Value} (hret : meth.sig.returnType = some t) (ht : t = .boolean ∨ t = .byte ∨ t = .char ∨ t = .short) (hd : decode c.code pc = .ok (.ireturn, 1)) (hz : nar t z = z')
    {Q : Option Value → Heap → List Loc → Prop} (hQ : Q (some (.int z')) T.heap locs) {C N : Nat} (hC : cells ≤ C) (hN : slots ≤ N) :
    own_Out p e below (fun o U' => ∃ v L, o = .returned v ∧ Q v U'.heap L ∧ FrameEnd s o U' L C N) (T.setTop (mkF m pc Ls (.int z :: rest))) :=
  own_end X hlk (fun h => by rw [hret] at h; cases h) (fun fs hr => retN X hx hret ht hd (by rw [hz]; exact hr)) hQ hC hN
theorem own_outL (X : Stand p l e R s m args below meth c T locs cells slots) (hx : p.tables.exec = Jvm.exec) (hlk : meth.locks = false) {pc : Nat} {Ls : Array Slot} {z : Int64} {rest : List Value} (hret : meth.sig.returnType = some .long) (hd : decode c.code pc = .ok (.lreturn, 1))
    {Q : Option Value → Heap → List Loc → Prop} (hQ : Q (some (.long z)) T.heap locs) {C N : Nat} (hC : cells ≤ C) (hN : slots ≤ N) :
    own_Out p e below (fun o U' => ∃ v L, o = .returned v ∧ Q v U'.heap L ∧ FrameEnd s o U' L C N) (T.setTop (mkF m pc Ls (.long z :: rest))) :=
  own_end X hlk (fun h => by rw [hret] at h; cases h) (fun fs hr => retOut X hx hret rfl (Or.inr (Or.inl ⟨rfl, rfl, z, rfl⟩)) hd hr) hQ hC hN
theorem own_outD (X : Stand p l e R s m args below meth c T locs cells slots) (hx : p.tables.exec = Jvm.exec) (hlk : meth.locks = false) {pc : Nat} {Ls : Array Slot} {z : UInt64} {rest : List Value} (hret : meth.sig.returnType = some .double) (hd : decode c.code pc = .ok (.dreturn, 1))
    {Q : Option Value → Heap → List Loc → Prop} (hQ : Q (some (.double z)) T.heap locs) {C N : Nat} (hC : cells ≤ C) (hN : slots ≤ N) :
    own_Out p e below (fun o U' => ∃ v L, o = .returned v ∧ Q v U'.heap L ∧ FrameEnd s o U' L C N) (T.setTop (mkF m pc Ls (.double z :: rest))) :=
  own_end X hlk (fun h => by rw [hret] at h; cases h) (fun fs hr => retOut X hx hret rfl (Or.inr (Or.inr (Or.inl ⟨rfl, rfl, z, rfl⟩))) hd hr) hQ hC hN
theorem own_outR (X : Stand p l e R s m args below meth c T locs cells slots) (hx : p.tables.exec = Jvm.exec) (hlk : meth.locks = false) {pc : Nat} {Ls : Array Slot} {w : Value} {t : FieldType} {rest : List Value} (hret : meth.sig.returnType = some t) (ht : t.isReference = true) (hw : w.isRef = true) (hn : narrow t w = w) (hd : decode c.code pc = .ok (.areturn, 1))
    {Q : Option Value → Heap → List Loc → Prop} (hQ : Q (some w) T.heap locs) {C N : Nat} (hC : cells ≤ C) (hN : slots ≤ N) :
    own_Out p e below (fun o U' => ∃ v L, o = .returned v ∧ Q v U'.heap L ∧ FrameEnd s o U' L C N) (T.setTop (mkF m pc Ls (w :: rest))) :=
  own_end X hlk (fun h => by rw [hret] at h; cases h) (fun fs hr => retOut X hx hret hn (Or.inr (Or.inr (Or.inr (Or.inr ⟨rfl, ht, hw⟩)))) hd hr) hQ hC hN
theorem own_outV (X : Stand p l e R s m args below meth c T locs cells slots) (hx : p.tables.exec = Jvm.exec) (hlk : meth.locks = false) {pc : Nat} {Ls : Array Slot} (hret : meth.sig.returnType = none) (hd : decode c.code pc = .ok (.return_, 1))
    {Q : Option Value → Heap → List Loc → Prop} (hQ : Q none T.heap locs) {C N : Nat} (hC : cells ≤ C) (hN : slots ≤ N) :
    own_Out p e below (fun o U' => ∃ v L, o = .returned v ∧ Q v U'.heap L ∧ FrameEnd s o U' L C N) (T.setTop (mkF m pc Ls [])) :=
  own_end X hlk (fun _ => rfl) (fun fs hr => X.returnOut hx hret hd hr) hQ hC hN
end New
theorem own_ltlt {x y : Int64} (h : x < y) : ifCond.holds .lt (lcmpW x y) = true ∧ ifCond.holds .ge (lcmpW x y) = false ∧ ifCond.holds .gt (lcmpW y x) = true ∧ ifCond.holds .le (lcmpW y x) = false := by
  have h1 : ¬ x > y := fun q => by rw [gt_iff_lt, Int64.lt_iff_toInt_lt] at q; rw [Int64.lt_iff_toInt_lt] at h; omega
  have h2 : ¬ x = y := fun q => by subst q; rw [Int64.lt_iff_toInt_lt] at h; omega
  have e1 : lcmpW x y = -1 := by simp only [lcmpW, if_neg h1, if_neg h2]
  have e2 : lcmpW y x = 1 := by simp only [lcmpW, if_pos (show y > x from h)]
  rw [e1, e2]; decide
theorem own_leq {x y : Int64} (h : x = y) : ifCond.holds .eq (lcmpW x y) = true ∧ ifCond.holds .ne (lcmpW x y) = false := by
  subst h
  have h1 : ¬ x > x := fun q => by rw [gt_iff_lt, Int64.lt_iff_toInt_lt] at q; omega
  have e1 : lcmpW x x = 0 := by simp only [lcmpW, if_neg h1, if_pos]
  rw [e1]; decide
theorem own_lfeq {x y : Int64} (h : ¬ x = y) : ifCond.holds .eq (lcmpW x y) = false ∧ ifCond.holds .ne (lcmpW x y) = true := by
  by_cases h1 : x > y
  · have e1 : lcmpW x y = 1 := by simp only [lcmpW, if_pos h1]
    rw [e1]; decide
  · have e1 : lcmpW x y = -1 := by simp only [lcmpW, if_neg h1, if_neg h]
    rw [e1]; decide
theorem own_lflt {x y : Int64} (h : ¬ x < y) : ifCond.holds .lt (lcmpW x y) = false ∧ ifCond.holds .ge (lcmpW x y) = true ∧ ifCond.holds .gt (lcmpW y x) = false ∧ ifCond.holds .le (lcmpW y x) = true := by
  by_cases h1 : x = y
  · subst h1
    have h1 : ¬ x > x := fun q => by rw [gt_iff_lt, Int64.lt_iff_toInt_lt] at q; omega
    have e1 : lcmpW x x = 0 := by simp only [lcmpW, if_neg h1, if_pos]
    rw [e1]; decide
  · have h2 : x > y := by
      rw [gt_iff_lt, Int64.lt_iff_toInt_lt]; rw [Int64.lt_iff_toInt_lt] at h
      have h3 : ¬ x.toInt = y.toInt := fun q => h1 (Int64.toInt_inj.mp q)
      omega
    have h3 : ¬ y > x := fun q => by rw [gt_iff_lt, Int64.lt_iff_toInt_lt] at q h2; omega
    have e1 : lcmpW x y = 1 := by simp only [lcmpW, if_pos h2]
    have e2 : lcmpW y x = -1 := by simp only [lcmpW, if_neg h3, if_neg (fun q => h1 (Eq.symm q))]
    rw [e1, e2]; decide
theorem own_staK0 {Z : State} {h h' : Heap} {C n d : String} {v : Value} (F : Sta Z h C n d v) (K : Keep h h' []) : Sta Z h' C n d v := by
  obtain ⟨cf, i, k, f, st, cell, h1, h2, h3, h4, h5, r⟩ := F
  exact ⟨cf, i, k, f, st, cell, h1, h2, h3, h4, K.2.1 st cell h5 nin0, r⟩
theorem own_staK1 {Z : State} {h h' : Heap} {C n d : String} {v : Value} {a : Addr} (F : Sta Z h C n d v) (K : Keep h h' [a]) (q : ∀ cell : Cell, h[a]? = some cell → cell.vm.isStatics = false) : Sta Z h' C n d v := by
  obtain ⟨cf, i, k, f, st, cell, h1, h2, h3, h4, h5, h6, h7⟩ := F
  have ne : st ≠ a := fun e => by subst e; rw [q _ h5] at h6; cases h6
  exact ⟨cf, i, k, f, st, cell, h1, h2, h3, h4, K.2.1 st cell h5 (ninS ne nin0), h6, h7⟩
theorem own_plainE {Z : State} {h : Heap} {a : Addr} {C : String} (E : Exa Z h a C) : ∀ cell : Cell, h[a]? = some cell → cell.vm.isStatics = false := fun cell hc => by
  obtain ⟨c, k, h1, -, -, h4, -⟩ := E; cases h1.symm.trans hc; exact h4
theorem own_plainV {Z : State} {h : Heap} {a : Addr} {k : ClassId} {ty : FieldType} {z : Int32} {vs : List Value} {dv : Value} (F : Arv Z h a k ty z vs dv) : ∀ cell : Cell, h[a]? = some cell → cell.vm.isStatics = false := fun cell hc => by
  obtain ⟨c, A, -⟩ := F; cases A.1.symm.trans hc; exact A.plain
section Bounds
variable {x a k : Int32} {u : Int}
theorem own_L1 (h : ¬ (x < a)) : a.toInt ≤ x.toInt := by rw [Int32.lt_iff_toInt_lt] at h; omega
theorem own_L2 (h : a < x) : a.toInt + 1 ≤ x.toInt := by rw [Int32.lt_iff_toInt_lt] at h; omega
theorem own_L3 (h : x = a) : a.toInt ≤ x.toInt := by subst h; omega
theorem own_U1 (h : x < a) : x.toInt ≤ a.toInt - 1 := by rw [Int32.lt_iff_toInt_lt] at h; omega
theorem own_U2 (h : ¬ (a < x)) : x.toInt ≤ a.toInt := by rw [Int32.lt_iff_toInt_lt] at h; omega
theorem own_U3 (h : x = a) : x.toInt ≤ a.toInt := by subst h; omega
theorem own_T1 (h : x.toInt ≤ u) (d : u < k.toInt) : x < k := by rw [Int32.lt_iff_toInt_lt]; omega
theorem own_T2 (h : u ≤ x.toInt) (d : k.toInt ≤ u) : ¬ (x < k) := by rw [Int32.lt_iff_toInt_lt]; omega
theorem own_T3 (h : u ≤ x.toInt) (d : k.toInt < u) : k < x := by rw [Int32.lt_iff_toInt_lt]; omega
theorem own_T4 (h : x.toInt ≤ u) (d : u ≤ k.toInt) : ¬ (k < x) := by rw [Int32.lt_iff_toInt_lt]; omega
theorem own_T5 (h : x.toInt ≤ u) (d : u < k.toInt) : ¬ (x = k) := fun q => by subst q; omega
theorem own_T6 (h : u ≤ x.toInt) (d : k.toInt < u) : ¬ (x = k) := fun q => by subst q; omega
theorem own_T7 {u' : Int} (h : u ≤ x.toInt) (h' : x.toInt ≤ u') (d : k.toInt ≤ u ∧ u' ≤ k.toInt) : x = k := Int32.toInt_inj.mp (by omega)
end Bounds
section Rel
theorem own_JR1 {a b : Int64} (h : a < b) : ¬ (b < a) := by rw [Int64.lt_iff_toInt_lt] at *; omega
theorem own_JR2 {a b : Int64} (h : a < b) : ¬ (a = b) := fun q => by subst q; rw [Int64.lt_iff_toInt_lt] at h; omega
theorem own_JR2' {a b : Int64} (h : a < b) : ¬ (b = a) := fun q => by subst q; rw [Int64.lt_iff_toInt_lt] at h; omega
theorem own_JR3 {a b : Int64} (h : a = b) : ¬ (a < b) := fun q => by subst h; rw [Int64.lt_iff_toInt_lt] at q; omega
theorem own_JR3' {a b : Int64} (h : a = b) : ¬ (b < a) := fun q => by subst h; rw [Int64.lt_iff_toInt_lt] at q; omega
theorem own_JR4 {a b : Int64} (h : ¬ (a < b)) (h' : ¬ (b < a)) : a = b := by rw [Int64.lt_iff_toInt_lt] at h h'; exact Int64.toInt_inj.mp (by omega)
theorem own_JR5 {a b : Int64} (h : ¬ (a < b)) (h' : ¬ (a = b)) : b < a := by rw [← Int64.toInt_inj] at h'; rw [Int64.lt_iff_toInt_lt] at *; omega
theorem own_JR5' {a b : Int64} (h : ¬ (a < b)) (h' : ¬ (b = a)) : b < a := by rw [← Int64.toInt_inj] at h'; rw [Int64.lt_iff_toInt_lt] at *; omega
theorem own_IR1 {a b : Int32} (h : a < b) : ¬ (b < a) := by rw [Int32.lt_iff_toInt_lt] at *; omega
theorem own_IR2 {a b : Int32} (h : a < b) : ¬ (a = b) := fun q => by subst q; rw [Int32.lt_iff_toInt_lt] at h; omega
theorem own_IR2' {a b : Int32} (h : a < b) : ¬ (b = a) := fun q => by subst q; rw [Int32.lt_iff_toInt_lt] at h; omega
theorem own_IR3 {a b : Int32} (h : a = b) : ¬ (a < b) := fun q => by subst h; rw [Int32.lt_iff_toInt_lt] at q; omega
theorem own_IR3' {a b : Int32} (h : a = b) : ¬ (b < a) := fun q => by subst h; rw [Int32.lt_iff_toInt_lt] at q; omega
theorem own_IR4 {a b : Int32} (h : ¬ (a < b)) (h' : ¬ (b < a)) : a = b := by rw [Int32.lt_iff_toInt_lt] at h h'; exact Int32.toInt_inj.mp (by omega)
theorem own_IR5 {a b : Int32} (h : ¬ (a < b)) (h' : ¬ (a = b)) : b < a := by rw [← Int32.toInt_inj] at h'; rw [Int32.lt_iff_toInt_lt] at *; omega
theorem own_IR5' {a b : Int32} (h : ¬ (a < b)) (h' : ¬ (b = a)) : b < a := by rw [← Int32.toInt_inj] at h'; rw [Int32.lt_iff_toInt_lt] at *; omega
end Rel
end Jvm.RoadKit
namespace Jvm.Pilot.@@N@@
open Jvm Jvm.ClassFile Sem Op Lib Jvm.Free Jvm.Stand Jvm.LawKit Jvm.RoadKit Bundle Jvm.Pilot.@@N@@.Jvm.D
theorem d1_0 : decode prog_115_method_2_code 0 = .ok (.iload_n 0, 1) := by decide +kernel
theorem d1_1 : decode prog_115_method_2_code 1 = .ok (.bipush 97, 2) := by decide +kernel
theorem d1_3 : decode prog_115_method_2_code 3 = .ok (.if_icmp .lt 9, 3) := by decide +kernel
theorem d1_6 : decode prog_115_method_2_code 6 = .ok (.iload_n 0, 1) := by decide +kernel
theorem d1_7 : decode prog_115_method_2_code 7 = .ok (.bipush 122, 2) := by decide +kernel
theorem d1_9 : decode prog_115_method_2_code 9 = .ok (.if_icmp .le 15, 3) := by decide +kernel
theorem d1_12 : decode prog_115_method_2_code 12 = .ok (.iload_n 0, 1) := by decide +kernel
theorem d1_13 : decode prog_115_method_2_code 13 = .ok (.bipush 48, 2) := by decide +kernel
theorem d1_15 : decode prog_115_method_2_code 15 = .ok (.if_icmp .lt 13, 3) := by decide +kernel
theorem d1_18 : decode prog_115_method_2_code 18 = .ok (.iload_n 0, 1) := by decide +kernel
theorem d1_19 : decode prog_115_method_2_code 19 = .ok (.bipush 57, 2) := by decide +kernel
theorem d1_21 : decode prog_115_method_2_code 21 = .ok (.if_icmp .gt 7, 3) := by decide +kernel
theorem d1_24 : decode prog_115_method_2_code 24 = .ok (.iconst 1, 1) := by decide +kernel
theorem d1_25 : decode prog_115_method_2_code 25 = .ok (.goto 4, 3) := by decide +kernel
theorem d1_28 : decode prog_115_method_2_code 28 = .ok (.iconst 0, 1) := by decide +kernel
theorem d1_29 : decode prog_115_method_2_code 29 = .ok (.ireturn, 1) := by decide +kernel
theorem pn_0 : plainName "com/example/ringd/ringd/core/Tags" = true := by first | (simp [plainName, overriddenIn]; done) | decide +kernel
theorem ef_1 (m : MethodId) (x0 : Int32) : entryFrame m #[(.int x0)] 1 = mkF m 0 #[.val (.int x0)] [] := by first | (simp [entryFrame, mkF, argsToLocals, Value.category]; done) | rfl
def f1 (p0 : Int32) : Int32 := if p0 < (97 : Int32) then (if p0 < (48 : Int32) then (0 : Int32)
    else if (57 : Int32) < p0 then (0 : Int32)
      else (1 : Int32))
  else if (122 : Int32) < p0 then (0 : Int32)
    else (1 : Int32)
def Q1 (Z : State) (p0 : Int32) (h0 : Heap) (n0 : Nat) (v : Option Value) (h : Heap) (L : List Loc) : Prop := v = some (.int (f1 p0)) ∧ Fr n0 L ∧ h = h0
set_option maxRecDepth 65536 in
set_option maxHeartbeats 40000000 in
theorem rm1 (l : Launch) (Z : State) (a0 : Array Value) (hw : ∀ d ∈ tables_1, d.before a0 Z = true) (ws : List Jvm.Cond) (p0 : Int32) (h0 : Heap) (n0 : Nat) (Z0 : n0 ≤ h0.size) :
    MetFree l (⟨"com/example/ringd/ringd/core/Tags", "isStart", "(C)Z"⟩ : MethodName) (head1 (Jvm.Cond.code (⟨"com/example/ringd/ringd/core/Tags", "isStart", "(C)Z"⟩ : MethodName) prog_115_method_2_code 1 (some .boolean) :: ws) ({ frames := 0, cells := 0, slots := 0, locals := 0 } : Room)) (fun a U => a = #[(.int p0)] ∧ Z.Warmed39 U.vm ∧ U.heap = h0) (fun _ _ _ _ _ => True) (fun _ U o U' => ∃ v L, o = .returned v ∧ Q1 Z p0 h0 n0 v U'.heap L ∧ FrameEnd U o U' L ({ frames := 0, cells := 0, slots := 0, locals := 0 } : Room).cells ({ frames := 0, cells := 0, slots := 0, locals := 0 } : Room).slots) := by
  refine MetFree.of_bodySF (plainFor_of_name pn_0) hisR ?_
  intro p e s m args below meth c s₁ Bd hml0 hP hK
  obtain ⟨rfl, hZ, hh⟩ := hP
  have hx := Bd.exec
  have hby := Bd.bytes
  have hml : c.maxLocals = 1 := hml0
  have hown : s.vm.findClass "com/example/ringd/ringd/core/Tags" = some m.cls := findClass_of_methodNamed Bd.named
  have hnm := (name_of_methodNamed Bd.named Bd.method).1
  have X0 : Stand p l e ({ frames := 0, cells := 0, slots := 0, locals := 0 } : Room) s m #[(.int p0)] below meth c s₁ [] 0 0 := Stand.of_body Bd
  have e0 : s₁.heap = h0 := by rw [← hh, Bd.state]; rfl
  have N0 := Fr.nil n0
  have hret := Bd.returns
  have hlk := BodyLoose.notSynchronized Bd
  show own_Out p e below (fun o U' => ∃ v L, o = .returned v ∧ Q1 Z p0 h0 n0 v U'.heap L ∧ FrameEnd s o U' L ({ frames := 0, cells := 0, slots := 0, locals := 0 } : Room).cells ({ frames := 0, cells := 0, slots := 0, locals := 0 } : Room).slots) (s₁.setTop (entryFrame m #[(.int p0)] 1))
  refine own_of (fun t k => castTop (ef_1 m p0) k) ?_
  show own_Out p e below _ (s₁.setTop (mkF m 0 #[.val (.int p0)] []))
  refine own_of (fun _ k => XS.iloadN X0.here hx rfl (hb hby d1_0) rfl k) ?_
  show own_Out p e below _ (s₁.setTop (mkF m 1 #[.val (.int p0)] [(.int p0)]))
  refine own_of (fun _ k => XS.bipush X0.here hx rfl (hb hby d1_1) k) ?_
  show own_Out p e below _ (s₁.setTop (mkF m 3 #[.val (.int p0)] [(.int (97 : Int32)), (.int p0)]))
  by_cases hc3_1 : p0 < (97 : Int32)
  · skip
    refine own_of (fun _ k => XS.icmpYes X0.here hx rfl (pc0 := 3) (pc' := 12) rfl (hb hby d1_3) rfl (tlt hc3_1).1 (by decide) (by decide) k) ?_
    show own_Out p e below _ (s₁.setTop (mkF m 12 #[.val (.int p0)] []))
    refine own_of (fun _ k => XS.iloadN X0.here hx rfl (hb hby d1_12) rfl k) ?_
    show own_Out p e below _ (s₁.setTop (mkF m 13 #[.val (.int p0)] [(.int p0)]))
    refine own_of (fun _ k => XS.bipush X0.here hx rfl (hb hby d1_13) k) ?_
    show own_Out p e below _ (s₁.setTop (mkF m 15 #[.val (.int p0)] [(.int (48 : Int32)), (.int p0)]))
    by_cases hc15_2 : p0 < (48 : Int32)
    · skip
      refine own_of (fun _ k => XS.icmpYes X0.here hx rfl (pc0 := 15) (pc' := 28) rfl (hb hby d1_15) rfl (tlt hc15_2).1 (by decide) (by decide) k) ?_
      show own_Out p e below _ (s₁.setTop (mkF m 28 #[.val (.int p0)] []))
      refine own_of (fun _ k => XS.iconst X0.here hx rfl (hb hby d1_28) k) ?_
      show own_Out p e below _ (s₁.setTop (mkF m 29 #[.val (.int p0)] [(.int (0 : Int32))]))
      exact own_outN X0 hx hlk (t := .boolean) hret (by simp) (hb hby d1_29) (z' := (0 : Int32)) rfl (Q := Q1 Z p0 h0 n0) ⟨by simp only [f1, if_pos hc3_1, if_pos hc15_2], N0, e0⟩ (by decide) (by decide)
    · skip
      refine own_of (fun _ k => XS.icmpNo X0.here hx rfl (hb hby d1_15) rfl (flt hc15_2).1 k) ?_
      show own_Out p e below _ (s₁.setTop (mkF m 18 #[.val (.int p0)] []))
      refine own_of (fun _ k => XS.iloadN X0.here hx rfl (hb hby d1_18) rfl k) ?_
      show own_Out p e below _ (s₁.setTop (mkF m 19 #[.val (.int p0)] [(.int p0)]))
      refine own_of (fun _ k => XS.bipush X0.here hx rfl (hb hby d1_19) k) ?_
      show own_Out p e below _ (s₁.setTop (mkF m 21 #[.val (.int p0)] [(.int (57 : Int32)), (.int p0)]))
      by_cases hc21_3 : (57 : Int32) < p0
      · skip
        refine own_of (fun _ k => XS.icmpYes X0.here hx rfl (pc0 := 21) (pc' := 28) rfl (hb hby d1_21) rfl (tlt hc21_3).2.2.1 (by decide) (by decide) k) ?_
        show own_Out p e below _ (s₁.setTop (mkF m 28 #[.val (.int p0)] []))
        refine own_of (fun _ k => XS.iconst X0.here hx rfl (hb hby d1_28) k) ?_
        show own_Out p e below _ (s₁.setTop (mkF m 29 #[.val (.int p0)] [(.int (0 : Int32))]))
        exact own_outN X0 hx hlk (t := .boolean) hret (by simp) (hb hby d1_29) (z' := (0 : Int32)) rfl (Q := Q1 Z p0 h0 n0) ⟨by simp only [f1, if_pos hc3_1, if_neg hc15_2, if_pos hc21_3], N0, e0⟩ (by decide) (by decide)
      · skip
        refine own_of (fun _ k => XS.icmpNo X0.here hx rfl (hb hby d1_21) rfl (flt hc21_3).2.2.1 k) ?_
        show own_Out p e below _ (s₁.setTop (mkF m 24 #[.val (.int p0)] []))
        refine own_of (fun _ k => XS.iconst X0.here hx rfl (hb hby d1_24) k) ?_
        show own_Out p e below _ (s₁.setTop (mkF m 25 #[.val (.int p0)] [(.int (1 : Int32))]))
        refine own_of (fun _ k => XS.goto X0.here hx rfl (pc0 := 25) (pc' := 29) rfl (hb hby d1_25) (by decide) (by decide) k) ?_
        show own_Out p e below _ (s₁.setTop (mkF m 29 #[.val (.int p0)] [(.int (1 : Int32))]))
        exact own_outN X0 hx hlk (t := .boolean) hret (by simp) (hb hby d1_29) (z' := (1 : Int32)) rfl (Q := Q1 Z p0 h0 n0) ⟨by simp only [f1, if_pos hc3_1, if_neg hc15_2, if_neg hc21_3], N0, e0⟩ (by decide) (by decide)
  · skip
    refine own_of (fun _ k => XS.icmpNo X0.here hx rfl (hb hby d1_3) rfl (flt hc3_1).1 k) ?_
    show own_Out p e below _ (s₁.setTop (mkF m 6 #[.val (.int p0)] []))
    refine own_of (fun _ k => XS.iloadN X0.here hx rfl (hb hby d1_6) rfl k) ?_
    show own_Out p e below _ (s₁.setTop (mkF m 7 #[.val (.int p0)] [(.int p0)]))
    refine own_of (fun _ k => XS.bipush X0.here hx rfl (hb hby d1_7) k) ?_
    show own_Out p e below _ (s₁.setTop (mkF m 9 #[.val (.int p0)] [(.int (122 : Int32)), (.int p0)]))
    by_cases hc9_4 : (122 : Int32) < p0
    · skip
      refine own_of (fun _ k => XS.icmpNo X0.here hx rfl (hb hby d1_9) rfl (tlt hc9_4).2.2.2 k) ?_
      show own_Out p e below _ (s₁.setTop (mkF m 12 #[.val (.int p0)] []))
      refine own_of (fun _ k => XS.iloadN X0.here hx rfl (hb hby d1_12) rfl k) ?_
      show own_Out p e below _ (s₁.setTop (mkF m 13 #[.val (.int p0)] [(.int p0)]))
      refine own_of (fun _ k => XS.bipush X0.here hx rfl (hb hby d1_13) k) ?_
      show own_Out p e below _ (s₁.setTop (mkF m 15 #[.val (.int p0)] [(.int (48 : Int32)), (.int p0)]))
      refine own_of (fun _ k => XS.icmpNo X0.here hx rfl (hb hby d1_15) rfl (flt (own_T2 (own_L2 hc9_4) (by decide) : ¬ (p0 < (48 : Int32)))).1 k) ?_
      show own_Out p e below _ (s₁.setTop (mkF m 18 #[.val (.int p0)] []))
      refine own_of (fun _ k => XS.iloadN X0.here hx rfl (hb hby d1_18) rfl k) ?_
      show own_Out p e below _ (s₁.setTop (mkF m 19 #[.val (.int p0)] [(.int p0)]))
      refine own_of (fun _ k => XS.bipush X0.here hx rfl (hb hby d1_19) k) ?_
      show own_Out p e below _ (s₁.setTop (mkF m 21 #[.val (.int p0)] [(.int (57 : Int32)), (.int p0)]))
      refine own_of (fun _ k => XS.icmpYes X0.here hx rfl (pc0 := 21) (pc' := 28) rfl (hb hby d1_21) rfl (tlt (own_T3 (own_L2 hc9_4) (by decide) : (57 : Int32) < p0)).2.2.1 (by decide) (by decide) k) ?_
      show own_Out p e below _ (s₁.setTop (mkF m 28 #[.val (.int p0)] []))
      refine own_of (fun _ k => XS.iconst X0.here hx rfl (hb hby d1_28) k) ?_
      show own_Out p e below _ (s₁.setTop (mkF m 29 #[.val (.int p0)] [(.int (0 : Int32))]))
      exact own_outN X0 hx hlk (t := .boolean) hret (by simp) (hb hby d1_29) (z' := (0 : Int32)) rfl (Q := Q1 Z p0 h0 n0) ⟨by simp only [f1, if_neg hc3_1, if_pos hc9_4], N0, e0⟩ (by decide) (by decide)
    · skip
      refine own_of (fun _ k => XS.icmpYes X0.here hx rfl (pc0 := 9) (pc' := 24) rfl (hb hby d1_9) rfl (flt hc9_4).2.2.2 (by decide) (by decide) k) ?_
      show own_Out p e below _ (s₁.setTop (mkF m 24 #[.val (.int p0)] []))
      refine own_of (fun _ k => XS.iconst X0.here hx rfl (hb hby d1_24) k) ?_
      show own_Out p e below _ (s₁.setTop (mkF m 25 #[.val (.int p0)] [(.int (1 : Int32))]))
      refine own_of (fun _ k => XS.goto X0.here hx rfl (pc0 := 25) (pc' := 29) rfl (hb hby d1_25) (by decide) (by decide) k) ?_
      show own_Out p e below _ (s₁.setTop (mkF m 29 #[.val (.int p0)] [(.int (1 : Int32))]))
      exact own_outN X0 hx hlk (t := .boolean) hret (by simp) (hb hby d1_29) (z' := (1 : Int32)) rfl (Q := Q1 Z p0 h0 n0) ⟨by simp only [f1, if_neg hc3_1, if_neg hc9_4], N0, e0⟩ (by decide) (by decide)
theorem pd_0 : parseMethodDescriptor "(C)Z" = some ⟨[.char], some .boolean⟩ := by decide +kernel
theorem d14_0 : decode prog_115_method_3_code 0 = .ok (.iload_n 0, 1) := by decide +kernel
theorem d14_1 : decode prog_115_method_3_code 1 = .ok (.invokestatic 7, 3) := by decide +kernel
theorem d14_4 : decode prog_115_method_3_code 4 = .ok (.ifCond .ne 12, 3) := by decide +kernel
theorem d14_16 : decode prog_115_method_3_code 16 = .ok (.iconst 1, 1) := by decide +kernel
theorem d14_17 : decode prog_115_method_3_code 17 = .ok (.goto 4, 3) := by decide +kernel
theorem d14_21 : decode prog_115_method_3_code 21 = .ok (.ireturn, 1) := by decide +kernel
theorem ef_14 (m : MethodId) (x0 : Int32) : entryFrame m #[(.int x0)] 1 = mkF m 0 #[.val (.int x0)] [] := by first | (simp [entryFrame, mkF, argsToLocals, Value.category]; done) | rfl
def Q14 (Z : State) (p0 : Int32) (h0 : Heap) (n0 : Nat) (v : Option Value) (h : Heap) (L : List Loc) : Prop := v = some (.int (1 : Int32)) ∧ Fr n0 L ∧ h = h0
set_option maxRecDepth 65536 in
set_option maxHeartbeats 40000000 in
theorem rm14 (l : Launch) (Z : State) (a0 : Array Value) (hw : ∀ d ∈ tables_1, d.before a0 Z = true) (ws : List Jvm.Cond) (p0 : Int32) (h0 : Heap) (n0 : Nat) (Z0 : n0 ≤ h0.size) (hs : ¬ ((f1 p0) = (0 : Int32))) :
    MetFree l (⟨"com/example/ringd/ringd/core/Tags", "isPart", "(C)Z"⟩ : MethodName) (head1 (Jvm.Cond.code (⟨"com/example/ringd/ringd/core/Tags", "isPart", "(C)Z"⟩ : MethodName) prog_115_method_3_code 1 (some .boolean) :: ws) ({ frames := 1, cells := 0, slots := 0, locals := 12 } : Room)) (fun a U => a = #[(.int p0)] ∧ Z.Warmed39 U.vm ∧ U.heap = h0) (fun _ _ _ _ _ => True) (fun _ U o U' => ∃ v L, o = .returned v ∧ Q14 Z p0 h0 n0 v U'.heap L ∧ FrameEnd U o U' L ({ frames := 1, cells := 0, slots := 0, locals := 12 } : Room).cells ({ frames := 1, cells := 0, slots := 0, locals := 12 } : Room).slots) := by
  refine MetFree.of_bodySF (plainFor_of_name pn_0) hisR ?_
  intro p e s m args below meth c s₁ Bd hml0 hP hK
  obtain ⟨rfl, hZ, hh⟩ := hP
  have hx := Bd.exec
  have hby := Bd.bytes
  have hml : c.maxLocals = 1 := hml0
  have hown : s.vm.findClass "com/example/ringd/ringd/core/Tags" = some m.cls := findClass_of_methodNamed Bd.named
  have hnm := (name_of_methodNamed Bd.named Bd.method).1
  have X0 : Stand p l e ({ frames := 1, cells := 0, slots := 0, locals := 12 } : Room) s m #[(.int p0)] below meth c s₁ [] 0 0 := Stand.of_body Bd
  have e0 : s₁.heap = h0 := by rw [← hh, Bd.state]; rfl
  have N0 := Fr.nil n0
  have hret := Bd.returns
  have hlk := BodyLoose.notSynchronized Bd
  show own_Out p e below (fun o U' => ∃ v L, o = .returned v ∧ Q14 Z p0 h0 n0 v U'.heap L ∧ FrameEnd s o U' L ({ frames := 1, cells := 0, slots := 0, locals := 12 } : Room).cells ({ frames := 1, cells := 0, slots := 0, locals := 12 } : Room).slots) (s₁.setTop (entryFrame m #[(.int p0)] 1))
  refine own_of (fun t k => castTop (ef_14 m p0) k) ?_
  show own_Out p e below _ (s₁.setTop (mkF m 0 #[.val (.int p0)] []))
  refine own_of (fun _ k => XS.iloadN X0.here hx rfl (hb hby d14_0) rfl k) ?_
  show own_Out p e below _ (s₁.setTop (mkF m 1 #[.val (.int p0)] [(.int p0)]))
  obtain ⟨_, _, ⟨T1, L1, k1, n1⟩, -, X1, ⟨Lc1, hQ1, l1, y1, z1⟩, st1⟩ := Jvm.LawKit.callS X0 hx (y := (⟨"com/example/ringd/ringd/core/Tags", "isStart", "(C)Z"⟩ : MethodName)) hown (mvT hZ (hw _ (List.mem_of_getElem? (i := 60) rfl))) (mvT hZ (hw _ (List.mem_of_getElem? (i := 2) rfl))) (mvT hZ (hw _ (List.mem_of_getElem? (i := 3) rfl))) (mvT hZ (hw _ (List.mem_of_getElem? (i := 4) rfl))) (by decide) (backOf (W := 0) (rm1 l Z a0 hw [] p0 h0 n0 Z0 ) hZ (hw _ (List.mem_of_getElem? (i := 4) rfl)) (hw _ (List.mem_of_getElem? (i := 3) rfl)) (by decide) (by decide)) (g := (mkF m 1 #[.val (.int p0)] [(.int p0)])) rfl (by rw [hml]; rfl) (argsL := [(.int p0)]) (rest := []) (lenOf pd_0 rfl) rfl (by show 2 * 0 + _ ≤ _; exact Nat.le_of_eq rfl) (hb hby d14_1) (fun _ _ => ⟨rfl, e0, (by decide : 0 + 0 ≤ _), (by decide : 0 + 0 ≤ _)⟩)
  dsimp only [Pt.U, Pt.locs, Pt.cells, Pt.slots] at X1 l1 y1 z1 st1 hQ1
  subst l1 y1 z1
  obtain ⟨rfl, N1q, hh1⟩ := hQ1
  have N1 := Fr.app N0 N1q
  refine own_of st1 ?_
  show own_Out p e below _ (T1.setTop (mkF m 4 #[.val (.int p0)] [(.int (f1 p0))]))
  refine own_of (fun _ k => XS.ifYes X1.here hx rfl (pc0 := 4) (pc' := 16) rfl (hb hby d14_4) rfl ((if0 _ _).trans (feq hs).2) (by decide) (by decide) k) ?_
  show own_Out p e below _ (T1.setTop (mkF m 16 #[.val (.int p0)] []))
  refine own_of (fun _ k => XS.iconst X1.here hx rfl (hb hby d14_16) k) ?_
  show own_Out p e below _ (T1.setTop (mkF m 17 #[.val (.int p0)] [(.int (1 : Int32))]))
  refine own_of (fun _ k => XS.goto X1.here hx rfl (pc0 := 17) (pc' := 21) rfl (hb hby d14_17) (by decide) (by decide) k) ?_
  show own_Out p e below _ (T1.setTop (mkF m 21 #[.val (.int p0)] [(.int (1 : Int32))]))
  exact own_outN X1 hx hlk (t := .boolean) hret (by simp) (hb hby d14_21) (z' := (1 : Int32)) rfl (Q := Q14 Z p0 h0 n0) ⟨rfl, N1, hh1⟩ (by decide) (by decide)
theorem d3_0 : decode jdk_43_method_3_code 0 = .ok (.iload_n 0, 1) := by decide +kernel
theorem d3_1 : decode jdk_43_method_3_code 1 = .ok (.sipush 255, 3) := by decide +kernel
theorem d3_4 : decode jdk_43_method_3_code 4 = .ok (.if_icmp .gt 7, 3) := by decide +kernel
theorem d3_7 : decode jdk_43_method_3_code 7 = .ok (.iconst 1, 1) := by decide +kernel
theorem d3_8 : decode jdk_43_method_3_code 8 = .ok (.goto 4, 3) := by decide +kernel
theorem d3_12 : decode jdk_43_method_3_code 12 = .ok (.ireturn, 1) := by decide +kernel
theorem pn_1 : plainName "java/lang/StringLatin1" = true := by first | (simp [plainName, overriddenIn]; done) | decide +kernel
theorem ef_3l (m : MethodId) (x0 : Int32) : entryFrame m #[(.int x0)] 1 = mkF m 0 #[.val (.int x0)] [] := by first | (simp [entryFrame, mkF, argsToLocals, Value.category]; done) | rfl
def Q3l (Z : State) (p0 : Int32) (h0 : Heap) (n0 : Nat) (v : Option Value) (h : Heap) (L : List Loc) : Prop := v = some (.int (1 : Int32)) ∧ Fr n0 L ∧ h = h0
set_option maxRecDepth 65536 in
set_option maxHeartbeats 40000000 in
theorem rm3l (l : Launch) (Z : State) (a0 : Array Value) (hw : ∀ d ∈ tables_1, d.before a0 Z = true) (ws : List Jvm.Cond) (p0 : Int32) (h0 : Heap) (n0 : Nat) (Z0 : n0 ≤ h0.size) (hp : ¬ ((255 : Int32) < p0)) :
    MetFree l (⟨"java/lang/StringLatin1", "canEncode", "(C)Z"⟩ : MethodName) (head1 (Jvm.Cond.code (⟨"java/lang/StringLatin1", "canEncode", "(C)Z"⟩ : MethodName) jdk_43_method_3_code 1 (some .boolean) :: ws) ({ frames := 0, cells := 0, slots := 0, locals := 0 } : Room)) (fun a U => a = #[(.int p0)] ∧ Z.Warmed39 U.vm ∧ U.heap = h0) (fun _ _ _ _ _ => True) (fun _ U o U' => ∃ v L, o = .returned v ∧ Q3l Z p0 h0 n0 v U'.heap L ∧ FrameEnd U o U' L ({ frames := 0, cells := 0, slots := 0, locals := 0 } : Room).cells ({ frames := 0, cells := 0, slots := 0, locals := 0 } : Room).slots) := by
  refine MetFree.of_bodySF (plainFor_of_name pn_1) hisR ?_
  intro p e s m args below meth c s₁ Bd hml0 hP hK
  obtain ⟨rfl, hZ, hh⟩ := hP
  have hx := Bd.exec
  have hby := Bd.bytes
  have hml : c.maxLocals = 1 := hml0
  have hown : s.vm.findClass "java/lang/StringLatin1" = some m.cls := findClass_of_methodNamed Bd.named
  have hnm := (name_of_methodNamed Bd.named Bd.method).1
  have X0 : Stand p l e ({ frames := 0, cells := 0, slots := 0, locals := 0 } : Room) s m #[(.int p0)] below meth c s₁ [] 0 0 := Stand.of_body Bd
  have e0 : s₁.heap = h0 := by rw [← hh, Bd.state]; rfl
  have N0 := Fr.nil n0
  have hret := Bd.returns
  have hlk := BodyLoose.notSynchronized Bd
  show own_Out p e below (fun o U' => ∃ v L, o = .returned v ∧ Q3l Z p0 h0 n0 v U'.heap L ∧ FrameEnd s o U' L ({ frames := 0, cells := 0, slots := 0, locals := 0 } : Room).cells ({ frames := 0, cells := 0, slots := 0, locals := 0 } : Room).slots) (s₁.setTop (entryFrame m #[(.int p0)] 1))
  refine own_of (fun t k => castTop (ef_3l m p0) k) ?_
  show own_Out p e below _ (s₁.setTop (mkF m 0 #[.val (.int p0)] []))
  refine own_of (fun _ k => XS.iloadN X0.here hx rfl (hb hby d3_0) rfl k) ?_
  show own_Out p e below _ (s₁.setTop (mkF m 1 #[.val (.int p0)] [(.int p0)]))
  refine own_of (fun _ k => XS.sipush X0.here hx rfl (hb hby d3_1) k) ?_
  show own_Out p e below _ (s₁.setTop (mkF m 4 #[.val (.int p0)] [(.int (255 : Int32)), (.int p0)]))
  refine own_of (fun _ k => XS.icmpNo X0.here hx rfl (hb hby d3_4) rfl (flt hp).2.2.1 k) ?_
  show own_Out p e below _ (s₁.setTop (mkF m 7 #[.val (.int p0)] []))
  refine own_of (fun _ k => XS.iconst X0.here hx rfl (hb hby d3_7) k) ?_
  show own_Out p e below _ (s₁.setTop (mkF m 8 #[.val (.int p0)] [(.int (1 : Int32))]))
  refine own_of (fun _ k => XS.goto X0.here hx rfl (pc0 := 8) (pc' := 12) rfl (hb hby d3_8) (by decide) (by decide) k) ?_
  show own_Out p e below _ (s₁.setTop (mkF m 12 #[.val (.int p0)] [(.int (1 : Int32))]))
  exact own_outN X0 hx hlk (t := .boolean) hret (by simp) (hb hby d3_12) (z' := (1 : Int32)) rfl (Q := Q3l Z p0 h0 n0) ⟨rfl, N0, e0⟩ (by decide) (by decide)
theorem d4_0 : decode jdk_43_method_46_code 0 = .ok (.iconst 1, 1) := by decide +kernel
theorem d4_1 : decode jdk_43_method_46_code 1 = .ok (.newarray .byte, 2) := by decide +kernel
theorem d4_3 : decode jdk_43_method_46_code 3 = .ok (.dup, 1) := by decide +kernel
theorem d4_4 : decode jdk_43_method_46_code 4 = .ok (.iconst 0, 1) := by decide +kernel
theorem d4_5 : decode jdk_43_method_46_code 5 = .ok (.iload_n 0, 1) := by decide +kernel
theorem d4_6 : decode jdk_43_method_46_code 6 = .ok (.i2b, 1) := by decide +kernel
theorem d4_7 : decode jdk_43_method_46_code 7 = .ok (.bastore, 1) := by decide +kernel
theorem d4_8 : decode jdk_43_method_46_code 8 = .ok (.areturn, 1) := by decide +kernel
theorem ef_4 (m : MethodId) (x0 : Int32) : entryFrame m #[(.int x0)] 1 = mkF m 0 #[.val (.int x0)] [] := by first | (simp [entryFrame, mkF, argsToLocals, Value.category]; done) | rfl
def Q4 (Z : State) (p0 : Int32) (h0 : Heap) (n0 : Nat) (v : Option Value) (h : Heap) (L : List Loc) : Prop := ∃ (b : Addr) (k : ClassId), v = some (.ref b) ∧ Fr n0 L ∧ Keep h0 h [] ∧ Arv Z h b k .byte (1 : Int32) [.int ((p0.toInt8.toInt32).toInt8.toInt32)] (.int (0 : Int32)) ∧ n0 ≤ b ∧ h0.size ≤ b
set_option maxRecDepth 65536 in
set_option maxHeartbeats 40000000 in
theorem rm4 (l : Launch) (Z : State) (a0 : Array Value) (hw : ∀ d ∈ tables_1, d.before a0 Z = true) (ws : List Jvm.Cond) (p0 : Int32) (h0 : Heap) (n0 : Nat) (Z0 : n0 ≤ h0.size) :
    MetFree l (⟨"java/lang/StringLatin1", "toBytes", "(C)[B"⟩ : MethodName) (head1 (Jvm.Cond.code (⟨"java/lang/StringLatin1", "toBytes", "(C)[B"⟩ : MethodName) jdk_43_method_46_code 1 (some (.array .byte)) :: ws) ({ frames := 0, cells := 1, slots := 1, locals := 0 } : Room)) (fun a U => a = #[(.int p0)] ∧ Z.Warmed39 U.vm ∧ U.heap = h0) (fun _ _ _ _ _ => True) (fun _ U o U' => ∃ v L, o = .returned v ∧ Q4 Z p0 h0 n0 v U'.heap L ∧ FrameEnd U o U' L ({ frames := 0, cells := 1, slots := 1, locals := 0 } : Room).cells ({ frames := 0, cells := 1, slots := 1, locals := 0 } : Room).slots) := by
  refine MetFree.of_bodySF (plainFor_of_name pn_1) hisR ?_
  intro p e s m args below meth c s₁ Bd hml0 hP hK
  obtain ⟨rfl, hZ, hh⟩ := hP
  have hx := Bd.exec
  have hby := Bd.bytes
  have hml : c.maxLocals = 1 := hml0
  have hown : s.vm.findClass "java/lang/StringLatin1" = some m.cls := findClass_of_methodNamed Bd.named
  have hnm := (name_of_methodNamed Bd.named Bd.method).1
  have X0 : Stand p l e ({ frames := 0, cells := 1, slots := 1, locals := 0 } : Room) s m #[(.int p0)] below meth c s₁ [] 0 0 := Stand.of_body Bd
  have e0 : s₁.heap = h0 := by rw [← hh, Bd.state]; rfl
  have N0 := Fr.nil n0
  have hret := Bd.returns
  have hlk := BodyLoose.notSynchronized Bd
  show own_Out p e below (fun o U' => ∃ v L, o = .returned v ∧ Q4 Z p0 h0 n0 v U'.heap L ∧ FrameEnd s o U' L ({ frames := 0, cells := 1, slots := 1, locals := 0 } : Room).cells ({ frames := 0, cells := 1, slots := 1, locals := 0 } : Room).slots) (s₁.setTop (entryFrame m #[(.int p0)] 1))
  refine own_of (fun t k => castTop (ef_4 m p0) k) ?_
  show own_Out p e below _ (s₁.setTop (mkF m 0 #[.val (.int p0)] []))
  refine own_of (fun _ k => XS.iconst X0.here hx rfl (hb hby d4_0) k) ?_
  show own_Out p e below _ (s₁.setTop (mkF m 1 #[.val (.int p0)] [(.int (1 : Int32))]))
  obtain ⟨T1, h1, k1, X1, e1, E1, A1, st1⟩ := newP X0 hx hZ (hw _ (List.mem_of_getElem? (i := 19) rfl)) e0 (g := (mkF m 1 #[.val (.int p0)] [(.int (1 : Int32))])) rfl (hb hby d4_1) rfl (by decide) (cap := 1) (by decide) (by decide) (by decide) (by decide)
  obtain ⟨b1, g1⟩ : ∃ z, z = h0.size := ⟨_, rfl⟩
  rw [← g1] at A1 st1
  have g_b1 : n0 ≤ b1 := Nat.le_trans Z0 (Nat.le_of_eq g1.symm)
  have sz_b1 : h0.size ≤ b1 := Nat.le_trans (Keep.refl h0 []).1 (Nat.le_of_eq g1.symm)
  have Zl1 : n0 ≤ h1.size := Nat.le_trans Z0 E1.1
  have Kp1 := (Keep.refl h0 []).ext E1
  have V_b1 : Arv Z h1 b1 k1 .byte (1 : Int32) [(.int (0 : Int32))] (.int (0 : Int32)) := (Arv.new A1 (by decide)).pad (pad_rep [] (.int (0 : Int32)) 1)
  refine own_of st1 ?_
  show own_Out p e below _ (T1.setTop (mkF m 3 #[.val (.int p0)] [(.ref b1)]))
  refine own_of (fun _ k => XS.dup X1.here hx rfl (hb hby d4_3) rfl rfl k) ?_
  show own_Out p e below _ (T1.setTop (mkF m 4 #[.val (.int p0)] [(.ref b1), (.ref b1)]))
  refine own_of (fun _ k => XS.iconst X1.here hx rfl (hb hby d4_4) k) ?_
  show own_Out p e below _ (T1.setTop (mkF m 5 #[.val (.int p0)] [(.int (0 : Int32)), (.ref b1), (.ref b1)]))
  refine own_of (fun _ k => XS.iloadN X1.here hx rfl (hb hby d4_5) rfl k) ?_
  show own_Out p e below _ (T1.setTop (mkF m 6 #[.val (.int p0)] [(.int p0), (.int (0 : Int32)), (.ref b1), (.ref b1)]))
  refine own_of (fun _ k => XS.i2b X1.here hx rfl (hb hby d4_6) rfl k) ?_
  show own_Out p e below _ (T1.setTop (mkF m 7 #[.val (.int p0)] [(.int (p0.toInt8.toInt32)), (.int (0 : Int32)), (.ref b1), (.ref b1)]))
  obtain ⟨cl2, Ar2, q2, S2, N2', H2, G2⟩ := id V_b1
  have hin3 : ¬ ((0 : Int32) < 0 ∨ cl2.slots.size ≤ ((0 : Int32)).toNatClampNeg) := inb_of S2 ⟨by decide, by decide⟩
  obtain ⟨T3, h3, X3, e3, W3, st3⟩ := stB X1 hx hZ e1 Ar2 (j := (0 : Int32)) hin3 (g := (mkF m 7 #[.val (.int p0)] [(.int (p0.toInt8.toInt32)), (.int (0 : Int32)), (.ref b1), (.ref b1)])) rfl rfl (hb hby d4_7)
  have V3 := Arv.set Ar2 q2 S2 N2' H2 G2 (fits_nar_byte _) W3 0 rfl (Nat.le_of_ble_eq_true rfl)
  have N3 := Fr.snoc X3 N0 g_b1
  have Zl3 : n0 ≤ h3.size := Nat.le_trans Zl1 (Keep.of_wr W3).1
  have Kp3 := Kp1.wr W3 (Or.inr sz_b1)
  refine own_of st3 ?_
  show own_Out p e below _ (T3.setTop (mkF m 8 #[.val (.int p0)] [(.ref b1)]))
  exact own_outR X3 hx hlk hret rfl rfl rfl (hb hby d4_8) (Q := Q4 Z p0 h0 n0) (by rw [e3]; exact ⟨b1, k1, rfl, N3, Kp3, V3, g_b1, sz_b1⟩) (by decide) (by decide)
theorem d5_0 : decode jdk_42_method_151_code 0 = .ok (.aload_n 0, 1) := by decide +kernel
theorem d5_1 : decode jdk_42_method_151_code 1 = .ok (.invokespecial 1, 3) := by decide +kernel
theorem d5_4 : decode jdk_42_method_151_code 4 = .ok (.aload_n 0, 1) := by decide +kernel
theorem d5_5 : decode jdk_42_method_151_code 5 = .ok (.aload_n 1, 1) := by decide +kernel
theorem d5_6 : decode jdk_42_method_151_code 6 = .ok (.putfield 9, 3) := by decide +kernel
theorem d5_9 : decode jdk_42_method_151_code 9 = .ok (.aload_n 0, 1) := by decide +kernel
theorem d5_10 : decode jdk_42_method_151_code 10 = .ok (.iload_n 2, 1) := by decide +kernel
theorem d5_11 : decode jdk_42_method_151_code 11 = .ok (.putfield 15, 3) := by decide +kernel
theorem d5_14 : decode jdk_42_method_151_code 14 = .ok (.return_, 1) := by decide +kernel
theorem pn_2 : plainName "java/lang/String" = true := by first | (simp [plainName, overriddenIn]; done) | decide +kernel
theorem ef_5c0 (m : MethodId) (x0 : Addr) (x1 : Addr) : entryFrame m #[(.ref x0), (.ref x1), (.int (0 : Int32))] 3 = mkF m 0 #[.val (.ref x0), .val (.ref x1), .val (.int (0 : Int32))] [] := by first | (simp [entryFrame, mkF, argsToLocals, Value.category]; done) | rfl
def Q5c0 (Z : State) (o0 : Addr) (o1 : Addr) (h0 : Heap) (n0 : Nat) (v : Option Value) (h : Heap) (L : List Loc) : Prop := v = none ∧ Fr n0 L ∧ Keep h0 h [o0] ∧ Exa Z h o0 "java/lang/String" ∧ Fld Z h o0 "java/lang/String" "value" "[B" (.ref o1) ∧ Fld Z h o0 "java/lang/String" "coder" "B" (.int (0 : Int32))
set_option maxRecDepth 65536 in
set_option maxHeartbeats 40000000 in
theorem rm5c0 (l : Launch) (Z : State) (a0 : Array Value) (hw : ∀ d ∈ tables_1, d.before a0 Z = true) (ws : List Jvm.Cond) (o0 : Addr) (o1 : Addr) (h0 : Heap) (n0 : Nat) (Z0 : n0 ≤ h0.size) (E : Exa Z h0 o0 "java/lang/String") (F_value : Fld Z h0 o0 "java/lang/String" "value" "[B" .null) (F_coder : Fld Z h0 o0 "java/lang/String" "coder" "B" (.int (0 : Int32))) (g_o0 : n0 ≤ o0) :
    MetFree l (⟨"java/lang/String", "<init>", "([BB)V"⟩ : MethodName) (head1 (Jvm.Cond.code (⟨"java/lang/String", "<init>", "([BB)V"⟩ : MethodName) jdk_42_method_151_code 3 none :: ws) ({ frames := 1, cells := 0, slots := 0, locals := 12 } : Room)) (fun a U => a = #[(.ref o0), (.ref o1), (.int (0 : Int32))] ∧ Z.Warmed39 U.vm ∧ U.heap = h0) (fun _ _ _ _ _ => True) (fun _ U o U' => ∃ v L, o = .returned v ∧ Q5c0 Z o0 o1 h0 n0 v U'.heap L ∧ FrameEnd U o U' L ({ frames := 1, cells := 0, slots := 0, locals := 12 } : Room).cells ({ frames := 1, cells := 0, slots := 0, locals := 12 } : Room).slots) := by
  refine MetFree.of_bodySF (plainFor_of_name pn_2) hisR ?_
  intro p e s m args below meth c s₁ Bd hml0 hP hK
  obtain ⟨rfl, hZ, hh⟩ := hP
  have hx := Bd.exec
  have hby := Bd.bytes
  have hml : c.maxLocals = 3 := hml0
  have hown : s.vm.findClass "java/lang/String" = some m.cls := findClass_of_methodNamed Bd.named
  have hnm := (name_of_methodNamed Bd.named Bd.method).1
  have X0 : Stand p l e ({ frames := 1, cells := 0, slots := 0, locals := 12 } : Room) s m #[(.ref o0), (.ref o1), (.int (0 : Int32))] below meth c s₁ [] 0 0 := Stand.of_body Bd
  have e0 : s₁.heap = h0 := by rw [← hh, Bd.state]; rfl
  have N0 := Fr.nil n0
  have hret := Bd.returns
  have hlk := BodyLoose.notSynchronized Bd
  show own_Out p e below (fun o U' => ∃ v L, o = .returned v ∧ Q5c0 Z o0 o1 h0 n0 v U'.heap L ∧ FrameEnd s o U' L ({ frames := 1, cells := 0, slots := 0, locals := 12 } : Room).cells ({ frames := 1, cells := 0, slots := 0, locals := 12 } : Room).slots) (s₁.setTop (entryFrame m #[(.ref o0), (.ref o1), (.int (0 : Int32))] 3))
  refine own_of (fun t k => castTop (ef_5c0 m o0 o1) k) ?_
  show own_Out p e below _ (s₁.setTop (mkF m 0 #[.val (.ref o0), .val (.ref o1), .val (.int (0 : Int32))] []))
  refine own_of (fun _ k => XS.aloadN X0.here hx rfl (hb hby d5_0) rfl rfl k) ?_
  show own_Out p e below _ (s₁.setTop (mkF m 1 #[.val (.ref o0), .val (.ref o1), .val (.int (0 : Int32))] [(.ref o0)]))
  obtain ⟨T1, X1, e1, st1⟩ := initO X0 hx hZ hown (hw _ (List.mem_of_getElem? (i := 24) rfl)) (hw _ (List.mem_of_getElem? (i := 25) rfl)) (hw _ (List.mem_of_getElem? (i := 26) rfl)) e0 (g := (mkF m 1 #[.val (.ref o0), .val (.ref o1), .val (.int (0 : Int32))] [(.ref o0)])) rfl (by rw [hml]; rfl) rfl (hb hby d5_1) (by decide) (W := 0) (by show 2 * 0 + _ ≤ _; exact Nat.le_of_eq rfl) (by decide)
  refine own_of st1 ?_
  show own_Out p e below _ (T1.setTop (mkF m 4 #[.val (.ref o0), .val (.ref o1), .val (.int (0 : Int32))] []))
  refine own_of (fun _ k => XS.aloadN X1.here hx rfl (hb hby d5_4) rfl rfl k) ?_
  show own_Out p e below _ (T1.setTop (mkF m 5 #[.val (.ref o0), .val (.ref o1), .val (.int (0 : Int32))] [(.ref o0)]))
  refine own_of (fun _ k => XS.aloadN X1.here hx rfl (hb hby d5_5) rfl rfl k) ?_
  show own_Out p e below _ (T1.setTop (mkF m 6 #[.val (.ref o0), .val (.ref o1), .val (.int (0 : Int32))] [(.ref o1), (.ref o0)]))
  obtain ⟨T2, h2, X2, e2, W2, st2⟩ := putF X1 hx hZ hown (host := "") (Or.inl (hw _ (List.mem_of_getElem? (i := 27) rfl))) Via.refl e1 F_value E (Or.inr ⟨(hw _ (List.mem_of_getElem? (i := 28) rfl)), rfl, hnm⟩) (hw _ (List.mem_of_getElem? (i := 15) rfl)) (ty := (.array .byte)) (by decide) rfl rfl (g := (mkF m 6 #[.val (.ref o0), .val (.ref o1), .val (.int (0 : Int32))] [(.ref o1), (.ref o0)])) rfl rfl (hb hby d5_6)
  have Fw2 := F_value.same W2
  have E_o0_2 := E.wr W2
  have F_o0_coder_2 := F_coder.other W2 (Or.inr (slot_ne (Or.inr (hw _ (List.mem_of_getElem? (i := 30) rfl))) (Or.inr (hw _ (List.mem_of_getElem? (i := 28) rfl))) (by decide) (t := .byte) (t' := (.array .byte)) (by decide) (by decide)))
  have N2 := Fr.snoc X2 N0 g_o0
  have Zl2 : n0 ≤ h2.size := Nat.le_trans Z0 (Keep.of_wr W2).1
  have Kp2 := (Keep.refl h0 [o0]).wr W2 (Or.inl (List.mem_of_getElem? (i := 0) rfl))
  refine own_of st2 ?_
  show own_Out p e below _ (T2.setTop (mkF m 9 #[.val (.ref o0), .val (.ref o1), .val (.int (0 : Int32))] []))
  refine own_of (fun _ k => XS.aloadN X2.here hx rfl (hb hby d5_9) rfl rfl k) ?_
  show own_Out p e below _ (T2.setTop (mkF m 10 #[.val (.ref o0), .val (.ref o1), .val (.int (0 : Int32))] [(.ref o0)]))
  refine own_of (fun _ k => XS.iloadN X2.here hx rfl (hb hby d5_10) rfl k) ?_
  show own_Out p e below _ (T2.setTop (mkF m 11 #[.val (.ref o0), .val (.ref o1), .val (.int (0 : Int32))] [(.int (0 : Int32)), (.ref o0)]))
  obtain ⟨T3, h3, X3, e3, W3, st3⟩ := putFN X2 hx hZ hown (hw _ (List.mem_of_getElem? (i := 29) rfl)) Via.refl e2 F_o0_coder_2 E_o0_2 (Or.inr ⟨(hw _ (List.mem_of_getElem? (i := 30) rfl)), rfl, hnm⟩) (hw _ (List.mem_of_getElem? (i := 15) rfl)) (ty := .byte) (v' := (.int (0 : Int32))) (by decide) rfl rfl (g := (mkF m 11 #[.val (.ref o0), .val (.ref o1), .val (.int (0 : Int32))] [(.int (0 : Int32)), (.ref o0)])) rfl rfl (hb hby d5_11)
  have Fw3 := F_o0_coder_2.same W3
  have E_o0_3 := E_o0_2.wr W3
  have F_o0_value_3 := Fw2.other W3 (Or.inr (slot_ne (Or.inr (hw _ (List.mem_of_getElem? (i := 28) rfl))) (Or.inr (hw _ (List.mem_of_getElem? (i := 30) rfl))) (by decide) (t := (.array .byte)) (t' := .byte) (by decide) (by decide)))
  have N3 := Fr.snoc X3 N2 g_o0
  have Zl3 : n0 ≤ h3.size := Nat.le_trans Zl2 (Keep.of_wr W3).1
  have Kp3 := Kp2.wr W3 (Or.inl (List.mem_of_getElem? (i := 0) rfl))
  refine own_of st3 ?_
  show own_Out p e below _ (T3.setTop (mkF m 14 #[.val (.ref o0), .val (.ref o1), .val (.int (0 : Int32))] []))
  exact own_outV X3 hx hlk hret (hb hby d5_14) (Q := Q5c0 Z o0 o1 h0 n0) (by rw [e3]; exact ⟨rfl, N3, Kp3, E_o0_3, F_o0_value_3, Fw3⟩) (by decide) (by decide)
theorem pd_1 : parseMethodDescriptor "(C)[B" = some ⟨[.char], some (.array .byte)⟩ := by decide +kernel
theorem pd_2 : parseMethodDescriptor "([BB)V" = some ⟨[(.array .byte), .byte], none⟩ := by decide +kernel
theorem d2_0 : decode jdk_42_method_139_code 0 = .ok (.getstatic 38, 3) := by decide +kernel
theorem d2_3 : decode jdk_42_method_139_code 3 = .ok (.ifCond .eq 23, 3) := by decide +kernel
theorem d2_6 : decode jdk_42_method_139_code 6 = .ok (.iload_n 0, 1) := by decide +kernel
theorem d2_7 : decode jdk_42_method_139_code 7 = .ok (.invokestatic 1015, 3) := by decide +kernel
theorem d2_10 : decode jdk_42_method_139_code 10 = .ok (.ifCond .eq 16, 3) := by decide +kernel
theorem d2_13 : decode jdk_42_method_139_code 13 = .ok (.new 10, 3) := by decide +kernel
theorem d2_16 : decode jdk_42_method_139_code 16 = .ok (.dup, 1) := by decide +kernel
theorem d2_17 : decode jdk_42_method_139_code 17 = .ok (.iload_n 0, 1) := by decide +kernel
theorem d2_18 : decode jdk_42_method_139_code 18 = .ok (.invokestatic 1018, 3) := by decide +kernel
theorem d2_21 : decode jdk_42_method_139_code 21 = .ok (.iconst 0, 1) := by decide +kernel
theorem d2_22 : decode jdk_42_method_139_code 22 = .ok (.invokespecial 209, 3) := by decide +kernel
theorem d2_25 : decode jdk_42_method_139_code 25 = .ok (.areturn, 1) := by decide +kernel
theorem ef_2l (m : MethodId) (x0 : Int32) : entryFrame m #[(.int x0)] 1 = mkF m 0 #[.val (.int x0)] [] := by first | (simp [entryFrame, mkF, argsToLocals, Value.category]; done) | rfl
def Q2l (Z : State) (p0 : Int32) (cs : Int32) (h0 : Heap) (n0 : Nat) (v : Option Value) (h : Heap) (L : List Loc) : Prop := ∃ (r : Addr) (b : Addr) (k : ClassId), v = some (.ref r) ∧ Fr n0 L ∧ Keep h0 h [] ∧ Exa Z h r "java/lang/String" ∧ Fld Z h r "java/lang/String" "value" "[B" (.ref b) ∧ Fld Z h r "java/lang/String" "coder" "B" (.int (0 : Int32)) ∧ Arv Z h b k .byte (1 : Int32) [.int ((p0.toInt8.toInt32).toInt8.toInt32)] (.int (0 : Int32)) ∧ n0 ≤ r ∧ h0.size ≤ r ∧ n0 ≤ b ∧ h0.size ≤ b ∧ r ≠ b
set_option maxRecDepth 65536 in
set_option maxHeartbeats 40000000 in
theorem rm2l (l : Launch) (Z : State) (a0 : Array Value) (hw : ∀ d ∈ tables_1, d.before a0 Z = true) (ws : List Jvm.Cond) (p0 : Int32) (cs : Int32) (h0 : Heap) (n0 : Nat) (Z0 : n0 ≤ h0.size) (S_cs : Sta Z h0 "java/lang/String" "COMPACT_STRINGS" "Z" (.int cs)) (hcs : ¬ (cs = (0 : Int32))) (hp : ¬ ((255 : Int32) < p0)) :
    MetFree l (⟨"java/lang/String", "valueOf", "(C)Ljava/lang/String;"⟩ : MethodName) (head1 (Jvm.Cond.code (⟨"java/lang/String", "valueOf", "(C)Ljava/lang/String;"⟩ : MethodName) jdk_42_method_139_code 1 (some (.object "java/lang/String")) :: ws) ({ frames := 2, cells := 2, slots := 5, locals := 27 } : Room)) (fun a U => a = #[(.int p0)] ∧ Z.Warmed39 U.vm ∧ U.heap = h0) (fun _ _ _ _ _ => True) (fun _ U o U' => ∃ v L, o = .returned v ∧ Q2l Z p0 cs h0 n0 v U'.heap L ∧ FrameEnd U o U' L ({ frames := 2, cells := 2, slots := 5, locals := 27 } : Room).cells ({ frames := 2, cells := 2, slots := 5, locals := 27 } : Room).slots) := by
  refine MetFree.of_bodySF (plainFor_of_name pn_2) hisR ?_
  intro p e s m args below meth c s₁ Bd hml0 hP hK
  obtain ⟨rfl, hZ, hh⟩ := hP
  have hx := Bd.exec
  have hby := Bd.bytes
  have hml : c.maxLocals = 1 := hml0
  have hown : s.vm.findClass "java/lang/String" = some m.cls := findClass_of_methodNamed Bd.named
  have hnm := (name_of_methodNamed Bd.named Bd.method).1
  have X0 : Stand p l e ({ frames := 2, cells := 2, slots := 5, locals := 27 } : Room) s m #[(.int p0)] below meth c s₁ [] 0 0 := Stand.of_body Bd
  have e0 : s₁.heap = h0 := by rw [← hh, Bd.state]; rfl
  have N0 := Fr.nil n0
  have hret := Bd.returns
  have hlk := BodyLoose.notSynchronized Bd
  show own_Out p e below (fun o U' => ∃ v L, o = .returned v ∧ Q2l Z p0 cs h0 n0 v U'.heap L ∧ FrameEnd s o U' L ({ frames := 2, cells := 2, slots := 5, locals := 27 } : Room).cells ({ frames := 2, cells := 2, slots := 5, locals := 27 } : Room).slots) (s₁.setTop (entryFrame m #[(.int p0)] 1))
  refine own_of (fun t k => castTop (ef_2l m p0) k) ?_
  show own_Out p e below _ (s₁.setTop (mkF m 0 #[.val (.int p0)] []))
  obtain ⟨T1, X1, e1, st1⟩ := getS2 X0 hx hZ hown (host := "") (Or.inl (hw _ (List.mem_of_getElem? (i := 9) rfl))) Via.refl e0 S_cs (g := (mkF m 0 #[.val (.int p0)] [])) rfl (hb hby d2_0)
  refine own_of st1 ?_
  show own_Out p e below _ (T1.setTop (mkF m 3 #[.val (.int p0)] [(.int cs)]))
  refine own_of (fun _ k => XS.ifNo X1.here hx rfl (hb hby d2_3) rfl ((if0 _ _).trans (feq hcs).1) k) ?_
  show own_Out p e below _ (T1.setTop (mkF m 6 #[.val (.int p0)] []))
  refine own_of (fun _ k => XS.iloadN X1.here hx rfl (hb hby d2_6) rfl k) ?_
  show own_Out p e below _ (T1.setTop (mkF m 7 #[.val (.int p0)] [(.int p0)]))
  obtain ⟨_, _, ⟨T2, L2, k2, n2⟩, -, X2, ⟨Lc2, hQ2, l2, y2, z2⟩, st2⟩ := Jvm.LawKit.callS X1 hx (y := (⟨"java/lang/StringLatin1", "canEncode", "(C)Z"⟩ : MethodName)) hown (mvT hZ (hw _ (List.mem_of_getElem? (i := 10) rfl))) (mvT hZ (hw _ (List.mem_of_getElem? (i := 11) rfl))) (mvT hZ (hw _ (List.mem_of_getElem? (i := 12) rfl))) (mvT hZ (hw _ (List.mem_of_getElem? (i := 13) rfl))) (by decide) (backOf (W := 0) (rm3l l Z a0 hw [] p0 h0 n0 Z0 hp) hZ (hw _ (List.mem_of_getElem? (i := 13) rfl)) (hw _ (List.mem_of_getElem? (i := 12) rfl)) (by decide) (by decide)) (g := (mkF m 7 #[.val (.int p0)] [(.int p0)])) rfl (by rw [hml]; rfl) (argsL := [(.int p0)]) (rest := []) (lenOf pd_0 rfl) rfl (by show 2 * 0 + _ ≤ _; exact Nat.le_of_eq rfl) (hb hby d2_7) (fun _ _ => ⟨rfl, e1, (by decide : 0 + 0 ≤ _), (by decide : 0 + 0 ≤ _)⟩)
  dsimp only [Pt.U, Pt.locs, Pt.cells, Pt.slots] at X2 l2 y2 z2 st2 hQ2
  subst l2 y2 z2
  obtain ⟨rfl, N2q, hh2⟩ := hQ2
  have N2 := Fr.app N0 N2q
  refine own_of st2 ?_
  show own_Out p e below _ (T2.setTop (mkF m 10 #[.val (.int p0)] [(.int (1 : Int32))]))
  refine own_of (fun _ k => XS.ifNo X2.here hx rfl (hb hby d2_10) rfl ((if0 _ _).trans (feq (by decide : ¬ ((1 : Int32) = (0 : Int32)))).1) k) ?_
  show own_Out p e below _ (T2.setTop (mkF m 13 #[.val (.int p0)] []))
  obtain ⟨T3, h3, X3, e3, E3, A3, D3, -, st3⟩ := newO X2 hx hZ hown (hw _ (List.mem_of_getElem? (i := 14) rfl)) (hw _ (List.mem_of_getElem? (i := 15) rfl)) (hw _ (List.mem_of_getElem? (i := 7) rfl)) hh2 (g := (mkF m 13 #[.val (.int p0)] [])) rfl (hb hby d2_13) (by decide) (by decide)
  obtain ⟨b3, g3⟩ : ∃ z, z = h0.size := ⟨_, rfl⟩
  rw [← g3] at A3 D3 st3
  have g_b3 : n0 ≤ b3 := Nat.le_trans Z0 (Nat.le_of_eq g3.symm)
  have sz_b3 : h0.size ≤ b3 := Nat.le_trans (Keep.refl h0 []).1 (Nat.le_of_eq g3.symm)
  have Zl3 : n0 ≤ h3.size := Nat.le_trans Z0 E3.1
  have Kp3 := (Keep.refl h0 []).ext E3
  have S_java_lang_String_COMPACT_STRINGS_3 := S_cs.ext E3
  have F_b3_value : Fld Z h3 b3 "java/lang/String" "value" "[B" .null := D3 (Or.inr (hw _ (List.mem_of_getElem? (i := 28) rfl))) (ty := (.array .byte)) (by decide)
  have F_b3_coder : Fld Z h3 b3 "java/lang/String" "coder" "B" (.int (0 : Int32)) := D3 (Or.inr (hw _ (List.mem_of_getElem? (i := 30) rfl))) (ty := .byte) (by decide)
  refine own_of st3 ?_
  show own_Out p e below _ (T3.setTop (mkF m 16 #[.val (.int p0)] [(.ref b3)]))
  refine own_of (fun _ k => XS.dup X3.here hx rfl (hb hby d2_16) rfl rfl k) ?_
  show own_Out p e below _ (T3.setTop (mkF m 17 #[.val (.int p0)] [(.ref b3), (.ref b3)]))
  refine own_of (fun _ k => XS.iloadN X3.here hx rfl (hb hby d2_17) rfl k) ?_
  show own_Out p e below _ (T3.setTop (mkF m 18 #[.val (.int p0)] [(.int p0), (.ref b3), (.ref b3)]))
  obtain ⟨_, _, ⟨T4, L4, k4, n4⟩, -, X4, ⟨Lc4, hQ4, l4, y4, z4⟩, st4⟩ := Jvm.LawKit.callS X3 hx (y := (⟨"java/lang/StringLatin1", "toBytes", "(C)[B"⟩ : MethodName)) hown (mvT hZ (hw _ (List.mem_of_getElem? (i := 16) rfl))) (mvT hZ (hw _ (List.mem_of_getElem? (i := 17) rfl))) (mvT hZ (hw _ (List.mem_of_getElem? (i := 12) rfl))) (mvT hZ (hw _ (List.mem_of_getElem? (i := 18) rfl))) (by decide) (backOf (W := 2) (rm4 l Z a0 hw [] p0 h3 n0 Zl3 ) hZ (hw _ (List.mem_of_getElem? (i := 18) rfl)) (hw _ (List.mem_of_getElem? (i := 12) rfl)) (by decide) (by decide)) (g := (mkF m 18 #[.val (.int p0)] [(.int p0), (.ref b3), (.ref b3)])) rfl (by rw [hml]; rfl) (argsL := [(.int p0)]) (rest := [(.ref b3), (.ref b3)]) (lenOf pd_1 rfl) rfl (by show 2 * 0 + _ ≤ _; exact Nat.le_of_eq rfl) (hb hby d2_18) (fun _ _ => ⟨rfl, e3, (by decide : 1 + 1 ≤ _), (by decide : 4 + 1 ≤ _)⟩)
  dsimp only [Pt.U, Pt.locs, Pt.cells, Pt.slots] at X4 l4 y4 z4 st4 hQ4
  subst l4 y4 z4
  obtain ⟨b4, k4, rfl, N4q, K4, V4, hgb_4, hsb_4⟩ := hQ4
  have N4 := Fr.app N2 N4q
  have ne_b3_b4 : b3 ≠ b4 := Nat.ne_of_lt (Nat.lt_of_lt_of_le A3.lt hsb_4)
  have sz_b4 : h0.size ≤ b4 := Nat.le_trans Kp3.1 hsb_4
  have S_java_lang_String_COMPACT_STRINGS_K4 := own_staK0 S_java_lang_String_COMPACT_STRINGS_3 K4
  have E_b3_K4 := A3.keep K4
  have F_b3_value_K4 := F_b3_value.keep K4 nin0
  have F_b3_coder_K4 := F_b3_coder.keep K4 nin0
  have Zl4 : n0 ≤ T4.heap.size := Nat.le_trans Zl3 K4.1
  have Kp4 := Kp3.trans K4 all0
  refine own_of st4 ?_
  show own_Out p e below _ (T4.setTop (mkF m 21 #[.val (.int p0)] [(.ref b4), (.ref b3), (.ref b3)]))
  refine own_of (fun _ k => XS.iconst X4.here hx rfl (hb hby d2_21) k) ?_
  show own_Out p e below _ (T4.setTop (mkF m 22 #[.val (.int p0)] [(.int (0 : Int32)), (.ref b4), (.ref b3), (.ref b3)]))
  obtain ⟨_, _, ⟨T5, L5, k5, n5⟩, -, X5, ⟨Lc5, hQ5, l5, y5, z5⟩, st5⟩ := X4.specialBack hx (y := (⟨"java/lang/String", "<init>", "([BB)V"⟩ : MethodName)) rfl hown (mvT hZ (hw _ (List.mem_of_getElem? (i := 20) rfl))) (mvT hZ (hw _ (List.mem_of_getElem? (i := 21) rfl))) (mvT hZ (hw _ (List.mem_of_getElem? (i := 23) rfl))) (by decide) (backOf (W := 1) (rm5c0 l Z a0 hw [] b3 b4 T4.heap n0 Zl4 E_b3_K4 F_b3_value_K4 F_b3_coder_K4 g_b3) hZ (hw _ (List.mem_of_getElem? (i := 23) rfl)) (hw _ (List.mem_of_getElem? (i := 7) rfl)) (by decide) (by decide)) (g := (mkF m 22 #[.val (.int p0)] [(.int (0 : Int32)), (.ref b4), (.ref b3), (.ref b3)])) rfl (by rw [hml]; rfl) (Steps.refl _) (a := b3) (argsL := [(.ref b4), (.int (0 : Int32))]) (rest := [(.ref b3)]) (lenOf pd_2 rfl) rfl (by show 2 * 0 + _ ≤ _; exact Nat.le_of_eq rfl) (hb hby d2_22) (fun _ _ => ⟨rfl, rfl, (by decide : 2 + 0 ≤ _), (by decide : 5 + 0 ≤ _)⟩)
  dsimp only [Pt.U, Pt.locs, Pt.cells, Pt.slots] at X5 l5 y5 z5 st5 hQ5
  subst l5 y5 z5
  obtain ⟨rfl, N5q, K5, E5, F5_value, F5_coder⟩ := hQ5
  have N5 := Fr.app N4 N5q
  have S_java_lang_String_COMPACT_STRINGS_K5 := own_staK1 S_java_lang_String_COMPACT_STRINGS_K4 K5 (own_plainE E_b3_K4)
  have V_b4_K5 := V4.keep K5 (ninS (Ne.symm ne_b3_b4) nin0)
  have Zl5 : n0 ≤ T5.heap.size := Nat.le_trans Zl4 K5.1
  have Kp5 := Kp4.trans K5 (allS (Or.inr sz_b3) all0)
  refine own_of (fun _ k => st5.trans k) ?_
  show own_Out p e below _ (T5.setTop (mkF m 25 #[.val (.int p0)] [(.ref b3)]))
  exact own_outR X5 hx hlk hret rfl rfl rfl (hb hby d2_25) (Q := Q2l Z p0 cs h0 n0) ⟨b3, b4, k4, rfl, N5, Kp5, E5, F5_value, F5_coder, V_b4_K5, g_b3, sz_b3, hgb_4, sz_b4, ne_b3_b4⟩ (by decide) (by decide)
theorem d3_11 : decode jdk_43_method_3_code 11 = .ok (.iconst 0, 1) := by decide +kernel
theorem ef_3u (m : MethodId) (x0 : Int32) : entryFrame m #[(.int x0)] 1 = mkF m 0 #[.val (.int x0)] [] := by first | (simp [entryFrame, mkF, argsToLocals, Value.category]; done) | rfl
def Q3u (Z : State) (p0 : Int32) (h0 : Heap) (n0 : Nat) (v : Option Value) (h : Heap) (L : List Loc) : Prop := v = some (.int (0 : Int32)) ∧ Fr n0 L ∧ h = h0
set_option maxRecDepth 65536 in
set_option maxHeartbeats 40000000 in
theorem rm3u (l : Launch) (Z : State) (a0 : Array Value) (hw : ∀ d ∈ tables_1, d.before a0 Z = true) (ws : List Jvm.Cond) (p0 : Int32) (h0 : Heap) (n0 : Nat) (Z0 : n0 ≤ h0.size) (hp : (255 : Int32) < p0) :
    MetFree l (⟨"java/lang/StringLatin1", "canEncode", "(C)Z"⟩ : MethodName) (head1 (Jvm.Cond.code (⟨"java/lang/StringLatin1", "canEncode", "(C)Z"⟩ : MethodName) jdk_43_method_3_code 1 (some .boolean) :: ws) ({ frames := 0, cells := 0, slots := 0, locals := 0 } : Room)) (fun a U => a = #[(.int p0)] ∧ Z.Warmed39 U.vm ∧ U.heap = h0) (fun _ _ _ _ _ => True) (fun _ U o U' => ∃ v L, o = .returned v ∧ Q3u Z p0 h0 n0 v U'.heap L ∧ FrameEnd U o U' L ({ frames := 0, cells := 0, slots := 0, locals := 0 } : Room).cells ({ frames := 0, cells := 0, slots := 0, locals := 0 } : Room).slots) := by
  refine MetFree.of_bodySF (plainFor_of_name pn_1) hisR ?_
  intro p e s m args below meth c s₁ Bd hml0 hP hK
  obtain ⟨rfl, hZ, hh⟩ := hP
  have hx := Bd.exec
  have hby := Bd.bytes
  have hml : c.maxLocals = 1 := hml0
  have hown : s.vm.findClass "java/lang/StringLatin1" = some m.cls := findClass_of_methodNamed Bd.named
  have hnm := (name_of_methodNamed Bd.named Bd.method).1
  have X0 : Stand p l e ({ frames := 0, cells := 0, slots := 0, locals := 0 } : Room) s m #[(.int p0)] below meth c s₁ [] 0 0 := Stand.of_body Bd
  have e0 : s₁.heap = h0 := by rw [← hh, Bd.state]; rfl
  have N0 := Fr.nil n0
  have hret := Bd.returns
  have hlk := BodyLoose.notSynchronized Bd
  show own_Out p e below (fun o U' => ∃ v L, o = .returned v ∧ Q3u Z p0 h0 n0 v U'.heap L ∧ FrameEnd s o U' L ({ frames := 0, cells := 0, slots := 0, locals := 0 } : Room).cells ({ frames := 0, cells := 0, slots := 0, locals := 0 } : Room).slots) (s₁.setTop (entryFrame m #[(.int p0)] 1))
  refine own_of (fun t k => castTop (ef_3u m p0) k) ?_
  show own_Out p e below _ (s₁.setTop (mkF m 0 #[.val (.int p0)] []))
  refine own_of (fun _ k => XS.iloadN X0.here hx rfl (hb hby d3_0) rfl k) ?_
  show own_Out p e below _ (s₁.setTop (mkF m 1 #[.val (.int p0)] [(.int p0)]))
  refine own_of (fun _ k => XS.sipush X0.here hx rfl (hb hby d3_1) k) ?_
  show own_Out p e below _ (s₁.setTop (mkF m 4 #[.val (.int p0)] [(.int (255 : Int32)), (.int p0)]))
  refine own_of (fun _ k => XS.icmpYes X0.here hx rfl (pc0 := 4) (pc' := 11) rfl (hb hby d3_4) rfl (tlt hp).2.2.1 (by decide) (by decide) k) ?_
  show own_Out p e below _ (s₁.setTop (mkF m 11 #[.val (.int p0)] []))
  refine own_of (fun _ k => XS.iconst X0.here hx rfl (hb hby d3_11) k) ?_
  show own_Out p e below _ (s₁.setTop (mkF m 12 #[.val (.int p0)] [(.int (0 : Int32))]))
  exact own_outN X0 hx hlk (t := .boolean) hret (by simp) (hb hby d3_12) (z' := (0 : Int32)) rfl (Q := Q3u Z p0 h0 n0) ⟨rfl, N0, e0⟩ (by decide) (by decide)
theorem d18_0 : decode jdk_52_method_4_code 0 = .ok (.getstatic 44, 3) := by decide +kernel
theorem d18_3 : decode jdk_52_method_4_code 3 = .ok (.ifCond .ne 25, 3) := by decide +kernel
theorem d18_28 : decode jdk_52_method_4_code 28 = .ok (.iload_n 1, 1) := by decide +kernel
theorem d18_29 : decode jdk_52_method_4_code 29 = .ok (.iconst 1, 1) := by decide +kernel
theorem d18_30 : decode jdk_52_method_4_code 30 = .ok (.ishl, 1) := by decide +kernel
theorem d18_31 : decode jdk_52_method_4_code 31 = .ok (.istore_n 1, 1) := by decide +kernel
theorem d18_32 : decode jdk_52_method_4_code 32 = .ok (.aload_n 0, 1) := by decide +kernel
theorem d18_33 : decode jdk_52_method_4_code 33 = .ok (.iload_n 1, 1) := by decide +kernel
theorem d18_34 : decode jdk_52_method_4_code 34 = .ok (.iinc 1 1, 3) := by decide +kernel
theorem d18_37 : decode jdk_52_method_4_code 37 = .ok (.iload_n 2, 1) := by decide +kernel
theorem d18_38 : decode jdk_52_method_4_code 38 = .ok (.getstatic 59, 3) := by decide +kernel
theorem d18_41 : decode jdk_52_method_4_code 41 = .ok (.ishr, 1) := by decide +kernel
theorem d18_42 : decode jdk_52_method_4_code 42 = .ok (.i2b, 1) := by decide +kernel
theorem d18_43 : decode jdk_52_method_4_code 43 = .ok (.bastore, 1) := by decide +kernel
theorem d18_44 : decode jdk_52_method_4_code 44 = .ok (.aload_n 0, 1) := by decide +kernel
theorem d18_45 : decode jdk_52_method_4_code 45 = .ok (.iload_n 1, 1) := by decide +kernel
theorem d18_46 : decode jdk_52_method_4_code 46 = .ok (.iload_n 2, 1) := by decide +kernel
theorem d18_47 : decode jdk_52_method_4_code 47 = .ok (.getstatic 63, 3) := by decide +kernel
theorem d18_50 : decode jdk_52_method_4_code 50 = .ok (.ishr, 1) := by decide +kernel
theorem d18_51 : decode jdk_52_method_4_code 51 = .ok (.i2b, 1) := by decide +kernel
theorem d18_52 : decode jdk_52_method_4_code 52 = .ok (.bastore, 1) := by decide +kernel
theorem d18_53 : decode jdk_52_method_4_code 53 = .ok (.return_, 1) := by decide +kernel
theorem pn_3 : plainName "java/lang/StringUTF16" = true := by first | (simp [plainName, overriddenIn]; done) | decide +kernel
theorem ef_18 (m : MethodId) (x0 : Addr) (x2 : Int32) : entryFrame m #[(.ref x0), (.int (0 : Int32)), (.int x2)] 3 = mkF m 0 #[.val (.ref x0), .val (.int (0 : Int32)), .val (.int x2)] [] := by first | (simp [entryFrame, mkF, argsToLocals, Value.category]; done) | rfl
def Q18 (Z : State) (o0 : Addr) (p2 : Int32) (k : ClassId) (h0 : Heap) (n0 : Nat) (v : Option Value) (h : Heap) (L : List Loc) : Prop := v = none ∧ Fr n0 L ∧ Keep h0 h [o0] ∧ Arv Z h o0 k .byte (2 : Int32) [.int (((p2 >>> ((0 : Int32) &&& 31)).toInt8.toInt32).toInt8.toInt32), .int (((p2 >>> ((8 : Int32) &&& 31)).toInt8.toInt32).toInt8.toInt32)] (.int (0 : Int32))
set_option maxRecDepth 65536 in
set_option maxHeartbeats 40000000 in
theorem rm18 (l : Launch) (Z : State) (a0 : Array Value) (hw : ∀ d ∈ tables_1, d.before a0 Z = true) (ws : List Jvm.Cond) (o0 : Addr) (p2 : Int32) (k : ClassId) (h0 : Heap) (n0 : Nat) (Z0 : n0 ≤ h0.size) (V : Arv Z h0 o0 k .byte (2 : Int32) [(.int (0 : Int32)), (.int (0 : Int32))] (.int (0 : Int32))) (g_o0 : n0 ≤ o0) (S_ad : Sta Z h0 "java/lang/StringUTF16" "$assertionsDisabled" "Z" (.int (1 : Int32))) (S_hi : Sta Z h0 "java/lang/StringUTF16" "HI_BYTE_SHIFT" "I" (.int (0 : Int32))) (S_lo : Sta Z h0 "java/lang/StringUTF16" "LO_BYTE_SHIFT" "I" (.int (8 : Int32))) :
    MetFree l (⟨"java/lang/StringUTF16", "putChar", "([BII)V"⟩ : MethodName) (head1 (Jvm.Cond.code (⟨"java/lang/StringUTF16", "putChar", "([BII)V"⟩ : MethodName) jdk_52_method_4_code 3 none :: ws) ({ frames := 0, cells := 0, slots := 0, locals := 0 } : Room)) (fun a U => a = #[(.ref o0), (.int (0 : Int32)), (.int p2)] ∧ Z.Warmed39 U.vm ∧ U.heap = h0) (fun _ _ _ _ _ => True) (fun _ U o U' => ∃ v L, o = .returned v ∧ Q18 Z o0 p2 k h0 n0 v U'.heap L ∧ FrameEnd U o U' L ({ frames := 0, cells := 0, slots := 0, locals := 0 } : Room).cells ({ frames := 0, cells := 0, slots := 0, locals := 0 } : Room).slots) := by
  refine MetFree.of_bodySF (plainFor_of_name pn_3) hisR ?_
  intro p e s m args below meth c s₁ Bd hml0 hP hK
  obtain ⟨rfl, hZ, hh⟩ := hP
  have hx := Bd.exec
  have hby := Bd.bytes
  have hml : c.maxLocals = 3 := hml0
  have hown : s.vm.findClass "java/lang/StringUTF16" = some m.cls := findClass_of_methodNamed Bd.named
  have hnm := (name_of_methodNamed Bd.named Bd.method).1
  have X0 : Stand p l e ({ frames := 0, cells := 0, slots := 0, locals := 0 } : Room) s m #[(.ref o0), (.int (0 : Int32)), (.int p2)] below meth c s₁ [] 0 0 := Stand.of_body Bd
  have e0 : s₁.heap = h0 := by rw [← hh, Bd.state]; rfl
  have N0 := Fr.nil n0
  have hret := Bd.returns
  have hlk := BodyLoose.notSynchronized Bd
  show own_Out p e below (fun o U' => ∃ v L, o = .returned v ∧ Q18 Z o0 p2 k h0 n0 v U'.heap L ∧ FrameEnd s o U' L ({ frames := 0, cells := 0, slots := 0, locals := 0 } : Room).cells ({ frames := 0, cells := 0, slots := 0, locals := 0 } : Room).slots) (s₁.setTop (entryFrame m #[(.ref o0), (.int (0 : Int32)), (.int p2)] 3))
  refine own_of (fun t k => castTop (ef_18 m o0 p2) k) ?_
  show own_Out p e below _ (s₁.setTop (mkF m 0 #[.val (.ref o0), .val (.int (0 : Int32)), .val (.int p2)] []))
  obtain ⟨T1, X1, e1, st1⟩ := getS2 X0 hx hZ hown (host := "") (Or.inl (hw _ (List.mem_of_getElem? (i := 81) rfl))) Via.refl e0 S_ad (g := (mkF m 0 #[.val (.ref o0), .val (.int (0 : Int32)), .val (.int p2)] [])) rfl (hb hby d18_0)
  refine own_of st1 ?_
  show own_Out p e below _ (T1.setTop (mkF m 3 #[.val (.ref o0), .val (.int (0 : Int32)), .val (.int p2)] [(.int (1 : Int32))]))
  refine own_of (fun _ k => XS.ifYes X1.here hx rfl (pc0 := 3) (pc' := 28) rfl (hb hby d18_3) rfl ((if0 _ _).trans (feq (by decide : ¬ ((1 : Int32) = (0 : Int32)))).2) (by decide) (by decide) k) ?_
  show own_Out p e below _ (T1.setTop (mkF m 28 #[.val (.ref o0), .val (.int (0 : Int32)), .val (.int p2)] []))
  refine own_of (fun _ k => XS.iloadN X1.here hx rfl (hb hby d18_28) rfl k) ?_
  show own_Out p e below _ (T1.setTop (mkF m 29 #[.val (.ref o0), .val (.int (0 : Int32)), .val (.int p2)] [(.int (0 : Int32))]))
  refine own_of (fun _ k => XS.iconst X1.here hx rfl (hb hby d18_29) k) ?_
  show own_Out p e below _ (T1.setTop (mkF m 30 #[.val (.ref o0), .val (.int (0 : Int32)), .val (.int p2)] [(.int (1 : Int32)), (.int (0 : Int32))]))
  refine own_of (fun _ k => XS.ishl X1.here hx rfl (hb hby d18_30) rfl k) ?_
  show own_Out p e below _ (T1.setTop (mkF m 31 #[.val (.ref o0), .val (.int (0 : Int32)), .val (.int p2)] [(.int (0 : Int32))]))
  refine own_of (fun _ k => XS.istoreN X1.here hx rfl (hb hby d18_31) rfl (l' := #[.val (.ref o0), .val (.int (0 : Int32)), .val (.int p2)]) rfl k) ?_
  show own_Out p e below _ (T1.setTop (mkF m 32 #[.val (.ref o0), .val (.int (0 : Int32)), .val (.int p2)] []))
  refine own_of (fun _ k => XS.aloadN X1.here hx rfl (hb hby d18_32) rfl rfl k) ?_
  show own_Out p e below _ (T1.setTop (mkF m 33 #[.val (.ref o0), .val (.int (0 : Int32)), .val (.int p2)] [(.ref o0)]))
  refine own_of (fun _ k => XS.iloadN X1.here hx rfl (hb hby d18_33) rfl k) ?_
  show own_Out p e below _ (T1.setTop (mkF m 34 #[.val (.ref o0), .val (.int (0 : Int32)), .val (.int p2)] [(.int (0 : Int32)), (.ref o0)]))
  refine own_of (fun _ k => XS.iinc X1.here hx rfl (hb hby d18_34) rfl (l' := #[.val (.ref o0), .val (.int (1 : Int32)), .val (.int p2)]) rfl k) ?_
  show own_Out p e below _ (T1.setTop (mkF m 37 #[.val (.ref o0), .val (.int (1 : Int32)), .val (.int p2)] [(.int (0 : Int32)), (.ref o0)]))
  refine own_of (fun _ k => XS.iloadN X1.here hx rfl (hb hby d18_37) rfl k) ?_
  show own_Out p e below _ (T1.setTop (mkF m 38 #[.val (.ref o0), .val (.int (1 : Int32)), .val (.int p2)] [(.int p2), (.int (0 : Int32)), (.ref o0)]))
  obtain ⟨T2, X2, e2, st2⟩ := getS2 X1 hx hZ hown (host := "") (Or.inl (hw _ (List.mem_of_getElem? (i := 82) rfl))) Via.refl e1 S_hi (g := (mkF m 38 #[.val (.ref o0), .val (.int (1 : Int32)), .val (.int p2)] [(.int p2), (.int (0 : Int32)), (.ref o0)])) rfl (hb hby d18_38)
  refine own_of st2 ?_
  show own_Out p e below _ (T2.setTop (mkF m 41 #[.val (.ref o0), .val (.int (1 : Int32)), .val (.int p2)] [(.int (0 : Int32)), (.int p2), (.int (0 : Int32)), (.ref o0)]))
  refine own_of (fun _ k => XS.ishr X2.here hx rfl (hb hby d18_41) rfl k) ?_
  show own_Out p e below _ (T2.setTop (mkF m 42 #[.val (.ref o0), .val (.int (1 : Int32)), .val (.int p2)] [(.int (p2 >>> ((0 : Int32) &&& 31))), (.int (0 : Int32)), (.ref o0)]))
  refine own_of (fun _ k => XS.i2b X2.here hx rfl (hb hby d18_42) rfl k) ?_
  show own_Out p e below _ (T2.setTop (mkF m 43 #[.val (.ref o0), .val (.int (1 : Int32)), .val (.int p2)] [(.int ((p2 >>> ((0 : Int32) &&& 31)).toInt8.toInt32)), (.int (0 : Int32)), (.ref o0)]))
  obtain ⟨cl3, Ar3, q3, S3, N3', H3, G3⟩ := id V
  have hin4 : ¬ ((0 : Int32) < 0 ∨ cl3.slots.size ≤ ((0 : Int32)).toNatClampNeg) := inb_of S3 ⟨by decide, by decide⟩
  obtain ⟨T4, h4, X4, e4, W4, st4⟩ := stB X2 hx hZ e2 Ar3 (j := (0 : Int32)) hin4 (g := (mkF m 43 #[.val (.ref o0), .val (.int (1 : Int32)), .val (.int p2)] [(.int ((p2 >>> ((0 : Int32) &&& 31)).toInt8.toInt32)), (.int (0 : Int32)), (.ref o0)])) rfl rfl (hb hby d18_43)
  have V4 := Arv.set Ar3 q3 S3 N3' H3 G3 (fits_nar_byte _) W4 0 rfl (Nat.le_of_ble_eq_true rfl)
  have S_java_lang_StringUTF16__assertionsDisabled_4 := S_ad.wr W4
  have S_java_lang_StringUTF16_HI_BYTE_SHIFT_4 := S_hi.wr W4
  have S_java_lang_StringUTF16_LO_BYTE_SHIFT_4 := S_lo.wr W4
  have N4 := Fr.snoc X4 N0 g_o0
  have Zl4 : n0 ≤ h4.size := Nat.le_trans Z0 (Keep.of_wr W4).1
  have Kp4 := (Keep.refl h0 [o0]).wr W4 (Or.inl (List.mem_of_getElem? (i := 0) rfl))
  refine own_of st4 ?_
  show own_Out p e below _ (T4.setTop (mkF m 44 #[.val (.ref o0), .val (.int (1 : Int32)), .val (.int p2)] []))
  refine own_of (fun _ k => XS.aloadN X4.here hx rfl (hb hby d18_44) rfl rfl k) ?_
  show own_Out p e below _ (T4.setTop (mkF m 45 #[.val (.ref o0), .val (.int (1 : Int32)), .val (.int p2)] [(.ref o0)]))
  refine own_of (fun _ k => XS.iloadN X4.here hx rfl (hb hby d18_45) rfl k) ?_
  show own_Out p e below _ (T4.setTop (mkF m 46 #[.val (.ref o0), .val (.int (1 : Int32)), .val (.int p2)] [(.int (1 : Int32)), (.ref o0)]))
  refine own_of (fun _ k => XS.iloadN X4.here hx rfl (hb hby d18_46) rfl k) ?_
  show own_Out p e below _ (T4.setTop (mkF m 47 #[.val (.ref o0), .val (.int (1 : Int32)), .val (.int p2)] [(.int p2), (.int (1 : Int32)), (.ref o0)]))
  obtain ⟨T5, X5, e5, st5⟩ := getS2 X4 hx hZ hown (host := "") (Or.inl (hw _ (List.mem_of_getElem? (i := 83) rfl))) Via.refl e4 S_java_lang_StringUTF16_LO_BYTE_SHIFT_4 (g := (mkF m 47 #[.val (.ref o0), .val (.int (1 : Int32)), .val (.int p2)] [(.int p2), (.int (1 : Int32)), (.ref o0)])) rfl (hb hby d18_47)
  refine own_of st5 ?_
  show own_Out p e below _ (T5.setTop (mkF m 50 #[.val (.ref o0), .val (.int (1 : Int32)), .val (.int p2)] [(.int (8 : Int32)), (.int p2), (.int (1 : Int32)), (.ref o0)]))
  refine own_of (fun _ k => XS.ishr X5.here hx rfl (hb hby d18_50) rfl k) ?_
  show own_Out p e below _ (T5.setTop (mkF m 51 #[.val (.ref o0), .val (.int (1 : Int32)), .val (.int p2)] [(.int (p2 >>> ((8 : Int32) &&& 31))), (.int (1 : Int32)), (.ref o0)]))
  refine own_of (fun _ k => XS.i2b X5.here hx rfl (hb hby d18_51) rfl k) ?_
  show own_Out p e below _ (T5.setTop (mkF m 52 #[.val (.ref o0), .val (.int (1 : Int32)), .val (.int p2)] [(.int ((p2 >>> ((8 : Int32) &&& 31)).toInt8.toInt32)), (.int (1 : Int32)), (.ref o0)]))
  obtain ⟨cl6, Ar6, q6, S6, N6', H6, G6⟩ := id V4
  have hin7 : ¬ ((1 : Int32) < 0 ∨ cl6.slots.size ≤ ((1 : Int32)).toNatClampNeg) := inb_of S6 ⟨by decide, by decide⟩
  obtain ⟨T7, h7, X7, e7, W7, st7⟩ := stB X5 hx hZ e5 Ar6 (j := (1 : Int32)) hin7 (g := (mkF m 52 #[.val (.ref o0), .val (.int (1 : Int32)), .val (.int p2)] [(.int ((p2 >>> ((8 : Int32) &&& 31)).toInt8.toInt32)), (.int (1 : Int32)), (.ref o0)])) rfl rfl (hb hby d18_52)
  have V7 := Arv.set Ar6 q6 S6 N6' H6 G6 (fits_nar_byte _) W7 1 rfl (Nat.le_of_ble_eq_true rfl)
  have S_java_lang_StringUTF16__assertionsDisabled_7 := S_java_lang_StringUTF16__assertionsDisabled_4.wr W7
  have S_java_lang_StringUTF16_HI_BYTE_SHIFT_7 := S_java_lang_StringUTF16_HI_BYTE_SHIFT_4.wr W7
  have S_java_lang_StringUTF16_LO_BYTE_SHIFT_7 := S_java_lang_StringUTF16_LO_BYTE_SHIFT_4.wr W7
  have N7 := Fr.snoc X7 N4 g_o0
  have Zl7 : n0 ≤ h7.size := Nat.le_trans Zl4 (Keep.of_wr W7).1
  have Kp7 := Kp4.wr W7 (Or.inl (List.mem_of_getElem? (i := 0) rfl))
  refine own_of st7 ?_
  show own_Out p e below _ (T7.setTop (mkF m 53 #[.val (.ref o0), .val (.int (1 : Int32)), .val (.int p2)] []))
  exact own_outV X7 hx hlk hret (hb hby d18_53) (Q := Q18 Z o0 p2 k h0 n0) (by rw [e7]; exact ⟨rfl, N7, Kp7, V7⟩) (by decide) (by decide)
theorem pd_3 : parseMethodDescriptor "([BII)V" = some ⟨[(.array .byte), .int, .int], none⟩ := by decide +kernel
theorem d17_0 : decode jdk_52_method_24_code 0 = .ok (.iconst 2, 1) := by decide +kernel
theorem d17_1 : decode jdk_52_method_24_code 1 = .ok (.newarray .byte, 2) := by decide +kernel
theorem d17_3 : decode jdk_52_method_24_code 3 = .ok (.astore_n 1, 1) := by decide +kernel
theorem d17_4 : decode jdk_52_method_24_code 4 = .ok (.aload_n 1, 1) := by decide +kernel
theorem d17_5 : decode jdk_52_method_24_code 5 = .ok (.iconst 0, 1) := by decide +kernel
theorem d17_6 : decode jdk_52_method_24_code 6 = .ok (.iload_n 0, 1) := by decide +kernel
theorem d17_7 : decode jdk_52_method_24_code 7 = .ok (.invokestatic 111, 3) := by decide +kernel
theorem d17_10 : decode jdk_52_method_24_code 10 = .ok (.aload_n 1, 1) := by decide +kernel
theorem d17_11 : decode jdk_52_method_24_code 11 = .ok (.areturn, 1) := by decide +kernel
theorem ef_17 (m : MethodId) (x0 : Int32) : entryFrame m #[(.int x0)] 2 = mkF m 0 #[.val (.int x0), .unset] [] := by first | (simp [entryFrame, mkF, argsToLocals, Value.category]; done) | rfl
def Q17 (Z : State) (p0 : Int32) (h0 : Heap) (n0 : Nat) (v : Option Value) (h : Heap) (L : List Loc) : Prop := ∃ (b : Addr) (k : ClassId), v = some (.ref b) ∧ Fr n0 L ∧ Keep h0 h [] ∧ Arv Z h b k .byte (2 : Int32) [.int (((p0 >>> ((0 : Int32) &&& 31)).toInt8.toInt32).toInt8.toInt32), .int (((p0 >>> ((8 : Int32) &&& 31)).toInt8.toInt32).toInt8.toInt32)] (.int (0 : Int32)) ∧ n0 ≤ b ∧ h0.size ≤ b
set_option maxRecDepth 65536 in
set_option maxHeartbeats 40000000 in
theorem rm17 (l : Launch) (Z : State) (a0 : Array Value) (hw : ∀ d ∈ tables_1, d.before a0 Z = true) (ws : List Jvm.Cond) (p0 : Int32) (h0 : Heap) (n0 : Nat) (Z0 : n0 ≤ h0.size) (S_ad : Sta Z h0 "java/lang/StringUTF16" "$assertionsDisabled" "Z" (.int (1 : Int32))) (S_hi : Sta Z h0 "java/lang/StringUTF16" "HI_BYTE_SHIFT" "I" (.int (0 : Int32))) (S_lo : Sta Z h0 "java/lang/StringUTF16" "LO_BYTE_SHIFT" "I" (.int (8 : Int32))) :
    MetFree l (⟨"java/lang/StringUTF16", "toBytes", "(C)[B"⟩ : MethodName) (head1 (Jvm.Cond.code (⟨"java/lang/StringUTF16", "toBytes", "(C)[B"⟩ : MethodName) jdk_52_method_24_code 2 (some (.array .byte)) :: ws) ({ frames := 1, cells := 1, slots := 2, locals := 14 } : Room)) (fun a U => a = #[(.int p0)] ∧ Z.Warmed39 U.vm ∧ U.heap = h0) (fun _ _ _ _ _ => True) (fun _ U o U' => ∃ v L, o = .returned v ∧ Q17 Z p0 h0 n0 v U'.heap L ∧ FrameEnd U o U' L ({ frames := 1, cells := 1, slots := 2, locals := 14 } : Room).cells ({ frames := 1, cells := 1, slots := 2, locals := 14 } : Room).slots) := by
  refine MetFree.of_bodySF (plainFor_of_name pn_3) hisR ?_
  intro p e s m args below meth c s₁ Bd hml0 hP hK
  obtain ⟨rfl, hZ, hh⟩ := hP
  have hx := Bd.exec
  have hby := Bd.bytes
  have hml : c.maxLocals = 2 := hml0
  have hown : s.vm.findClass "java/lang/StringUTF16" = some m.cls := findClass_of_methodNamed Bd.named
  have hnm := (name_of_methodNamed Bd.named Bd.method).1
  have X0 : Stand p l e ({ frames := 1, cells := 1, slots := 2, locals := 14 } : Room) s m #[(.int p0)] below meth c s₁ [] 0 0 := Stand.of_body Bd
  have e0 : s₁.heap = h0 := by rw [← hh, Bd.state]; rfl
  have N0 := Fr.nil n0
  have hret := Bd.returns
  have hlk := BodyLoose.notSynchronized Bd
  show own_Out p e below (fun o U' => ∃ v L, o = .returned v ∧ Q17 Z p0 h0 n0 v U'.heap L ∧ FrameEnd s o U' L ({ frames := 1, cells := 1, slots := 2, locals := 14 } : Room).cells ({ frames := 1, cells := 1, slots := 2, locals := 14 } : Room).slots) (s₁.setTop (entryFrame m #[(.int p0)] 2))
  refine own_of (fun t k => castTop (ef_17 m p0) k) ?_
  show own_Out p e below _ (s₁.setTop (mkF m 0 #[.val (.int p0), .unset] []))
  refine own_of (fun _ k => XS.iconst X0.here hx rfl (hb hby d17_0) k) ?_
  show own_Out p e below _ (s₁.setTop (mkF m 1 #[.val (.int p0), .unset] [(.int (2 : Int32))]))
  obtain ⟨T1, h1, k1, X1, e1, E1, A1, st1⟩ := newP X0 hx hZ (hw _ (List.mem_of_getElem? (i := 19) rfl)) e0 (g := (mkF m 1 #[.val (.int p0), .unset] [(.int (2 : Int32))])) rfl (hb hby d17_1) rfl (by decide) (cap := 2) (by decide) (by decide) (by decide) (by decide)
  obtain ⟨b1, g1⟩ : ∃ z, z = h0.size := ⟨_, rfl⟩
  rw [← g1] at A1 st1
  have g_b1 : n0 ≤ b1 := Nat.le_trans Z0 (Nat.le_of_eq g1.symm)
  have sz_b1 : h0.size ≤ b1 := Nat.le_trans (Keep.refl h0 []).1 (Nat.le_of_eq g1.symm)
  have Zl1 : n0 ≤ h1.size := Nat.le_trans Z0 E1.1
  have Kp1 := (Keep.refl h0 []).ext E1
  have S_java_lang_StringUTF16__assertionsDisabled_1 := S_ad.ext E1
  have S_java_lang_StringUTF16_HI_BYTE_SHIFT_1 := S_hi.ext E1
  have S_java_lang_StringUTF16_LO_BYTE_SHIFT_1 := S_lo.ext E1
  have V_b1 : Arv Z h1 b1 k1 .byte (2 : Int32) [(.int (0 : Int32)), (.int (0 : Int32))] (.int (0 : Int32)) := (Arv.new A1 (by decide)).pad (pad_rep [] (.int (0 : Int32)) 2)
  refine own_of st1 ?_
  show own_Out p e below _ (T1.setTop (mkF m 3 #[.val (.int p0), .unset] [(.ref b1)]))
  refine own_of (fun _ k => XS.astoreN X1.here hx rfl (hb hby d17_3) rfl rfl (l' := #[.val (.int p0), .val (.ref b1)]) rfl k) ?_
  show own_Out p e below _ (T1.setTop (mkF m 4 #[.val (.int p0), .val (.ref b1)] []))
  refine own_of (fun _ k => XS.aloadN X1.here hx rfl (hb hby d17_4) rfl rfl k) ?_
  show own_Out p e below _ (T1.setTop (mkF m 5 #[.val (.int p0), .val (.ref b1)] [(.ref b1)]))
  refine own_of (fun _ k => XS.iconst X1.here hx rfl (hb hby d17_5) k) ?_
  show own_Out p e below _ (T1.setTop (mkF m 6 #[.val (.int p0), .val (.ref b1)] [(.int (0 : Int32)), (.ref b1)]))
  refine own_of (fun _ k => XS.iloadN X1.here hx rfl (hb hby d17_6) rfl k) ?_
  show own_Out p e below _ (T1.setTop (mkF m 7 #[.val (.int p0), .val (.ref b1)] [(.int p0), (.int (0 : Int32)), (.ref b1)]))
  obtain ⟨_, _, ⟨T2, L2, k2, n2⟩, -, X2, ⟨Lc2, hQ2, l2, y2, z2⟩, st2⟩ := Jvm.LawKit.callS X1 hx (y := (⟨"java/lang/StringUTF16", "putChar", "([BII)V"⟩ : MethodName)) hown (mvT hZ (hw _ (List.mem_of_getElem? (i := 78) rfl))) (mvT hZ (hw _ (List.mem_of_getElem? (i := 79) rfl))) (mvT hZ (hw _ (List.mem_of_getElem? (i := 76) rfl))) (mvT hZ (hw _ (List.mem_of_getElem? (i := 80) rfl))) (by decide) (backOf (W := 0) (rm18 l Z a0 hw [] b1 p0 k1 h1 n0 Zl1 V_b1 g_b1 S_java_lang_StringUTF16__assertionsDisabled_1 S_java_lang_StringUTF16_HI_BYTE_SHIFT_1 S_java_lang_StringUTF16_LO_BYTE_SHIFT_1) hZ (hw _ (List.mem_of_getElem? (i := 80) rfl)) (hw _ (List.mem_of_getElem? (i := 76) rfl)) (by decide) (by decide)) (g := (mkF m 7 #[.val (.int p0), .val (.ref b1)] [(.int p0), (.int (0 : Int32)), (.ref b1)])) rfl (by rw [hml]; rfl) (argsL := [(.ref b1), (.int (0 : Int32)), (.int p0)]) (rest := []) (lenOf pd_3 rfl) rfl (by show 2 * 0 + _ ≤ _; exact Nat.le_of_eq rfl) (hb hby d17_7) (fun _ _ => ⟨rfl, e1, (by decide : 1 + 0 ≤ _), (by decide : 2 + 0 ≤ _)⟩)
  dsimp only [Pt.U, Pt.locs, Pt.cells, Pt.slots] at X2 l2 y2 z2 st2 hQ2
  subst l2 y2 z2
  obtain ⟨rfl, N2q, K2, V2⟩ := hQ2
  have N2 := Fr.app N0 N2q
  have S_java_lang_StringUTF16__assertionsDisabled_K2 := own_staK1 S_java_lang_StringUTF16__assertionsDisabled_1 K2 (own_plainV V_b1)
  have S_java_lang_StringUTF16_HI_BYTE_SHIFT_K2 := own_staK1 S_java_lang_StringUTF16_HI_BYTE_SHIFT_1 K2 (own_plainV V_b1)
  have S_java_lang_StringUTF16_LO_BYTE_SHIFT_K2 := own_staK1 S_java_lang_StringUTF16_LO_BYTE_SHIFT_1 K2 (own_plainV V_b1)
  have Zl2 : n0 ≤ T2.heap.size := Nat.le_trans Zl1 K2.1
  have Kp2 := Kp1.trans K2 (allS (Or.inr sz_b1) all0)
  refine own_of st2 ?_
  show own_Out p e below _ (T2.setTop (mkF m 10 #[.val (.int p0), .val (.ref b1)] []))
  refine own_of (fun _ k => XS.aloadN X2.here hx rfl (hb hby d17_10) rfl rfl k) ?_
  show own_Out p e below _ (T2.setTop (mkF m 11 #[.val (.int p0), .val (.ref b1)] [(.ref b1)]))
  exact own_outR X2 hx hlk hret rfl rfl rfl (hb hby d17_11) (Q := Q17 Z p0 h0 n0) ⟨b1, k1, rfl, N2, Kp2, V2, g_b1, sz_b1⟩ (by decide) (by decide)
theorem ef_5c1 (m : MethodId) (x0 : Addr) (x1 : Addr) : entryFrame m #[(.ref x0), (.ref x1), (.int (1 : Int32))] 3 = mkF m 0 #[.val (.ref x0), .val (.ref x1), .val (.int (1 : Int32))] [] := by first | (simp [entryFrame, mkF, argsToLocals, Value.category]; done) | rfl
def Q5c1 (Z : State) (o0 : Addr) (o1 : Addr) (h0 : Heap) (n0 : Nat) (v : Option Value) (h : Heap) (L : List Loc) : Prop := v = none ∧ Fr n0 L ∧ Keep h0 h [o0] ∧ Exa Z h o0 "java/lang/String" ∧ Fld Z h o0 "java/lang/String" "value" "[B" (.ref o1) ∧ Fld Z h o0 "java/lang/String" "coder" "B" (.int (1 : Int32))
set_option maxRecDepth 65536 in
set_option maxHeartbeats 40000000 in
theorem rm5c1 (l : Launch) (Z : State) (a0 : Array Value) (hw : ∀ d ∈ tables_1, d.before a0 Z = true) (ws : List Jvm.Cond) (o0 : Addr) (o1 : Addr) (h0 : Heap) (n0 : Nat) (Z0 : n0 ≤ h0.size) (E : Exa Z h0 o0 "java/lang/String") (F_value : Fld Z h0 o0 "java/lang/String" "value" "[B" .null) (F_coder : Fld Z h0 o0 "java/lang/String" "coder" "B" (.int (0 : Int32))) (g_o0 : n0 ≤ o0) :
    MetFree l (⟨"java/lang/String", "<init>", "([BB)V"⟩ : MethodName) (head1 (Jvm.Cond.code (⟨"java/lang/String", "<init>", "([BB)V"⟩ : MethodName) jdk_42_method_151_code 3 none :: ws) ({ frames := 1, cells := 0, slots := 0, locals := 12 } : Room)) (fun a U => a = #[(.ref o0), (.ref o1), (.int (1 : Int32))] ∧ Z.Warmed39 U.vm ∧ U.heap = h0) (fun _ _ _ _ _ => True) (fun _ U o U' => ∃ v L, o = .returned v ∧ Q5c1 Z o0 o1 h0 n0 v U'.heap L ∧ FrameEnd U o U' L ({ frames := 1, cells := 0, slots := 0, locals := 12 } : Room).cells ({ frames := 1, cells := 0, slots := 0, locals := 12 } : Room).slots) := by
  refine MetFree.of_bodySF (plainFor_of_name pn_2) hisR ?_
  intro p e s m args below meth c s₁ Bd hml0 hP hK
  obtain ⟨rfl, hZ, hh⟩ := hP
  have hx := Bd.exec
  have hby := Bd.bytes
  have hml : c.maxLocals = 3 := hml0
  have hown : s.vm.findClass "java/lang/String" = some m.cls := findClass_of_methodNamed Bd.named
  have hnm := (name_of_methodNamed Bd.named Bd.method).1
  have X0 : Stand p l e ({ frames := 1, cells := 0, slots := 0, locals := 12 } : Room) s m #[(.ref o0), (.ref o1), (.int (1 : Int32))] below meth c s₁ [] 0 0 := Stand.of_body Bd
  have e0 : s₁.heap = h0 := by rw [← hh, Bd.state]; rfl
  have N0 := Fr.nil n0
  have hret := Bd.returns
  have hlk := BodyLoose.notSynchronized Bd
  show own_Out p e below (fun o U' => ∃ v L, o = .returned v ∧ Q5c1 Z o0 o1 h0 n0 v U'.heap L ∧ FrameEnd s o U' L ({ frames := 1, cells := 0, slots := 0, locals := 12 } : Room).cells ({ frames := 1, cells := 0, slots := 0, locals := 12 } : Room).slots) (s₁.setTop (entryFrame m #[(.ref o0), (.ref o1), (.int (1 : Int32))] 3))
  refine own_of (fun t k => castTop (ef_5c1 m o0 o1) k) ?_
  show own_Out p e below _ (s₁.setTop (mkF m 0 #[.val (.ref o0), .val (.ref o1), .val (.int (1 : Int32))] []))
  refine own_of (fun _ k => XS.aloadN X0.here hx rfl (hb hby d5_0) rfl rfl k) ?_
  show own_Out p e below _ (s₁.setTop (mkF m 1 #[.val (.ref o0), .val (.ref o1), .val (.int (1 : Int32))] [(.ref o0)]))
  obtain ⟨T1, X1, e1, st1⟩ := initO X0 hx hZ hown (hw _ (List.mem_of_getElem? (i := 24) rfl)) (hw _ (List.mem_of_getElem? (i := 25) rfl)) (hw _ (List.mem_of_getElem? (i := 26) rfl)) e0 (g := (mkF m 1 #[.val (.ref o0), .val (.ref o1), .val (.int (1 : Int32))] [(.ref o0)])) rfl (by rw [hml]; rfl) rfl (hb hby d5_1) (by decide) (W := 0) (by show 2 * 0 + _ ≤ _; exact Nat.le_of_eq rfl) (by decide)
  refine own_of st1 ?_
  show own_Out p e below _ (T1.setTop (mkF m 4 #[.val (.ref o0), .val (.ref o1), .val (.int (1 : Int32))] []))
  refine own_of (fun _ k => XS.aloadN X1.here hx rfl (hb hby d5_4) rfl rfl k) ?_
  show own_Out p e below _ (T1.setTop (mkF m 5 #[.val (.ref o0), .val (.ref o1), .val (.int (1 : Int32))] [(.ref o0)]))
  refine own_of (fun _ k => XS.aloadN X1.here hx rfl (hb hby d5_5) rfl rfl k) ?_
  show own_Out p e below _ (T1.setTop (mkF m 6 #[.val (.ref o0), .val (.ref o1), .val (.int (1 : Int32))] [(.ref o1), (.ref o0)]))
  obtain ⟨T2, h2, X2, e2, W2, st2⟩ := putF X1 hx hZ hown (host := "") (Or.inl (hw _ (List.mem_of_getElem? (i := 27) rfl))) Via.refl e1 F_value E (Or.inr ⟨(hw _ (List.mem_of_getElem? (i := 28) rfl)), rfl, hnm⟩) (hw _ (List.mem_of_getElem? (i := 15) rfl)) (ty := (.array .byte)) (by decide) rfl rfl (g := (mkF m 6 #[.val (.ref o0), .val (.ref o1), .val (.int (1 : Int32))] [(.ref o1), (.ref o0)])) rfl rfl (hb hby d5_6)
  have Fw2 := F_value.same W2
  have E_o0_2 := E.wr W2
  have F_o0_coder_2 := F_coder.other W2 (Or.inr (slot_ne (Or.inr (hw _ (List.mem_of_getElem? (i := 30) rfl))) (Or.inr (hw _ (List.mem_of_getElem? (i := 28) rfl))) (by decide) (t := .byte) (t' := (.array .byte)) (by decide) (by decide)))
  have N2 := Fr.snoc X2 N0 g_o0
  have Zl2 : n0 ≤ h2.size := Nat.le_trans Z0 (Keep.of_wr W2).1
  have Kp2 := (Keep.refl h0 [o0]).wr W2 (Or.inl (List.mem_of_getElem? (i := 0) rfl))
  refine own_of st2 ?_
  show own_Out p e below _ (T2.setTop (mkF m 9 #[.val (.ref o0), .val (.ref o1), .val (.int (1 : Int32))] []))
  refine own_of (fun _ k => XS.aloadN X2.here hx rfl (hb hby d5_9) rfl rfl k) ?_
  show own_Out p e below _ (T2.setTop (mkF m 10 #[.val (.ref o0), .val (.ref o1), .val (.int (1 : Int32))] [(.ref o0)]))
  refine own_of (fun _ k => XS.iloadN X2.here hx rfl (hb hby d5_10) rfl k) ?_
  show own_Out p e below _ (T2.setTop (mkF m 11 #[.val (.ref o0), .val (.ref o1), .val (.int (1 : Int32))] [(.int (1 : Int32)), (.ref o0)]))
  obtain ⟨T3, h3, X3, e3, W3, st3⟩ := putFN X2 hx hZ hown (hw _ (List.mem_of_getElem? (i := 29) rfl)) Via.refl e2 F_o0_coder_2 E_o0_2 (Or.inr ⟨(hw _ (List.mem_of_getElem? (i := 30) rfl)), rfl, hnm⟩) (hw _ (List.mem_of_getElem? (i := 15) rfl)) (ty := .byte) (v' := (.int (1 : Int32))) (by decide) rfl rfl (g := (mkF m 11 #[.val (.ref o0), .val (.ref o1), .val (.int (1 : Int32))] [(.int (1 : Int32)), (.ref o0)])) rfl rfl (hb hby d5_11)
  have Fw3 := F_o0_coder_2.same W3
  have E_o0_3 := E_o0_2.wr W3
  have F_o0_value_3 := Fw2.other W3 (Or.inr (slot_ne (Or.inr (hw _ (List.mem_of_getElem? (i := 28) rfl))) (Or.inr (hw _ (List.mem_of_getElem? (i := 30) rfl))) (by decide) (t := (.array .byte)) (t' := .byte) (by decide) (by decide)))
  have N3 := Fr.snoc X3 N2 g_o0
  have Zl3 : n0 ≤ h3.size := Nat.le_trans Zl2 (Keep.of_wr W3).1
  have Kp3 := Kp2.wr W3 (Or.inl (List.mem_of_getElem? (i := 0) rfl))
  refine own_of st3 ?_
  show own_Out p e below _ (T3.setTop (mkF m 14 #[.val (.ref o0), .val (.ref o1), .val (.int (1 : Int32))] []))
  exact own_outV X3 hx hlk hret (hb hby d5_14) (Q := Q5c1 Z o0 o1 h0 n0) (by rw [e3]; exact ⟨rfl, N3, Kp3, E_o0_3, F_o0_value_3, Fw3⟩) (by decide) (by decide)
theorem d2_26 : decode jdk_42_method_139_code 26 = .ok (.new 10, 3) := by decide +kernel
theorem d2_29 : decode jdk_42_method_139_code 29 = .ok (.dup, 1) := by decide +kernel
theorem d2_30 : decode jdk_42_method_139_code 30 = .ok (.iload_n 0, 1) := by decide +kernel
theorem d2_31 : decode jdk_42_method_139_code 31 = .ok (.invokestatic 1021, 3) := by decide +kernel
theorem d2_34 : decode jdk_42_method_139_code 34 = .ok (.iconst 1, 1) := by decide +kernel
theorem d2_35 : decode jdk_42_method_139_code 35 = .ok (.invokespecial 209, 3) := by decide +kernel
theorem d2_38 : decode jdk_42_method_139_code 38 = .ok (.areturn, 1) := by decide +kernel
theorem ef_2u (m : MethodId) (x0 : Int32) : entryFrame m #[(.int x0)] 1 = mkF m 0 #[.val (.int x0)] [] := by first | (simp [entryFrame, mkF, argsToLocals, Value.category]; done) | rfl
def Q2u (Z : State) (p0 : Int32) (cs : Int32) (h0 : Heap) (n0 : Nat) (v : Option Value) (h : Heap) (L : List Loc) : Prop := ∃ (r : Addr) (b : Addr) (k : ClassId), v = some (.ref r) ∧ Fr n0 L ∧ Keep h0 h [] ∧ Exa Z h r "java/lang/String" ∧ Fld Z h r "java/lang/String" "value" "[B" (.ref b) ∧ Fld Z h r "java/lang/String" "coder" "B" (.int (1 : Int32)) ∧ Arv Z h b k .byte (2 : Int32) [.int (((p0 >>> ((0 : Int32) &&& 31)).toInt8.toInt32).toInt8.toInt32), .int (((p0 >>> ((8 : Int32) &&& 31)).toInt8.toInt32).toInt8.toInt32)] (.int (0 : Int32)) ∧ n0 ≤ r ∧ h0.size ≤ r ∧ n0 ≤ b ∧ h0.size ≤ b ∧ r ≠ b
set_option maxRecDepth 65536 in
set_option maxHeartbeats 40000000 in
theorem rm2u (l : Launch) (Z : State) (a0 : Array Value) (hw : ∀ d ∈ tables_1, d.before a0 Z = true) (ws : List Jvm.Cond) (p0 : Int32) (cs : Int32) (h0 : Heap) (n0 : Nat) (Z0 : n0 ≤ h0.size) (S_cs : Sta Z h0 "java/lang/String" "COMPACT_STRINGS" "Z" (.int cs)) (hcs : ¬ (cs = (0 : Int32))) (hp : (255 : Int32) < p0) (S_ad : Sta Z h0 "java/lang/StringUTF16" "$assertionsDisabled" "Z" (.int (1 : Int32))) (S_hi : Sta Z h0 "java/lang/StringUTF16" "HI_BYTE_SHIFT" "I" (.int (0 : Int32))) (S_lo : Sta Z h0 "java/lang/StringUTF16" "LO_BYTE_SHIFT" "I" (.int (8 : Int32))) :
    MetFree l (⟨"java/lang/String", "valueOf", "(C)Ljava/lang/String;"⟩ : MethodName) (head1 (Jvm.Cond.code (⟨"java/lang/String", "valueOf", "(C)Ljava/lang/String;"⟩ : MethodName) jdk_42_method_139_code 1 (some (.object "java/lang/String")) :: ws) ({ frames := 2, cells := 2, slots := 6, locals := 29 } : Room)) (fun a U => a = #[(.int p0)] ∧ Z.Warmed39 U.vm ∧ U.heap = h0) (fun _ _ _ _ _ => True) (fun _ U o U' => ∃ v L, o = .returned v ∧ Q2u Z p0 cs h0 n0 v U'.heap L ∧ FrameEnd U o U' L ({ frames := 2, cells := 2, slots := 6, locals := 29 } : Room).cells ({ frames := 2, cells := 2, slots := 6, locals := 29 } : Room).slots) := by
  refine MetFree.of_bodySF (plainFor_of_name pn_2) hisR ?_
  intro p e s m args below meth c s₁ Bd hml0 hP hK
  obtain ⟨rfl, hZ, hh⟩ := hP
  have hx := Bd.exec
  have hby := Bd.bytes
  have hml : c.maxLocals = 1 := hml0
  have hown : s.vm.findClass "java/lang/String" = some m.cls := findClass_of_methodNamed Bd.named
  have hnm := (name_of_methodNamed Bd.named Bd.method).1
  have X0 : Stand p l e ({ frames := 2, cells := 2, slots := 6, locals := 29 } : Room) s m #[(.int p0)] below meth c s₁ [] 0 0 := Stand.of_body Bd
  have e0 : s₁.heap = h0 := by rw [← hh, Bd.state]; rfl
  have N0 := Fr.nil n0
  have hret := Bd.returns
  have hlk := BodyLoose.notSynchronized Bd
  show own_Out p e below (fun o U' => ∃ v L, o = .returned v ∧ Q2u Z p0 cs h0 n0 v U'.heap L ∧ FrameEnd s o U' L ({ frames := 2, cells := 2, slots := 6, locals := 29 } : Room).cells ({ frames := 2, cells := 2, slots := 6, locals := 29 } : Room).slots) (s₁.setTop (entryFrame m #[(.int p0)] 1))
  refine own_of (fun t k => castTop (ef_2u m p0) k) ?_
  show own_Out p e below _ (s₁.setTop (mkF m 0 #[.val (.int p0)] []))
  obtain ⟨T1, X1, e1, st1⟩ := getS2 X0 hx hZ hown (host := "") (Or.inl (hw _ (List.mem_of_getElem? (i := 9) rfl))) Via.refl e0 S_cs (g := (mkF m 0 #[.val (.int p0)] [])) rfl (hb hby d2_0)
  refine own_of st1 ?_
  show own_Out p e below _ (T1.setTop (mkF m 3 #[.val (.int p0)] [(.int cs)]))
  refine own_of (fun _ k => XS.ifNo X1.here hx rfl (hb hby d2_3) rfl ((if0 _ _).trans (feq hcs).1) k) ?_
  show own_Out p e below _ (T1.setTop (mkF m 6 #[.val (.int p0)] []))
  refine own_of (fun _ k => XS.iloadN X1.here hx rfl (hb hby d2_6) rfl k) ?_
  show own_Out p e below _ (T1.setTop (mkF m 7 #[.val (.int p0)] [(.int p0)]))
  obtain ⟨_, _, ⟨T2, L2, k2, n2⟩, -, X2, ⟨Lc2, hQ2, l2, y2, z2⟩, st2⟩ := Jvm.LawKit.callS X1 hx (y := (⟨"java/lang/StringLatin1", "canEncode", "(C)Z"⟩ : MethodName)) hown (mvT hZ (hw _ (List.mem_of_getElem? (i := 10) rfl))) (mvT hZ (hw _ (List.mem_of_getElem? (i := 11) rfl))) (mvT hZ (hw _ (List.mem_of_getElem? (i := 12) rfl))) (mvT hZ (hw _ (List.mem_of_getElem? (i := 13) rfl))) (by decide) (backOf (W := 0) (rm3u l Z a0 hw [] p0 h0 n0 Z0 hp) hZ (hw _ (List.mem_of_getElem? (i := 13) rfl)) (hw _ (List.mem_of_getElem? (i := 12) rfl)) (by decide) (by decide)) (g := (mkF m 7 #[.val (.int p0)] [(.int p0)])) rfl (by rw [hml]; rfl) (argsL := [(.int p0)]) (rest := []) (lenOf pd_0 rfl) rfl (by show 2 * 0 + _ ≤ _; exact Nat.le_of_eq rfl) (hb hby d2_7) (fun _ _ => ⟨rfl, e1, (by decide : 0 + 0 ≤ _), (by decide : 0 + 0 ≤ _)⟩)
  dsimp only [Pt.U, Pt.locs, Pt.cells, Pt.slots] at X2 l2 y2 z2 st2 hQ2
  subst l2 y2 z2
  obtain ⟨rfl, N2q, hh2⟩ := hQ2
  have N2 := Fr.app N0 N2q
  refine own_of st2 ?_
  show own_Out p e below _ (T2.setTop (mkF m 10 #[.val (.int p0)] [(.int (0 : Int32))]))
  refine own_of (fun _ k => XS.ifYes X2.here hx rfl (pc0 := 10) (pc' := 26) rfl (hb hby d2_10) rfl ((if0 _ _).trans (teq (by decide : (0 : Int32) = (0 : Int32))).1) (by decide) (by decide) k) ?_
  show own_Out p e below _ (T2.setTop (mkF m 26 #[.val (.int p0)] []))
  obtain ⟨T3, h3, X3, e3, E3, A3, D3, -, st3⟩ := newO X2 hx hZ hown (hw _ (List.mem_of_getElem? (i := 14) rfl)) (hw _ (List.mem_of_getElem? (i := 15) rfl)) (hw _ (List.mem_of_getElem? (i := 7) rfl)) hh2 (g := (mkF m 26 #[.val (.int p0)] [])) rfl (hb hby d2_26) (by decide) (by decide)
  obtain ⟨b3, g3⟩ : ∃ z, z = h0.size := ⟨_, rfl⟩
  rw [← g3] at A3 D3 st3
  have g_b3 : n0 ≤ b3 := Nat.le_trans Z0 (Nat.le_of_eq g3.symm)
  have sz_b3 : h0.size ≤ b3 := Nat.le_trans (Keep.refl h0 []).1 (Nat.le_of_eq g3.symm)
  have Zl3 : n0 ≤ h3.size := Nat.le_trans Z0 E3.1
  have Kp3 := (Keep.refl h0 []).ext E3
  have S_java_lang_String_COMPACT_STRINGS_3 := S_cs.ext E3
  have S_java_lang_StringUTF16__assertionsDisabled_3 := S_ad.ext E3
  have S_java_lang_StringUTF16_HI_BYTE_SHIFT_3 := S_hi.ext E3
  have S_java_lang_StringUTF16_LO_BYTE_SHIFT_3 := S_lo.ext E3
  have F_b3_value : Fld Z h3 b3 "java/lang/String" "value" "[B" .null := D3 (Or.inr (hw _ (List.mem_of_getElem? (i := 28) rfl))) (ty := (.array .byte)) (by decide)
  have F_b3_coder : Fld Z h3 b3 "java/lang/String" "coder" "B" (.int (0 : Int32)) := D3 (Or.inr (hw _ (List.mem_of_getElem? (i := 30) rfl))) (ty := .byte) (by decide)
  refine own_of st3 ?_
  show own_Out p e below _ (T3.setTop (mkF m 29 #[.val (.int p0)] [(.ref b3)]))
  refine own_of (fun _ k => XS.dup X3.here hx rfl (hb hby d2_29) rfl rfl k) ?_
  show own_Out p e below _ (T3.setTop (mkF m 30 #[.val (.int p0)] [(.ref b3), (.ref b3)]))
  refine own_of (fun _ k => XS.iloadN X3.here hx rfl (hb hby d2_30) rfl k) ?_
  show own_Out p e below _ (T3.setTop (mkF m 31 #[.val (.int p0)] [(.int p0), (.ref b3), (.ref b3)]))
  obtain ⟨_, _, ⟨T4, L4, k4, n4⟩, -, X4, ⟨Lc4, hQ4, l4, y4, z4⟩, st4⟩ := Jvm.LawKit.callS X3 hx (y := (⟨"java/lang/StringUTF16", "toBytes", "(C)[B"⟩ : MethodName)) hown (mvT hZ (hw _ (List.mem_of_getElem? (i := 74) rfl))) (mvT hZ (hw _ (List.mem_of_getElem? (i := 75) rfl))) (mvT hZ (hw _ (List.mem_of_getElem? (i := 76) rfl))) (mvT hZ (hw _ (List.mem_of_getElem? (i := 77) rfl))) (by decide) (backOf (W := 2) (rm17 l Z a0 hw [] p0 h3 n0 Zl3 S_java_lang_StringUTF16__assertionsDisabled_3 S_java_lang_StringUTF16_HI_BYTE_SHIFT_3 S_java_lang_StringUTF16_LO_BYTE_SHIFT_3) hZ (hw _ (List.mem_of_getElem? (i := 77) rfl)) (hw _ (List.mem_of_getElem? (i := 76) rfl)) (by decide) (by decide)) (g := (mkF m 31 #[.val (.int p0)] [(.int p0), (.ref b3), (.ref b3)])) rfl (by rw [hml]; rfl) (argsL := [(.int p0)]) (rest := [(.ref b3), (.ref b3)]) (lenOf pd_1 rfl) rfl (by show 2 * 0 + _ ≤ _; exact Nat.le_of_eq rfl) (hb hby d2_31) (fun _ _ => ⟨rfl, e3, (by decide : 1 + 1 ≤ _), (by decide : 4 + 2 ≤ _)⟩)
  dsimp only [Pt.U, Pt.locs, Pt.cells, Pt.slots] at X4 l4 y4 z4 st4 hQ4
  subst l4 y4 z4
  obtain ⟨b4, k4, rfl, N4q, K4, V4, hgb_4, hsb_4⟩ := hQ4
  have N4 := Fr.app N2 N4q
  have ne_b3_b4 : b3 ≠ b4 := Nat.ne_of_lt (Nat.lt_of_lt_of_le A3.lt hsb_4)
  have sz_b4 : h0.size ≤ b4 := Nat.le_trans Kp3.1 hsb_4
  have S_java_lang_String_COMPACT_STRINGS_K4 := own_staK0 S_java_lang_String_COMPACT_STRINGS_3 K4
  have S_java_lang_StringUTF16__assertionsDisabled_K4 := own_staK0 S_java_lang_StringUTF16__assertionsDisabled_3 K4
  have S_java_lang_StringUTF16_HI_BYTE_SHIFT_K4 := own_staK0 S_java_lang_StringUTF16_HI_BYTE_SHIFT_3 K4
  have S_java_lang_StringUTF16_LO_BYTE_SHIFT_K4 := own_staK0 S_java_lang_StringUTF16_LO_BYTE_SHIFT_3 K4
  have E_b3_K4 := A3.keep K4
  have F_b3_value_K4 := F_b3_value.keep K4 nin0
  have F_b3_coder_K4 := F_b3_coder.keep K4 nin0
  have Zl4 : n0 ≤ T4.heap.size := Nat.le_trans Zl3 K4.1
  have Kp4 := Kp3.trans K4 all0
  refine own_of st4 ?_
  show own_Out p e below _ (T4.setTop (mkF m 34 #[.val (.int p0)] [(.ref b4), (.ref b3), (.ref b3)]))
  refine own_of (fun _ k => XS.iconst X4.here hx rfl (hb hby d2_34) k) ?_
  show own_Out p e below _ (T4.setTop (mkF m 35 #[.val (.int p0)] [(.int (1 : Int32)), (.ref b4), (.ref b3), (.ref b3)]))
  obtain ⟨_, _, ⟨T5, L5, k5, n5⟩, -, X5, ⟨Lc5, hQ5, l5, y5, z5⟩, st5⟩ := X4.specialBack hx (y := (⟨"java/lang/String", "<init>", "([BB)V"⟩ : MethodName)) rfl hown (mvT hZ (hw _ (List.mem_of_getElem? (i := 20) rfl))) (mvT hZ (hw _ (List.mem_of_getElem? (i := 21) rfl))) (mvT hZ (hw _ (List.mem_of_getElem? (i := 23) rfl))) (by decide) (backOf (W := 1) (rm5c1 l Z a0 hw [] b3 b4 T4.heap n0 Zl4 E_b3_K4 F_b3_value_K4 F_b3_coder_K4 g_b3) hZ (hw _ (List.mem_of_getElem? (i := 23) rfl)) (hw _ (List.mem_of_getElem? (i := 7) rfl)) (by decide) (by decide)) (g := (mkF m 35 #[.val (.int p0)] [(.int (1 : Int32)), (.ref b4), (.ref b3), (.ref b3)])) rfl (by rw [hml]; rfl) (Steps.refl _) (a := b3) (argsL := [(.ref b4), (.int (1 : Int32))]) (rest := [(.ref b3)]) (lenOf pd_2 rfl) rfl (by show 2 * 0 + _ ≤ _; exact Nat.le_of_eq rfl) (hb hby d2_35) (fun _ _ => ⟨rfl, rfl, (by decide : 2 + 0 ≤ _), (by decide : 6 + 0 ≤ _)⟩)
  dsimp only [Pt.U, Pt.locs, Pt.cells, Pt.slots] at X5 l5 y5 z5 st5 hQ5
  subst l5 y5 z5
  obtain ⟨rfl, N5q, K5, E5, F5_value, F5_coder⟩ := hQ5
  have N5 := Fr.app N4 N5q
  have S_java_lang_String_COMPACT_STRINGS_K5 := own_staK1 S_java_lang_String_COMPACT_STRINGS_K4 K5 (own_plainE E_b3_K4)
  have S_java_lang_StringUTF16__assertionsDisabled_K5 := own_staK1 S_java_lang_StringUTF16__assertionsDisabled_K4 K5 (own_plainE E_b3_K4)
  have S_java_lang_StringUTF16_HI_BYTE_SHIFT_K5 := own_staK1 S_java_lang_StringUTF16_HI_BYTE_SHIFT_K4 K5 (own_plainE E_b3_K4)
  have S_java_lang_StringUTF16_LO_BYTE_SHIFT_K5 := own_staK1 S_java_lang_StringUTF16_LO_BYTE_SHIFT_K4 K5 (own_plainE E_b3_K4)
  have V_b4_K5 := V4.keep K5 (ninS (Ne.symm ne_b3_b4) nin0)
  have Zl5 : n0 ≤ T5.heap.size := Nat.le_trans Zl4 K5.1
  have Kp5 := Kp4.trans K5 (allS (Or.inr sz_b3) all0)
  refine own_of (fun _ k => st5.trans k) ?_
  show own_Out p e below _ (T5.setTop (mkF m 38 #[.val (.int p0)] [(.ref b3)]))
  exact own_outR X5 hx hlk hret rfl rfl rfl (hb hby d2_38) (Q := Q2u Z p0 cs h0 n0) ⟨b3, b4, k4, rfl, N5, Kp5, E5, F5_value, F5_coder, V_b4_K5, g_b3, sz_b3, hgb_4, sz_b4, ne_b3_b4⟩ (by decide) (by decide)
theorem d8_0 : decode jdk_42_method_55_code 0 = .ok (.aload_n 0, 1) := by decide +kernel
theorem d8_1 : decode jdk_42_method_55_code 1 = .ok (.getfield 9, 3) := by decide +kernel
theorem d8_4 : decode jdk_42_method_55_code 4 = .ok (.arraylength, 1) := by decide +kernel
theorem d8_5 : decode jdk_42_method_55_code 5 = .ok (.ifCond .ne 7, 3) := by decide +kernel
theorem d8_12 : decode jdk_42_method_55_code 12 = .ok (.iconst 0, 1) := by decide +kernel
theorem d8_13 : decode jdk_42_method_55_code 13 = .ok (.ireturn, 1) := by decide +kernel
theorem ef_8c0n1 (m : MethodId) (x0 : Addr) : entryFrame m #[(.ref x0)] 1 = mkF m 0 #[.val (.ref x0)] [] := by first | (simp [entryFrame, mkF, argsToLocals, Value.category]; done) | rfl
def Q8c0n1 (Z : State) (o0 : Addr) (ob : Addr) (k : ClassId) (b0 : Int32) (cs : Int32) (h0 : Heap) (n0 : Nat) (v : Option Value) (h : Heap) (L : List Loc) : Prop := v = some (.int (0 : Int32)) ∧ Fr n0 L ∧ h = h0
set_option maxRecDepth 65536 in
set_option maxHeartbeats 40000000 in
theorem rm8c0n1 (l : Launch) (Z : State) (a0 : Array Value) (hw : ∀ d ∈ tables_1, d.before a0 Z = true) (ws : List Jvm.Cond) (o0 : Addr) (ob : Addr) (k : ClassId) (b0 : Int32) (cs : Int32) (h0 : Heap) (n0 : Nat) (Z0 : n0 ≤ h0.size) (E : Exa Z h0 o0 "java/lang/String") (Fv : Fld Z h0 o0 "java/lang/String" "value" "[B" (.ref ob)) (Fc : Fld Z h0 o0 "java/lang/String" "coder" "B" (.int (0 : Int32))) (V : Arv Z h0 ob k .byte (1 : Int32) [(.int b0)] (.int (0 : Int32))) (S_cs : Sta Z h0 "java/lang/String" "COMPACT_STRINGS" "Z" (.int cs)) (hcs : ¬ (cs = (0 : Int32))) :
    MetFree l (⟨"java/lang/String", "isEmpty", "()Z"⟩ : MethodName) (head1 (Jvm.Cond.code (⟨"java/lang/String", "isEmpty", "()Z"⟩ : MethodName) jdk_42_method_55_code 1 (some .boolean) :: ws) ({ frames := 0, cells := 0, slots := 0, locals := 0 } : Room)) (fun a U => a = #[(.ref o0)] ∧ Z.Warmed39 U.vm ∧ U.heap = h0) (fun _ _ _ _ _ => True) (fun _ U o U' => ∃ v L, o = .returned v ∧ Q8c0n1 Z o0 ob k b0 cs h0 n0 v U'.heap L ∧ FrameEnd U o U' L ({ frames := 0, cells := 0, slots := 0, locals := 0 } : Room).cells ({ frames := 0, cells := 0, slots := 0, locals := 0 } : Room).slots) := by
  refine MetFree.of_bodySF (plainFor_of_name pn_2) hisR ?_
  intro p e s m args below meth c s₁ Bd hml0 hP hK
  obtain ⟨rfl, hZ, hh⟩ := hP
  have hx := Bd.exec
  have hby := Bd.bytes
  have hml : c.maxLocals = 1 := hml0
  have hown : s.vm.findClass "java/lang/String" = some m.cls := findClass_of_methodNamed Bd.named
  have hnm := (name_of_methodNamed Bd.named Bd.method).1
  have X0 : Stand p l e ({ frames := 0, cells := 0, slots := 0, locals := 0 } : Room) s m #[(.ref o0)] below meth c s₁ [] 0 0 := Stand.of_body Bd
  have e0 : s₁.heap = h0 := by rw [← hh, Bd.state]; rfl
  have N0 := Fr.nil n0
  have hret := Bd.returns
  have hlk := BodyLoose.notSynchronized Bd
  show own_Out p e below (fun o U' => ∃ v L, o = .returned v ∧ Q8c0n1 Z o0 ob k b0 cs h0 n0 v U'.heap L ∧ FrameEnd s o U' L ({ frames := 0, cells := 0, slots := 0, locals := 0 } : Room).cells ({ frames := 0, cells := 0, slots := 0, locals := 0 } : Room).slots) (s₁.setTop (entryFrame m #[(.ref o0)] 1))
  refine own_of (fun t k => castTop (ef_8c0n1 m o0) k) ?_
  show own_Out p e below _ (s₁.setTop (mkF m 0 #[.val (.ref o0)] []))
  refine own_of (fun _ k => XS.aloadN X0.here hx rfl (hb hby d8_0) rfl rfl k) ?_
  show own_Out p e below _ (s₁.setTop (mkF m 1 #[.val (.ref o0)] [(.ref o0)]))
  obtain ⟨T1, X1, e1, st1⟩ := getF X0 hx hZ hown (host := "") (Or.inl (hw _ (List.mem_of_getElem? (i := 27) rfl))) Via.refl e0 Fv (g := (mkF m 1 #[.val (.ref o0)] [(.ref o0)])) rfl rfl (hb hby d8_1)
  refine own_of st1 ?_
  show own_Out p e below _ (T1.setTop (mkF m 4 #[.val (.ref o0)] [(.ref ob)]))
  obtain ⟨cl2, Ar2, q2, S2, N2', H2, G2⟩ := id V
  refine own_of (X1.arraylength hx (by rw [e1]; exact Ar2.1) (State.isArrayOf_alike hZ.alike Ar2.2.1) (g := (mkF m 4 #[.val (.ref o0)] [(.ref ob)])) rfl rfl (hb hby d8_4)) ?_
  rw [len_of S2 N2']
  show own_Out p e below _ (T1.setTop (mkF m 5 #[.val (.ref o0)] [(.int (1 : Int32))]))
  refine own_of (fun _ k => XS.ifYes X1.here hx rfl (pc0 := 5) (pc' := 12) rfl (hb hby d8_5) rfl ((if0 _ _).trans (feq (by decide : ¬ ((1 : Int32) = (0 : Int32)))).2) (by decide) (by decide) k) ?_
  show own_Out p e below _ (T1.setTop (mkF m 12 #[.val (.ref o0)] []))
  refine own_of (fun _ k => XS.iconst X1.here hx rfl (hb hby d8_12) k) ?_
  show own_Out p e below _ (T1.setTop (mkF m 13 #[.val (.ref o0)] [(.int (0 : Int32))]))
  exact own_outN X1 hx hlk (t := .boolean) hret (by simp) (hb hby d8_13) (z' := (0 : Int32)) rfl (Q := Q8c0n1 Z o0 ob k b0 cs h0 n0) ⟨rfl, N0, e1⟩ (by decide) (by decide)
theorem d16_0 : decode jdk_42_method_152_code 0 = .ok (.getstatic 38, 3) := by decide +kernel
theorem d16_3 : decode jdk_42_method_152_code 3 = .ok (.ifCond .eq 10, 3) := by decide +kernel
theorem d16_6 : decode jdk_42_method_152_code 6 = .ok (.aload_n 0, 1) := by decide +kernel
theorem d16_7 : decode jdk_42_method_152_code 7 = .ok (.getfield 15, 3) := by decide +kernel
theorem d16_10 : decode jdk_42_method_152_code 10 = .ok (.goto 4, 3) := by decide +kernel
theorem d16_14 : decode jdk_42_method_152_code 14 = .ok (.ireturn, 1) := by decide +kernel
theorem ef_16c0n1 (m : MethodId) (x0 : Addr) : entryFrame m #[(.ref x0)] 1 = mkF m 0 #[.val (.ref x0)] [] := by first | (simp [entryFrame, mkF, argsToLocals, Value.category]; done) | rfl
def Q16c0n1 (Z : State) (o0 : Addr) (ob : Addr) (k : ClassId) (b0 : Int32) (cs : Int32) (h0 : Heap) (n0 : Nat) (v : Option Value) (h : Heap) (L : List Loc) : Prop := v = some (.int (0 : Int32)) ∧ Fr n0 L ∧ h = h0
set_option maxRecDepth 65536 in
set_option maxHeartbeats 40000000 in
theorem rm16c0n1 (l : Launch) (Z : State) (a0 : Array Value) (hw : ∀ d ∈ tables_1, d.before a0 Z = true) (ws : List Jvm.Cond) (o0 : Addr) (ob : Addr) (k : ClassId) (b0 : Int32) (cs : Int32) (h0 : Heap) (n0 : Nat) (Z0 : n0 ≤ h0.size) (E : Exa Z h0 o0 "java/lang/String") (Fv : Fld Z h0 o0 "java/lang/String" "value" "[B" (.ref ob)) (Fc : Fld Z h0 o0 "java/lang/String" "coder" "B" (.int (0 : Int32))) (V : Arv Z h0 ob k .byte (1 : Int32) [(.int b0)] (.int (0 : Int32))) (S_cs : Sta Z h0 "java/lang/String" "COMPACT_STRINGS" "Z" (.int cs)) (hcs : ¬ (cs = (0 : Int32))) :
    MetFree l (⟨"java/lang/String", "coder", "()B"⟩ : MethodName) (head1 (Jvm.Cond.code (⟨"java/lang/String", "coder", "()B"⟩ : MethodName) jdk_42_method_152_code 1 (some .byte) :: ws) ({ frames := 0, cells := 0, slots := 0, locals := 0 } : Room)) (fun a U => a = #[(.ref o0)] ∧ Z.Warmed39 U.vm ∧ U.heap = h0) (fun _ _ _ _ _ => True) (fun _ U o U' => ∃ v L, o = .returned v ∧ Q16c0n1 Z o0 ob k b0 cs h0 n0 v U'.heap L ∧ FrameEnd U o U' L ({ frames := 0, cells := 0, slots := 0, locals := 0 } : Room).cells ({ frames := 0, cells := 0, slots := 0, locals := 0 } : Room).slots) := by
  refine MetFree.of_bodySF (plainFor_of_name pn_2) hisR ?_
  intro p e s m args below meth c s₁ Bd hml0 hP hK
  obtain ⟨rfl, hZ, hh⟩ := hP
  have hx := Bd.exec
  have hby := Bd.bytes
  have hml : c.maxLocals = 1 := hml0
  have hown : s.vm.findClass "java/lang/String" = some m.cls := findClass_of_methodNamed Bd.named
  have hnm := (name_of_methodNamed Bd.named Bd.method).1
  have X0 : Stand p l e ({ frames := 0, cells := 0, slots := 0, locals := 0 } : Room) s m #[(.ref o0)] below meth c s₁ [] 0 0 := Stand.of_body Bd
  have e0 : s₁.heap = h0 := by rw [← hh, Bd.state]; rfl
  have N0 := Fr.nil n0
  have hret := Bd.returns
  have hlk := BodyLoose.notSynchronized Bd
  show own_Out p e below (fun o U' => ∃ v L, o = .returned v ∧ Q16c0n1 Z o0 ob k b0 cs h0 n0 v U'.heap L ∧ FrameEnd s o U' L ({ frames := 0, cells := 0, slots := 0, locals := 0 } : Room).cells ({ frames := 0, cells := 0, slots := 0, locals := 0 } : Room).slots) (s₁.setTop (entryFrame m #[(.ref o0)] 1))
  refine own_of (fun t k => castTop (ef_16c0n1 m o0) k) ?_
  show own_Out p e below _ (s₁.setTop (mkF m 0 #[.val (.ref o0)] []))
  obtain ⟨T1, X1, e1, st1⟩ := getS2 X0 hx hZ hown (host := "") (Or.inl (hw _ (List.mem_of_getElem? (i := 9) rfl))) Via.refl e0 S_cs (g := (mkF m 0 #[.val (.ref o0)] [])) rfl (hb hby d16_0)
  refine own_of st1 ?_
  show own_Out p e below _ (T1.setTop (mkF m 3 #[.val (.ref o0)] [(.int cs)]))
  refine own_of (fun _ k => XS.ifNo X1.here hx rfl (hb hby d16_3) rfl ((if0 _ _).trans (feq hcs).1) k) ?_
  show own_Out p e below _ (T1.setTop (mkF m 6 #[.val (.ref o0)] []))
  refine own_of (fun _ k => XS.aloadN X1.here hx rfl (hb hby d16_6) rfl rfl k) ?_
  show own_Out p e below _ (T1.setTop (mkF m 7 #[.val (.ref o0)] [(.ref o0)]))
  obtain ⟨T2, X2, e2, st2⟩ := getF X1 hx hZ hown (host := "") (Or.inl (hw _ (List.mem_of_getElem? (i := 29) rfl))) Via.refl e1 Fc (g := (mkF m 7 #[.val (.ref o0)] [(.ref o0)])) rfl rfl (hb hby d16_7)
  refine own_of st2 ?_
  show own_Out p e below _ (T2.setTop (mkF m 10 #[.val (.ref o0)] [(.int (0 : Int32))]))
  refine own_of (fun _ k => XS.goto X2.here hx rfl (pc0 := 10) (pc' := 14) rfl (hb hby d16_10) (by decide) (by decide) k) ?_
  show own_Out p e below _ (T2.setTop (mkF m 14 #[.val (.ref o0)] [(.int (0 : Int32))]))
  exact own_outN X2 hx hlk (t := .byte) hret (by simp) (hb hby d16_14) (z' := (0 : Int32)) rfl (Q := Q16c0n1 Z o0 ob k b0 cs h0 n0) ⟨rfl, N0, e2⟩ (by decide) (by decide)
theorem d10_0 : decode jdk_42_method_154_code 0 = .ok (.getstatic 38, 3) := by decide +kernel
theorem d10_3 : decode jdk_42_method_154_code 3 = .ok (.ifCond .eq 14, 3) := by decide +kernel
theorem d10_6 : decode jdk_42_method_154_code 6 = .ok (.aload_n 0, 1) := by decide +kernel
theorem d10_7 : decode jdk_42_method_154_code 7 = .ok (.getfield 15, 3) := by decide +kernel
theorem d10_10 : decode jdk_42_method_154_code 10 = .ok (.ifCond .ne 7, 3) := by decide +kernel
theorem d10_13 : decode jdk_42_method_154_code 13 = .ok (.iconst 1, 1) := by decide +kernel
theorem d10_14 : decode jdk_42_method_154_code 14 = .ok (.goto 4, 3) := by decide +kernel
theorem d10_18 : decode jdk_42_method_154_code 18 = .ok (.ireturn, 1) := by decide +kernel
theorem ef_10c0n1 (m : MethodId) (x0 : Addr) : entryFrame m #[(.ref x0)] 1 = mkF m 0 #[.val (.ref x0)] [] := by first | (simp [entryFrame, mkF, argsToLocals, Value.category]; done) | rfl
def Q10c0n1 (Z : State) (o0 : Addr) (ob : Addr) (k : ClassId) (b0 : Int32) (cs : Int32) (h0 : Heap) (n0 : Nat) (v : Option Value) (h : Heap) (L : List Loc) : Prop := v = some (.int (1 : Int32)) ∧ Fr n0 L ∧ h = h0
set_option maxRecDepth 65536 in
set_option maxHeartbeats 40000000 in
theorem rm10c0n1 (l : Launch) (Z : State) (a0 : Array Value) (hw : ∀ d ∈ tables_1, d.before a0 Z = true) (ws : List Jvm.Cond) (o0 : Addr) (ob : Addr) (k : ClassId) (b0 : Int32) (cs : Int32) (h0 : Heap) (n0 : Nat) (Z0 : n0 ≤ h0.size) (E : Exa Z h0 o0 "java/lang/String") (Fv : Fld Z h0 o0 "java/lang/String" "value" "[B" (.ref ob)) (Fc : Fld Z h0 o0 "java/lang/String" "coder" "B" (.int (0 : Int32))) (V : Arv Z h0 ob k .byte (1 : Int32) [(.int b0)] (.int (0 : Int32))) (S_cs : Sta Z h0 "java/lang/String" "COMPACT_STRINGS" "Z" (.int cs)) (hcs : ¬ (cs = (0 : Int32))) :
    MetFree l (⟨"java/lang/String", "isLatin1", "()Z"⟩ : MethodName) (head1 (Jvm.Cond.code (⟨"java/lang/String", "isLatin1", "()Z"⟩ : MethodName) jdk_42_method_154_code 1 (some .boolean) :: ws) ({ frames := 0, cells := 0, slots := 0, locals := 0 } : Room)) (fun a U => a = #[(.ref o0)] ∧ Z.Warmed39 U.vm ∧ U.heap = h0) (fun _ _ _ _ _ => True) (fun _ U o U' => ∃ v L, o = .returned v ∧ Q10c0n1 Z o0 ob k b0 cs h0 n0 v U'.heap L ∧ FrameEnd U o U' L ({ frames := 0, cells := 0, slots := 0, locals := 0 } : Room).cells ({ frames := 0, cells := 0, slots := 0, locals := 0 } : Room).slots) := by
  refine MetFree.of_bodySF (plainFor_of_name pn_2) hisR ?_
  intro p e s m args below meth c s₁ Bd hml0 hP hK
  obtain ⟨rfl, hZ, hh⟩ := hP
  have hx := Bd.exec
  have hby := Bd.bytes
  have hml : c.maxLocals = 1 := hml0
  have hown : s.vm.findClass "java/lang/String" = some m.cls := findClass_of_methodNamed Bd.named
  have hnm := (name_of_methodNamed Bd.named Bd.method).1
  have X0 : Stand p l e ({ frames := 0, cells := 0, slots := 0, locals := 0 } : Room) s m #[(.ref o0)] below meth c s₁ [] 0 0 := Stand.of_body Bd
  have e0 : s₁.heap = h0 := by rw [← hh, Bd.state]; rfl
  have N0 := Fr.nil n0
  have hret := Bd.returns
  have hlk := BodyLoose.notSynchronized Bd
  show own_Out p e below (fun o U' => ∃ v L, o = .returned v ∧ Q10c0n1 Z o0 ob k b0 cs h0 n0 v U'.heap L ∧ FrameEnd s o U' L ({ frames := 0, cells := 0, slots := 0, locals := 0 } : Room).cells ({ frames := 0, cells := 0, slots := 0, locals := 0 } : Room).slots) (s₁.setTop (entryFrame m #[(.ref o0)] 1))
  refine own_of (fun t k => castTop (ef_10c0n1 m o0) k) ?_
  show own_Out p e below _ (s₁.setTop (mkF m 0 #[.val (.ref o0)] []))
  obtain ⟨T1, X1, e1, st1⟩ := getS2 X0 hx hZ hown (host := "") (Or.inl (hw _ (List.mem_of_getElem? (i := 9) rfl))) Via.refl e0 S_cs (g := (mkF m 0 #[.val (.ref o0)] [])) rfl (hb hby d10_0)
  refine own_of st1 ?_
  show own_Out p e below _ (T1.setTop (mkF m 3 #[.val (.ref o0)] [(.int cs)]))
  refine own_of (fun _ k => XS.ifNo X1.here hx rfl (hb hby d10_3) rfl ((if0 _ _).trans (feq hcs).1) k) ?_
  show own_Out p e below _ (T1.setTop (mkF m 6 #[.val (.ref o0)] []))
  refine own_of (fun _ k => XS.aloadN X1.here hx rfl (hb hby d10_6) rfl rfl k) ?_
  show own_Out p e below _ (T1.setTop (mkF m 7 #[.val (.ref o0)] [(.ref o0)]))
  obtain ⟨T2, X2, e2, st2⟩ := getF X1 hx hZ hown (host := "") (Or.inl (hw _ (List.mem_of_getElem? (i := 29) rfl))) Via.refl e1 Fc (g := (mkF m 7 #[.val (.ref o0)] [(.ref o0)])) rfl rfl (hb hby d10_7)
  refine own_of st2 ?_
  show own_Out p e below _ (T2.setTop (mkF m 10 #[.val (.ref o0)] [(.int (0 : Int32))]))
  refine own_of (fun _ k => XS.ifNo X2.here hx rfl (hb hby d10_10) rfl ((if0 _ _).trans (teq (by decide : (0 : Int32) = (0 : Int32))).2) k) ?_
  show own_Out p e below _ (T2.setTop (mkF m 13 #[.val (.ref o0)] []))
  refine own_of (fun _ k => XS.iconst X2.here hx rfl (hb hby d10_13) k) ?_
  show own_Out p e below _ (T2.setTop (mkF m 14 #[.val (.ref o0)] [(.int (1 : Int32))]))
  refine own_of (fun _ k => XS.goto X2.here hx rfl (pc0 := 14) (pc' := 18) rfl (hb hby d10_14) (by decide) (by decide) k) ?_
  show own_Out p e below _ (T2.setTop (mkF m 18 #[.val (.ref o0)] [(.int (1 : Int32))]))
  exact own_outN X2 hx hlk (t := .boolean) hret (by simp) (hb hby d10_18) (z' := (1 : Int32)) rfl (Q := Q10c0n1 Z o0 ob k b0 cs h0 n0) ⟨rfl, N0, e2⟩ (by decide) (by decide)
theorem pd_4 : parseMethodDescriptor "()B" = some ⟨[], some .byte⟩ := by decide +kernel
theorem d15_0 : decode jdk_42_method_54_code 0 = .ok (.aload_n 0, 1) := by decide +kernel
theorem d15_1 : decode jdk_42_method_54_code 1 = .ok (.getfield 9, 3) := by decide +kernel
theorem d15_4 : decode jdk_42_method_54_code 4 = .ok (.arraylength, 1) := by decide +kernel
theorem d15_5 : decode jdk_42_method_54_code 5 = .ok (.aload_n 0, 1) := by decide +kernel
theorem d15_6 : decode jdk_42_method_54_code 6 = .ok (.invokevirtual 335, 3) := by decide +kernel
theorem d15_9 : decode jdk_42_method_54_code 9 = .ok (.ishr, 1) := by decide +kernel
theorem d15_10 : decode jdk_42_method_54_code 10 = .ok (.ireturn, 1) := by decide +kernel
theorem ef_15c0n1 (m : MethodId) (x0 : Addr) : entryFrame m #[(.ref x0)] 1 = mkF m 0 #[.val (.ref x0)] [] := by first | (simp [entryFrame, mkF, argsToLocals, Value.category]; done) | rfl
def Q15c0n1 (Z : State) (o0 : Addr) (ob : Addr) (k : ClassId) (b0 : Int32) (cs : Int32) (h0 : Heap) (n0 : Nat) (v : Option Value) (h : Heap) (L : List Loc) : Prop := v = some (.int (1 : Int32)) ∧ Fr n0 L ∧ h = h0
set_option maxRecDepth 65536 in
set_option maxHeartbeats 40000000 in
theorem rm15c0n1 (l : Launch) (Z : State) (a0 : Array Value) (hw : ∀ d ∈ tables_1, d.before a0 Z = true) (ws : List Jvm.Cond) (o0 : Addr) (ob : Addr) (k : ClassId) (b0 : Int32) (cs : Int32) (h0 : Heap) (n0 : Nat) (Z0 : n0 ≤ h0.size) (E : Exa Z h0 o0 "java/lang/String") (Fv : Fld Z h0 o0 "java/lang/String" "value" "[B" (.ref ob)) (Fc : Fld Z h0 o0 "java/lang/String" "coder" "B" (.int (0 : Int32))) (V : Arv Z h0 ob k .byte (1 : Int32) [(.int b0)] (.int (0 : Int32))) (S_cs : Sta Z h0 "java/lang/String" "COMPACT_STRINGS" "Z" (.int cs)) (hcs : ¬ (cs = (0 : Int32))) :
    MetFree l (⟨"java/lang/String", "length", "()I"⟩ : MethodName) (head1 (Jvm.Cond.code (⟨"java/lang/String", "length", "()I"⟩ : MethodName) jdk_42_method_54_code 1 (some .int) :: ws) ({ frames := 1, cells := 0, slots := 0, locals := 13 } : Room)) (fun a U => a = #[(.ref o0)] ∧ Z.Warmed39 U.vm ∧ U.heap = h0) (fun _ _ _ _ _ => True) (fun _ U o U' => ∃ v L, o = .returned v ∧ Q15c0n1 Z o0 ob k b0 cs h0 n0 v U'.heap L ∧ FrameEnd U o U' L ({ frames := 1, cells := 0, slots := 0, locals := 13 } : Room).cells ({ frames := 1, cells := 0, slots := 0, locals := 13 } : Room).slots) := by
  refine MetFree.of_bodySF (plainFor_of_name pn_2) hisR ?_
  intro p e s m args below meth c s₁ Bd hml0 hP hK
  obtain ⟨rfl, hZ, hh⟩ := hP
  have hx := Bd.exec
  have hby := Bd.bytes
  have hml : c.maxLocals = 1 := hml0
  have hown : s.vm.findClass "java/lang/String" = some m.cls := findClass_of_methodNamed Bd.named
  have hnm := (name_of_methodNamed Bd.named Bd.method).1
  have X0 : Stand p l e ({ frames := 1, cells := 0, slots := 0, locals := 13 } : Room) s m #[(.ref o0)] below meth c s₁ [] 0 0 := Stand.of_body Bd
  have e0 : s₁.heap = h0 := by rw [← hh, Bd.state]; rfl
  have N0 := Fr.nil n0
  have hret := Bd.returns
  have hlk := BodyLoose.notSynchronized Bd
  show own_Out p e below (fun o U' => ∃ v L, o = .returned v ∧ Q15c0n1 Z o0 ob k b0 cs h0 n0 v U'.heap L ∧ FrameEnd s o U' L ({ frames := 1, cells := 0, slots := 0, locals := 13 } : Room).cells ({ frames := 1, cells := 0, slots := 0, locals := 13 } : Room).slots) (s₁.setTop (entryFrame m #[(.ref o0)] 1))
  refine own_of (fun t k => castTop (ef_15c0n1 m o0) k) ?_
  show own_Out p e below _ (s₁.setTop (mkF m 0 #[.val (.ref o0)] []))
  refine own_of (fun _ k => XS.aloadN X0.here hx rfl (hb hby d15_0) rfl rfl k) ?_
  show own_Out p e below _ (s₁.setTop (mkF m 1 #[.val (.ref o0)] [(.ref o0)]))
  obtain ⟨T1, X1, e1, st1⟩ := getF X0 hx hZ hown (host := "") (Or.inl (hw _ (List.mem_of_getElem? (i := 27) rfl))) Via.refl e0 Fv (g := (mkF m 1 #[.val (.ref o0)] [(.ref o0)])) rfl rfl (hb hby d15_1)
  refine own_of st1 ?_
  show own_Out p e below _ (T1.setTop (mkF m 4 #[.val (.ref o0)] [(.ref ob)]))
  obtain ⟨cl2, Ar2, q2, S2, N2', H2, G2⟩ := id V
  refine own_of (X1.arraylength hx (by rw [e1]; exact Ar2.1) (State.isArrayOf_alike hZ.alike Ar2.2.1) (g := (mkF m 4 #[.val (.ref o0)] [(.ref ob)])) rfl rfl (hb hby d15_4)) ?_
  rw [len_of S2 N2']
  show own_Out p e below _ (T1.setTop (mkF m 5 #[.val (.ref o0)] [(.int (1 : Int32))]))
  refine own_of (fun _ k => XS.aloadN X1.here hx rfl (hb hby d15_5) rfl rfl k) ?_
  show own_Out p e below _ (T1.setTop (mkF m 6 #[.val (.ref o0)] [(.ref o0), (.int (1 : Int32))]))
  obtain ⟨cq3, kq3, q3a, q3b, q3c⟩ := isOf hZ e1 E
  obtain ⟨_, _, ⟨T3, L3, k3, n3⟩, -, X3, ⟨Lc3, hQ3, l3, y3, z3⟩, st3⟩ := X1.virtualBack hx (y := (⟨"java/lang/String", "coder", "()B"⟩ : MethodName)) (z := (⟨"java/lang/String", "coder", "()B"⟩ : MethodName)) hown (mvT hZ (hw _ (List.mem_of_getElem? (i := 69) rfl))) (mvT hZ (hw _ (List.mem_of_getElem? (i := 70) rfl))) (notFace_of_selects (args := #[]) (mvT hZ (hw _ (List.mem_of_getElem? (i := 72) rfl)))) (mvT hZ (hw _ (List.mem_of_getElem? (i := 72) rfl))) (mvT hZ (hw _ (List.mem_of_getElem? (i := 71) rfl))) (by decide) (backOf (W := 1) (rm16c0n1 l Z a0 hw [] o0 ob k b0 cs h0 n0 Z0 E Fv Fc V S_cs hcs) hZ (hw _ (List.mem_of_getElem? (i := 73) rfl)) (hw _ (List.mem_of_getElem? (i := 7) rfl)) (by decide) (by decide)) q3a q3c (g := (mkF m 6 #[.val (.ref o0)] [(.ref o0), (.int (1 : Int32))])) rfl (by rw [hml]; rfl) (Steps.refl _) (argsL := []) (rest := [(.int (1 : Int32))]) (lenOf pd_4 rfl) rfl (by show 2 * 0 + _ ≤ _; exact Nat.le_of_eq rfl) (hb hby d15_6) (fun _ _ => ⟨rfl, e1, (by decide : 0 + 0 ≤ _), (by decide : 0 + 0 ≤ _)⟩)
  dsimp only [Pt.U, Pt.locs, Pt.cells, Pt.slots] at X3 l3 y3 z3 st3 hQ3
  subst l3 y3 z3
  obtain ⟨rfl, N3q, hh3⟩ := hQ3
  have N3 := Fr.app N0 N3q
  refine own_of (fun _ k => st3.trans k) ?_
  show own_Out p e below _ (T3.setTop (mkF m 9 #[.val (.ref o0)] [(.int (0 : Int32)), (.int (1 : Int32))]))
  refine own_of (fun _ k => XS.ishr X3.here hx rfl (hb hby d15_9) rfl k) ?_
  show own_Out p e below _ (T3.setTop (mkF m 10 #[.val (.ref o0)] [(.int (1 : Int32))]))
  exact own_outI X3 hx hlk hret (hb hby d15_10) (Q := Q15c0n1 Z o0 ob k b0 cs h0 n0) ⟨rfl, N3, hh3⟩ (by decide) (by decide)
theorem d13_0 : decode jdk_41_method_11_code 0 = .ok (.iload_n 0, 1) := by decide +kernel
theorem d13_1 : decode jdk_41_method_11_code 1 = .ok (.ifCond .lt 8, 3) := by decide +kernel
theorem d13_4 : decode jdk_41_method_11_code 4 = .ok (.iload_n 0, 1) := by decide +kernel
theorem d13_5 : decode jdk_41_method_11_code 5 = .ok (.iload_n 1, 1) := by decide +kernel
theorem d13_6 : decode jdk_41_method_11_code 6 = .ok (.if_icmp .lt 10, 3) := by decide +kernel
theorem d13_16 : decode jdk_41_method_11_code 16 = .ok (.iload_n 0, 1) := by decide +kernel
theorem d13_17 : decode jdk_41_method_11_code 17 = .ok (.ireturn, 1) := by decide +kernel
theorem pn_4 : plainName "jdk/internal/util/Preconditions" = true := by first | (simp [plainName, overriddenIn]; done) | decide +kernel
theorem ef_13i0n1n (m : MethodId)  : entryFrame m #[(.int (0 : Int32)), (.int (1 : Int32)), .null] 3 = mkF m 0 #[.val (.int (0 : Int32)), .val (.int (1 : Int32)), .val .null] [] := by first | (simp [entryFrame, mkF, argsToLocals, Value.category]; done) | rfl
def Q13i0n1n (Z : State)  (h0 : Heap) (n0 : Nat) (v : Option Value) (h : Heap) (L : List Loc) : Prop := v = some (.int (0 : Int32)) ∧ Fr n0 L ∧ h = h0
set_option maxRecDepth 65536 in
set_option maxHeartbeats 40000000 in
theorem rm13i0n1n (l : Launch) (Z : State) (a0 : Array Value) (hw : ∀ d ∈ tables_1, d.before a0 Z = true) (ws : List Jvm.Cond)  (h0 : Heap) (n0 : Nat) (Z0 : n0 ≤ h0.size) :
    MetFree l (⟨"jdk/internal/util/Preconditions", "checkIndex", "(IILjava/util/function/BiFunction;)I"⟩ : MethodName) (head1 (Jvm.Cond.code (⟨"jdk/internal/util/Preconditions", "checkIndex", "(IILjava/util/function/BiFunction;)I"⟩ : MethodName) jdk_41_method_11_code 3 (some .int) :: ws) ({ frames := 0, cells := 0, slots := 0, locals := 0 } : Room)) (fun a U => a = #[(.int (0 : Int32)), (.int (1 : Int32)), .null] ∧ Z.Warmed39 U.vm ∧ U.heap = h0) (fun _ _ _ _ _ => True) (fun _ U o U' => ∃ v L, o = .returned v ∧ Q13i0n1n Z  h0 n0 v U'.heap L ∧ FrameEnd U o U' L ({ frames := 0, cells := 0, slots := 0, locals := 0 } : Room).cells ({ frames := 0, cells := 0, slots := 0, locals := 0 } : Room).slots) := by
  refine MetFree.of_bodySF (plainFor_of_name pn_4) hisR ?_
  intro p e s m args below meth c s₁ Bd hml0 hP hK
  obtain ⟨rfl, hZ, hh⟩ := hP
  have hx := Bd.exec
  have hby := Bd.bytes
  have hml : c.maxLocals = 3 := hml0
  have hown : s.vm.findClass "jdk/internal/util/Preconditions" = some m.cls := findClass_of_methodNamed Bd.named
  have hnm := (name_of_methodNamed Bd.named Bd.method).1
  have X0 : Stand p l e ({ frames := 0, cells := 0, slots := 0, locals := 0 } : Room) s m #[(.int (0 : Int32)), (.int (1 : Int32)), .null] below meth c s₁ [] 0 0 := Stand.of_body Bd
  have e0 : s₁.heap = h0 := by rw [← hh, Bd.state]; rfl
  have N0 := Fr.nil n0
  have hret := Bd.returns
  have hlk := BodyLoose.notSynchronized Bd
  show own_Out p e below (fun o U' => ∃ v L, o = .returned v ∧ Q13i0n1n Z  h0 n0 v U'.heap L ∧ FrameEnd s o U' L ({ frames := 0, cells := 0, slots := 0, locals := 0 } : Room).cells ({ frames := 0, cells := 0, slots := 0, locals := 0 } : Room).slots) (s₁.setTop (entryFrame m #[(.int (0 : Int32)), (.int (1 : Int32)), .null] 3))
  refine own_of (fun t k => castTop (ef_13i0n1n m ) k) ?_
  show own_Out p e below _ (s₁.setTop (mkF m 0 #[.val (.int (0 : Int32)), .val (.int (1 : Int32)), .val .null] []))
  refine own_of (fun _ k => XS.iloadN X0.here hx rfl (hb hby d13_0) rfl k) ?_
  show own_Out p e below _ (s₁.setTop (mkF m 1 #[.val (.int (0 : Int32)), .val (.int (1 : Int32)), .val .null] [(.int (0 : Int32))]))
  refine own_of (fun _ k => XS.ifNo X0.here hx rfl (hb hby d13_1) rfl ((if0 _ _).trans (flt (by decide : ¬ ((0 : Int32) < (0 : Int32)))).1) k) ?_
  show own_Out p e below _ (s₁.setTop (mkF m 4 #[.val (.int (0 : Int32)), .val (.int (1 : Int32)), .val .null] []))
  refine own_of (fun _ k => XS.iloadN X0.here hx rfl (hb hby d13_4) rfl k) ?_
  show own_Out p e below _ (s₁.setTop (mkF m 5 #[.val (.int (0 : Int32)), .val (.int (1 : Int32)), .val .null] [(.int (0 : Int32))]))
  refine own_of (fun _ k => XS.iloadN X0.here hx rfl (hb hby d13_5) rfl k) ?_
  show own_Out p e below _ (s₁.setTop (mkF m 6 #[.val (.int (0 : Int32)), .val (.int (1 : Int32)), .val .null] [(.int (1 : Int32)), (.int (0 : Int32))]))
  refine own_of (fun _ k => XS.icmpYes X0.here hx rfl (pc0 := 6) (pc' := 16) rfl (hb hby d13_6) rfl (tlt (by decide : (0 : Int32) < (1 : Int32))).1 (by decide) (by decide) k) ?_
  show own_Out p e below _ (s₁.setTop (mkF m 16 #[.val (.int (0 : Int32)), .val (.int (1 : Int32)), .val .null] []))
  refine own_of (fun _ k => XS.iloadN X0.here hx rfl (hb hby d13_16) rfl k) ?_
  show own_Out p e below _ (s₁.setTop (mkF m 17 #[.val (.int (0 : Int32)), .val (.int (1 : Int32)), .val .null] [(.int (0 : Int32))]))
  exact own_outI X0 hx hlk hret (hb hby d13_17) (Q := Q13i0n1n Z  h0 n0) ⟨rfl, N0, e0⟩ (by decide) (by decide)
theorem ef_13i0n1r (m : MethodId) (x2 : Addr) : entryFrame m #[(.int (0 : Int32)), (.int (1 : Int32)), (.ref x2)] 3 = mkF m 0 #[.val (.int (0 : Int32)), .val (.int (1 : Int32)), .val (.ref x2)] [] := by first | (simp [entryFrame, mkF, argsToLocals, Value.category]; done) | rfl
def Q13i0n1r (Z : State) (o2 : Addr) (h0 : Heap) (n0 : Nat) (v : Option Value) (h : Heap) (L : List Loc) : Prop := v = some (.int (0 : Int32)) ∧ Fr n0 L ∧ h = h0
set_option maxRecDepth 65536 in
set_option maxHeartbeats 40000000 in
theorem rm13i0n1r (l : Launch) (Z : State) (a0 : Array Value) (hw : ∀ d ∈ tables_1, d.before a0 Z = true) (ws : List Jvm.Cond) (o2 : Addr) (h0 : Heap) (n0 : Nat) (Z0 : n0 ≤ h0.size) :
    MetFree l (⟨"jdk/internal/util/Preconditions", "checkIndex", "(IILjava/util/function/BiFunction;)I"⟩ : MethodName) (head1 (Jvm.Cond.code (⟨"jdk/internal/util/Preconditions", "checkIndex", "(IILjava/util/function/BiFunction;)I"⟩ : MethodName) jdk_41_method_11_code 3 (some .int) :: ws) ({ frames := 0, cells := 0, slots := 0, locals := 0 } : Room)) (fun a U => a = #[(.int (0 : Int32)), (.int (1 : Int32)), (.ref o2)] ∧ Z.Warmed39 U.vm ∧ U.heap = h0) (fun _ _ _ _ _ => True) (fun _ U o U' => ∃ v L, o = .returned v ∧ Q13i0n1r Z o2 h0 n0 v U'.heap L ∧ FrameEnd U o U' L ({ frames := 0, cells := 0, slots := 0, locals := 0 } : Room).cells ({ frames := 0, cells := 0, slots := 0, locals := 0 } : Room).slots) := by
  refine MetFree.of_bodySF (plainFor_of_name pn_4) hisR ?_
  intro p e s m args below meth c s₁ Bd hml0 hP hK
  obtain ⟨rfl, hZ, hh⟩ := hP
  have hx := Bd.exec
  have hby := Bd.bytes
  have hml : c.maxLocals = 3 := hml0
  have hown : s.vm.findClass "jdk/internal/util/Preconditions" = some m.cls := findClass_of_methodNamed Bd.named
  have hnm := (name_of_methodNamed Bd.named Bd.method).1
  have X0 : Stand p l e ({ frames := 0, cells := 0, slots := 0, locals := 0 } : Room) s m #[(.int (0 : Int32)), (.int (1 : Int32)), (.ref o2)] below meth c s₁ [] 0 0 := Stand.of_body Bd
  have e0 : s₁.heap = h0 := by rw [← hh, Bd.state]; rfl
  have N0 := Fr.nil n0
  have hret := Bd.returns
  have hlk := BodyLoose.notSynchronized Bd
  show own_Out p e below (fun o U' => ∃ v L, o = .returned v ∧ Q13i0n1r Z o2 h0 n0 v U'.heap L ∧ FrameEnd s o U' L ({ frames := 0, cells := 0, slots := 0, locals := 0 } : Room).cells ({ frames := 0, cells := 0, slots := 0, locals := 0 } : Room).slots) (s₁.setTop (entryFrame m #[(.int (0 : Int32)), (.int (1 : Int32)), (.ref o2)] 3))
  refine own_of (fun t k => castTop (ef_13i0n1r m o2) k) ?_
  show own_Out p e below _ (s₁.setTop (mkF m 0 #[.val (.int (0 : Int32)), .val (.int (1 : Int32)), .val (.ref o2)] []))
  refine own_of (fun _ k => XS.iloadN X0.here hx rfl (hb hby d13_0) rfl k) ?_
  show own_Out p e below _ (s₁.setTop (mkF m 1 #[.val (.int (0 : Int32)), .val (.int (1 : Int32)), .val (.ref o2)] [(.int (0 : Int32))]))
  refine own_of (fun _ k => XS.ifNo X0.here hx rfl (hb hby d13_1) rfl ((if0 _ _).trans (flt (by decide : ¬ ((0 : Int32) < (0 : Int32)))).1) k) ?_
  show own_Out p e below _ (s₁.setTop (mkF m 4 #[.val (.int (0 : Int32)), .val (.int (1 : Int32)), .val (.ref o2)] []))
  refine own_of (fun _ k => XS.iloadN X0.here hx rfl (hb hby d13_4) rfl k) ?_
  show own_Out p e below _ (s₁.setTop (mkF m 5 #[.val (.int (0 : Int32)), .val (.int (1 : Int32)), .val (.ref o2)] [(.int (0 : Int32))]))
  refine own_of (fun _ k => XS.iloadN X0.here hx rfl (hb hby d13_5) rfl k) ?_
  show own_Out p e below _ (s₁.setTop (mkF m 6 #[.val (.int (0 : Int32)), .val (.int (1 : Int32)), .val (.ref o2)] [(.int (1 : Int32)), (.int (0 : Int32))]))
  refine own_of (fun _ k => XS.icmpYes X0.here hx rfl (pc0 := 6) (pc' := 16) rfl (hb hby d13_6) rfl (tlt (by decide : (0 : Int32) < (1 : Int32))).1 (by decide) (by decide) k) ?_
  show own_Out p e below _ (s₁.setTop (mkF m 16 #[.val (.int (0 : Int32)), .val (.int (1 : Int32)), .val (.ref o2)] []))
  refine own_of (fun _ k => XS.iloadN X0.here hx rfl (hb hby d13_16) rfl k) ?_
  show own_Out p e below _ (s₁.setTop (mkF m 17 #[.val (.int (0 : Int32)), .val (.int (1 : Int32)), .val (.ref o2)] [(.int (0 : Int32))]))
  exact own_outI X0 hx hlk hret (hb hby d13_17) (Q := Q13i0n1r Z o2 h0 n0) ⟨rfl, N0, e0⟩ (by decide) (by decide)
theorem pd_5 : parseMethodDescriptor "(IILjava/util/function/BiFunction;)I" = some ⟨[.int, .int, (.object "java/util/function/BiFunction")], some .int⟩ := by decide +kernel
theorem d12_0 : decode jdk_42_method_155_code 0 = .ok (.iload_n 0, 1) := by decide +kernel
theorem d12_1 : decode jdk_42_method_155_code 1 = .ok (.iload_n 1, 1) := by decide +kernel
theorem d12_2 : decode jdk_42_method_155_code 2 = .ok (.getstatic 1053, 3) := by decide +kernel
theorem d12_5 : decode jdk_42_method_155_code 5 = .ok (.invokestatic 1059, 3) := by decide +kernel
theorem d12_8 : decode jdk_42_method_155_code 8 = .ok (.pop, 1) := by decide +kernel
theorem d12_9 : decode jdk_42_method_155_code 9 = .ok (.return_, 1) := by decide +kernel
theorem ef_12i0n1 (m : MethodId)  : entryFrame m #[(.int (0 : Int32)), (.int (1 : Int32))] 2 = mkF m 0 #[.val (.int (0 : Int32)), .val (.int (1 : Int32))] [] := by first | (simp [entryFrame, mkF, argsToLocals, Value.category]; done) | rfl
def Q12i0n1 (Z : State) (vf : Value) (h0 : Heap) (n0 : Nat) (v : Option Value) (h : Heap) (L : List Loc) : Prop := v = none ∧ Fr n0 L ∧ h = h0
set_option maxRecDepth 65536 in
set_option maxHeartbeats 40000000 in
theorem rm12i0n1 (l : Launch) (Z : State) (a0 : Array Value) (hw : ∀ d ∈ tables_1, d.before a0 Z = true) (ws : List Jvm.Cond) (vf : Value) (h0 : Heap) (n0 : Nat) (Z0 : n0 ≤ h0.size) (S_f : Sta Z h0 "jdk/internal/util/Preconditions" "SIOOBE_FORMATTER" "Ljava/util/function/BiFunction;" vf) (hvf : vf.isRef = true) :
    MetFree l (⟨"java/lang/String", "checkIndex", "(II)V"⟩ : MethodName) (head1 (Jvm.Cond.code (⟨"java/lang/String", "checkIndex", "(II)V"⟩ : MethodName) jdk_42_method_155_code 2 none :: ws) ({ frames := 1, cells := 0, slots := 0, locals := 14 } : Room)) (fun a U => a = #[(.int (0 : Int32)), (.int (1 : Int32))] ∧ Z.Warmed39 U.vm ∧ U.heap = h0) (fun _ _ _ _ _ => True) (fun _ U o U' => ∃ v L, o = .returned v ∧ Q12i0n1 Z vf h0 n0 v U'.heap L ∧ FrameEnd U o U' L ({ frames := 1, cells := 0, slots := 0, locals := 14 } : Room).cells ({ frames := 1, cells := 0, slots := 0, locals := 14 } : Room).slots) := by
  refine MetFree.of_bodySF (plainFor_of_name pn_2) hisR ?_
  intro p e s m args below meth c s₁ Bd hml0 hP hK
  obtain ⟨rfl, hZ, hh⟩ := hP
  have hx := Bd.exec
  have hby := Bd.bytes
  have hml : c.maxLocals = 2 := hml0
  have hown : s.vm.findClass "java/lang/String" = some m.cls := findClass_of_methodNamed Bd.named
  have hnm := (name_of_methodNamed Bd.named Bd.method).1
  have X0 : Stand p l e ({ frames := 1, cells := 0, slots := 0, locals := 14 } : Room) s m #[(.int (0 : Int32)), (.int (1 : Int32))] below meth c s₁ [] 0 0 := Stand.of_body Bd
  have e0 : s₁.heap = h0 := by rw [← hh, Bd.state]; rfl
  have N0 := Fr.nil n0
  have hret := Bd.returns
  have hlk := BodyLoose.notSynchronized Bd
  show own_Out p e below (fun o U' => ∃ v L, o = .returned v ∧ Q12i0n1 Z vf h0 n0 v U'.heap L ∧ FrameEnd s o U' L ({ frames := 1, cells := 0, slots := 0, locals := 14 } : Room).cells ({ frames := 1, cells := 0, slots := 0, locals := 14 } : Room).slots) (s₁.setTop (entryFrame m #[(.int (0 : Int32)), (.int (1 : Int32))] 2))
  refine own_of (fun t k => castTop (ef_12i0n1 m ) k) ?_
  show own_Out p e below _ (s₁.setTop (mkF m 0 #[.val (.int (0 : Int32)), .val (.int (1 : Int32))] []))
  rcases ref_cases hvf with hv | ⟨af, hv⟩
  · rw [hv] at S_f
    refine own_of (fun _ k => XS.iloadN X0.here hx rfl (hb hby d12_0) rfl k) ?_
    show own_Out p e below _ (s₁.setTop (mkF m 1 #[.val (.int (0 : Int32)), .val (.int (1 : Int32))] [(.int (0 : Int32))]))
    refine own_of (fun _ k => XS.iloadN X0.here hx rfl (hb hby d12_1) rfl k) ?_
    show own_Out p e below _ (s₁.setTop (mkF m 2 #[.val (.int (0 : Int32)), .val (.int (1 : Int32))] [(.int (1 : Int32)), (.int (0 : Int32))]))
    obtain ⟨T1, X1, e1, st1⟩ := getS2 X0 hx hZ hown (host := "") (Or.inl (hw _ (List.mem_of_getElem? (i := 55) rfl))) Via.refl e0 S_f (g := (mkF m 2 #[.val (.int (0 : Int32)), .val (.int (1 : Int32))] [(.int (1 : Int32)), (.int (0 : Int32))])) rfl (hb hby d12_2)
    refine own_of st1 ?_
    show own_Out p e below _ (T1.setTop (mkF m 5 #[.val (.int (0 : Int32)), .val (.int (1 : Int32))] [.null, (.int (1 : Int32)), (.int (0 : Int32))]))
    obtain ⟨_, _, ⟨T2, L2, k2, n2⟩, -, X2, ⟨Lc2, hQ2, l2, y2, z2⟩, st2⟩ := Jvm.LawKit.callS X1 hx (y := (⟨"jdk/internal/util/Preconditions", "checkIndex", "(IILjava/util/function/BiFunction;)I"⟩ : MethodName)) hown (mvT hZ (hw _ (List.mem_of_getElem? (i := 57) rfl))) (mvT hZ (hw _ (List.mem_of_getElem? (i := 58) rfl))) (mvT hZ (hw _ (List.mem_of_getElem? (i := 56) rfl))) (mvT hZ (hw _ (List.mem_of_getElem? (i := 59) rfl))) (by decide) (backOf (W := 0) (rm13i0n1n l Z a0 hw []  h0 n0 Z0 ) hZ (hw _ (List.mem_of_getElem? (i := 59) rfl)) (hw _ (List.mem_of_getElem? (i := 56) rfl)) (by decide) (by decide)) (g := (mkF m 5 #[.val (.int (0 : Int32)), .val (.int (1 : Int32))] [.null, (.int (1 : Int32)), (.int (0 : Int32))])) rfl (by rw [hml]; rfl) (argsL := [(.int (0 : Int32)), (.int (1 : Int32)), .null]) (rest := []) (lenOf pd_5 rfl) rfl (by show 2 * 0 + _ ≤ _; exact Nat.le_of_eq rfl) (hb hby d12_5) (fun _ _ => ⟨rfl, e1, (by decide : 0 + 0 ≤ _), (by decide : 0 + 0 ≤ _)⟩)
    dsimp only [Pt.U, Pt.locs, Pt.cells, Pt.slots] at X2 l2 y2 z2 st2 hQ2
    subst l2 y2 z2
    obtain ⟨rfl, N2q, hh2⟩ := hQ2
    have N2 := Fr.app N0 N2q
    refine own_of st2 ?_
    show own_Out p e below _ (T2.setTop (mkF m 8 #[.val (.int (0 : Int32)), .val (.int (1 : Int32))] [(.int (0 : Int32))]))
    refine own_of (fun _ k => XS.pop X2.here hx rfl (hb hby d12_8) rfl rfl k) ?_
    show own_Out p e below _ (T2.setTop (mkF m 9 #[.val (.int (0 : Int32)), .val (.int (1 : Int32))] []))
    exact own_outV X2 hx hlk hret (hb hby d12_9) (Q := Q12i0n1 Z vf h0 n0) ⟨rfl, N2, hh2⟩ (by decide) (by decide)
  · rw [hv] at S_f
    refine own_of (fun _ k => XS.iloadN X0.here hx rfl (hb hby d12_0) rfl k) ?_
    show own_Out p e below _ (s₁.setTop (mkF m 1 #[.val (.int (0 : Int32)), .val (.int (1 : Int32))] [(.int (0 : Int32))]))
    refine own_of (fun _ k => XS.iloadN X0.here hx rfl (hb hby d12_1) rfl k) ?_
    show own_Out p e below _ (s₁.setTop (mkF m 2 #[.val (.int (0 : Int32)), .val (.int (1 : Int32))] [(.int (1 : Int32)), (.int (0 : Int32))]))
    obtain ⟨T3, X3, e3, st3⟩ := getS2 X0 hx hZ hown (host := "") (Or.inl (hw _ (List.mem_of_getElem? (i := 55) rfl))) Via.refl e0 S_f (g := (mkF m 2 #[.val (.int (0 : Int32)), .val (.int (1 : Int32))] [(.int (1 : Int32)), (.int (0 : Int32))])) rfl (hb hby d12_2)
    refine own_of st3 ?_
    show own_Out p e below _ (T3.setTop (mkF m 5 #[.val (.int (0 : Int32)), .val (.int (1 : Int32))] [(.ref af), (.int (1 : Int32)), (.int (0 : Int32))]))
    obtain ⟨_, _, ⟨T4, L4, k4, n4⟩, -, X4, ⟨Lc4, hQ4, l4, y4, z4⟩, st4⟩ := Jvm.LawKit.callS X3 hx (y := (⟨"jdk/internal/util/Preconditions", "checkIndex", "(IILjava/util/function/BiFunction;)I"⟩ : MethodName)) hown (mvT hZ (hw _ (List.mem_of_getElem? (i := 57) rfl))) (mvT hZ (hw _ (List.mem_of_getElem? (i := 58) rfl))) (mvT hZ (hw _ (List.mem_of_getElem? (i := 56) rfl))) (mvT hZ (hw _ (List.mem_of_getElem? (i := 59) rfl))) (by decide) (backOf (W := 0) (rm13i0n1r l Z a0 hw [] af h0 n0 Z0 ) hZ (hw _ (List.mem_of_getElem? (i := 59) rfl)) (hw _ (List.mem_of_getElem? (i := 56) rfl)) (by decide) (by decide)) (g := (mkF m 5 #[.val (.int (0 : Int32)), .val (.int (1 : Int32))] [(.ref af), (.int (1 : Int32)), (.int (0 : Int32))])) rfl (by rw [hml]; rfl) (argsL := [(.int (0 : Int32)), (.int (1 : Int32)), (.ref af)]) (rest := []) (lenOf pd_5 rfl) rfl (by show 2 * 0 + _ ≤ _; exact Nat.le_of_eq rfl) (hb hby d12_5) (fun _ _ => ⟨rfl, e3, (by decide : 0 + 0 ≤ _), (by decide : 0 + 0 ≤ _)⟩)
    dsimp only [Pt.U, Pt.locs, Pt.cells, Pt.slots] at X4 l4 y4 z4 st4 hQ4
    subst l4 y4 z4
    obtain ⟨rfl, N4q, hh4⟩ := hQ4
    have N4 := Fr.app N0 N4q
    refine own_of st4 ?_
    show own_Out p e below _ (T4.setTop (mkF m 8 #[.val (.int (0 : Int32)), .val (.int (1 : Int32))] [(.int (0 : Int32))]))
    refine own_of (fun _ k => XS.pop X4.here hx rfl (hb hby d12_8) rfl rfl k) ?_
    show own_Out p e below _ (T4.setTop (mkF m 9 #[.val (.int (0 : Int32)), .val (.int (1 : Int32))] []))
    exact own_outV X4 hx hlk hret (hb hby d12_9) (Q := Q12i0n1 Z vf h0 n0) ⟨rfl, N4, hh4⟩ (by decide) (by decide)
theorem pd_6 : parseMethodDescriptor "(II)V" = some ⟨[.int, .int], none⟩ := by decide +kernel
theorem d11_0 : decode jdk_43_method_2_code 0 = .ok (.iload_n 1, 1) := by decide +kernel
theorem d11_1 : decode jdk_43_method_2_code 1 = .ok (.aload_n 0, 1) := by decide +kernel
theorem d11_2 : decode jdk_43_method_2_code 2 = .ok (.arraylength, 1) := by decide +kernel
theorem d11_3 : decode jdk_43_method_2_code 3 = .ok (.invokestatic 9, 3) := by decide +kernel
theorem d11_6 : decode jdk_43_method_2_code 6 = .ok (.aload_n 0, 1) := by decide +kernel
theorem d11_7 : decode jdk_43_method_2_code 7 = .ok (.iload_n 1, 1) := by decide +kernel
theorem d11_8 : decode jdk_43_method_2_code 8 = .ok (.baload, 1) := by decide +kernel
theorem d11_9 : decode jdk_43_method_2_code 9 = .ok (.sipush 255, 3) := by decide +kernel
theorem d11_12 : decode jdk_43_method_2_code 12 = .ok (.iand, 1) := by decide +kernel
theorem d11_13 : decode jdk_43_method_2_code 13 = .ok (.i2c, 1) := by decide +kernel
theorem d11_14 : decode jdk_43_method_2_code 14 = .ok (.ireturn, 1) := by decide +kernel
theorem ef_11c0n1i0 (m : MethodId) (x0 : Addr) : entryFrame m #[(.ref x0), (.int (0 : Int32))] 2 = mkF m 0 #[.val (.ref x0), .val (.int (0 : Int32))] [] := by first | (simp [entryFrame, mkF, argsToLocals, Value.category]; done) | rfl
def f_l1charAtc0n1i0 (b0 : Int32) : Int32 := (((b0 &&& (255 : Int32)).toUInt32.toUInt16.toUInt32.toInt32).toUInt32.toUInt16.toUInt32.toInt32)
def Q11c0n1i0 (Z : State) (o0 : Addr) (k : ClassId) (b0 : Int32) (vf : Value) (h0 : Heap) (n0 : Nat) (v : Option Value) (h : Heap) (L : List Loc) : Prop := v = some (.int (f_l1charAtc0n1i0 b0)) ∧ Fr n0 L ∧ h = h0
set_option maxRecDepth 65536 in
set_option maxHeartbeats 40000000 in
theorem rm11c0n1i0 (l : Launch) (Z : State) (a0 : Array Value) (hw : ∀ d ∈ tables_1, d.before a0 Z = true) (ws : List Jvm.Cond) (o0 : Addr) (k : ClassId) (b0 : Int32) (vf : Value) (h0 : Heap) (n0 : Nat) (Z0 : n0 ≤ h0.size) (V : Arv Z h0 o0 k .byte (1 : Int32) [(.int b0)] (.int (0 : Int32))) (S_f : Sta Z h0 "jdk/internal/util/Preconditions" "SIOOBE_FORMATTER" "Ljava/util/function/BiFunction;" vf) (hvf : vf.isRef = true) :
    MetFree l (⟨"java/lang/StringLatin1", "charAt", "([BI)C"⟩ : MethodName) (head1 (Jvm.Cond.code (⟨"java/lang/StringLatin1", "charAt", "([BI)C"⟩ : MethodName) jdk_43_method_2_code 2 (some .char) :: ws) ({ frames := 2, cells := 0, slots := 0, locals := 27 } : Room)) (fun a U => a = #[(.ref o0), (.int (0 : Int32))] ∧ Z.Warmed39 U.vm ∧ U.heap = h0) (fun _ _ _ _ _ => True) (fun _ U o U' => ∃ v L, o = .returned v ∧ Q11c0n1i0 Z o0 k b0 vf h0 n0 v U'.heap L ∧ FrameEnd U o U' L ({ frames := 2, cells := 0, slots := 0, locals := 27 } : Room).cells ({ frames := 2, cells := 0, slots := 0, locals := 27 } : Room).slots) := by
  refine MetFree.of_bodySF (plainFor_of_name pn_1) hisR ?_
  intro p e s m args below meth c s₁ Bd hml0 hP hK
  obtain ⟨rfl, hZ, hh⟩ := hP
  have hx := Bd.exec
  have hby := Bd.bytes
  have hml : c.maxLocals = 2 := hml0
  have hown : s.vm.findClass "java/lang/StringLatin1" = some m.cls := findClass_of_methodNamed Bd.named
  have hnm := (name_of_methodNamed Bd.named Bd.method).1
  have X0 : Stand p l e ({ frames := 2, cells := 0, slots := 0, locals := 27 } : Room) s m #[(.ref o0), (.int (0 : Int32))] below meth c s₁ [] 0 0 := Stand.of_body Bd
  have e0 : s₁.heap = h0 := by rw [← hh, Bd.state]; rfl
  have N0 := Fr.nil n0
  have hret := Bd.returns
  have hlk := BodyLoose.notSynchronized Bd
  show own_Out p e below (fun o U' => ∃ v L, o = .returned v ∧ Q11c0n1i0 Z o0 k b0 vf h0 n0 v U'.heap L ∧ FrameEnd s o U' L ({ frames := 2, cells := 0, slots := 0, locals := 27 } : Room).cells ({ frames := 2, cells := 0, slots := 0, locals := 27 } : Room).slots) (s₁.setTop (entryFrame m #[(.ref o0), (.int (0 : Int32))] 2))
  refine own_of (fun t k => castTop (ef_11c0n1i0 m o0) k) ?_
  show own_Out p e below _ (s₁.setTop (mkF m 0 #[.val (.ref o0), .val (.int (0 : Int32))] []))
  refine own_of (fun _ k => XS.iloadN X0.here hx rfl (hb hby d11_0) rfl k) ?_
  show own_Out p e below _ (s₁.setTop (mkF m 1 #[.val (.ref o0), .val (.int (0 : Int32))] [(.int (0 : Int32))]))
  refine own_of (fun _ k => XS.aloadN X0.here hx rfl (hb hby d11_1) rfl rfl k) ?_
  show own_Out p e below _ (s₁.setTop (mkF m 2 #[.val (.ref o0), .val (.int (0 : Int32))] [(.ref o0), (.int (0 : Int32))]))
  obtain ⟨cl1, Ar1, q1, S1, N1', H1, G1⟩ := id V
  refine own_of (X0.arraylength hx (by rw [e0]; exact Ar1.1) (State.isArrayOf_alike hZ.alike Ar1.2.1) (g := (mkF m 2 #[.val (.ref o0), .val (.int (0 : Int32))] [(.ref o0), (.int (0 : Int32))])) rfl rfl (hb hby d11_2)) ?_
  rw [len_of S1 N1']
  show own_Out p e below _ (s₁.setTop (mkF m 3 #[.val (.ref o0), .val (.int (0 : Int32))] [(.int (1 : Int32)), (.int (0 : Int32))]))
  obtain ⟨_, _, ⟨T2, L2, k2, n2⟩, -, X2, ⟨Lc2, hQ2, l2, y2, z2⟩, st2⟩ := Jvm.LawKit.callS X0 hx (y := (⟨"java/lang/String", "checkIndex", "(II)V"⟩ : MethodName)) hown (mvT hZ (hw _ (List.mem_of_getElem? (i := 52) rfl))) (mvT hZ (hw _ (List.mem_of_getElem? (i := 53) rfl))) (mvT hZ (hw _ (List.mem_of_getElem? (i := 7) rfl))) (mvT hZ (hw _ (List.mem_of_getElem? (i := 54) rfl))) (by decide) (backOf (W := 0) (rm12i0n1 l Z a0 hw [] vf h0 n0 Z0 S_f hvf) hZ (hw _ (List.mem_of_getElem? (i := 54) rfl)) (hw _ (List.mem_of_getElem? (i := 7) rfl)) (by decide) (by decide)) (g := (mkF m 3 #[.val (.ref o0), .val (.int (0 : Int32))] [(.int (1 : Int32)), (.int (0 : Int32))])) rfl (by rw [hml]; rfl) (argsL := [(.int (0 : Int32)), (.int (1 : Int32))]) (rest := []) (lenOf pd_6 rfl) rfl (by show 2 * 0 + _ ≤ _; exact Nat.le_of_eq rfl) (hb hby d11_3) (fun _ _ => ⟨rfl, e0, (by decide : 0 + 0 ≤ _), (by decide : 0 + 0 ≤ _)⟩)
  dsimp only [Pt.U, Pt.locs, Pt.cells, Pt.slots] at X2 l2 y2 z2 st2 hQ2
  subst l2 y2 z2
  obtain ⟨rfl, N2q, hh2⟩ := hQ2
  have N2 := Fr.app N0 N2q
  refine own_of st2 ?_
  show own_Out p e below _ (T2.setTop (mkF m 6 #[.val (.ref o0), .val (.int (0 : Int32))] []))
  refine own_of (fun _ k => XS.aloadN X2.here hx rfl (hb hby d11_6) rfl rfl k) ?_
  show own_Out p e below _ (T2.setTop (mkF m 7 #[.val (.ref o0), .val (.int (0 : Int32))] [(.ref o0)]))
  refine own_of (fun _ k => XS.iloadN X2.here hx rfl (hb hby d11_7) rfl k) ?_
  show own_Out p e below _ (T2.setTop (mkF m 8 #[.val (.ref o0), .val (.int (0 : Int32))] [(.int (0 : Int32)), (.ref o0)]))
  obtain ⟨cl3, Ar3, q3, S3, N3', H3, G3⟩ := id V
  have hin3 : ¬ ((0 : Int32) < 0 ∨ cl3.slots.size ≤ ((0 : Int32)).toNatClampNeg) := inb_of S3 ⟨by decide, by decide⟩
  have hat3 : cl3.slots[((0 : Int32)).toNatClampNeg]? = some (.int b0) := H3 _ (Nat.lt_of_not_le fun q => hin3 (Or.inr q))
  refine own_of (X2.baloadBytes hx (j := (0 : Int32)) (v := (.int b0)) (by rw [hh2]; exact Ar3.1) (State.isArrayOf_alike hZ.alike Ar3.2.1) Ar3.2.2 hin3 hat3 (g := (mkF m 8 #[.val (.ref o0), .val (.int (0 : Int32))] [(.int (0 : Int32)), (.ref o0)])) rfl rfl (hb hby d11_8)) ?_
  show own_Out p e below _ (T2.setTop (mkF m 9 #[.val (.ref o0), .val (.int (0 : Int32))] [(.int b0)]))
  refine own_of (fun _ k => XS.sipush X2.here hx rfl (hb hby d11_9) k) ?_
  show own_Out p e below _ (T2.setTop (mkF m 12 #[.val (.ref o0), .val (.int (0 : Int32))] [(.int (255 : Int32)), (.int b0)]))
  refine own_of (fun _ k => XS.iand X2.here hx rfl (hb hby d11_12) rfl k) ?_
  show own_Out p e below _ (T2.setTop (mkF m 13 #[.val (.ref o0), .val (.int (0 : Int32))] [(.int (b0 &&& (255 : Int32)))]))
  refine own_of (fun _ k => XS.i2c X2.here hx rfl (hb hby d11_13) rfl k) ?_
  show own_Out p e below _ (T2.setTop (mkF m 14 #[.val (.ref o0), .val (.int (0 : Int32))] [(.int ((b0 &&& (255 : Int32)).toUInt32.toUInt16.toUInt32.toInt32))]))
  exact own_outN X2 hx hlk (t := .char) hret (by simp) (hb hby d11_14) (z' := (((b0 &&& (255 : Int32)).toUInt32.toUInt16.toUInt32.toInt32).toUInt32.toUInt16.toUInt32.toInt32)) rfl (Q := Q11c0n1i0 Z o0 k b0 vf h0 n0) ⟨by simp only [f_l1charAtc0n1i0], N2, hh2⟩ (by decide) (by decide)
theorem pd_7 : parseMethodDescriptor "()Z" = some ⟨[], some .boolean⟩ := by decide +kernel
theorem pd_8 : parseMethodDescriptor "([BI)C" = some ⟨[(.array .byte), .int], some .char⟩ := by decide +kernel
theorem d9_0 : decode jdk_42_method_56_code 0 = .ok (.aload_n 0, 1) := by decide +kernel
theorem d9_1 : decode jdk_42_method_56_code 1 = .ok (.invokevirtual 492, 3) := by decide +kernel
theorem d9_4 : decode jdk_42_method_56_code 4 = .ok (.ifCond .eq 12, 3) := by decide +kernel
theorem d9_7 : decode jdk_42_method_56_code 7 = .ok (.aload_n 0, 1) := by decide +kernel
theorem d9_8 : decode jdk_42_method_56_code 8 = .ok (.getfield 9, 3) := by decide +kernel
theorem d9_11 : decode jdk_42_method_56_code 11 = .ok (.iload_n 1, 1) := by decide +kernel
theorem d9_12 : decode jdk_42_method_56_code 12 = .ok (.invokestatic 495, 3) := by decide +kernel
theorem d9_15 : decode jdk_42_method_56_code 15 = .ok (.ireturn, 1) := by decide +kernel
theorem ef_9c0n1i0 (m : MethodId) (x0 : Addr) : entryFrame m #[(.ref x0), (.int (0 : Int32))] 2 = mkF m 0 #[.val (.ref x0), .val (.int (0 : Int32))] [] := by first | (simp [entryFrame, mkF, argsToLocals, Value.category]; done) | rfl
def f_charAtc0n1i0 (b0 : Int32) (cs : Int32) : Int32 := ((f_l1charAtc0n1i0 b0).toUInt32.toUInt16.toUInt32.toInt32)
def Q9c0n1i0 (Z : State) (o0 : Addr) (ob : Addr) (k : ClassId) (b0 : Int32) (cs : Int32) (vf : Value) (h0 : Heap) (n0 : Nat) (v : Option Value) (h : Heap) (L : List Loc) : Prop := v = some (.int (f_charAtc0n1i0 b0 cs)) ∧ Fr n0 L ∧ h = h0
set_option maxRecDepth 65536 in
set_option maxHeartbeats 40000000 in
theorem rm9c0n1i0 (l : Launch) (Z : State) (a0 : Array Value) (hw : ∀ d ∈ tables_1, d.before a0 Z = true) (ws : List Jvm.Cond) (o0 : Addr) (ob : Addr) (k : ClassId) (b0 : Int32) (cs : Int32) (vf : Value) (h0 : Heap) (n0 : Nat) (Z0 : n0 ≤ h0.size) (E : Exa Z h0 o0 "java/lang/String") (Fv : Fld Z h0 o0 "java/lang/String" "value" "[B" (.ref ob)) (Fc : Fld Z h0 o0 "java/lang/String" "coder" "B" (.int (0 : Int32))) (V : Arv Z h0 ob k .byte (1 : Int32) [(.int b0)] (.int (0 : Int32))) (S_cs : Sta Z h0 "java/lang/String" "COMPACT_STRINGS" "Z" (.int cs)) (hcs : ¬ (cs = (0 : Int32))) (S_f : Sta Z h0 "jdk/internal/util/Preconditions" "SIOOBE_FORMATTER" "Ljava/util/function/BiFunction;" vf) (hvf : vf.isRef = true) :
    MetFree l (⟨"java/lang/String", "charAt", "(I)C"⟩ : MethodName) (head1 (Jvm.Cond.code (⟨"java/lang/String", "charAt", "(I)C"⟩ : MethodName) jdk_42_method_56_code 2 (some .char) :: ws) ({ frames := 3, cells := 0, slots := 0, locals := 40 } : Room)) (fun a U => a = #[(.ref o0), (.int (0 : Int32))] ∧ Z.Warmed39 U.vm ∧ U.heap = h0) (fun _ _ _ _ _ => True) (fun _ U o U' => ∃ v L, o = .returned v ∧ Q9c0n1i0 Z o0 ob k b0 cs vf h0 n0 v U'.heap L ∧ FrameEnd U o U' L ({ frames := 3, cells := 0, slots := 0, locals := 40 } : Room).cells ({ frames := 3, cells := 0, slots := 0, locals := 40 } : Room).slots) := by
  refine MetFree.of_bodySF (plainFor_of_name pn_2) hisR ?_
  intro p e s m args below meth c s₁ Bd hml0 hP hK
  obtain ⟨rfl, hZ, hh⟩ := hP
  have hx := Bd.exec
  have hby := Bd.bytes
  have hml : c.maxLocals = 2 := hml0
  have hown : s.vm.findClass "java/lang/String" = some m.cls := findClass_of_methodNamed Bd.named
  have hnm := (name_of_methodNamed Bd.named Bd.method).1
  have X0 : Stand p l e ({ frames := 3, cells := 0, slots := 0, locals := 40 } : Room) s m #[(.ref o0), (.int (0 : Int32))] below meth c s₁ [] 0 0 := Stand.of_body Bd
  have e0 : s₁.heap = h0 := by rw [← hh, Bd.state]; rfl
  have N0 := Fr.nil n0
  have hret := Bd.returns
  have hlk := BodyLoose.notSynchronized Bd
  show own_Out p e below (fun o U' => ∃ v L, o = .returned v ∧ Q9c0n1i0 Z o0 ob k b0 cs vf h0 n0 v U'.heap L ∧ FrameEnd s o U' L ({ frames := 3, cells := 0, slots := 0, locals := 40 } : Room).cells ({ frames := 3, cells := 0, slots := 0, locals := 40 } : Room).slots) (s₁.setTop (entryFrame m #[(.ref o0), (.int (0 : Int32))] 2))
  refine own_of (fun t k => castTop (ef_9c0n1i0 m o0) k) ?_
  show own_Out p e below _ (s₁.setTop (mkF m 0 #[.val (.ref o0), .val (.int (0 : Int32))] []))
  refine own_of (fun _ k => XS.aloadN X0.here hx rfl (hb hby d9_0) rfl rfl k) ?_
  show own_Out p e below _ (s₁.setTop (mkF m 1 #[.val (.ref o0), .val (.int (0 : Int32))] [(.ref o0)]))
  obtain ⟨cq1, kq1, q1a, q1b, q1c⟩ := isOf hZ e0 E
  obtain ⟨_, _, ⟨T1, L1, k1, n1⟩, -, X1, ⟨Lc1, hQ1, l1, y1, z1⟩, st1⟩ := X0.virtualBack hx (y := (⟨"java/lang/String", "isLatin1", "()Z"⟩ : MethodName)) (z := (⟨"java/lang/String", "isLatin1", "()Z"⟩ : MethodName)) hown (mvT hZ (hw _ (List.mem_of_getElem? (i := 44) rfl))) (mvT hZ (hw _ (List.mem_of_getElem? (i := 45) rfl))) (notFace_of_selects (args := #[]) (mvT hZ (hw _ (List.mem_of_getElem? (i := 47) rfl)))) (mvT hZ (hw _ (List.mem_of_getElem? (i := 47) rfl))) (mvT hZ (hw _ (List.mem_of_getElem? (i := 46) rfl))) (by decide) (backOf (W := 0) (rm10c0n1 l Z a0 hw [] o0 ob k b0 cs h0 n0 Z0 E Fv Fc V S_cs hcs) hZ (hw _ (List.mem_of_getElem? (i := 48) rfl)) (hw _ (List.mem_of_getElem? (i := 7) rfl)) (by decide) (by decide)) q1a q1c (g := (mkF m 1 #[.val (.ref o0), .val (.int (0 : Int32))] [(.ref o0)])) rfl (by rw [hml]; rfl) (Steps.refl _) (argsL := []) (rest := []) (lenOf pd_7 rfl) rfl (by show 2 * 0 + _ ≤ _; exact Nat.le_of_eq rfl) (hb hby d9_1) (fun _ _ => ⟨rfl, e0, (by decide : 0 + 0 ≤ _), (by decide : 0 + 0 ≤ _)⟩)
  dsimp only [Pt.U, Pt.locs, Pt.cells, Pt.slots] at X1 l1 y1 z1 st1 hQ1
  subst l1 y1 z1
  obtain ⟨rfl, N1q, hh1⟩ := hQ1
  have N1 := Fr.app N0 N1q
  refine own_of (fun _ k => st1.trans k) ?_
  show own_Out p e below _ (T1.setTop (mkF m 4 #[.val (.ref o0), .val (.int (0 : Int32))] [(.int (1 : Int32))]))
  refine own_of (fun _ k => XS.ifNo X1.here hx rfl (hb hby d9_4) rfl ((if0 _ _).trans (feq (by decide : ¬ ((1 : Int32) = (0 : Int32)))).1) k) ?_
  show own_Out p e below _ (T1.setTop (mkF m 7 #[.val (.ref o0), .val (.int (0 : Int32))] []))
  refine own_of (fun _ k => XS.aloadN X1.here hx rfl (hb hby d9_7) rfl rfl k) ?_
  show own_Out p e below _ (T1.setTop (mkF m 8 #[.val (.ref o0), .val (.int (0 : Int32))] [(.ref o0)]))
  obtain ⟨T2, X2, e2, st2⟩ := getF X1 hx hZ hown (host := "") (Or.inl (hw _ (List.mem_of_getElem? (i := 27) rfl))) Via.refl hh1 Fv (g := (mkF m 8 #[.val (.ref o0), .val (.int (0 : Int32))] [(.ref o0)])) rfl rfl (hb hby d9_8)
  refine own_of st2 ?_
  show own_Out p e below _ (T2.setTop (mkF m 11 #[.val (.ref o0), .val (.int (0 : Int32))] [(.ref ob)]))
  refine own_of (fun _ k => XS.iloadN X2.here hx rfl (hb hby d9_11) rfl k) ?_
  show own_Out p e below _ (T2.setTop (mkF m 12 #[.val (.ref o0), .val (.int (0 : Int32))] [(.int (0 : Int32)), (.ref ob)]))
  obtain ⟨_, _, ⟨T3, L3, k3, n3⟩, -, X3, ⟨Lc3, hQ3, l3, y3, z3⟩, st3⟩ := Jvm.LawKit.callS X2 hx (y := (⟨"java/lang/StringLatin1", "charAt", "([BI)C"⟩ : MethodName)) hown (mvT hZ (hw _ (List.mem_of_getElem? (i := 49) rfl))) (mvT hZ (hw _ (List.mem_of_getElem? (i := 50) rfl))) (mvT hZ (hw _ (List.mem_of_getElem? (i := 12) rfl))) (mvT hZ (hw _ (List.mem_of_getElem? (i := 51) rfl))) (by decide) (backOf (W := 0) (rm11c0n1i0 l Z a0 hw [] ob k b0 vf h0 n0 Z0 V S_f hvf) hZ (hw _ (List.mem_of_getElem? (i := 51) rfl)) (hw _ (List.mem_of_getElem? (i := 12) rfl)) (by decide) (by decide)) (g := (mkF m 12 #[.val (.ref o0), .val (.int (0 : Int32))] [(.int (0 : Int32)), (.ref ob)])) rfl (by rw [hml]; rfl) (argsL := [(.ref ob), (.int (0 : Int32))]) (rest := []) (lenOf pd_8 rfl) rfl (by show 2 * 0 + _ ≤ _; exact Nat.le_of_eq rfl) (hb hby d9_12) (fun _ _ => ⟨rfl, e2, (by decide : 0 + 0 ≤ _), (by decide : 0 + 0 ≤ _)⟩)
  dsimp only [Pt.U, Pt.locs, Pt.cells, Pt.slots] at X3 l3 y3 z3 st3 hQ3
  subst l3 y3 z3
  obtain ⟨rfl, N3q, hh3⟩ := hQ3
  have N3 := Fr.app N1 N3q
  refine own_of st3 ?_
  show own_Out p e below _ (T3.setTop (mkF m 15 #[.val (.ref o0), .val (.int (0 : Int32))] [(.int (f_l1charAtc0n1i0 b0))]))
  exact own_outN X3 hx hlk (t := .char) hret (by simp) (hb hby d9_15) (z' := ((f_l1charAtc0n1i0 b0).toUInt32.toUInt16.toUInt32.toInt32)) rfl (Q := Q9c0n1i0 Z o0 ob k b0 cs vf h0 n0) ⟨by simp only [f_charAtc0n1i0, if_neg hcs], N3, hh3⟩ (by decide) (by decide)
theorem pd_9 : parseMethodDescriptor "(I)C" = some ⟨[.int], some .char⟩ := by decide +kernel
theorem pd_10 : parseMethodDescriptor "()I" = some ⟨[], some .int⟩ := by decide +kernel
theorem d7_0 : decode prog_115_method_4_code 0 = .ok (.aload_n 0, 1) := by decide +kernel
theorem d7_1 : decode prog_115_method_4_code 1 = .ok (.invokevirtual 21, 3) := by decide +kernel
theorem d7_4 : decode prog_115_method_4_code 4 = .ok (.ifCond .ne 14, 3) := by decide +kernel
theorem d7_7 : decode prog_115_method_4_code 7 = .ok (.aload_n 0, 1) := by decide +kernel
theorem d7_8 : decode prog_115_method_4_code 8 = .ok (.iconst 0, 1) := by decide +kernel
theorem d7_9 : decode prog_115_method_4_code 9 = .ok (.invokevirtual 25, 3) := by decide +kernel
theorem d7_12 : decode prog_115_method_4_code 12 = .ok (.invokestatic 7, 3) := by decide +kernel
theorem d7_15 : decode prog_115_method_4_code 15 = .ok (.ifCond .ne 5, 3) := by decide +kernel
theorem d7_18 : decode prog_115_method_4_code 18 = .ok (.iconst 0, 1) := by decide +kernel
theorem d7_19 : decode prog_115_method_4_code 19 = .ok (.ireturn, 1) := by decide +kernel
theorem d7_20 : decode prog_115_method_4_code 20 = .ok (.iconst 1, 1) := by decide +kernel
theorem d7_21 : decode prog_115_method_4_code 21 = .ok (.istore_n 1, 1) := by decide +kernel
theorem d7_22 : decode prog_115_method_4_code 22 = .ok (.iload_n 1, 1) := by decide +kernel
theorem d7_23 : decode prog_115_method_4_code 23 = .ok (.aload_n 0, 1) := by decide +kernel
theorem d7_24 : decode prog_115_method_4_code 24 = .ok (.invokevirtual 29, 3) := by decide +kernel
theorem d7_27 : decode prog_115_method_4_code 27 = .ok (.if_icmp .ge 22, 3) := by decide +kernel
theorem d7_49 : decode prog_115_method_4_code 49 = .ok (.iconst 1, 1) := by decide +kernel
theorem d7_50 : decode prog_115_method_4_code 50 = .ok (.ireturn, 1) := by decide +kernel
theorem ef_7c0n1 (m : MethodId) (x0 : Addr) : entryFrame m #[(.ref x0)] 2 = mkF m 0 #[.val (.ref x0), .unset] [] := by first | (simp [entryFrame, mkF, argsToLocals, Value.category]; done) | rfl
def f_isTagc0n1 (b0 : Int32) (cs : Int32) : Int32 := if (f1 (f_charAtc0n1i0 b0 cs)) = (0 : Int32) then (0 : Int32)
  else (1 : Int32)
def Q7c0n1 (Z : State) (o0 : Addr) (ob : Addr) (k : ClassId) (b0 : Int32) (cs : Int32) (vf : Value) (h0 : Heap) (n0 : Nat) (v : Option Value) (h : Heap) (L : List Loc) : Prop := v = some (.int (f_isTagc0n1 b0 cs)) ∧ Fr n0 L ∧ h = h0
set_option maxRecDepth 65536 in
set_option maxHeartbeats 40000000 in
theorem rm7c0n1 (l : Launch) (Z : State) (a0 : Array Value) (hw : ∀ d ∈ tables_1, d.before a0 Z = true) (ws : List Jvm.Cond) (o0 : Addr) (ob : Addr) (k : ClassId) (b0 : Int32) (cs : Int32) (vf : Value) (h0 : Heap) (n0 : Nat) (Z0 : n0 ≤ h0.size) (E : Exa Z h0 o0 "java/lang/String") (Fv : Fld Z h0 o0 "java/lang/String" "value" "[B" (.ref ob)) (Fc : Fld Z h0 o0 "java/lang/String" "coder" "B" (.int (0 : Int32))) (V : Arv Z h0 ob k .byte (1 : Int32) [(.int b0)] (.int (0 : Int32))) (S_cs : Sta Z h0 "java/lang/String" "COMPACT_STRINGS" "Z" (.int cs)) (hcs : ¬ (cs = (0 : Int32))) (S_f : Sta Z h0 "jdk/internal/util/Preconditions" "SIOOBE_FORMATTER" "Ljava/util/function/BiFunction;" vf) (hvf : vf.isRef = true) :
    MetFree l (⟨"com/example/ringd/ringd/core/Tags", "isTag", "(Ljava/lang/String;)Z"⟩ : MethodName) (head1 (Jvm.Cond.code (⟨"com/example/ringd/ringd/core/Tags", "isTag", "(Ljava/lang/String;)Z"⟩ : MethodName) prog_115_method_4_code 2 (some .boolean) :: ws) ({ frames := 4, cells := 0, slots := 0, locals := 53 } : Room)) (fun a U => a = #[(.ref o0)] ∧ Z.Warmed39 U.vm ∧ U.heap = h0) (fun _ _ _ _ _ => True) (fun _ U o U' => ∃ v L, o = .returned v ∧ Q7c0n1 Z o0 ob k b0 cs vf h0 n0 v U'.heap L ∧ FrameEnd U o U' L ({ frames := 4, cells := 0, slots := 0, locals := 53 } : Room).cells ({ frames := 4, cells := 0, slots := 0, locals := 53 } : Room).slots) := by
  refine MetFree.of_bodySF (plainFor_of_name pn_0) hisR ?_
  intro p e s m args below meth c s₁ Bd hml0 hP hK
  obtain ⟨rfl, hZ, hh⟩ := hP
  have hx := Bd.exec
  have hby := Bd.bytes
  have hml : c.maxLocals = 2 := hml0
  have hown : s.vm.findClass "com/example/ringd/ringd/core/Tags" = some m.cls := findClass_of_methodNamed Bd.named
  have hnm := (name_of_methodNamed Bd.named Bd.method).1
  have X0 : Stand p l e ({ frames := 4, cells := 0, slots := 0, locals := 53 } : Room) s m #[(.ref o0)] below meth c s₁ [] 0 0 := Stand.of_body Bd
  have e0 : s₁.heap = h0 := by rw [← hh, Bd.state]; rfl
  have N0 := Fr.nil n0
  have hret := Bd.returns
  have hlk := BodyLoose.notSynchronized Bd
  show own_Out p e below (fun o U' => ∃ v L, o = .returned v ∧ Q7c0n1 Z o0 ob k b0 cs vf h0 n0 v U'.heap L ∧ FrameEnd s o U' L ({ frames := 4, cells := 0, slots := 0, locals := 53 } : Room).cells ({ frames := 4, cells := 0, slots := 0, locals := 53 } : Room).slots) (s₁.setTop (entryFrame m #[(.ref o0)] 2))
  refine own_of (fun t k => castTop (ef_7c0n1 m o0) k) ?_
  show own_Out p e below _ (s₁.setTop (mkF m 0 #[.val (.ref o0), .unset] []))
  refine own_of (fun _ k => XS.aloadN X0.here hx rfl (hb hby d7_0) rfl rfl k) ?_
  show own_Out p e below _ (s₁.setTop (mkF m 1 #[.val (.ref o0), .unset] [(.ref o0)]))
  obtain ⟨cq1, kq1, q1a, q1b, q1c⟩ := isOf hZ e0 E
  obtain ⟨_, _, ⟨T1, L1, k1, n1⟩, -, X1, ⟨Lc1, hQ1, l1, y1, z1⟩, st1⟩ := X0.virtualBack hx (y := (⟨"java/lang/String", "isEmpty", "()Z"⟩ : MethodName)) (z := (⟨"java/lang/String", "isEmpty", "()Z"⟩ : MethodName)) hown (mvT hZ (hw _ (List.mem_of_getElem? (i := 34) rfl))) (mvT hZ (hw _ (List.mem_of_getElem? (i := 35) rfl))) (notFace_of_selects (args := #[]) (mvT hZ (hw _ (List.mem_of_getElem? (i := 37) rfl)))) (mvT hZ (hw _ (List.mem_of_getElem? (i := 37) rfl))) (mvT hZ (hw _ (List.mem_of_getElem? (i := 36) rfl))) (by decide) (backOf (W := 0) (rm8c0n1 l Z a0 hw [] o0 ob k b0 cs h0 n0 Z0 E Fv Fc V S_cs hcs) hZ (hw _ (List.mem_of_getElem? (i := 38) rfl)) (hw _ (List.mem_of_getElem? (i := 7) rfl)) (by decide) (by decide)) q1a q1c (g := (mkF m 1 #[.val (.ref o0), .unset] [(.ref o0)])) rfl (by rw [hml]; rfl) (Steps.refl _) (argsL := []) (rest := []) (lenOf pd_7 rfl) rfl (by show 2 * 0 + _ ≤ _; exact Nat.le_of_eq rfl) (hb hby d7_1) (fun _ _ => ⟨rfl, e0, (by decide : 0 + 0 ≤ _), (by decide : 0 + 0 ≤ _)⟩)
  dsimp only [Pt.U, Pt.locs, Pt.cells, Pt.slots] at X1 l1 y1 z1 st1 hQ1
  subst l1 y1 z1
  obtain ⟨rfl, N1q, hh1⟩ := hQ1
  have N1 := Fr.app N0 N1q
  refine own_of (fun _ k => st1.trans k) ?_
  show own_Out p e below _ (T1.setTop (mkF m 4 #[.val (.ref o0), .unset] [(.int (0 : Int32))]))
  refine own_of (fun _ k => XS.ifNo X1.here hx rfl (hb hby d7_4) rfl ((if0 _ _).trans (teq (by decide : (0 : Int32) = (0 : Int32))).2) k) ?_
  show own_Out p e below _ (T1.setTop (mkF m 7 #[.val (.ref o0), .unset] []))
  refine own_of (fun _ k => XS.aloadN X1.here hx rfl (hb hby d7_7) rfl rfl k) ?_
  show own_Out p e below _ (T1.setTop (mkF m 8 #[.val (.ref o0), .unset] [(.ref o0)]))
  refine own_of (fun _ k => XS.iconst X1.here hx rfl (hb hby d7_8) k) ?_
  show own_Out p e below _ (T1.setTop (mkF m 9 #[.val (.ref o0), .unset] [(.int (0 : Int32)), (.ref o0)]))
  obtain ⟨cq2, kq2, q2a, q2b, q2c⟩ := isOf hZ hh1 E
  obtain ⟨_, _, ⟨T2, L2, k2, n2⟩, -, X2, ⟨Lc2, hQ2, l2, y2, z2⟩, st2⟩ := X1.virtualBack hx (y := (⟨"java/lang/String", "charAt", "(I)C"⟩ : MethodName)) (z := (⟨"java/lang/String", "charAt", "(I)C"⟩ : MethodName)) hown (mvT hZ (hw _ (List.mem_of_getElem? (i := 39) rfl))) (mvT hZ (hw _ (List.mem_of_getElem? (i := 40) rfl))) (notFace_of_selects (args := #[]) (mvT hZ (hw _ (List.mem_of_getElem? (i := 42) rfl)))) (mvT hZ (hw _ (List.mem_of_getElem? (i := 42) rfl))) (mvT hZ (hw _ (List.mem_of_getElem? (i := 41) rfl))) (by decide) (backOf (W := 0) (rm9c0n1i0 l Z a0 hw [] o0 ob k b0 cs vf h0 n0 Z0 E Fv Fc V S_cs hcs S_f hvf) hZ (hw _ (List.mem_of_getElem? (i := 43) rfl)) (hw _ (List.mem_of_getElem? (i := 7) rfl)) (by decide) (by decide)) q2a q2c (g := (mkF m 9 #[.val (.ref o0), .unset] [(.int (0 : Int32)), (.ref o0)])) rfl (by rw [hml]; rfl) (Steps.refl _) (argsL := [(.int (0 : Int32))]) (rest := []) (lenOf pd_9 rfl) rfl (by show 2 * 0 + _ ≤ _; exact Nat.le_of_eq rfl) (hb hby d7_9) (fun _ _ => ⟨rfl, hh1, (by decide : 0 + 0 ≤ _), (by decide : 0 + 0 ≤ _)⟩)
  dsimp only [Pt.U, Pt.locs, Pt.cells, Pt.slots] at X2 l2 y2 z2 st2 hQ2
  subst l2 y2 z2
  obtain ⟨rfl, N2q, hh2⟩ := hQ2
  have N2 := Fr.app N1 N2q
  refine own_of (fun _ k => st2.trans k) ?_
  show own_Out p e below _ (T2.setTop (mkF m 12 #[.val (.ref o0), .unset] [(.int (f_charAtc0n1i0 b0 cs))]))
  obtain ⟨_, _, ⟨T3, L3, k3, n3⟩, -, X3, ⟨Lc3, hQ3, l3, y3, z3⟩, st3⟩ := Jvm.LawKit.callS X2 hx (y := (⟨"com/example/ringd/ringd/core/Tags", "isStart", "(C)Z"⟩ : MethodName)) hown (mvT hZ (hw _ (List.mem_of_getElem? (i := 60) rfl))) (mvT hZ (hw _ (List.mem_of_getElem? (i := 2) rfl))) (mvT hZ (hw _ (List.mem_of_getElem? (i := 3) rfl))) (mvT hZ (hw _ (List.mem_of_getElem? (i := 4) rfl))) (by decide) (backOf (W := 0) (rm1 l Z a0 hw [] (f_charAtc0n1i0 b0 cs) h0 n0 Z0 ) hZ (hw _ (List.mem_of_getElem? (i := 4) rfl)) (hw _ (List.mem_of_getElem? (i := 3) rfl)) (by decide) (by decide)) (g := (mkF m 12 #[.val (.ref o0), .unset] [(.int (f_charAtc0n1i0 b0 cs))])) rfl (by rw [hml]; rfl) (argsL := [(.int (f_charAtc0n1i0 b0 cs))]) (rest := []) (lenOf pd_0 rfl) rfl (by show 2 * 0 + _ ≤ _; exact Nat.le_of_eq rfl) (hb hby d7_12) (fun _ _ => ⟨rfl, hh2, (by decide : 0 + 0 ≤ _), (by decide : 0 + 0 ≤ _)⟩)
  dsimp only [Pt.U, Pt.locs, Pt.cells, Pt.slots] at X3 l3 y3 z3 st3 hQ3
  subst l3 y3 z3
  obtain ⟨rfl, N3q, hh3⟩ := hQ3
  have N3 := Fr.app N2 N3q
  refine own_of st3 ?_
  show own_Out p e below _ (T3.setTop (mkF m 15 #[.val (.ref o0), .unset] [(.int (f1 (f_charAtc0n1i0 b0 cs)))]))
  by_cases hc15_4 : (f1 (f_charAtc0n1i0 b0 cs)) = (0 : Int32)
  · skip
    refine own_of (fun _ k => XS.ifNo X3.here hx rfl (hb hby d7_15) rfl ((if0 _ _).trans (teq hc15_4).2) k) ?_
    show own_Out p e below _ (T3.setTop (mkF m 18 #[.val (.ref o0), .unset] []))
    refine own_of (fun _ k => XS.iconst X3.here hx rfl (hb hby d7_18) k) ?_
    show own_Out p e below _ (T3.setTop (mkF m 19 #[.val (.ref o0), .unset] [(.int (0 : Int32))]))
    exact own_outN X3 hx hlk (t := .boolean) hret (by simp) (hb hby d7_19) (z' := (0 : Int32)) rfl (Q := Q7c0n1 Z o0 ob k b0 cs vf h0 n0) ⟨by simp only [f_isTagc0n1, if_neg hcs, if_pos hc15_4], N3, hh3⟩ (by decide) (by decide)
  · skip
    refine own_of (fun _ k => XS.ifYes X3.here hx rfl (pc0 := 15) (pc' := 20) rfl (hb hby d7_15) rfl ((if0 _ _).trans (feq hc15_4).2) (by decide) (by decide) k) ?_
    show own_Out p e below _ (T3.setTop (mkF m 20 #[.val (.ref o0), .unset] []))
    refine own_of (fun _ k => XS.iconst X3.here hx rfl (hb hby d7_20) k) ?_
    show own_Out p e below _ (T3.setTop (mkF m 21 #[.val (.ref o0), .unset] [(.int (1 : Int32))]))
    refine own_of (fun _ k => XS.istoreN X3.here hx rfl (hb hby d7_21) rfl (l' := #[.val (.ref o0), .val (.int (1 : Int32))]) rfl k) ?_
    show own_Out p e below _ (T3.setTop (mkF m 22 #[.val (.ref o0), .val (.int (1 : Int32))] []))
    refine own_of (fun _ k => XS.iloadN X3.here hx rfl (hb hby d7_22) rfl k) ?_
    show own_Out p e below _ (T3.setTop (mkF m 23 #[.val (.ref o0), .val (.int (1 : Int32))] [(.int (1 : Int32))]))
    refine own_of (fun _ k => XS.aloadN X3.here hx rfl (hb hby d7_23) rfl rfl k) ?_
    show own_Out p e below _ (T3.setTop (mkF m 24 #[.val (.ref o0), .val (.int (1 : Int32))] [(.ref o0), (.int (1 : Int32))]))
    obtain ⟨cq5, kq5, q5a, q5b, q5c⟩ := isOf hZ hh3 E
    obtain ⟨_, _, ⟨T5, L5, k5, n5⟩, -, X5, ⟨Lc5, hQ5, l5, y5, z5⟩, st5⟩ := X3.virtualBack hx (y := (⟨"java/lang/String", "length", "()I"⟩ : MethodName)) (z := (⟨"java/lang/String", "length", "()I"⟩ : MethodName)) hown (mvT hZ (hw _ (List.mem_of_getElem? (i := 64) rfl))) (mvT hZ (hw _ (List.mem_of_getElem? (i := 65) rfl))) (notFace_of_selects (args := #[]) (mvT hZ (hw _ (List.mem_of_getElem? (i := 67) rfl)))) (mvT hZ (hw _ (List.mem_of_getElem? (i := 67) rfl))) (mvT hZ (hw _ (List.mem_of_getElem? (i := 66) rfl))) (by decide) (backOf (W := 1) (rm15c0n1 l Z a0 hw [] o0 ob k b0 cs h0 n0 Z0 E Fv Fc V S_cs hcs) hZ (hw _ (List.mem_of_getElem? (i := 68) rfl)) (hw _ (List.mem_of_getElem? (i := 7) rfl)) (by decide) (by decide)) q5a q5c (g := (mkF m 24 #[.val (.ref o0), .val (.int (1 : Int32))] [(.ref o0), (.int (1 : Int32))])) rfl (by rw [hml]; rfl) (Steps.refl _) (argsL := []) (rest := [(.int (1 : Int32))]) (lenOf pd_10 rfl) rfl (by show 2 * 0 + _ ≤ _; exact Nat.le_of_eq rfl) (hb hby d7_24) (fun _ _ => ⟨rfl, hh3, (by decide : 0 + 0 ≤ _), (by decide : 0 + 0 ≤ _)⟩)
    dsimp only [Pt.U, Pt.locs, Pt.cells, Pt.slots] at X5 l5 y5 z5 st5 hQ5
    subst l5 y5 z5
    obtain ⟨rfl, N5q, hh5⟩ := hQ5
    have N5 := Fr.app N3 N5q
    refine own_of (fun _ k => st5.trans k) ?_
    show own_Out p e below _ (T5.setTop (mkF m 27 #[.val (.ref o0), .val (.int (1 : Int32))] [(.int (1 : Int32)), (.int (1 : Int32))]))
    refine own_of (fun _ k => XS.icmpYes X5.here hx rfl (pc0 := 27) (pc' := 49) rfl (hb hby d7_27) rfl (flt (by decide : ¬ ((1 : Int32) < (1 : Int32)))).2.1 (by decide) (by decide) k) ?_
    show own_Out p e below _ (T5.setTop (mkF m 49 #[.val (.ref o0), .val (.int (1 : Int32))] []))
    refine own_of (fun _ k => XS.iconst X5.here hx rfl (hb hby d7_49) k) ?_
    show own_Out p e below _ (T5.setTop (mkF m 50 #[.val (.ref o0), .val (.int (1 : Int32))] [(.int (1 : Int32))]))
    exact own_outN X5 hx hlk (t := .boolean) hret (by simp) (hb hby d7_50) (z' := (1 : Int32)) rfl (Q := Q7c0n1 Z o0 ob k b0 cs vf h0 n0) ⟨by simp only [f_isTagc0n1, if_neg hcs, if_neg hc15_4], N5, hh5⟩ (by decide) (by decide)
theorem ef_8c1n2 (m : MethodId) (x0 : Addr) : entryFrame m #[(.ref x0)] 1 = mkF m 0 #[.val (.ref x0)] [] := by first | (simp [entryFrame, mkF, argsToLocals, Value.category]; done) | rfl
def Q8c1n2 (Z : State) (o0 : Addr) (ob : Addr) (k : ClassId) (b0 : Int32) (b1 : Int32) (cs : Int32) (h0 : Heap) (n0 : Nat) (v : Option Value) (h : Heap) (L : List Loc) : Prop := v = some (.int (0 : Int32)) ∧ Fr n0 L ∧ h = h0
set_option maxRecDepth 65536 in
set_option maxHeartbeats 40000000 in
theorem rm8c1n2 (l : Launch) (Z : State) (a0 : Array Value) (hw : ∀ d ∈ tables_1, d.before a0 Z = true) (ws : List Jvm.Cond) (o0 : Addr) (ob : Addr) (k : ClassId) (b0 : Int32) (b1 : Int32) (cs : Int32) (h0 : Heap) (n0 : Nat) (Z0 : n0 ≤ h0.size) (E : Exa Z h0 o0 "java/lang/String") (Fv : Fld Z h0 o0 "java/lang/String" "value" "[B" (.ref ob)) (Fc : Fld Z h0 o0 "java/lang/String" "coder" "B" (.int (1 : Int32))) (V : Arv Z h0 ob k .byte (2 : Int32) [(.int b0), (.int b1)] (.int (0 : Int32))) (S_cs : Sta Z h0 "java/lang/String" "COMPACT_STRINGS" "Z" (.int cs)) (hcs : ¬ (cs = (0 : Int32))) :
    MetFree l (⟨"java/lang/String", "isEmpty", "()Z"⟩ : MethodName) (head1 (Jvm.Cond.code (⟨"java/lang/String", "isEmpty", "()Z"⟩ : MethodName) jdk_42_method_55_code 1 (some .boolean) :: ws) ({ frames := 0, cells := 0, slots := 0, locals := 0 } : Room)) (fun a U => a = #[(.ref o0)] ∧ Z.Warmed39 U.vm ∧ U.heap = h0) (fun _ _ _ _ _ => True) (fun _ U o U' => ∃ v L, o = .returned v ∧ Q8c1n2 Z o0 ob k b0 b1 cs h0 n0 v U'.heap L ∧ FrameEnd U o U' L ({ frames := 0, cells := 0, slots := 0, locals := 0 } : Room).cells ({ frames := 0, cells := 0, slots := 0, locals := 0 } : Room).slots) := by
  refine MetFree.of_bodySF (plainFor_of_name pn_2) hisR ?_
  intro p e s m args below meth c s₁ Bd hml0 hP hK
  obtain ⟨rfl, hZ, hh⟩ := hP
  have hx := Bd.exec
  have hby := Bd.bytes
  have hml : c.maxLocals = 1 := hml0
  have hown : s.vm.findClass "java/lang/String" = some m.cls := findClass_of_methodNamed Bd.named
  have hnm := (name_of_methodNamed Bd.named Bd.method).1
  have X0 : Stand p l e ({ frames := 0, cells := 0, slots := 0, locals := 0 } : Room) s m #[(.ref o0)] below meth c s₁ [] 0 0 := Stand.of_body Bd
  have e0 : s₁.heap = h0 := by rw [← hh, Bd.state]; rfl
  have N0 := Fr.nil n0
  have hret := Bd.returns
  have hlk := BodyLoose.notSynchronized Bd
  show own_Out p e below (fun o U' => ∃ v L, o = .returned v ∧ Q8c1n2 Z o0 ob k b0 b1 cs h0 n0 v U'.heap L ∧ FrameEnd s o U' L ({ frames := 0, cells := 0, slots := 0, locals := 0 } : Room).cells ({ frames := 0, cells := 0, slots := 0, locals := 0 } : Room).slots) (s₁.setTop (entryFrame m #[(.ref o0)] 1))
  refine own_of (fun t k => castTop (ef_8c1n2 m o0) k) ?_
  show own_Out p e below _ (s₁.setTop (mkF m 0 #[.val (.ref o0)] []))
  refine own_of (fun _ k => XS.aloadN X0.here hx rfl (hb hby d8_0) rfl rfl k) ?_
  show own_Out p e below _ (s₁.setTop (mkF m 1 #[.val (.ref o0)] [(.ref o0)]))
  obtain ⟨T1, X1, e1, st1⟩ := getF X0 hx hZ hown (host := "") (Or.inl (hw _ (List.mem_of_getElem? (i := 27) rfl))) Via.refl e0 Fv (g := (mkF m 1 #[.val (.ref o0)] [(.ref o0)])) rfl rfl (hb hby d8_1)
  refine own_of st1 ?_
  show own_Out p e below _ (T1.setTop (mkF m 4 #[.val (.ref o0)] [(.ref ob)]))
  obtain ⟨cl2, Ar2, q2, S2, N2', H2, G2⟩ := id V
  refine own_of (X1.arraylength hx (by rw [e1]; exact Ar2.1) (State.isArrayOf_alike hZ.alike Ar2.2.1) (g := (mkF m 4 #[.val (.ref o0)] [(.ref ob)])) rfl rfl (hb hby d8_4)) ?_
  rw [len_of S2 N2']
  show own_Out p e below _ (T1.setTop (mkF m 5 #[.val (.ref o0)] [(.int (2 : Int32))]))
  refine own_of (fun _ k => XS.ifYes X1.here hx rfl (pc0 := 5) (pc' := 12) rfl (hb hby d8_5) rfl ((if0 _ _).trans (feq (by decide : ¬ ((2 : Int32) = (0 : Int32)))).2) (by decide) (by decide) k) ?_
  show own_Out p e below _ (T1.setTop (mkF m 12 #[.val (.ref o0)] []))
  refine own_of (fun _ k => XS.iconst X1.here hx rfl (hb hby d8_12) k) ?_
  show own_Out p e below _ (T1.setTop (mkF m 13 #[.val (.ref o0)] [(.int (0 : Int32))]))
  exact own_outN X1 hx hlk (t := .boolean) hret (by simp) (hb hby d8_13) (z' := (0 : Int32)) rfl (Q := Q8c1n2 Z o0 ob k b0 b1 cs h0 n0) ⟨rfl, N0, e1⟩ (by decide) (by decide)
theorem ef_16c1n2 (m : MethodId) (x0 : Addr) : entryFrame m #[(.ref x0)] 1 = mkF m 0 #[.val (.ref x0)] [] := by first | (simp [entryFrame, mkF, argsToLocals, Value.category]; done) | rfl
def Q16c1n2 (Z : State) (o0 : Addr) (ob : Addr) (k : ClassId) (b0 : Int32) (b1 : Int32) (cs : Int32) (h0 : Heap) (n0 : Nat) (v : Option Value) (h : Heap) (L : List Loc) : Prop := v = some (.int (1 : Int32)) ∧ Fr n0 L ∧ h = h0
set_option maxRecDepth 65536 in
set_option maxHeartbeats 40000000 in
theorem rm16c1n2 (l : Launch) (Z : State) (a0 : Array Value) (hw : ∀ d ∈ tables_1, d.before a0 Z = true) (ws : List Jvm.Cond) (o0 : Addr) (ob : Addr) (k : ClassId) (b0 : Int32) (b1 : Int32) (cs : Int32) (h0 : Heap) (n0 : Nat) (Z0 : n0 ≤ h0.size) (E : Exa Z h0 o0 "java/lang/String") (Fv : Fld Z h0 o0 "java/lang/String" "value" "[B" (.ref ob)) (Fc : Fld Z h0 o0 "java/lang/String" "coder" "B" (.int (1 : Int32))) (V : Arv Z h0 ob k .byte (2 : Int32) [(.int b0), (.int b1)] (.int (0 : Int32))) (S_cs : Sta Z h0 "java/lang/String" "COMPACT_STRINGS" "Z" (.int cs)) (hcs : ¬ (cs = (0 : Int32))) :
    MetFree l (⟨"java/lang/String", "coder", "()B"⟩ : MethodName) (head1 (Jvm.Cond.code (⟨"java/lang/String", "coder", "()B"⟩ : MethodName) jdk_42_method_152_code 1 (some .byte) :: ws) ({ frames := 0, cells := 0, slots := 0, locals := 0 } : Room)) (fun a U => a = #[(.ref o0)] ∧ Z.Warmed39 U.vm ∧ U.heap = h0) (fun _ _ _ _ _ => True) (fun _ U o U' => ∃ v L, o = .returned v ∧ Q16c1n2 Z o0 ob k b0 b1 cs h0 n0 v U'.heap L ∧ FrameEnd U o U' L ({ frames := 0, cells := 0, slots := 0, locals := 0 } : Room).cells ({ frames := 0, cells := 0, slots := 0, locals := 0 } : Room).slots) := by
  refine MetFree.of_bodySF (plainFor_of_name pn_2) hisR ?_
  intro p e s m args below meth c s₁ Bd hml0 hP hK
  obtain ⟨rfl, hZ, hh⟩ := hP
  have hx := Bd.exec
  have hby := Bd.bytes
  have hml : c.maxLocals = 1 := hml0
  have hown : s.vm.findClass "java/lang/String" = some m.cls := findClass_of_methodNamed Bd.named
  have hnm := (name_of_methodNamed Bd.named Bd.method).1
  have X0 : Stand p l e ({ frames := 0, cells := 0, slots := 0, locals := 0 } : Room) s m #[(.ref o0)] below meth c s₁ [] 0 0 := Stand.of_body Bd
  have e0 : s₁.heap = h0 := by rw [← hh, Bd.state]; rfl
  have N0 := Fr.nil n0
  have hret := Bd.returns
  have hlk := BodyLoose.notSynchronized Bd
  show own_Out p e below (fun o U' => ∃ v L, o = .returned v ∧ Q16c1n2 Z o0 ob k b0 b1 cs h0 n0 v U'.heap L ∧ FrameEnd s o U' L ({ frames := 0, cells := 0, slots := 0, locals := 0 } : Room).cells ({ frames := 0, cells := 0, slots := 0, locals := 0 } : Room).slots) (s₁.setTop (entryFrame m #[(.ref o0)] 1))
  refine own_of (fun t k => castTop (ef_16c1n2 m o0) k) ?_
  show own_Out p e below _ (s₁.setTop (mkF m 0 #[.val (.ref o0)] []))
  obtain ⟨T1, X1, e1, st1⟩ := getS2 X0 hx hZ hown (host := "") (Or.inl (hw _ (List.mem_of_getElem? (i := 9) rfl))) Via.refl e0 S_cs (g := (mkF m 0 #[.val (.ref o0)] [])) rfl (hb hby d16_0)
  refine own_of st1 ?_
  show own_Out p e below _ (T1.setTop (mkF m 3 #[.val (.ref o0)] [(.int cs)]))
  refine own_of (fun _ k => XS.ifNo X1.here hx rfl (hb hby d16_3) rfl ((if0 _ _).trans (feq hcs).1) k) ?_
  show own_Out p e below _ (T1.setTop (mkF m 6 #[.val (.ref o0)] []))
  refine own_of (fun _ k => XS.aloadN X1.here hx rfl (hb hby d16_6) rfl rfl k) ?_
  show own_Out p e below _ (T1.setTop (mkF m 7 #[.val (.ref o0)] [(.ref o0)]))
  obtain ⟨T2, X2, e2, st2⟩ := getF X1 hx hZ hown (host := "") (Or.inl (hw _ (List.mem_of_getElem? (i := 29) rfl))) Via.refl e1 Fc (g := (mkF m 7 #[.val (.ref o0)] [(.ref o0)])) rfl rfl (hb hby d16_7)
  refine own_of st2 ?_
  show own_Out p e below _ (T2.setTop (mkF m 10 #[.val (.ref o0)] [(.int (1 : Int32))]))
  refine own_of (fun _ k => XS.goto X2.here hx rfl (pc0 := 10) (pc' := 14) rfl (hb hby d16_10) (by decide) (by decide) k) ?_
  show own_Out p e below _ (T2.setTop (mkF m 14 #[.val (.ref o0)] [(.int (1 : Int32))]))
  exact own_outN X2 hx hlk (t := .byte) hret (by simp) (hb hby d16_14) (z' := (1 : Int32)) rfl (Q := Q16c1n2 Z o0 ob k b0 b1 cs h0 n0) ⟨rfl, N0, e2⟩ (by decide) (by decide)
theorem d10_17 : decode jdk_42_method_154_code 17 = .ok (.iconst 0, 1) := by decide +kernel
theorem ef_10c1n2 (m : MethodId) (x0 : Addr) : entryFrame m #[(.ref x0)] 1 = mkF m 0 #[.val (.ref x0)] [] := by first | (simp [entryFrame, mkF, argsToLocals, Value.category]; done) | rfl
def Q10c1n2 (Z : State) (o0 : Addr) (ob : Addr) (k : ClassId) (b0 : Int32) (b1 : Int32) (cs : Int32) (h0 : Heap) (n0 : Nat) (v : Option Value) (h : Heap) (L : List Loc) : Prop := v = some (.int (0 : Int32)) ∧ Fr n0 L ∧ h = h0
set_option maxRecDepth 65536 in
set_option maxHeartbeats 40000000 in
theorem rm10c1n2 (l : Launch) (Z : State) (a0 : Array Value) (hw : ∀ d ∈ tables_1, d.before a0 Z = true) (ws : List Jvm.Cond) (o0 : Addr) (ob : Addr) (k : ClassId) (b0 : Int32) (b1 : Int32) (cs : Int32) (h0 : Heap) (n0 : Nat) (Z0 : n0 ≤ h0.size) (E : Exa Z h0 o0 "java/lang/String") (Fv : Fld Z h0 o0 "java/lang/String" "value" "[B" (.ref ob)) (Fc : Fld Z h0 o0 "java/lang/String" "coder" "B" (.int (1 : Int32))) (V : Arv Z h0 ob k .byte (2 : Int32) [(.int b0), (.int b1)] (.int (0 : Int32))) (S_cs : Sta Z h0 "java/lang/String" "COMPACT_STRINGS" "Z" (.int cs)) (hcs : ¬ (cs = (0 : Int32))) :
    MetFree l (⟨"java/lang/String", "isLatin1", "()Z"⟩ : MethodName) (head1 (Jvm.Cond.code (⟨"java/lang/String", "isLatin1", "()Z"⟩ : MethodName) jdk_42_method_154_code 1 (some .boolean) :: ws) ({ frames := 0, cells := 0, slots := 0, locals := 0 } : Room)) (fun a U => a = #[(.ref o0)] ∧ Z.Warmed39 U.vm ∧ U.heap = h0) (fun _ _ _ _ _ => True) (fun _ U o U' => ∃ v L, o = .returned v ∧ Q10c1n2 Z o0 ob k b0 b1 cs h0 n0 v U'.heap L ∧ FrameEnd U o U' L ({ frames := 0, cells := 0, slots := 0, locals := 0 } : Room).cells ({ frames := 0, cells := 0, slots := 0, locals := 0 } : Room).slots) := by
  refine MetFree.of_bodySF (plainFor_of_name pn_2) hisR ?_
  intro p e s m args below meth c s₁ Bd hml0 hP hK
  obtain ⟨rfl, hZ, hh⟩ := hP
  have hx := Bd.exec
  have hby := Bd.bytes
  have hml : c.maxLocals = 1 := hml0
  have hown : s.vm.findClass "java/lang/String" = some m.cls := findClass_of_methodNamed Bd.named
  have hnm := (name_of_methodNamed Bd.named Bd.method).1
  have X0 : Stand p l e ({ frames := 0, cells := 0, slots := 0, locals := 0 } : Room) s m #[(.ref o0)] below meth c s₁ [] 0 0 := Stand.of_body Bd
  have e0 : s₁.heap = h0 := by rw [← hh, Bd.state]; rfl
  have N0 := Fr.nil n0
  have hret := Bd.returns
  have hlk := BodyLoose.notSynchronized Bd
  show own_Out p e below (fun o U' => ∃ v L, o = .returned v ∧ Q10c1n2 Z o0 ob k b0 b1 cs h0 n0 v U'.heap L ∧ FrameEnd s o U' L ({ frames := 0, cells := 0, slots := 0, locals := 0 } : Room).cells ({ frames := 0, cells := 0, slots := 0, locals := 0 } : Room).slots) (s₁.setTop (entryFrame m #[(.ref o0)] 1))
  refine own_of (fun t k => castTop (ef_10c1n2 m o0) k) ?_
  show own_Out p e below _ (s₁.setTop (mkF m 0 #[.val (.ref o0)] []))
  obtain ⟨T1, X1, e1, st1⟩ := getS2 X0 hx hZ hown (host := "") (Or.inl (hw _ (List.mem_of_getElem? (i := 9) rfl))) Via.refl e0 S_cs (g := (mkF m 0 #[.val (.ref o0)] [])) rfl (hb hby d10_0)
  refine own_of st1 ?_
  show own_Out p e below _ (T1.setTop (mkF m 3 #[.val (.ref o0)] [(.int cs)]))
  refine own_of (fun _ k => XS.ifNo X1.here hx rfl (hb hby d10_3) rfl ((if0 _ _).trans (feq hcs).1) k) ?_
  show own_Out p e below _ (T1.setTop (mkF m 6 #[.val (.ref o0)] []))
  refine own_of (fun _ k => XS.aloadN X1.here hx rfl (hb hby d10_6) rfl rfl k) ?_
  show own_Out p e below _ (T1.setTop (mkF m 7 #[.val (.ref o0)] [(.ref o0)]))
  obtain ⟨T2, X2, e2, st2⟩ := getF X1 hx hZ hown (host := "") (Or.inl (hw _ (List.mem_of_getElem? (i := 29) rfl))) Via.refl e1 Fc (g := (mkF m 7 #[.val (.ref o0)] [(.ref o0)])) rfl rfl (hb hby d10_7)
  refine own_of st2 ?_
  show own_Out p e below _ (T2.setTop (mkF m 10 #[.val (.ref o0)] [(.int (1 : Int32))]))
  refine own_of (fun _ k => XS.ifYes X2.here hx rfl (pc0 := 10) (pc' := 17) rfl (hb hby d10_10) rfl ((if0 _ _).trans (feq (by decide : ¬ ((1 : Int32) = (0 : Int32)))).2) (by decide) (by decide) k) ?_
  show own_Out p e below _ (T2.setTop (mkF m 17 #[.val (.ref o0)] []))
  refine own_of (fun _ k => XS.iconst X2.here hx rfl (hb hby d10_17) k) ?_
  show own_Out p e below _ (T2.setTop (mkF m 18 #[.val (.ref o0)] [(.int (0 : Int32))]))
  exact own_outN X2 hx hlk (t := .boolean) hret (by simp) (hb hby d10_18) (z' := (0 : Int32)) rfl (Q := Q10c1n2 Z o0 ob k b0 b1 cs h0 n0) ⟨rfl, N0, e2⟩ (by decide) (by decide)
theorem ef_15c1n2 (m : MethodId) (x0 : Addr) : entryFrame m #[(.ref x0)] 1 = mkF m 0 #[.val (.ref x0)] [] := by first | (simp [entryFrame, mkF, argsToLocals, Value.category]; done) | rfl
def Q15c1n2 (Z : State) (o0 : Addr) (ob : Addr) (k : ClassId) (b0 : Int32) (b1 : Int32) (cs : Int32) (h0 : Heap) (n0 : Nat) (v : Option Value) (h : Heap) (L : List Loc) : Prop := v = some (.int (1 : Int32)) ∧ Fr n0 L ∧ h = h0
set_option maxRecDepth 65536 in
set_option maxHeartbeats 40000000 in
theorem rm15c1n2 (l : Launch) (Z : State) (a0 : Array Value) (hw : ∀ d ∈ tables_1, d.before a0 Z = true) (ws : List Jvm.Cond) (o0 : Addr) (ob : Addr) (k : ClassId) (b0 : Int32) (b1 : Int32) (cs : Int32) (h0 : Heap) (n0 : Nat) (Z0 : n0 ≤ h0.size) (E : Exa Z h0 o0 "java/lang/String") (Fv : Fld Z h0 o0 "java/lang/String" "value" "[B" (.ref ob)) (Fc : Fld Z h0 o0 "java/lang/String" "coder" "B" (.int (1 : Int32))) (V : Arv Z h0 ob k .byte (2 : Int32) [(.int b0), (.int b1)] (.int (0 : Int32))) (S_cs : Sta Z h0 "java/lang/String" "COMPACT_STRINGS" "Z" (.int cs)) (hcs : ¬ (cs = (0 : Int32))) :
    MetFree l (⟨"java/lang/String", "length", "()I"⟩ : MethodName) (head1 (Jvm.Cond.code (⟨"java/lang/String", "length", "()I"⟩ : MethodName) jdk_42_method_54_code 1 (some .int) :: ws) ({ frames := 1, cells := 0, slots := 0, locals := 13 } : Room)) (fun a U => a = #[(.ref o0)] ∧ Z.Warmed39 U.vm ∧ U.heap = h0) (fun _ _ _ _ _ => True) (fun _ U o U' => ∃ v L, o = .returned v ∧ Q15c1n2 Z o0 ob k b0 b1 cs h0 n0 v U'.heap L ∧ FrameEnd U o U' L ({ frames := 1, cells := 0, slots := 0, locals := 13 } : Room).cells ({ frames := 1, cells := 0, slots := 0, locals := 13 } : Room).slots) := by
  refine MetFree.of_bodySF (plainFor_of_name pn_2) hisR ?_
  intro p e s m args below meth c s₁ Bd hml0 hP hK
  obtain ⟨rfl, hZ, hh⟩ := hP
  have hx := Bd.exec
  have hby := Bd.bytes
  have hml : c.maxLocals = 1 := hml0
  have hown : s.vm.findClass "java/lang/String" = some m.cls := findClass_of_methodNamed Bd.named
  have hnm := (name_of_methodNamed Bd.named Bd.method).1
  have X0 : Stand p l e ({ frames := 1, cells := 0, slots := 0, locals := 13 } : Room) s m #[(.ref o0)] below meth c s₁ [] 0 0 := Stand.of_body Bd
  have e0 : s₁.heap = h0 := by rw [← hh, Bd.state]; rfl
  have N0 := Fr.nil n0
  have hret := Bd.returns
  have hlk := BodyLoose.notSynchronized Bd
  show own_Out p e below (fun o U' => ∃ v L, o = .returned v ∧ Q15c1n2 Z o0 ob k b0 b1 cs h0 n0 v U'.heap L ∧ FrameEnd s o U' L ({ frames := 1, cells := 0, slots := 0, locals := 13 } : Room).cells ({ frames := 1, cells := 0, slots := 0, locals := 13 } : Room).slots) (s₁.setTop (entryFrame m #[(.ref o0)] 1))
  refine own_of (fun t k => castTop (ef_15c1n2 m o0) k) ?_
  show own_Out p e below _ (s₁.setTop (mkF m 0 #[.val (.ref o0)] []))
  refine own_of (fun _ k => XS.aloadN X0.here hx rfl (hb hby d15_0) rfl rfl k) ?_
  show own_Out p e below _ (s₁.setTop (mkF m 1 #[.val (.ref o0)] [(.ref o0)]))
  obtain ⟨T1, X1, e1, st1⟩ := getF X0 hx hZ hown (host := "") (Or.inl (hw _ (List.mem_of_getElem? (i := 27) rfl))) Via.refl e0 Fv (g := (mkF m 1 #[.val (.ref o0)] [(.ref o0)])) rfl rfl (hb hby d15_1)
  refine own_of st1 ?_
  show own_Out p e below _ (T1.setTop (mkF m 4 #[.val (.ref o0)] [(.ref ob)]))
  obtain ⟨cl2, Ar2, q2, S2, N2', H2, G2⟩ := id V
  refine own_of (X1.arraylength hx (by rw [e1]; exact Ar2.1) (State.isArrayOf_alike hZ.alike Ar2.2.1) (g := (mkF m 4 #[.val (.ref o0)] [(.ref ob)])) rfl rfl (hb hby d15_4)) ?_
  rw [len_of S2 N2']
  show own_Out p e below _ (T1.setTop (mkF m 5 #[.val (.ref o0)] [(.int (2 : Int32))]))
  refine own_of (fun _ k => XS.aloadN X1.here hx rfl (hb hby d15_5) rfl rfl k) ?_
  show own_Out p e below _ (T1.setTop (mkF m 6 #[.val (.ref o0)] [(.ref o0), (.int (2 : Int32))]))
  obtain ⟨cq3, kq3, q3a, q3b, q3c⟩ := isOf hZ e1 E
  obtain ⟨_, _, ⟨T3, L3, k3, n3⟩, -, X3, ⟨Lc3, hQ3, l3, y3, z3⟩, st3⟩ := X1.virtualBack hx (y := (⟨"java/lang/String", "coder", "()B"⟩ : MethodName)) (z := (⟨"java/lang/String", "coder", "()B"⟩ : MethodName)) hown (mvT hZ (hw _ (List.mem_of_getElem? (i := 69) rfl))) (mvT hZ (hw _ (List.mem_of_getElem? (i := 70) rfl))) (notFace_of_selects (args := #[]) (mvT hZ (hw _ (List.mem_of_getElem? (i := 72) rfl)))) (mvT hZ (hw _ (List.mem_of_getElem? (i := 72) rfl))) (mvT hZ (hw _ (List.mem_of_getElem? (i := 71) rfl))) (by decide) (backOf (W := 1) (rm16c1n2 l Z a0 hw [] o0 ob k b0 b1 cs h0 n0 Z0 E Fv Fc V S_cs hcs) hZ (hw _ (List.mem_of_getElem? (i := 73) rfl)) (hw _ (List.mem_of_getElem? (i := 7) rfl)) (by decide) (by decide)) q3a q3c (g := (mkF m 6 #[.val (.ref o0)] [(.ref o0), (.int (2 : Int32))])) rfl (by rw [hml]; rfl) (Steps.refl _) (argsL := []) (rest := [(.int (2 : Int32))]) (lenOf pd_4 rfl) rfl (by show 2 * 0 + _ ≤ _; exact Nat.le_of_eq rfl) (hb hby d15_6) (fun _ _ => ⟨rfl, e1, (by decide : 0 + 0 ≤ _), (by decide : 0 + 0 ≤ _)⟩)
  dsimp only [Pt.U, Pt.locs, Pt.cells, Pt.slots] at X3 l3 y3 z3 st3 hQ3
  subst l3 y3 z3
  obtain ⟨rfl, N3q, hh3⟩ := hQ3
  have N3 := Fr.app N0 N3q
  refine own_of (fun _ k => st3.trans k) ?_
  show own_Out p e below _ (T3.setTop (mkF m 9 #[.val (.ref o0)] [(.int (1 : Int32)), (.int (2 : Int32))]))
  refine own_of (fun _ k => XS.ishr X3.here hx rfl (hb hby d15_9) rfl k) ?_
  show own_Out p e below _ (T3.setTop (mkF m 10 #[.val (.ref o0)] [(.int (1 : Int32))]))
  exact own_outI X3 hx hlk hret (hb hby d15_10) (Q := Q15c1n2 Z o0 ob k b0 b1 cs h0 n0) ⟨rfl, N3, hh3⟩ (by decide) (by decide)
theorem d21_0 : decode jdk_52_method_6_code 0 = .ok (.aload_n 0, 1) := by decide +kernel
theorem d21_1 : decode jdk_52_method_6_code 1 = .ok (.arraylength, 1) := by decide +kernel
theorem d21_2 : decode jdk_52_method_6_code 2 = .ok (.iconst 1, 1) := by decide +kernel
theorem d21_3 : decode jdk_52_method_6_code 3 = .ok (.ishr, 1) := by decide +kernel
theorem d21_4 : decode jdk_52_method_6_code 4 = .ok (.ireturn, 1) := by decide +kernel
theorem ef_21c1n2 (m : MethodId) (x0 : Addr) : entryFrame m #[(.ref x0)] 1 = mkF m 0 #[.val (.ref x0)] [] := by first | (simp [entryFrame, mkF, argsToLocals, Value.category]; done) | rfl
def Q21c1n2 (Z : State) (o0 : Addr) (k : ClassId) (b0 : Int32) (b1 : Int32) (h0 : Heap) (n0 : Nat) (v : Option Value) (h : Heap) (L : List Loc) : Prop := v = some (.int (1 : Int32)) ∧ Fr n0 L ∧ h = h0
set_option maxRecDepth 65536 in
set_option maxHeartbeats 40000000 in
theorem rm21c1n2 (l : Launch) (Z : State) (a0 : Array Value) (hw : ∀ d ∈ tables_1, d.before a0 Z = true) (ws : List Jvm.Cond) (o0 : Addr) (k : ClassId) (b0 : Int32) (b1 : Int32) (h0 : Heap) (n0 : Nat) (Z0 : n0 ≤ h0.size) (V : Arv Z h0 o0 k .byte (2 : Int32) [(.int b0), (.int b1)] (.int (0 : Int32))) :
    MetFree l (⟨"java/lang/StringUTF16", "length", "([B)I"⟩ : MethodName) (head1 (Jvm.Cond.code (⟨"java/lang/StringUTF16", "length", "([B)I"⟩ : MethodName) jdk_52_method_6_code 1 (some .int) :: ws) ({ frames := 0, cells := 0, slots := 0, locals := 0 } : Room)) (fun a U => a = #[(.ref o0)] ∧ Z.Warmed39 U.vm ∧ U.heap = h0) (fun _ _ _ _ _ => True) (fun _ U o U' => ∃ v L, o = .returned v ∧ Q21c1n2 Z o0 k b0 b1 h0 n0 v U'.heap L ∧ FrameEnd U o U' L ({ frames := 0, cells := 0, slots := 0, locals := 0 } : Room).cells ({ frames := 0, cells := 0, slots := 0, locals := 0 } : Room).slots) := by
  refine MetFree.of_bodySF (plainFor_of_name pn_3) hisR ?_
  intro p e s m args below meth c s₁ Bd hml0 hP hK
  obtain ⟨rfl, hZ, hh⟩ := hP
  have hx := Bd.exec
  have hby := Bd.bytes
  have hml : c.maxLocals = 1 := hml0
  have hown : s.vm.findClass "java/lang/StringUTF16" = some m.cls := findClass_of_methodNamed Bd.named
  have hnm := (name_of_methodNamed Bd.named Bd.method).1
  have X0 : Stand p l e ({ frames := 0, cells := 0, slots := 0, locals := 0 } : Room) s m #[(.ref o0)] below meth c s₁ [] 0 0 := Stand.of_body Bd
  have e0 : s₁.heap = h0 := by rw [← hh, Bd.state]; rfl
  have N0 := Fr.nil n0
  have hret := Bd.returns
  have hlk := BodyLoose.notSynchronized Bd
  show own_Out p e below (fun o U' => ∃ v L, o = .returned v ∧ Q21c1n2 Z o0 k b0 b1 h0 n0 v U'.heap L ∧ FrameEnd s o U' L ({ frames := 0, cells := 0, slots := 0, locals := 0 } : Room).cells ({ frames := 0, cells := 0, slots := 0, locals := 0 } : Room).slots) (s₁.setTop (entryFrame m #[(.ref o0)] 1))
  refine own_of (fun t k => castTop (ef_21c1n2 m o0) k) ?_
  show own_Out p e below _ (s₁.setTop (mkF m 0 #[.val (.ref o0)] []))
  refine own_of (fun _ k => XS.aloadN X0.here hx rfl (hb hby d21_0) rfl rfl k) ?_
  show own_Out p e below _ (s₁.setTop (mkF m 1 #[.val (.ref o0)] [(.ref o0)]))
  obtain ⟨cl1, Ar1, q1, S1, N1', H1, G1⟩ := id V
  refine own_of (X0.arraylength hx (by rw [e0]; exact Ar1.1) (State.isArrayOf_alike hZ.alike Ar1.2.1) (g := (mkF m 1 #[.val (.ref o0)] [(.ref o0)])) rfl rfl (hb hby d21_1)) ?_
  rw [len_of S1 N1']
  show own_Out p e below _ (s₁.setTop (mkF m 2 #[.val (.ref o0)] [(.int (2 : Int32))]))
  refine own_of (fun _ k => XS.iconst X0.here hx rfl (hb hby d21_2) k) ?_
  show own_Out p e below _ (s₁.setTop (mkF m 3 #[.val (.ref o0)] [(.int (1 : Int32)), (.int (2 : Int32))]))
  refine own_of (fun _ k => XS.ishr X0.here hx rfl (hb hby d21_3) rfl k) ?_
  show own_Out p e below _ (s₁.setTop (mkF m 4 #[.val (.ref o0)] [(.int (1 : Int32))]))
  exact own_outI X0 hx hlk hret (hb hby d21_4) (Q := Q21c1n2 Z o0 k b0 b1 h0 n0) ⟨rfl, N0, e0⟩ (by decide) (by decide)
theorem pd_11 : parseMethodDescriptor "([B)I" = some ⟨[(.array .byte)], some .int⟩ := by decide +kernel
theorem d20_0 : decode jdk_52_method_91_code 0 = .ok (.iload_n 0, 1) := by decide +kernel
theorem d20_1 : decode jdk_52_method_91_code 1 = .ok (.aload_n 1, 1) := by decide +kernel
theorem d20_2 : decode jdk_52_method_91_code 2 = .ok (.invokestatic 48, 3) := by decide +kernel
theorem d20_5 : decode jdk_52_method_91_code 5 = .ok (.invokestatic 414, 3) := by decide +kernel
theorem d20_8 : decode jdk_52_method_91_code 8 = .ok (.return_, 1) := by decide +kernel
theorem ef_20c1n2i0 (m : MethodId) (x1 : Addr) : entryFrame m #[(.int (0 : Int32)), (.ref x1)] 2 = mkF m 0 #[.val (.int (0 : Int32)), .val (.ref x1)] [] := by first | (simp [entryFrame, mkF, argsToLocals, Value.category]; done) | rfl
def Q20c1n2i0 (Z : State) (o1 : Addr) (k : ClassId) (b0 : Int32) (b1 : Int32) (vf : Value) (h0 : Heap) (n0 : Nat) (v : Option Value) (h : Heap) (L : List Loc) : Prop := v = none ∧ Fr n0 L ∧ h = h0
set_option maxRecDepth 65536 in
set_option maxHeartbeats 40000000 in
theorem rm20c1n2i0 (l : Launch) (Z : State) (a0 : Array Value) (hw : ∀ d ∈ tables_1, d.before a0 Z = true) (ws : List Jvm.Cond) (o1 : Addr) (k : ClassId) (b0 : Int32) (b1 : Int32) (vf : Value) (h0 : Heap) (n0 : Nat) (Z0 : n0 ≤ h0.size) (V : Arv Z h0 o1 k .byte (2 : Int32) [(.int b0), (.int b1)] (.int (0 : Int32))) (S_f : Sta Z h0 "jdk/internal/util/Preconditions" "SIOOBE_FORMATTER" "Ljava/util/function/BiFunction;" vf) (hvf : vf.isRef = true) :
    MetFree l (⟨"java/lang/StringUTF16", "checkIndex", "(I[B)V"⟩ : MethodName) (head1 (Jvm.Cond.code (⟨"java/lang/StringUTF16", "checkIndex", "(I[B)V"⟩ : MethodName) jdk_52_method_91_code 2 none :: ws) ({ frames := 2, cells := 0, slots := 0, locals := 27 } : Room)) (fun a U => a = #[(.int (0 : Int32)), (.ref o1)] ∧ Z.Warmed39 U.vm ∧ U.heap = h0) (fun _ _ _ _ _ => True) (fun _ U o U' => ∃ v L, o = .returned v ∧ Q20c1n2i0 Z o1 k b0 b1 vf h0 n0 v U'.heap L ∧ FrameEnd U o U' L ({ frames := 2, cells := 0, slots := 0, locals := 27 } : Room).cells ({ frames := 2, cells := 0, slots := 0, locals := 27 } : Room).slots) := by
  refine MetFree.of_bodySF (plainFor_of_name pn_3) hisR ?_
  intro p e s m args below meth c s₁ Bd hml0 hP hK
  obtain ⟨rfl, hZ, hh⟩ := hP
  have hx := Bd.exec
  have hby := Bd.bytes
  have hml : c.maxLocals = 2 := hml0
  have hown : s.vm.findClass "java/lang/StringUTF16" = some m.cls := findClass_of_methodNamed Bd.named
  have hnm := (name_of_methodNamed Bd.named Bd.method).1
  have X0 : Stand p l e ({ frames := 2, cells := 0, slots := 0, locals := 27 } : Room) s m #[(.int (0 : Int32)), (.ref o1)] below meth c s₁ [] 0 0 := Stand.of_body Bd
  have e0 : s₁.heap = h0 := by rw [← hh, Bd.state]; rfl
  have N0 := Fr.nil n0
  have hret := Bd.returns
  have hlk := BodyLoose.notSynchronized Bd
  show own_Out p e below (fun o U' => ∃ v L, o = .returned v ∧ Q20c1n2i0 Z o1 k b0 b1 vf h0 n0 v U'.heap L ∧ FrameEnd s o U' L ({ frames := 2, cells := 0, slots := 0, locals := 27 } : Room).cells ({ frames := 2, cells := 0, slots := 0, locals := 27 } : Room).slots) (s₁.setTop (entryFrame m #[(.int (0 : Int32)), (.ref o1)] 2))
  refine own_of (fun t k => castTop (ef_20c1n2i0 m o1) k) ?_
  show own_Out p e below _ (s₁.setTop (mkF m 0 #[.val (.int (0 : Int32)), .val (.ref o1)] []))
  refine own_of (fun _ k => XS.iloadN X0.here hx rfl (hb hby d20_0) rfl k) ?_
  show own_Out p e below _ (s₁.setTop (mkF m 1 #[.val (.int (0 : Int32)), .val (.ref o1)] [(.int (0 : Int32))]))
  refine own_of (fun _ k => XS.aloadN X0.here hx rfl (hb hby d20_1) rfl rfl k) ?_
  show own_Out p e below _ (s₁.setTop (mkF m 2 #[.val (.int (0 : Int32)), .val (.ref o1)] [(.ref o1), (.int (0 : Int32))]))
  obtain ⟨_, _, ⟨T1, L1, k1, n1⟩, -, X1, ⟨Lc1, hQ1, l1, y1, z1⟩, st1⟩ := Jvm.LawKit.callS X0 hx (y := (⟨"java/lang/StringUTF16", "length", "([B)I"⟩ : MethodName)) hown (mvT hZ (hw _ (List.mem_of_getElem? (i := 90) rfl))) (mvT hZ (hw _ (List.mem_of_getElem? (i := 91) rfl))) (mvT hZ (hw _ (List.mem_of_getElem? (i := 76) rfl))) (mvT hZ (hw _ (List.mem_of_getElem? (i := 92) rfl))) (by decide) (backOf (W := 1) (rm21c1n2 l Z a0 hw [] o1 k b0 b1 h0 n0 Z0 V) hZ (hw _ (List.mem_of_getElem? (i := 92) rfl)) (hw _ (List.mem_of_getElem? (i := 76) rfl)) (by decide) (by decide)) (g := (mkF m 2 #[.val (.int (0 : Int32)), .val (.ref o1)] [(.ref o1), (.int (0 : Int32))])) rfl (by rw [hml]; rfl) (argsL := [(.ref o1)]) (rest := [(.int (0 : Int32))]) (lenOf pd_11 rfl) rfl (by show 2 * 0 + _ ≤ _; exact Nat.le_of_eq rfl) (hb hby d20_2) (fun _ _ => ⟨rfl, e0, (by decide : 0 + 0 ≤ _), (by decide : 0 + 0 ≤ _)⟩)
  dsimp only [Pt.U, Pt.locs, Pt.cells, Pt.slots] at X1 l1 y1 z1 st1 hQ1
  subst l1 y1 z1
  obtain ⟨rfl, N1q, hh1⟩ := hQ1
  have N1 := Fr.app N0 N1q
  refine own_of st1 ?_
  show own_Out p e below _ (T1.setTop (mkF m 5 #[.val (.int (0 : Int32)), .val (.ref o1)] [(.int (1 : Int32)), (.int (0 : Int32))]))
  obtain ⟨_, _, ⟨T2, L2, k2, n2⟩, -, X2, ⟨Lc2, hQ2, l2, y2, z2⟩, st2⟩ := Jvm.LawKit.callS X1 hx (y := (⟨"java/lang/String", "checkIndex", "(II)V"⟩ : MethodName)) hown (mvT hZ (hw _ (List.mem_of_getElem? (i := 93) rfl))) (mvT hZ (hw _ (List.mem_of_getElem? (i := 53) rfl))) (mvT hZ (hw _ (List.mem_of_getElem? (i := 7) rfl))) (mvT hZ (hw _ (List.mem_of_getElem? (i := 54) rfl))) (by decide) (backOf (W := 0) (rm12i0n1 l Z a0 hw [] vf h0 n0 Z0 S_f hvf) hZ (hw _ (List.mem_of_getElem? (i := 54) rfl)) (hw _ (List.mem_of_getElem? (i := 7) rfl)) (by decide) (by decide)) (g := (mkF m 5 #[.val (.int (0 : Int32)), .val (.ref o1)] [(.int (1 : Int32)), (.int (0 : Int32))])) rfl (by rw [hml]; rfl) (argsL := [(.int (0 : Int32)), (.int (1 : Int32))]) (rest := []) (lenOf pd_6 rfl) rfl (by show 2 * 0 + _ ≤ _; exact Nat.le_of_eq rfl) (hb hby d20_5) (fun _ _ => ⟨rfl, hh1, (by decide : 0 + 0 ≤ _), (by decide : 0 + 0 ≤ _)⟩)
  dsimp only [Pt.U, Pt.locs, Pt.cells, Pt.slots] at X2 l2 y2 z2 st2 hQ2
  subst l2 y2 z2
  obtain ⟨rfl, N2q, hh2⟩ := hQ2
  have N2 := Fr.app N1 N2q
  refine own_of st2 ?_
  show own_Out p e below _ (T2.setTop (mkF m 8 #[.val (.int (0 : Int32)), .val (.ref o1)] []))
  exact own_outV X2 hx hlk hret (hb hby d20_8) (Q := Q20c1n2i0 Z o1 k b0 b1 vf h0 n0) ⟨rfl, N2, hh2⟩ (by decide) (by decide)
theorem d22_0 : decode jdk_52_method_5_code 0 = .ok (.getstatic 44, 3) := by decide +kernel
theorem d22_3 : decode jdk_52_method_5_code 3 = .ok (.ifCond .ne 25, 3) := by decide +kernel
theorem d22_28 : decode jdk_52_method_5_code 28 = .ok (.iload_n 1, 1) := by decide +kernel
theorem d22_29 : decode jdk_52_method_5_code 29 = .ok (.iconst 1, 1) := by decide +kernel
theorem d22_30 : decode jdk_52_method_5_code 30 = .ok (.ishl, 1) := by decide +kernel
theorem d22_31 : decode jdk_52_method_5_code 31 = .ok (.istore_n 1, 1) := by decide +kernel
theorem d22_32 : decode jdk_52_method_5_code 32 = .ok (.aload_n 0, 1) := by decide +kernel
theorem d22_33 : decode jdk_52_method_5_code 33 = .ok (.iload_n 1, 1) := by decide +kernel
theorem d22_34 : decode jdk_52_method_5_code 34 = .ok (.iinc 1 1, 3) := by decide +kernel
theorem d22_37 : decode jdk_52_method_5_code 37 = .ok (.baload, 1) := by decide +kernel
theorem d22_38 : decode jdk_52_method_5_code 38 = .ok (.sipush 255, 3) := by decide +kernel
theorem d22_41 : decode jdk_52_method_5_code 41 = .ok (.iand, 1) := by decide +kernel
theorem d22_42 : decode jdk_52_method_5_code 42 = .ok (.getstatic 59, 3) := by decide +kernel
theorem d22_45 : decode jdk_52_method_5_code 45 = .ok (.ishl, 1) := by decide +kernel
theorem d22_46 : decode jdk_52_method_5_code 46 = .ok (.aload_n 0, 1) := by decide +kernel
theorem d22_47 : decode jdk_52_method_5_code 47 = .ok (.iload_n 1, 1) := by decide +kernel
theorem d22_48 : decode jdk_52_method_5_code 48 = .ok (.baload, 1) := by decide +kernel
theorem d22_49 : decode jdk_52_method_5_code 49 = .ok (.sipush 255, 3) := by decide +kernel
theorem d22_52 : decode jdk_52_method_5_code 52 = .ok (.iand, 1) := by decide +kernel
theorem d22_53 : decode jdk_52_method_5_code 53 = .ok (.getstatic 63, 3) := by decide +kernel
theorem d22_56 : decode jdk_52_method_5_code 56 = .ok (.ishl, 1) := by decide +kernel
theorem d22_57 : decode jdk_52_method_5_code 57 = .ok (.ior, 1) := by decide +kernel
theorem d22_58 : decode jdk_52_method_5_code 58 = .ok (.i2c, 1) := by decide +kernel
theorem d22_59 : decode jdk_52_method_5_code 59 = .ok (.ireturn, 1) := by decide +kernel
theorem ef_22c1n2i0 (m : MethodId) (x0 : Addr) : entryFrame m #[(.ref x0), (.int (0 : Int32))] 2 = mkF m 0 #[.val (.ref x0), .val (.int (0 : Int32))] [] := by first | (simp [entryFrame, mkF, argsToLocals, Value.category]; done) | rfl
def f_getCharc1n2i0 (b0 : Int32) (b1 : Int32) : Int32 := (((((b0 &&& (255 : Int32)) <<< ((0 : Int32) &&& 31)) ||| ((b1 &&& (255 : Int32)) <<< ((8 : Int32) &&& 31))).toUInt32.toUInt16.toUInt32.toInt32).toUInt32.toUInt16.toUInt32.toInt32)
def Q22c1n2i0 (Z : State) (o0 : Addr) (k : ClassId) (b0 : Int32) (b1 : Int32) (h0 : Heap) (n0 : Nat) (v : Option Value) (h : Heap) (L : List Loc) : Prop := v = some (.int (f_getCharc1n2i0 b0 b1)) ∧ Fr n0 L ∧ h = h0
set_option maxRecDepth 65536 in
set_option maxHeartbeats 40000000 in
theorem rm22c1n2i0 (l : Launch) (Z : State) (a0 : Array Value) (hw : ∀ d ∈ tables_1, d.before a0 Z = true) (ws : List Jvm.Cond) (o0 : Addr) (k : ClassId) (b0 : Int32) (b1 : Int32) (h0 : Heap) (n0 : Nat) (Z0 : n0 ≤ h0.size) (V : Arv Z h0 o0 k .byte (2 : Int32) [(.int b0), (.int b1)] (.int (0 : Int32))) (S_ad : Sta Z h0 "java/lang/StringUTF16" "$assertionsDisabled" "Z" (.int (1 : Int32))) (S_hi : Sta Z h0 "java/lang/StringUTF16" "HI_BYTE_SHIFT" "I" (.int (0 : Int32))) (S_lo : Sta Z h0 "java/lang/StringUTF16" "LO_BYTE_SHIFT" "I" (.int (8 : Int32))) :
    MetFree l (⟨"java/lang/StringUTF16", "getChar", "([BI)C"⟩ : MethodName) (head1 (Jvm.Cond.code (⟨"java/lang/StringUTF16", "getChar", "([BI)C"⟩ : MethodName) jdk_52_method_5_code 2 (some .char) :: ws) ({ frames := 0, cells := 0, slots := 0, locals := 0 } : Room)) (fun a U => a = #[(.ref o0), (.int (0 : Int32))] ∧ Z.Warmed39 U.vm ∧ U.heap = h0) (fun _ _ _ _ _ => True) (fun _ U o U' => ∃ v L, o = .returned v ∧ Q22c1n2i0 Z o0 k b0 b1 h0 n0 v U'.heap L ∧ FrameEnd U o U' L ({ frames := 0, cells := 0, slots := 0, locals := 0 } : Room).cells ({ frames := 0, cells := 0, slots := 0, locals := 0 } : Room).slots) := by
  refine MetFree.of_bodySF (plainFor_of_name pn_3) hisR ?_
  intro p e s m args below meth c s₁ Bd hml0 hP hK
  obtain ⟨rfl, hZ, hh⟩ := hP
  have hx := Bd.exec
  have hby := Bd.bytes
  have hml : c.maxLocals = 2 := hml0
  have hown : s.vm.findClass "java/lang/StringUTF16" = some m.cls := findClass_of_methodNamed Bd.named
  have hnm := (name_of_methodNamed Bd.named Bd.method).1
  have X0 : Stand p l e ({ frames := 0, cells := 0, slots := 0, locals := 0 } : Room) s m #[(.ref o0), (.int (0 : Int32))] below meth c s₁ [] 0 0 := Stand.of_body Bd
  have e0 : s₁.heap = h0 := by rw [← hh, Bd.state]; rfl
  have N0 := Fr.nil n0
  have hret := Bd.returns
  have hlk := BodyLoose.notSynchronized Bd
  show own_Out p e below (fun o U' => ∃ v L, o = .returned v ∧ Q22c1n2i0 Z o0 k b0 b1 h0 n0 v U'.heap L ∧ FrameEnd s o U' L ({ frames := 0, cells := 0, slots := 0, locals := 0 } : Room).cells ({ frames := 0, cells := 0, slots := 0, locals := 0 } : Room).slots) (s₁.setTop (entryFrame m #[(.ref o0), (.int (0 : Int32))] 2))
  refine own_of (fun t k => castTop (ef_22c1n2i0 m o0) k) ?_
  show own_Out p e below _ (s₁.setTop (mkF m 0 #[.val (.ref o0), .val (.int (0 : Int32))] []))
  obtain ⟨T1, X1, e1, st1⟩ := getS2 X0 hx hZ hown (host := "") (Or.inl (hw _ (List.mem_of_getElem? (i := 81) rfl))) Via.refl e0 S_ad (g := (mkF m 0 #[.val (.ref o0), .val (.int (0 : Int32))] [])) rfl (hb hby d22_0)
  refine own_of st1 ?_
  show own_Out p e below _ (T1.setTop (mkF m 3 #[.val (.ref o0), .val (.int (0 : Int32))] [(.int (1 : Int32))]))
  refine own_of (fun _ k => XS.ifYes X1.here hx rfl (pc0 := 3) (pc' := 28) rfl (hb hby d22_3) rfl ((if0 _ _).trans (feq (by decide : ¬ ((1 : Int32) = (0 : Int32)))).2) (by decide) (by decide) k) ?_
  show own_Out p e below _ (T1.setTop (mkF m 28 #[.val (.ref o0), .val (.int (0 : Int32))] []))
  refine own_of (fun _ k => XS.iloadN X1.here hx rfl (hb hby d22_28) rfl k) ?_
  show own_Out p e below _ (T1.setTop (mkF m 29 #[.val (.ref o0), .val (.int (0 : Int32))] [(.int (0 : Int32))]))
  refine own_of (fun _ k => XS.iconst X1.here hx rfl (hb hby d22_29) k) ?_
  show own_Out p e below _ (T1.setTop (mkF m 30 #[.val (.ref o0), .val (.int (0 : Int32))] [(.int (1 : Int32)), (.int (0 : Int32))]))
  refine own_of (fun _ k => XS.ishl X1.here hx rfl (hb hby d22_30) rfl k) ?_
  show own_Out p e below _ (T1.setTop (mkF m 31 #[.val (.ref o0), .val (.int (0 : Int32))] [(.int (0 : Int32))]))
  refine own_of (fun _ k => XS.istoreN X1.here hx rfl (hb hby d22_31) rfl (l' := #[.val (.ref o0), .val (.int (0 : Int32))]) rfl k) ?_
  show own_Out p e below _ (T1.setTop (mkF m 32 #[.val (.ref o0), .val (.int (0 : Int32))] []))
  refine own_of (fun _ k => XS.aloadN X1.here hx rfl (hb hby d22_32) rfl rfl k) ?_
  show own_Out p e below _ (T1.setTop (mkF m 33 #[.val (.ref o0), .val (.int (0 : Int32))] [(.ref o0)]))
  refine own_of (fun _ k => XS.iloadN X1.here hx rfl (hb hby d22_33) rfl k) ?_
  show own_Out p e below _ (T1.setTop (mkF m 34 #[.val (.ref o0), .val (.int (0 : Int32))] [(.int (0 : Int32)), (.ref o0)]))
  refine own_of (fun _ k => XS.iinc X1.here hx rfl (hb hby d22_34) rfl (l' := #[.val (.ref o0), .val (.int (1 : Int32))]) rfl k) ?_
  show own_Out p e below _ (T1.setTop (mkF m 37 #[.val (.ref o0), .val (.int (1 : Int32))] [(.int (0 : Int32)), (.ref o0)]))
  obtain ⟨cl2, Ar2, q2, S2, N2', H2, G2⟩ := id V
  have hin2 : ¬ ((0 : Int32) < 0 ∨ cl2.slots.size ≤ ((0 : Int32)).toNatClampNeg) := inb_of S2 ⟨by decide, by decide⟩
  have hat2 : cl2.slots[((0 : Int32)).toNatClampNeg]? = some (.int b0) := H2 _ (Nat.lt_of_not_le fun q => hin2 (Or.inr q))
  refine own_of (X1.baloadBytes hx (j := (0 : Int32)) (v := (.int b0)) (by rw [e1]; exact Ar2.1) (State.isArrayOf_alike hZ.alike Ar2.2.1) Ar2.2.2 hin2 hat2 (g := (mkF m 37 #[.val (.ref o0), .val (.int (1 : Int32))] [(.int (0 : Int32)), (.ref o0)])) rfl rfl (hb hby d22_37)) ?_
  show own_Out p e below _ (T1.setTop (mkF m 38 #[.val (.ref o0), .val (.int (1 : Int32))] [(.int b0)]))
  refine own_of (fun _ k => XS.sipush X1.here hx rfl (hb hby d22_38) k) ?_
  show own_Out p e below _ (T1.setTop (mkF m 41 #[.val (.ref o0), .val (.int (1 : Int32))] [(.int (255 : Int32)), (.int b0)]))
  refine own_of (fun _ k => XS.iand X1.here hx rfl (hb hby d22_41) rfl k) ?_
  show own_Out p e below _ (T1.setTop (mkF m 42 #[.val (.ref o0), .val (.int (1 : Int32))] [(.int (b0 &&& (255 : Int32)))]))
  obtain ⟨T3, X3, e3, st3⟩ := getS2 X1 hx hZ hown (host := "") (Or.inl (hw _ (List.mem_of_getElem? (i := 82) rfl))) Via.refl e1 S_hi (g := (mkF m 42 #[.val (.ref o0), .val (.int (1 : Int32))] [(.int (b0 &&& (255 : Int32)))])) rfl (hb hby d22_42)
  refine own_of st3 ?_
  show own_Out p e below _ (T3.setTop (mkF m 45 #[.val (.ref o0), .val (.int (1 : Int32))] [(.int (0 : Int32)), (.int (b0 &&& (255 : Int32)))]))
  refine own_of (fun _ k => XS.ishl X3.here hx rfl (hb hby d22_45) rfl k) ?_
  show own_Out p e below _ (T3.setTop (mkF m 46 #[.val (.ref o0), .val (.int (1 : Int32))] [(.int ((b0 &&& (255 : Int32)) <<< ((0 : Int32) &&& 31)))]))
  refine own_of (fun _ k => XS.aloadN X3.here hx rfl (hb hby d22_46) rfl rfl k) ?_
  show own_Out p e below _ (T3.setTop (mkF m 47 #[.val (.ref o0), .val (.int (1 : Int32))] [(.ref o0), (.int ((b0 &&& (255 : Int32)) <<< ((0 : Int32) &&& 31)))]))
  refine own_of (fun _ k => XS.iloadN X3.here hx rfl (hb hby d22_47) rfl k) ?_
  show own_Out p e below _ (T3.setTop (mkF m 48 #[.val (.ref o0), .val (.int (1 : Int32))] [(.int (1 : Int32)), (.ref o0), (.int ((b0 &&& (255 : Int32)) <<< ((0 : Int32) &&& 31)))]))
  obtain ⟨cl4, Ar4, q4, S4, N4', H4, G4⟩ := id V
  have hin4 : ¬ ((1 : Int32) < 0 ∨ cl4.slots.size ≤ ((1 : Int32)).toNatClampNeg) := inb_of S4 ⟨by decide, by decide⟩
  have hat4 : cl4.slots[((1 : Int32)).toNatClampNeg]? = some (.int b1) := H4 _ (Nat.lt_of_not_le fun q => hin4 (Or.inr q))
  refine own_of (X3.baloadBytes hx (j := (1 : Int32)) (v := (.int b1)) (by rw [e3]; exact Ar4.1) (State.isArrayOf_alike hZ.alike Ar4.2.1) Ar4.2.2 hin4 hat4 (g := (mkF m 48 #[.val (.ref o0), .val (.int (1 : Int32))] [(.int (1 : Int32)), (.ref o0), (.int ((b0 &&& (255 : Int32)) <<< ((0 : Int32) &&& 31)))])) rfl rfl (hb hby d22_48)) ?_
  show own_Out p e below _ (T3.setTop (mkF m 49 #[.val (.ref o0), .val (.int (1 : Int32))] [(.int b1), (.int ((b0 &&& (255 : Int32)) <<< ((0 : Int32) &&& 31)))]))
  refine own_of (fun _ k => XS.sipush X3.here hx rfl (hb hby d22_49) k) ?_
  show own_Out p e below _ (T3.setTop (mkF m 52 #[.val (.ref o0), .val (.int (1 : Int32))] [(.int (255 : Int32)), (.int b1), (.int ((b0 &&& (255 : Int32)) <<< ((0 : Int32) &&& 31)))]))
  refine own_of (fun _ k => XS.iand X3.here hx rfl (hb hby d22_52) rfl k) ?_
  show own_Out p e below _ (T3.setTop (mkF m 53 #[.val (.ref o0), .val (.int (1 : Int32))] [(.int (b1 &&& (255 : Int32))), (.int ((b0 &&& (255 : Int32)) <<< ((0 : Int32) &&& 31)))]))
  obtain ⟨T5, X5, e5, st5⟩ := getS2 X3 hx hZ hown (host := "") (Or.inl (hw _ (List.mem_of_getElem? (i := 83) rfl))) Via.refl e3 S_lo (g := (mkF m 53 #[.val (.ref o0), .val (.int (1 : Int32))] [(.int (b1 &&& (255 : Int32))), (.int ((b0 &&& (255 : Int32)) <<< ((0 : Int32) &&& 31)))])) rfl (hb hby d22_53)
  refine own_of st5 ?_
  show own_Out p e below _ (T5.setTop (mkF m 56 #[.val (.ref o0), .val (.int (1 : Int32))] [(.int (8 : Int32)), (.int (b1 &&& (255 : Int32))), (.int ((b0 &&& (255 : Int32)) <<< ((0 : Int32) &&& 31)))]))
  refine own_of (fun _ k => XS.ishl X5.here hx rfl (hb hby d22_56) rfl k) ?_
  show own_Out p e below _ (T5.setTop (mkF m 57 #[.val (.ref o0), .val (.int (1 : Int32))] [(.int ((b1 &&& (255 : Int32)) <<< ((8 : Int32) &&& 31))), (.int ((b0 &&& (255 : Int32)) <<< ((0 : Int32) &&& 31)))]))
  refine own_of (fun _ k => XS.ior X5.here hx rfl (hb hby d22_57) rfl k) ?_
  show own_Out p e below _ (T5.setTop (mkF m 58 #[.val (.ref o0), .val (.int (1 : Int32))] [(.int (((b0 &&& (255 : Int32)) <<< ((0 : Int32) &&& 31)) ||| ((b1 &&& (255 : Int32)) <<< ((8 : Int32) &&& 31))))]))
  refine own_of (fun _ k => XS.i2c X5.here hx rfl (hb hby d22_58) rfl k) ?_
  show own_Out p e below _ (T5.setTop (mkF m 59 #[.val (.ref o0), .val (.int (1 : Int32))] [(.int ((((b0 &&& (255 : Int32)) <<< ((0 : Int32) &&& 31)) ||| ((b1 &&& (255 : Int32)) <<< ((8 : Int32) &&& 31))).toUInt32.toUInt16.toUInt32.toInt32))]))
  exact own_outN X5 hx hlk (t := .char) hret (by simp) (hb hby d22_59) (z' := (((((b0 &&& (255 : Int32)) <<< ((0 : Int32) &&& 31)) ||| ((b1 &&& (255 : Int32)) <<< ((8 : Int32) &&& 31))).toUInt32.toUInt16.toUInt32.toInt32).toUInt32.toUInt16.toUInt32.toInt32)) rfl (Q := Q22c1n2i0 Z o0 k b0 b1 h0 n0) ⟨by simp only [f_getCharc1n2i0], N0, e5⟩ (by decide) (by decide)
theorem pd_12 : parseMethodDescriptor "(I[B)V" = some ⟨[.int, (.array .byte)], none⟩ := by decide +kernel
theorem d19_0 : decode jdk_52_method_83_code 0 = .ok (.iload_n 1, 1) := by decide +kernel
theorem d19_1 : decode jdk_52_method_83_code 1 = .ok (.aload_n 0, 1) := by decide +kernel
theorem d19_2 : decode jdk_52_method_83_code 2 = .ok (.invokestatic 67, 3) := by decide +kernel
theorem d19_5 : decode jdk_52_method_83_code 5 = .ok (.aload_n 0, 1) := by decide +kernel
theorem d19_6 : decode jdk_52_method_83_code 6 = .ok (.iload_n 1, 1) := by decide +kernel
theorem d19_7 : decode jdk_52_method_83_code 7 = .ok (.invokestatic 71, 3) := by decide +kernel
theorem d19_10 : decode jdk_52_method_83_code 10 = .ok (.ireturn, 1) := by decide +kernel
theorem ef_19c1n2i0 (m : MethodId) (x0 : Addr) : entryFrame m #[(.ref x0), (.int (0 : Int32))] 2 = mkF m 0 #[.val (.ref x0), .val (.int (0 : Int32))] [] := by first | (simp [entryFrame, mkF, argsToLocals, Value.category]; done) | rfl
def f_u16charAtc1n2i0 (b0 : Int32) (b1 : Int32) : Int32 := ((f_getCharc1n2i0 b0 b1).toUInt32.toUInt16.toUInt32.toInt32)
def Q19c1n2i0 (Z : State) (o0 : Addr) (k : ClassId) (b0 : Int32) (b1 : Int32) (vf : Value) (h0 : Heap) (n0 : Nat) (v : Option Value) (h : Heap) (L : List Loc) : Prop := v = some (.int (f_u16charAtc1n2i0 b0 b1)) ∧ Fr n0 L ∧ h = h0
set_option maxRecDepth 65536 in
set_option maxHeartbeats 40000000 in
theorem rm19c1n2i0 (l : Launch) (Z : State) (a0 : Array Value) (hw : ∀ d ∈ tables_1, d.before a0 Z = true) (ws : List Jvm.Cond) (o0 : Addr) (k : ClassId) (b0 : Int32) (b1 : Int32) (vf : Value) (h0 : Heap) (n0 : Nat) (Z0 : n0 ≤ h0.size) (V : Arv Z h0 o0 k .byte (2 : Int32) [(.int b0), (.int b1)] (.int (0 : Int32))) (S_f : Sta Z h0 "jdk/internal/util/Preconditions" "SIOOBE_FORMATTER" "Ljava/util/function/BiFunction;" vf) (hvf : vf.isRef = true) (S_ad : Sta Z h0 "java/lang/StringUTF16" "$assertionsDisabled" "Z" (.int (1 : Int32))) (S_hi : Sta Z h0 "java/lang/StringUTF16" "HI_BYTE_SHIFT" "I" (.int (0 : Int32))) (S_lo : Sta Z h0 "java/lang/StringUTF16" "LO_BYTE_SHIFT" "I" (.int (8 : Int32))) :
    MetFree l (⟨"java/lang/StringUTF16", "charAt", "([BI)C"⟩ : MethodName) (head1 (Jvm.Cond.code (⟨"java/lang/StringUTF16", "charAt", "([BI)C"⟩ : MethodName) jdk_52_method_83_code 2 (some .char) :: ws) ({ frames := 3, cells := 0, slots := 0, locals := 40 } : Room)) (fun a U => a = #[(.ref o0), (.int (0 : Int32))] ∧ Z.Warmed39 U.vm ∧ U.heap = h0) (fun _ _ _ _ _ => True) (fun _ U o U' => ∃ v L, o = .returned v ∧ Q19c1n2i0 Z o0 k b0 b1 vf h0 n0 v U'.heap L ∧ FrameEnd U o U' L ({ frames := 3, cells := 0, slots := 0, locals := 40 } : Room).cells ({ frames := 3, cells := 0, slots := 0, locals := 40 } : Room).slots) := by
  refine MetFree.of_bodySF (plainFor_of_name pn_3) hisR ?_
  intro p e s m args below meth c s₁ Bd hml0 hP hK
  obtain ⟨rfl, hZ, hh⟩ := hP
  have hx := Bd.exec
  have hby := Bd.bytes
  have hml : c.maxLocals = 2 := hml0
  have hown : s.vm.findClass "java/lang/StringUTF16" = some m.cls := findClass_of_methodNamed Bd.named
  have hnm := (name_of_methodNamed Bd.named Bd.method).1
  have X0 : Stand p l e ({ frames := 3, cells := 0, slots := 0, locals := 40 } : Room) s m #[(.ref o0), (.int (0 : Int32))] below meth c s₁ [] 0 0 := Stand.of_body Bd
  have e0 : s₁.heap = h0 := by rw [← hh, Bd.state]; rfl
  have N0 := Fr.nil n0
  have hret := Bd.returns
  have hlk := BodyLoose.notSynchronized Bd
  show own_Out p e below (fun o U' => ∃ v L, o = .returned v ∧ Q19c1n2i0 Z o0 k b0 b1 vf h0 n0 v U'.heap L ∧ FrameEnd s o U' L ({ frames := 3, cells := 0, slots := 0, locals := 40 } : Room).cells ({ frames := 3, cells := 0, slots := 0, locals := 40 } : Room).slots) (s₁.setTop (entryFrame m #[(.ref o0), (.int (0 : Int32))] 2))
  refine own_of (fun t k => castTop (ef_19c1n2i0 m o0) k) ?_
  show own_Out p e below _ (s₁.setTop (mkF m 0 #[.val (.ref o0), .val (.int (0 : Int32))] []))
  refine own_of (fun _ k => XS.iloadN X0.here hx rfl (hb hby d19_0) rfl k) ?_
  show own_Out p e below _ (s₁.setTop (mkF m 1 #[.val (.ref o0), .val (.int (0 : Int32))] [(.int (0 : Int32))]))
  refine own_of (fun _ k => XS.aloadN X0.here hx rfl (hb hby d19_1) rfl rfl k) ?_
  show own_Out p e below _ (s₁.setTop (mkF m 2 #[.val (.ref o0), .val (.int (0 : Int32))] [(.ref o0), (.int (0 : Int32))]))
  obtain ⟨_, _, ⟨T1, L1, k1, n1⟩, -, X1, ⟨Lc1, hQ1, l1, y1, z1⟩, st1⟩ := Jvm.LawKit.callS X0 hx (y := (⟨"java/lang/StringUTF16", "checkIndex", "(I[B)V"⟩ : MethodName)) hown (mvT hZ (hw _ (List.mem_of_getElem? (i := 87) rfl))) (mvT hZ (hw _ (List.mem_of_getElem? (i := 88) rfl))) (mvT hZ (hw _ (List.mem_of_getElem? (i := 76) rfl))) (mvT hZ (hw _ (List.mem_of_getElem? (i := 89) rfl))) (by decide) (backOf (W := 0) (rm20c1n2i0 l Z a0 hw [] o0 k b0 b1 vf h0 n0 Z0 V S_f hvf) hZ (hw _ (List.mem_of_getElem? (i := 89) rfl)) (hw _ (List.mem_of_getElem? (i := 76) rfl)) (by decide) (by decide)) (g := (mkF m 2 #[.val (.ref o0), .val (.int (0 : Int32))] [(.ref o0), (.int (0 : Int32))])) rfl (by rw [hml]; rfl) (argsL := [(.int (0 : Int32)), (.ref o0)]) (rest := []) (lenOf pd_12 rfl) rfl (by show 2 * 0 + _ ≤ _; exact Nat.le_of_eq rfl) (hb hby d19_2) (fun _ _ => ⟨rfl, e0, (by decide : 0 + 0 ≤ _), (by decide : 0 + 0 ≤ _)⟩)
  dsimp only [Pt.U, Pt.locs, Pt.cells, Pt.slots] at X1 l1 y1 z1 st1 hQ1
  subst l1 y1 z1
  obtain ⟨rfl, N1q, hh1⟩ := hQ1
  have N1 := Fr.app N0 N1q
  refine own_of st1 ?_
  show own_Out p e below _ (T1.setTop (mkF m 5 #[.val (.ref o0), .val (.int (0 : Int32))] []))
  refine own_of (fun _ k => XS.aloadN X1.here hx rfl (hb hby d19_5) rfl rfl k) ?_
  show own_Out p e below _ (T1.setTop (mkF m 6 #[.val (.ref o0), .val (.int (0 : Int32))] [(.ref o0)]))
  refine own_of (fun _ k => XS.iloadN X1.here hx rfl (hb hby d19_6) rfl k) ?_
  show own_Out p e below _ (T1.setTop (mkF m 7 #[.val (.ref o0), .val (.int (0 : Int32))] [(.int (0 : Int32)), (.ref o0)]))
  obtain ⟨_, _, ⟨T2, L2, k2, n2⟩, -, X2, ⟨Lc2, hQ2, l2, y2, z2⟩, st2⟩ := Jvm.LawKit.callS X1 hx (y := (⟨"java/lang/StringUTF16", "getChar", "([BI)C"⟩ : MethodName)) hown (mvT hZ (hw _ (List.mem_of_getElem? (i := 94) rfl))) (mvT hZ (hw _ (List.mem_of_getElem? (i := 95) rfl))) (mvT hZ (hw _ (List.mem_of_getElem? (i := 76) rfl))) (mvT hZ (hw _ (List.mem_of_getElem? (i := 96) rfl))) (by decide) (backOf (W := 0) (rm22c1n2i0 l Z a0 hw [] o0 k b0 b1 h0 n0 Z0 V S_ad S_hi S_lo) hZ (hw _ (List.mem_of_getElem? (i := 96) rfl)) (hw _ (List.mem_of_getElem? (i := 76) rfl)) (by decide) (by decide)) (g := (mkF m 7 #[.val (.ref o0), .val (.int (0 : Int32))] [(.int (0 : Int32)), (.ref o0)])) rfl (by rw [hml]; rfl) (argsL := [(.ref o0), (.int (0 : Int32))]) (rest := []) (lenOf pd_8 rfl) rfl (by show 2 * 0 + _ ≤ _; exact Nat.le_of_eq rfl) (hb hby d19_7) (fun _ _ => ⟨rfl, hh1, (by decide : 0 + 0 ≤ _), (by decide : 0 + 0 ≤ _)⟩)
  dsimp only [Pt.U, Pt.locs, Pt.cells, Pt.slots] at X2 l2 y2 z2 st2 hQ2
  subst l2 y2 z2
  obtain ⟨rfl, N2q, hh2⟩ := hQ2
  have N2 := Fr.app N1 N2q
  refine own_of st2 ?_
  show own_Out p e below _ (T2.setTop (mkF m 10 #[.val (.ref o0), .val (.int (0 : Int32))] [(.int (f_getCharc1n2i0 b0 b1))]))
  exact own_outN X2 hx hlk (t := .char) hret (by simp) (hb hby d19_10) (z' := ((f_getCharc1n2i0 b0 b1).toUInt32.toUInt16.toUInt32.toInt32)) rfl (Q := Q19c1n2i0 Z o0 k b0 b1 vf h0 n0) ⟨by simp only [f_u16charAtc1n2i0], N2, hh2⟩ (by decide) (by decide)
theorem d9_16 : decode jdk_42_method_56_code 16 = .ok (.aload_n 0, 1) := by decide +kernel
theorem d9_17 : decode jdk_42_method_56_code 17 = .ok (.getfield 9, 3) := by decide +kernel
theorem d9_20 : decode jdk_42_method_56_code 20 = .ok (.iload_n 1, 1) := by decide +kernel
theorem d9_21 : decode jdk_42_method_56_code 21 = .ok (.invokestatic 498, 3) := by decide +kernel
theorem d9_24 : decode jdk_42_method_56_code 24 = .ok (.ireturn, 1) := by decide +kernel
theorem ef_9c1n2i0 (m : MethodId) (x0 : Addr) : entryFrame m #[(.ref x0), (.int (0 : Int32))] 2 = mkF m 0 #[.val (.ref x0), .val (.int (0 : Int32))] [] := by first | (simp [entryFrame, mkF, argsToLocals, Value.category]; done) | rfl
def f_charAtc1n2i0 (b0 : Int32) (b1 : Int32) (cs : Int32) : Int32 := ((f_u16charAtc1n2i0 b0 b1).toUInt32.toUInt16.toUInt32.toInt32)
def Q9c1n2i0 (Z : State) (o0 : Addr) (ob : Addr) (k : ClassId) (b0 : Int32) (b1 : Int32) (cs : Int32) (vf : Value) (h0 : Heap) (n0 : Nat) (v : Option Value) (h : Heap) (L : List Loc) : Prop := v = some (.int (f_charAtc1n2i0 b0 b1 cs)) ∧ Fr n0 L ∧ h = h0
set_option maxRecDepth 65536 in
set_option maxHeartbeats 40000000 in
theorem rm9c1n2i0 (l : Launch) (Z : State) (a0 : Array Value) (hw : ∀ d ∈ tables_1, d.before a0 Z = true) (ws : List Jvm.Cond) (o0 : Addr) (ob : Addr) (k : ClassId) (b0 : Int32) (b1 : Int32) (cs : Int32) (vf : Value) (h0 : Heap) (n0 : Nat) (Z0 : n0 ≤ h0.size) (E : Exa Z h0 o0 "java/lang/String") (Fv : Fld Z h0 o0 "java/lang/String" "value" "[B" (.ref ob)) (Fc : Fld Z h0 o0 "java/lang/String" "coder" "B" (.int (1 : Int32))) (V : Arv Z h0 ob k .byte (2 : Int32) [(.int b0), (.int b1)] (.int (0 : Int32))) (S_cs : Sta Z h0 "java/lang/String" "COMPACT_STRINGS" "Z" (.int cs)) (hcs : ¬ (cs = (0 : Int32))) (S_f : Sta Z h0 "jdk/internal/util/Preconditions" "SIOOBE_FORMATTER" "Ljava/util/function/BiFunction;" vf) (hvf : vf.isRef = true) (S_ad : Sta Z h0 "java/lang/StringUTF16" "$assertionsDisabled" "Z" (.int (1 : Int32))) (S_hi : Sta Z h0 "java/lang/StringUTF16" "HI_BYTE_SHIFT" "I" (.int (0 : Int32))) (S_lo : Sta Z h0 "java/lang/StringUTF16" "LO_BYTE_SHIFT" "I" (.int (8 : Int32))) :
    MetFree l (⟨"java/lang/String", "charAt", "(I)C"⟩ : MethodName) (head1 (Jvm.Cond.code (⟨"java/lang/String", "charAt", "(I)C"⟩ : MethodName) jdk_42_method_56_code 2 (some .char) :: ws) ({ frames := 4, cells := 0, slots := 0, locals := 53 } : Room)) (fun a U => a = #[(.ref o0), (.int (0 : Int32))] ∧ Z.Warmed39 U.vm ∧ U.heap = h0) (fun _ _ _ _ _ => True) (fun _ U o U' => ∃ v L, o = .returned v ∧ Q9c1n2i0 Z o0 ob k b0 b1 cs vf h0 n0 v U'.heap L ∧ FrameEnd U o U' L ({ frames := 4, cells := 0, slots := 0, locals := 53 } : Room).cells ({ frames := 4, cells := 0, slots := 0, locals := 53 } : Room).slots) := by
  refine MetFree.of_bodySF (plainFor_of_name pn_2) hisR ?_
  intro p e s m args below meth c s₁ Bd hml0 hP hK
  obtain ⟨rfl, hZ, hh⟩ := hP
  have hx := Bd.exec
  have hby := Bd.bytes
  have hml : c.maxLocals = 2 := hml0
  have hown : s.vm.findClass "java/lang/String" = some m.cls := findClass_of_methodNamed Bd.named
  have hnm := (name_of_methodNamed Bd.named Bd.method).1
  have X0 : Stand p l e ({ frames := 4, cells := 0, slots := 0, locals := 53 } : Room) s m #[(.ref o0), (.int (0 : Int32))] below meth c s₁ [] 0 0 := Stand.of_body Bd
  have e0 : s₁.heap = h0 := by rw [← hh, Bd.state]; rfl
  have N0 := Fr.nil n0
  have hret := Bd.returns
  have hlk := BodyLoose.notSynchronized Bd
  show own_Out p e below (fun o U' => ∃ v L, o = .returned v ∧ Q9c1n2i0 Z o0 ob k b0 b1 cs vf h0 n0 v U'.heap L ∧ FrameEnd s o U' L ({ frames := 4, cells := 0, slots := 0, locals := 53 } : Room).cells ({ frames := 4, cells := 0, slots := 0, locals := 53 } : Room).slots) (s₁.setTop (entryFrame m #[(.ref o0), (.int (0 : Int32))] 2))
  refine own_of (fun t k => castTop (ef_9c1n2i0 m o0) k) ?_
  show own_Out p e below _ (s₁.setTop (mkF m 0 #[.val (.ref o0), .val (.int (0 : Int32))] []))
  refine own_of (fun _ k => XS.aloadN X0.here hx rfl (hb hby d9_0) rfl rfl k) ?_
  show own_Out p e below _ (s₁.setTop (mkF m 1 #[.val (.ref o0), .val (.int (0 : Int32))] [(.ref o0)]))
  obtain ⟨cq1, kq1, q1a, q1b, q1c⟩ := isOf hZ e0 E
  obtain ⟨_, _, ⟨T1, L1, k1, n1⟩, -, X1, ⟨Lc1, hQ1, l1, y1, z1⟩, st1⟩ := X0.virtualBack hx (y := (⟨"java/lang/String", "isLatin1", "()Z"⟩ : MethodName)) (z := (⟨"java/lang/String", "isLatin1", "()Z"⟩ : MethodName)) hown (mvT hZ (hw _ (List.mem_of_getElem? (i := 44) rfl))) (mvT hZ (hw _ (List.mem_of_getElem? (i := 45) rfl))) (notFace_of_selects (args := #[]) (mvT hZ (hw _ (List.mem_of_getElem? (i := 47) rfl)))) (mvT hZ (hw _ (List.mem_of_getElem? (i := 47) rfl))) (mvT hZ (hw _ (List.mem_of_getElem? (i := 46) rfl))) (by decide) (backOf (W := 0) (rm10c1n2 l Z a0 hw [] o0 ob k b0 b1 cs h0 n0 Z0 E Fv Fc V S_cs hcs) hZ (hw _ (List.mem_of_getElem? (i := 48) rfl)) (hw _ (List.mem_of_getElem? (i := 7) rfl)) (by decide) (by decide)) q1a q1c (g := (mkF m 1 #[.val (.ref o0), .val (.int (0 : Int32))] [(.ref o0)])) rfl (by rw [hml]; rfl) (Steps.refl _) (argsL := []) (rest := []) (lenOf pd_7 rfl) rfl (by show 2 * 0 + _ ≤ _; exact Nat.le_of_eq rfl) (hb hby d9_1) (fun _ _ => ⟨rfl, e0, (by decide : 0 + 0 ≤ _), (by decide : 0 + 0 ≤ _)⟩)
  dsimp only [Pt.U, Pt.locs, Pt.cells, Pt.slots] at X1 l1 y1 z1 st1 hQ1
  subst l1 y1 z1
  obtain ⟨rfl, N1q, hh1⟩ := hQ1
  have N1 := Fr.app N0 N1q
  refine own_of (fun _ k => st1.trans k) ?_
  show own_Out p e below _ (T1.setTop (mkF m 4 #[.val (.ref o0), .val (.int (0 : Int32))] [(.int (0 : Int32))]))
  refine own_of (fun _ k => XS.ifYes X1.here hx rfl (pc0 := 4) (pc' := 16) rfl (hb hby d9_4) rfl ((if0 _ _).trans (teq (by decide : (0 : Int32) = (0 : Int32))).1) (by decide) (by decide) k) ?_
  show own_Out p e below _ (T1.setTop (mkF m 16 #[.val (.ref o0), .val (.int (0 : Int32))] []))
  refine own_of (fun _ k => XS.aloadN X1.here hx rfl (hb hby d9_16) rfl rfl k) ?_
  show own_Out p e below _ (T1.setTop (mkF m 17 #[.val (.ref o0), .val (.int (0 : Int32))] [(.ref o0)]))
  obtain ⟨T2, X2, e2, st2⟩ := getF X1 hx hZ hown (host := "") (Or.inl (hw _ (List.mem_of_getElem? (i := 27) rfl))) Via.refl hh1 Fv (g := (mkF m 17 #[.val (.ref o0), .val (.int (0 : Int32))] [(.ref o0)])) rfl rfl (hb hby d9_17)
  refine own_of st2 ?_
  show own_Out p e below _ (T2.setTop (mkF m 20 #[.val (.ref o0), .val (.int (0 : Int32))] [(.ref ob)]))
  refine own_of (fun _ k => XS.iloadN X2.here hx rfl (hb hby d9_20) rfl k) ?_
  show own_Out p e below _ (T2.setTop (mkF m 21 #[.val (.ref o0), .val (.int (0 : Int32))] [(.int (0 : Int32)), (.ref ob)]))
  obtain ⟨_, _, ⟨T3, L3, k3, n3⟩, -, X3, ⟨Lc3, hQ3, l3, y3, z3⟩, st3⟩ := Jvm.LawKit.callS X2 hx (y := (⟨"java/lang/StringUTF16", "charAt", "([BI)C"⟩ : MethodName)) hown (mvT hZ (hw _ (List.mem_of_getElem? (i := 84) rfl))) (mvT hZ (hw _ (List.mem_of_getElem? (i := 85) rfl))) (mvT hZ (hw _ (List.mem_of_getElem? (i := 76) rfl))) (mvT hZ (hw _ (List.mem_of_getElem? (i := 86) rfl))) (by decide) (backOf (W := 0) (rm19c1n2i0 l Z a0 hw [] ob k b0 b1 vf h0 n0 Z0 V S_f hvf S_ad S_hi S_lo) hZ (hw _ (List.mem_of_getElem? (i := 86) rfl)) (hw _ (List.mem_of_getElem? (i := 76) rfl)) (by decide) (by decide)) (g := (mkF m 21 #[.val (.ref o0), .val (.int (0 : Int32))] [(.int (0 : Int32)), (.ref ob)])) rfl (by rw [hml]; rfl) (argsL := [(.ref ob), (.int (0 : Int32))]) (rest := []) (lenOf pd_8 rfl) rfl (by show 2 * 0 + _ ≤ _; exact Nat.le_of_eq rfl) (hb hby d9_21) (fun _ _ => ⟨rfl, e2, (by decide : 0 + 0 ≤ _), (by decide : 0 + 0 ≤ _)⟩)
  dsimp only [Pt.U, Pt.locs, Pt.cells, Pt.slots] at X3 l3 y3 z3 st3 hQ3
  subst l3 y3 z3
  obtain ⟨rfl, N3q, hh3⟩ := hQ3
  have N3 := Fr.app N1 N3q
  refine own_of st3 ?_
  show own_Out p e below _ (T3.setTop (mkF m 24 #[.val (.ref o0), .val (.int (0 : Int32))] [(.int (f_u16charAtc1n2i0 b0 b1))]))
  exact own_outN X3 hx hlk (t := .char) hret (by simp) (hb hby d9_24) (z' := ((f_u16charAtc1n2i0 b0 b1).toUInt32.toUInt16.toUInt32.toInt32)) rfl (Q := Q9c1n2i0 Z o0 ob k b0 b1 cs vf h0 n0) ⟨by simp only [f_charAtc1n2i0, if_neg hcs], N3, hh3⟩ (by decide) (by decide)
theorem ef_7c1n2 (m : MethodId) (x0 : Addr) : entryFrame m #[(.ref x0)] 2 = mkF m 0 #[.val (.ref x0), .unset] [] := by first | (simp [entryFrame, mkF, argsToLocals, Value.category]; done) | rfl
def f_isTagc1n2 (b0 : Int32) (b1 : Int32) (cs : Int32) : Int32 := if (f1 (f_charAtc1n2i0 b0 b1 cs)) = (0 : Int32) then (0 : Int32)
  else (1 : Int32)
def Q7c1n2 (Z : State) (o0 : Addr) (ob : Addr) (k : ClassId) (b0 : Int32) (b1 : Int32) (cs : Int32) (vf : Value) (h0 : Heap) (n0 : Nat) (v : Option Value) (h : Heap) (L : List Loc) : Prop := v = some (.int (f_isTagc1n2 b0 b1 cs)) ∧ Fr n0 L ∧ h = h0
set_option maxRecDepth 65536 in
set_option maxHeartbeats 40000000 in
theorem rm7c1n2 (l : Launch) (Z : State) (a0 : Array Value) (hw : ∀ d ∈ tables_1, d.before a0 Z = true) (ws : List Jvm.Cond) (o0 : Addr) (ob : Addr) (k : ClassId) (b0 : Int32) (b1 : Int32) (cs : Int32) (vf : Value) (h0 : Heap) (n0 : Nat) (Z0 : n0 ≤ h0.size) (E : Exa Z h0 o0 "java/lang/String") (Fv : Fld Z h0 o0 "java/lang/String" "value" "[B" (.ref ob)) (Fc : Fld Z h0 o0 "java/lang/String" "coder" "B" (.int (1 : Int32))) (V : Arv Z h0 ob k .byte (2 : Int32) [(.int b0), (.int b1)] (.int (0 : Int32))) (S_cs : Sta Z h0 "java/lang/String" "COMPACT_STRINGS" "Z" (.int cs)) (hcs : ¬ (cs = (0 : Int32))) (S_f : Sta Z h0 "jdk/internal/util/Preconditions" "SIOOBE_FORMATTER" "Ljava/util/function/BiFunction;" vf) (hvf : vf.isRef = true) (S_ad : Sta Z h0 "java/lang/StringUTF16" "$assertionsDisabled" "Z" (.int (1 : Int32))) (S_hi : Sta Z h0 "java/lang/StringUTF16" "HI_BYTE_SHIFT" "I" (.int (0 : Int32))) (S_lo : Sta Z h0 "java/lang/StringUTF16" "LO_BYTE_SHIFT" "I" (.int (8 : Int32))) :
    MetFree l (⟨"com/example/ringd/ringd/core/Tags", "isTag", "(Ljava/lang/String;)Z"⟩ : MethodName) (head1 (Jvm.Cond.code (⟨"com/example/ringd/ringd/core/Tags", "isTag", "(Ljava/lang/String;)Z"⟩ : MethodName) prog_115_method_4_code 2 (some .boolean) :: ws) ({ frames := 5, cells := 0, slots := 0, locals := 66 } : Room)) (fun a U => a = #[(.ref o0)] ∧ Z.Warmed39 U.vm ∧ U.heap = h0) (fun _ _ _ _ _ => True) (fun _ U o U' => ∃ v L, o = .returned v ∧ Q7c1n2 Z o0 ob k b0 b1 cs vf h0 n0 v U'.heap L ∧ FrameEnd U o U' L ({ frames := 5, cells := 0, slots := 0, locals := 66 } : Room).cells ({ frames := 5, cells := 0, slots := 0, locals := 66 } : Room).slots) := by
  refine MetFree.of_bodySF (plainFor_of_name pn_0) hisR ?_
  intro p e s m args below meth c s₁ Bd hml0 hP hK
  obtain ⟨rfl, hZ, hh⟩ := hP
  have hx := Bd.exec
  have hby := Bd.bytes
  have hml : c.maxLocals = 2 := hml0
  have hown : s.vm.findClass "com/example/ringd/ringd/core/Tags" = some m.cls := findClass_of_methodNamed Bd.named
  have hnm := (name_of_methodNamed Bd.named Bd.method).1
  have X0 : Stand p l e ({ frames := 5, cells := 0, slots := 0, locals := 66 } : Room) s m #[(.ref o0)] below meth c s₁ [] 0 0 := Stand.of_body Bd
  have e0 : s₁.heap = h0 := by rw [← hh, Bd.state]; rfl
  have N0 := Fr.nil n0
  have hret := Bd.returns
  have hlk := BodyLoose.notSynchronized Bd
  show own_Out p e below (fun o U' => ∃ v L, o = .returned v ∧ Q7c1n2 Z o0 ob k b0 b1 cs vf h0 n0 v U'.heap L ∧ FrameEnd s o U' L ({ frames := 5, cells := 0, slots := 0, locals := 66 } : Room).cells ({ frames := 5, cells := 0, slots := 0, locals := 66 } : Room).slots) (s₁.setTop (entryFrame m #[(.ref o0)] 2))
  refine own_of (fun t k => castTop (ef_7c1n2 m o0) k) ?_
  show own_Out p e below _ (s₁.setTop (mkF m 0 #[.val (.ref o0), .unset] []))
  refine own_of (fun _ k => XS.aloadN X0.here hx rfl (hb hby d7_0) rfl rfl k) ?_
  show own_Out p e below _ (s₁.setTop (mkF m 1 #[.val (.ref o0), .unset] [(.ref o0)]))
  obtain ⟨cq1, kq1, q1a, q1b, q1c⟩ := isOf hZ e0 E
  obtain ⟨_, _, ⟨T1, L1, k1, n1⟩, -, X1, ⟨Lc1, hQ1, l1, y1, z1⟩, st1⟩ := X0.virtualBack hx (y := (⟨"java/lang/String", "isEmpty", "()Z"⟩ : MethodName)) (z := (⟨"java/lang/String", "isEmpty", "()Z"⟩ : MethodName)) hown (mvT hZ (hw _ (List.mem_of_getElem? (i := 34) rfl))) (mvT hZ (hw _ (List.mem_of_getElem? (i := 35) rfl))) (notFace_of_selects (args := #[]) (mvT hZ (hw _ (List.mem_of_getElem? (i := 37) rfl)))) (mvT hZ (hw _ (List.mem_of_getElem? (i := 37) rfl))) (mvT hZ (hw _ (List.mem_of_getElem? (i := 36) rfl))) (by decide) (backOf (W := 0) (rm8c1n2 l Z a0 hw [] o0 ob k b0 b1 cs h0 n0 Z0 E Fv Fc V S_cs hcs) hZ (hw _ (List.mem_of_getElem? (i := 38) rfl)) (hw _ (List.mem_of_getElem? (i := 7) rfl)) (by decide) (by decide)) q1a q1c (g := (mkF m 1 #[.val (.ref o0), .unset] [(.ref o0)])) rfl (by rw [hml]; rfl) (Steps.refl _) (argsL := []) (rest := []) (lenOf pd_7 rfl) rfl (by show 2 * 0 + _ ≤ _; exact Nat.le_of_eq rfl) (hb hby d7_1) (fun _ _ => ⟨rfl, e0, (by decide : 0 + 0 ≤ _), (by decide : 0 + 0 ≤ _)⟩)
  dsimp only [Pt.U, Pt.locs, Pt.cells, Pt.slots] at X1 l1 y1 z1 st1 hQ1
  subst l1 y1 z1
  obtain ⟨rfl, N1q, hh1⟩ := hQ1
  have N1 := Fr.app N0 N1q
  refine own_of (fun _ k => st1.trans k) ?_
  show own_Out p e below _ (T1.setTop (mkF m 4 #[.val (.ref o0), .unset] [(.int (0 : Int32))]))
  refine own_of (fun _ k => XS.ifNo X1.here hx rfl (hb hby d7_4) rfl ((if0 _ _).trans (teq (by decide : (0 : Int32) = (0 : Int32))).2) k) ?_
  show own_Out p e below _ (T1.setTop (mkF m 7 #[.val (.ref o0), .unset] []))
  refine own_of (fun _ k => XS.aloadN X1.here hx rfl (hb hby d7_7) rfl rfl k) ?_
  show own_Out p e below _ (T1.setTop (mkF m 8 #[.val (.ref o0), .unset] [(.ref o0)]))
  refine own_of (fun _ k => XS.iconst X1.here hx rfl (hb hby d7_8) k) ?_
  show own_Out p e below _ (T1.setTop (mkF m 9 #[.val (.ref o0), .unset] [(.int (0 : Int32)), (.ref o0)]))
  obtain ⟨cq2, kq2, q2a, q2b, q2c⟩ := isOf hZ hh1 E
  obtain ⟨_, _, ⟨T2, L2, k2, n2⟩, -, X2, ⟨Lc2, hQ2, l2, y2, z2⟩, st2⟩ := X1.virtualBack hx (y := (⟨"java/lang/String", "charAt", "(I)C"⟩ : MethodName)) (z := (⟨"java/lang/String", "charAt", "(I)C"⟩ : MethodName)) hown (mvT hZ (hw _ (List.mem_of_getElem? (i := 39) rfl))) (mvT hZ (hw _ (List.mem_of_getElem? (i := 40) rfl))) (notFace_of_selects (args := #[]) (mvT hZ (hw _ (List.mem_of_getElem? (i := 42) rfl)))) (mvT hZ (hw _ (List.mem_of_getElem? (i := 42) rfl))) (mvT hZ (hw _ (List.mem_of_getElem? (i := 41) rfl))) (by decide) (backOf (W := 0) (rm9c1n2i0 l Z a0 hw [] o0 ob k b0 b1 cs vf h0 n0 Z0 E Fv Fc V S_cs hcs S_f hvf S_ad S_hi S_lo) hZ (hw _ (List.mem_of_getElem? (i := 43) rfl)) (hw _ (List.mem_of_getElem? (i := 7) rfl)) (by decide) (by decide)) q2a q2c (g := (mkF m 9 #[.val (.ref o0), .unset] [(.int (0 : Int32)), (.ref o0)])) rfl (by rw [hml]; rfl) (Steps.refl _) (argsL := [(.int (0 : Int32))]) (rest := []) (lenOf pd_9 rfl) rfl (by show 2 * 0 + _ ≤ _; exact Nat.le_of_eq rfl) (hb hby d7_9) (fun _ _ => ⟨rfl, hh1, (by decide : 0 + 0 ≤ _), (by decide : 0 + 0 ≤ _)⟩)
  dsimp only [Pt.U, Pt.locs, Pt.cells, Pt.slots] at X2 l2 y2 z2 st2 hQ2
  subst l2 y2 z2
  obtain ⟨rfl, N2q, hh2⟩ := hQ2
  have N2 := Fr.app N1 N2q
  refine own_of (fun _ k => st2.trans k) ?_
  show own_Out p e below _ (T2.setTop (mkF m 12 #[.val (.ref o0), .unset] [(.int (f_charAtc1n2i0 b0 b1 cs))]))
  obtain ⟨_, _, ⟨T3, L3, k3, n3⟩, -, X3, ⟨Lc3, hQ3, l3, y3, z3⟩, st3⟩ := Jvm.LawKit.callS X2 hx (y := (⟨"com/example/ringd/ringd/core/Tags", "isStart", "(C)Z"⟩ : MethodName)) hown (mvT hZ (hw _ (List.mem_of_getElem? (i := 60) rfl))) (mvT hZ (hw _ (List.mem_of_getElem? (i := 2) rfl))) (mvT hZ (hw _ (List.mem_of_getElem? (i := 3) rfl))) (mvT hZ (hw _ (List.mem_of_getElem? (i := 4) rfl))) (by decide) (backOf (W := 0) (rm1 l Z a0 hw [] (f_charAtc1n2i0 b0 b1 cs) h0 n0 Z0 ) hZ (hw _ (List.mem_of_getElem? (i := 4) rfl)) (hw _ (List.mem_of_getElem? (i := 3) rfl)) (by decide) (by decide)) (g := (mkF m 12 #[.val (.ref o0), .unset] [(.int (f_charAtc1n2i0 b0 b1 cs))])) rfl (by rw [hml]; rfl) (argsL := [(.int (f_charAtc1n2i0 b0 b1 cs))]) (rest := []) (lenOf pd_0 rfl) rfl (by show 2 * 0 + _ ≤ _; exact Nat.le_of_eq rfl) (hb hby d7_12) (fun _ _ => ⟨rfl, hh2, (by decide : 0 + 0 ≤ _), (by decide : 0 + 0 ≤ _)⟩)
  dsimp only [Pt.U, Pt.locs, Pt.cells, Pt.slots] at X3 l3 y3 z3 st3 hQ3
  subst l3 y3 z3
  obtain ⟨rfl, N3q, hh3⟩ := hQ3
  have N3 := Fr.app N2 N3q
  refine own_of st3 ?_
  show own_Out p e below _ (T3.setTop (mkF m 15 #[.val (.ref o0), .unset] [(.int (f1 (f_charAtc1n2i0 b0 b1 cs)))]))
  by_cases hc15_4 : (f1 (f_charAtc1n2i0 b0 b1 cs)) = (0 : Int32)
  · skip
    refine own_of (fun _ k => XS.ifNo X3.here hx rfl (hb hby d7_15) rfl ((if0 _ _).trans (teq hc15_4).2) k) ?_
    show own_Out p e below _ (T3.setTop (mkF m 18 #[.val (.ref o0), .unset] []))
    refine own_of (fun _ k => XS.iconst X3.here hx rfl (hb hby d7_18) k) ?_
    show own_Out p e below _ (T3.setTop (mkF m 19 #[.val (.ref o0), .unset] [(.int (0 : Int32))]))
    exact own_outN X3 hx hlk (t := .boolean) hret (by simp) (hb hby d7_19) (z' := (0 : Int32)) rfl (Q := Q7c1n2 Z o0 ob k b0 b1 cs vf h0 n0) ⟨by simp only [f_isTagc1n2, if_neg hcs, if_pos hc15_4], N3, hh3⟩ (by decide) (by decide)
  · skip
    refine own_of (fun _ k => XS.ifYes X3.here hx rfl (pc0 := 15) (pc' := 20) rfl (hb hby d7_15) rfl ((if0 _ _).trans (feq hc15_4).2) (by decide) (by decide) k) ?_
    show own_Out p e below _ (T3.setTop (mkF m 20 #[.val (.ref o0), .unset] []))
    refine own_of (fun _ k => XS.iconst X3.here hx rfl (hb hby d7_20) k) ?_
    show own_Out p e below _ (T3.setTop (mkF m 21 #[.val (.ref o0), .unset] [(.int (1 : Int32))]))
    refine own_of (fun _ k => XS.istoreN X3.here hx rfl (hb hby d7_21) rfl (l' := #[.val (.ref o0), .val (.int (1 : Int32))]) rfl k) ?_
    show own_Out p e below _ (T3.setTop (mkF m 22 #[.val (.ref o0), .val (.int (1 : Int32))] []))
    refine own_of (fun _ k => XS.iloadN X3.here hx rfl (hb hby d7_22) rfl k) ?_
    show own_Out p e below _ (T3.setTop (mkF m 23 #[.val (.ref o0), .val (.int (1 : Int32))] [(.int (1 : Int32))]))
    refine own_of (fun _ k => XS.aloadN X3.here hx rfl (hb hby d7_23) rfl rfl k) ?_
    show own_Out p e below _ (T3.setTop (mkF m 24 #[.val (.ref o0), .val (.int (1 : Int32))] [(.ref o0), (.int (1 : Int32))]))
    obtain ⟨cq5, kq5, q5a, q5b, q5c⟩ := isOf hZ hh3 E
    obtain ⟨_, _, ⟨T5, L5, k5, n5⟩, -, X5, ⟨Lc5, hQ5, l5, y5, z5⟩, st5⟩ := X3.virtualBack hx (y := (⟨"java/lang/String", "length", "()I"⟩ : MethodName)) (z := (⟨"java/lang/String", "length", "()I"⟩ : MethodName)) hown (mvT hZ (hw _ (List.mem_of_getElem? (i := 64) rfl))) (mvT hZ (hw _ (List.mem_of_getElem? (i := 65) rfl))) (notFace_of_selects (args := #[]) (mvT hZ (hw _ (List.mem_of_getElem? (i := 67) rfl)))) (mvT hZ (hw _ (List.mem_of_getElem? (i := 67) rfl))) (mvT hZ (hw _ (List.mem_of_getElem? (i := 66) rfl))) (by decide) (backOf (W := 1) (rm15c1n2 l Z a0 hw [] o0 ob k b0 b1 cs h0 n0 Z0 E Fv Fc V S_cs hcs) hZ (hw _ (List.mem_of_getElem? (i := 68) rfl)) (hw _ (List.mem_of_getElem? (i := 7) rfl)) (by decide) (by decide)) q5a q5c (g := (mkF m 24 #[.val (.ref o0), .val (.int (1 : Int32))] [(.ref o0), (.int (1 : Int32))])) rfl (by rw [hml]; rfl) (Steps.refl _) (argsL := []) (rest := [(.int (1 : Int32))]) (lenOf pd_10 rfl) rfl (by show 2 * 0 + _ ≤ _; exact Nat.le_of_eq rfl) (hb hby d7_24) (fun _ _ => ⟨rfl, hh3, (by decide : 0 + 0 ≤ _), (by decide : 0 + 0 ≤ _)⟩)
    dsimp only [Pt.U, Pt.locs, Pt.cells, Pt.slots] at X5 l5 y5 z5 st5 hQ5
    subst l5 y5 z5
    obtain ⟨rfl, N5q, hh5⟩ := hQ5
    have N5 := Fr.app N3 N5q
    refine own_of (fun _ k => st5.trans k) ?_
    show own_Out p e below _ (T5.setTop (mkF m 27 #[.val (.ref o0), .val (.int (1 : Int32))] [(.int (1 : Int32)), (.int (1 : Int32))]))
    refine own_of (fun _ k => XS.icmpYes X5.here hx rfl (pc0 := 27) (pc' := 49) rfl (hb hby d7_27) rfl (flt (by decide : ¬ ((1 : Int32) < (1 : Int32)))).2.1 (by decide) (by decide) k) ?_
    show own_Out p e below _ (T5.setTop (mkF m 49 #[.val (.ref o0), .val (.int (1 : Int32))] []))
    refine own_of (fun _ k => XS.iconst X5.here hx rfl (hb hby d7_49) k) ?_
    show own_Out p e below _ (T5.setTop (mkF m 50 #[.val (.ref o0), .val (.int (1 : Int32))] [(.int (1 : Int32))]))
    exact own_outN X5 hx hlk (t := .boolean) hret (by simp) (hb hby d7_50) (z' := (1 : Int32)) rfl (Q := Q7c1n2 Z o0 ob k b0 b1 cs vf h0 n0) ⟨by simp only [f_isTagc1n2, if_neg hcs, if_neg hc15_4], N5, hh5⟩ (by decide) (by decide)
theorem pd_13 : parseMethodDescriptor "(C)Ljava/lang/String;" = some ⟨[.char], some (.object "java/lang/String")⟩ := by decide +kernel
theorem pd_14 : parseMethodDescriptor "(Ljava/lang/String;)Z" = some ⟨[(.object "java/lang/String")], some .boolean⟩ := by decide +kernel
theorem pn_5 : plainName "com/example/ringd/ringd/core/TagsIsStartPinLaw" = true := by first | (simp [plainName, overriddenIn]; done) | decide +kernel
theorem ef_0 (m : MethodId) (x0 : Int32) : entryFrame m #[(.int x0)] maxLocals = mkF m 0 #[.val (.int x0), .unset, .unset, .unset, .unset, .unset, .unset, .unset] [] := by first | (simp [entryFrame, mkF, argsToLocals, Value.category, maxLocals]; done) | rfl
theorem own_f1 (c : Int32) : f1 c = if (97 ≤ c.toInt ∧ c.toInt ≤ 122) ∨ (48 ≤ c.toInt ∧ c.toInt ≤ 57) then (1 : Int32) else (0 : Int32) := by
  have L : ∀ k : Int32, c < k ↔ c.toInt < k.toInt := fun k => Int32.lt_iff_toInt_lt
  have L' : ∀ k : Int32, k < c ↔ k.toInt < c.toInt := fun k => Int32.lt_iff_toInt_lt
  have n97 : (97 : Int32).toInt = 97 := rfl
  have n122 : (122 : Int32).toInt = 122 := rfl
  have n48 : (48 : Int32).toInt = 48 := rfl
  have n57 : (57 : Int32).toInt = 57 := rfl
  simp only [f1, L, L', n97, n122, n48, n57]
  by_cases h1 : c.toInt < 97 <;> by_cases h2 : 122 < c.toInt <;> by_cases h3 : c.toInt < 48 <;> by_cases h4 : 57 < c.toInt <;> by_cases h5 : (97 ≤ c.toInt ∧ c.toInt ≤ 122) ∨ (48 ≤ c.toInt ∧ c.toInt ≤ 57) <;>
    first | (exfalso; omega) | simp [h1, h2, h3, h4, h5]
theorem own_A {c : Int32} (h0 : 0 ≤ c.toInt) (h1 : c.toInt < 65536) : ((c - (48 : Int32)) < (0 : Int32) ↔ c.toInt < 48) ∧ ((c - (97 : Int32)) < (0 : Int32) ↔ c.toInt < 97) ∧ ((c - (48 : Int32)) < (10 : Int32) ↔ c.toInt < 58) ∧ ((c - (97 : Int32)) < (26 : Int32) ↔ c.toInt < 123) := by
  have n48 : (48 : Int32).toInt = 48 := rfl
  have n97 : (97 : Int32).toInt = 97 := rfl
  have n0 : (0 : Int32).toInt = 0 := rfl
  have n10 : (10 : Int32).toInt = 10 := rfl
  have n26 : (26 : Int32).toInt = 26 := rfl
  have e1 := Jvm.Kit.i32_sub (p := c) (q := 48) (by omega) (by omega)
  have e2 := Jvm.Kit.i32_sub (p := c) (q := 97) (by omega) (by omega)
  simp only [Int32.lt_iff_toInt_lt, e1, e2]
  omega
theorem own_01 (c : Int32) : (if f1 c = (0 : Int32) then (0 : Int32) else (1 : Int32)) = f1 c := by
  rw [own_f1]; split <;> decide
theorem own_one {c : Int32} (h0 : 0 ≤ c.toInt) (h1 : ¬ ((255 : Int32) < c)) (cs : Int32) : f_charAtc0n1i0 ((c.toInt8.toInt32).toInt8.toInt32) cs = c := by
  have n255 : (255 : Int32).toInt = 255 := rfl
  rw [Int32.lt_iff_toInt_lt, n255] at h1
  apply Int32.toInt_inj.mp
  simp only [f_charAtc0n1i0, f_l1charAtc0n1i0]
  have a1 := c_i2b c
  have a2 := c_i2b (c.toInt8.toInt32)
  have a3 := c_mask ((c.toInt8.toInt32).toInt8.toInt32) 255 8 (by decide) (by decide)
  have a4 := c_i2c (((c.toInt8.toInt32).toInt8.toInt32) &&& (255 : Int32))
  have a5 := c_i2c ((((c.toInt8.toInt32).toInt8.toInt32) &&& (255 : Int32)).toUInt32.toUInt16.toUInt32.toInt32)
  have a6 := c_i2c (((((c.toInt8.toInt32).toInt8.toInt32) &&& (255 : Int32)).toUInt32.toUInt16.toUInt32.toInt32).toUInt32.toUInt16.toUInt32.toInt32)
  omega
theorem own_two {c : Int32} (h0 : 0 ≤ c.toInt) (h1 : c.toInt < 65536) (cs : Int32) : f_charAtc1n2i0 (((c >>> ((0 : Int32) &&& 31)).toInt8.toInt32).toInt8.toInt32) (((c >>> ((8 : Int32) &&& 31)).toInt8.toInt32).toInt8.toInt32) cs = c := by
  apply Int32.toInt_inj.mp
  simp only [f_charAtc1n2i0, f_u16charAtc1n2i0, f_getCharc1n2i0]
  have s1 := c_ishr c 0 0 (by decide)
  have s2 := c_ishr c 8 8 (by decide)
  generalize (c >>> ((0 : Int32) &&& 31)) = u at *
  generalize (c >>> ((8 : Int32) &&& 31)) = w at *
  have a1 := c_i2b u
  have a2 := c_i2b (u.toInt8.toInt32)
  have b1 := c_i2b w
  have b2 := c_i2b (w.toInt8.toInt32)
  generalize (u.toInt8.toInt32).toInt8.toInt32 = x at *
  generalize (w.toInt8.toInt32).toInt8.toInt32 = y at *
  have a3 := c_mask x 255 8 (by decide) (by decide)
  have b3 := c_mask y 255 8 (by decide) (by decide)
  generalize (x &&& (255 : Int32)) = x1 at *
  generalize (y &&& (255 : Int32)) = y1 at *
  have a4 := c_ishl x1 0 0 (by decide)
  have b4 := c_ishl y1 8 8 (by decide)
  have ra := rng32 (x1 <<< ((0 : Int32) &&& 31))
  have rb := rng32 (y1 <<< ((8 : Int32) &&& 31))
  generalize (x1 <<< ((0 : Int32) &&& 31)) = x2 at *
  generalize (y1 <<< ((8 : Int32) &&& 31)) = y2 at *
  have hx2 : 0 ≤ x2.toInt ∧ x2.toInt < 256 := by omega
  have hy2 : y2.toInt % 256 = 0 := by omega
  have o := c_or' x2 y2 8 (by decide) 256 rfl hy2 hx2.1 hx2.2
  have ro := rng32 (x2 ||| y2)
  have z1 := c_i2c (x2 ||| y2)
  have z2 := c_i2c ((x2 ||| y2).toUInt32.toUInt16.toUInt32.toInt32)
  have z3 := c_i2c (((x2 ||| y2).toUInt32.toUInt16.toUInt32.toInt32).toUInt32.toUInt16.toUInt32.toInt32)
  have z4 := c_i2c ((((x2 ||| y2).toUInt32.toUInt16.toUInt32.toInt32).toUInt32.toUInt16.toUInt32.toInt32).toUInt32.toUInt16.toUInt32.toInt32)
  omega
theorem dead0_0 (p0 : Int32) (hcs : ¬ (cs = (0 : Int32))) (hc18_1 : (((p0 &&& (65535 : Int32)).toUInt32.toUInt16.toUInt32.toInt32) - (48 : Int32)) < (0 : Int32)) (hc36_2 : (((p0 &&& (65535 : Int32)).toUInt32.toUInt16.toUInt32.toInt32) - (97 : Int32)) < (0 : Int32)) (hc79_4 : (f1 ((p0 &&& (65535 : Int32)).toUInt32.toUInt16.toUInt32.toInt32)) = (0 : Int32)) (hc99_5 : (255 : Int32) < ((p0 &&& (65535 : Int32)).toUInt32.toUInt16.toUInt32.toInt32)) (hc107_8 : ¬ ((f_isTagc1n2 (((((p0 &&& (65535 : Int32)).toUInt32.toUInt16.toUInt32.toInt32) >>> ((0 : Int32) &&& 31)).toInt8.toInt32).toInt8.toInt32) (((((p0 &&& (65535 : Int32)).toUInt32.toUInt16.toUInt32.toInt32) >>> ((8 : Int32) &&& 31)).toInt8.toInt32).toInt8.toInt32) cs) = (f1 ((p0 &&& (65535 : Int32)).toUInt32.toUInt16.toUInt32.toInt32)))) : False := by
  have hb := c_i2c (p0 &&& (65535 : Int32))
  generalize ((p0 &&& (65535 : Int32)).toUInt32.toUInt16.toUInt32.toInt32) = c at *
  apply hc107_8
  simp only [f_isTagc1n2, own_two hb.2.1 hb.2.2 cs]
  exact own_01 c
theorem dead0_1 (p0 : Int32) (hcs : ¬ (cs = (0 : Int32))) (hc18_1 : (((p0 &&& (65535 : Int32)).toUInt32.toUInt16.toUInt32.toInt32) - (48 : Int32)) < (0 : Int32)) (hc36_2 : (((p0 &&& (65535 : Int32)).toUInt32.toUInt16.toUInt32.toInt32) - (97 : Int32)) < (0 : Int32)) (hc79_4 : (f1 ((p0 &&& (65535 : Int32)).toUInt32.toUInt16.toUInt32.toInt32)) = (0 : Int32)) (hc99_5 : ¬ ((255 : Int32) < ((p0 &&& (65535 : Int32)).toUInt32.toUInt16.toUInt32.toInt32))) (hc107_11 : ¬ ((f_isTagc0n1 ((((p0 &&& (65535 : Int32)).toUInt32.toUInt16.toUInt32.toInt32).toInt8.toInt32).toInt8.toInt32) cs) = (f1 ((p0 &&& (65535 : Int32)).toUInt32.toUInt16.toUInt32.toInt32)))) : False := by
  have hb := c_i2c (p0 &&& (65535 : Int32))
  generalize ((p0 &&& (65535 : Int32)).toUInt32.toUInt16.toUInt32.toInt32) = c at *
  apply hc107_11
  simp only [f_isTagc0n1, own_one hb.2.1 hc99_5 cs]
  exact own_01 c
theorem dead0_2 (p0 : Int32) (hcs : ¬ (cs = (0 : Int32))) (hc18_1 : (((p0 &&& (65535 : Int32)).toUInt32.toUInt16.toUInt32.toInt32) - (48 : Int32)) < (0 : Int32)) (hc36_2 : (((p0 &&& (65535 : Int32)).toUInt32.toUInt16.toUInt32.toInt32) - (97 : Int32)) < (0 : Int32)) (hc79_4 : ¬ ((f1 ((p0 &&& (65535 : Int32)).toUInt32.toUInt16.toUInt32.toInt32)) = (0 : Int32))) : False := by
  have hb := c_i2c (p0 &&& (65535 : Int32))
  generalize ((p0 &&& (65535 : Int32)).toUInt32.toUInt16.toUInt32.toInt32) = c at *
  have A := own_A hb.2.1 hb.2.2
  have e := own_f1 c
  simp only [A] at hc18_1 hc36_2
  by_cases q : (97 ≤ c.toInt ∧ c.toInt ≤ 122) ∨ (48 ≤ c.toInt ∧ c.toInt ≤ 57)
  · rw [if_pos q] at e; first | exact hc79_4 e | omega
  · rw [if_neg q] at e; first | exact hc79_4 e | omega
theorem dead0_3 (p0 : Int32) (hcs : ¬ (cs = (0 : Int32))) (hc18_1 : (((p0 &&& (65535 : Int32)).toUInt32.toUInt16.toUInt32.toInt32) - (48 : Int32)) < (0 : Int32)) (hc36_2 : ¬ ((((p0 &&& (65535 : Int32)).toUInt32.toUInt16.toUInt32.toInt32) - (97 : Int32)) < (0 : Int32))) (hc42_12 : (((p0 &&& (65535 : Int32)).toUInt32.toUInt16.toUInt32.toInt32) - (97 : Int32)) < (26 : Int32)) (hc79_14 : (f1 ((p0 &&& (65535 : Int32)).toUInt32.toUInt16.toUInt32.toInt32)) = (1 : Int32)) (hc99_16 : (255 : Int32) < ((p0 &&& (65535 : Int32)).toUInt32.toUInt16.toUInt32.toInt32)) (hc107_19 : ¬ ((f_isTagc1n2 (((((p0 &&& (65535 : Int32)).toUInt32.toUInt16.toUInt32.toInt32) >>> ((0 : Int32) &&& 31)).toInt8.toInt32).toInt8.toInt32) (((((p0 &&& (65535 : Int32)).toUInt32.toUInt16.toUInt32.toInt32) >>> ((8 : Int32) &&& 31)).toInt8.toInt32).toInt8.toInt32) cs) = (f1 ((p0 &&& (65535 : Int32)).toUInt32.toUInt16.toUInt32.toInt32)))) : False := by
  have hb := c_i2c (p0 &&& (65535 : Int32))
  generalize ((p0 &&& (65535 : Int32)).toUInt32.toUInt16.toUInt32.toInt32) = c at *
  apply hc107_19
  simp only [f_isTagc1n2, own_two hb.2.1 hb.2.2 cs]
  exact own_01 c
theorem dead0_4 (p0 : Int32) (hcs : ¬ (cs = (0 : Int32))) (hc18_1 : (((p0 &&& (65535 : Int32)).toUInt32.toUInt16.toUInt32.toInt32) - (48 : Int32)) < (0 : Int32)) (hc36_2 : ¬ ((((p0 &&& (65535 : Int32)).toUInt32.toUInt16.toUInt32.toInt32) - (97 : Int32)) < (0 : Int32))) (hc42_12 : (((p0 &&& (65535 : Int32)).toUInt32.toUInt16.toUInt32.toInt32) - (97 : Int32)) < (26 : Int32)) (hc79_14 : (f1 ((p0 &&& (65535 : Int32)).toUInt32.toUInt16.toUInt32.toInt32)) = (1 : Int32)) (hc99_16 : ¬ ((255 : Int32) < ((p0 &&& (65535 : Int32)).toUInt32.toUInt16.toUInt32.toInt32))) (hc107_22 : ¬ ((f_isTagc0n1 ((((p0 &&& (65535 : Int32)).toUInt32.toUInt16.toUInt32.toInt32).toInt8.toInt32).toInt8.toInt32) cs) = (f1 ((p0 &&& (65535 : Int32)).toUInt32.toUInt16.toUInt32.toInt32)))) : False := by
  have hb := c_i2c (p0 &&& (65535 : Int32))
  generalize ((p0 &&& (65535 : Int32)).toUInt32.toUInt16.toUInt32.toInt32) = c at *
  apply hc107_22
  simp only [f_isTagc0n1, own_one hb.2.1 hc99_16 cs]
  exact own_01 c
theorem dead0_5 (p0 : Int32) (hcs : ¬ (cs = (0 : Int32))) (hc18_1 : (((p0 &&& (65535 : Int32)).toUInt32.toUInt16.toUInt32.toInt32) - (48 : Int32)) < (0 : Int32)) (hc36_2 : ¬ ((((p0 &&& (65535 : Int32)).toUInt32.toUInt16.toUInt32.toInt32) - (97 : Int32)) < (0 : Int32))) (hc42_12 : (((p0 &&& (65535 : Int32)).toUInt32.toUInt16.toUInt32.toInt32) - (97 : Int32)) < (26 : Int32)) (hc79_14 : ¬ ((f1 ((p0 &&& (65535 : Int32)).toUInt32.toUInt16.toUInt32.toInt32)) = (1 : Int32))) : False := by
  have hb := c_i2c (p0 &&& (65535 : Int32))
  generalize ((p0 &&& (65535 : Int32)).toUInt32.toUInt16.toUInt32.toInt32) = c at *
  have A := own_A hb.2.1 hb.2.2
  have e := own_f1 c
  simp only [A] at hc18_1 hc36_2 hc42_12
  by_cases q : (97 ≤ c.toInt ∧ c.toInt ≤ 122) ∨ (48 ≤ c.toInt ∧ c.toInt ≤ 57)
  · rw [if_pos q] at e; first | exact hc79_14 e | omega
  · rw [if_neg q] at e; first | exact hc79_14 e | omega
theorem dead0_6 (p0 : Int32) (hcs : ¬ (cs = (0 : Int32))) (hc18_1 : (((p0 &&& (65535 : Int32)).toUInt32.toUInt16.toUInt32.toInt32) - (48 : Int32)) < (0 : Int32)) (hc36_2 : ¬ ((((p0 &&& (65535 : Int32)).toUInt32.toUInt16.toUInt32.toInt32) - (97 : Int32)) < (0 : Int32))) (hc42_12 : ¬ ((((p0 &&& (65535 : Int32)).toUInt32.toUInt16.toUInt32.toInt32) - (97 : Int32)) < (26 : Int32))) (hc79_24 : (f1 ((p0 &&& (65535 : Int32)).toUInt32.toUInt16.toUInt32.toInt32)) = (0 : Int32)) (hc99_25 : (255 : Int32) < ((p0 &&& (65535 : Int32)).toUInt32.toUInt16.toUInt32.toInt32)) (hc107_28 : ¬ ((f_isTagc1n2 (((((p0 &&& (65535 : Int32)).toUInt32.toUInt16.toUInt32.toInt32) >>> ((0 : Int32) &&& 31)).toInt8.toInt32).toInt8.toInt32) (((((p0 &&& (65535 : Int32)).toUInt32.toUInt16.toUInt32.toInt32) >>> ((8 : Int32) &&& 31)).toInt8.toInt32).toInt8.toInt32) cs) = (f1 ((p0 &&& (65535 : Int32)).toUInt32.toUInt16.toUInt32.toInt32)))) : False := by
  have hb := c_i2c (p0 &&& (65535 : Int32))
  generalize ((p0 &&& (65535 : Int32)).toUInt32.toUInt16.toUInt32.toInt32) = c at *
  apply hc107_28
  simp only [f_isTagc1n2, own_two hb.2.1 hb.2.2 cs]
  exact own_01 c
theorem dead0_7 (p0 : Int32) (hcs : ¬ (cs = (0 : Int32))) (hc18_1 : (((p0 &&& (65535 : Int32)).toUInt32.toUInt16.toUInt32.toInt32) - (48 : Int32)) < (0 : Int32)) (hc36_2 : ¬ ((((p0 &&& (65535 : Int32)).toUInt32.toUInt16.toUInt32.toInt32) - (97 : Int32)) < (0 : Int32))) (hc42_12 : ¬ ((((p0 &&& (65535 : Int32)).toUInt32.toUInt16.toUInt32.toInt32) - (97 : Int32)) < (26 : Int32))) (hc79_24 : (f1 ((p0 &&& (65535 : Int32)).toUInt32.toUInt16.toUInt32.toInt32)) = (0 : Int32)) (hc99_25 : ¬ ((255 : Int32) < ((p0 &&& (65535 : Int32)).toUInt32.toUInt16.toUInt32.toInt32))) (hc107_31 : ¬ ((f_isTagc0n1 ((((p0 &&& (65535 : Int32)).toUInt32.toUInt16.toUInt32.toInt32).toInt8.toInt32).toInt8.toInt32) cs) = (f1 ((p0 &&& (65535 : Int32)).toUInt32.toUInt16.toUInt32.toInt32)))) : False := by
  have hb := c_i2c (p0 &&& (65535 : Int32))
  generalize ((p0 &&& (65535 : Int32)).toUInt32.toUInt16.toUInt32.toInt32) = c at *
  apply hc107_31
  simp only [f_isTagc0n1, own_one hb.2.1 hc99_25 cs]
  exact own_01 c
theorem dead0_8 (p0 : Int32) (hcs : ¬ (cs = (0 : Int32))) (hc18_1 : (((p0 &&& (65535 : Int32)).toUInt32.toUInt16.toUInt32.toInt32) - (48 : Int32)) < (0 : Int32)) (hc36_2 : ¬ ((((p0 &&& (65535 : Int32)).toUInt32.toUInt16.toUInt32.toInt32) - (97 : Int32)) < (0 : Int32))) (hc42_12 : ¬ ((((p0 &&& (65535 : Int32)).toUInt32.toUInt16.toUInt32.toInt32) - (97 : Int32)) < (26 : Int32))) (hc79_24 : ¬ ((f1 ((p0 &&& (65535 : Int32)).toUInt32.toUInt16.toUInt32.toInt32)) = (0 : Int32))) : False := by
  have hb := c_i2c (p0 &&& (65535 : Int32))
  generalize ((p0 &&& (65535 : Int32)).toUInt32.toUInt16.toUInt32.toInt32) = c at *
  have A := own_A hb.2.1 hb.2.2
  have e := own_f1 c
  simp only [A] at hc18_1 hc36_2 hc42_12
  by_cases q : (97 ≤ c.toInt ∧ c.toInt ≤ 122) ∨ (48 ≤ c.toInt ∧ c.toInt ≤ 57)
  · rw [if_pos q] at e; first | exact hc79_24 e | omega
  · rw [if_neg q] at e; first | exact hc79_24 e | omega
theorem dead0_9 (p0 : Int32) (hcs : ¬ (cs = (0 : Int32))) (hc18_1 : ¬ ((((p0 &&& (65535 : Int32)).toUInt32.toUInt16.toUInt32.toInt32) - (48 : Int32)) < (0 : Int32))) (hc24_32 : (((p0 &&& (65535 : Int32)).toUInt32.toUInt16.toUInt32.toInt32) - (48 : Int32)) < (10 : Int32)) (hc36_33 : (((p0 &&& (65535 : Int32)).toUInt32.toUInt16.toUInt32.toInt32) - (97 : Int32)) < (0 : Int32)) (hc79_35 : (f1 ((p0 &&& (65535 : Int32)).toUInt32.toUInt16.toUInt32.toInt32)) = (1 : Int32)) (hc99_37 : (255 : Int32) < ((p0 &&& (65535 : Int32)).toUInt32.toUInt16.toUInt32.toInt32)) (hc107_40 : ¬ ((f_isTagc1n2 (((((p0 &&& (65535 : Int32)).toUInt32.toUInt16.toUInt32.toInt32) >>> ((0 : Int32) &&& 31)).toInt8.toInt32).toInt8.toInt32) (((((p0 &&& (65535 : Int32)).toUInt32.toUInt16.toUInt32.toInt32) >>> ((8 : Int32) &&& 31)).toInt8.toInt32).toInt8.toInt32) cs) = (f1 ((p0 &&& (65535 : Int32)).toUInt32.toUInt16.toUInt32.toInt32)))) : False := by
  have hb := c_i2c (p0 &&& (65535 : Int32))
  generalize ((p0 &&& (65535 : Int32)).toUInt32.toUInt16.toUInt32.toInt32) = c at *
  apply hc107_40
  simp only [f_isTagc1n2, own_two hb.2.1 hb.2.2 cs]
  exact own_01 c
theorem dead0_10 (p0 : Int32) (hcs : ¬ (cs = (0 : Int32))) (hc18_1 : ¬ ((((p0 &&& (65535 : Int32)).toUInt32.toUInt16.toUInt32.toInt32) - (48 : Int32)) < (0 : Int32))) (hc24_32 : (((p0 &&& (65535 : Int32)).toUInt32.toUInt16.toUInt32.toInt32) - (48 : Int32)) < (10 : Int32)) (hc36_33 : (((p0 &&& (65535 : Int32)).toUInt32.toUInt16.toUInt32.toInt32) - (97 : Int32)) < (0 : Int32)) (hc79_35 : (f1 ((p0 &&& (65535 : Int32)).toUInt32.toUInt16.toUInt32.toInt32)) = (1 : Int32)) (hc99_37 : ¬ ((255 : Int32) < ((p0 &&& (65535 : Int32)).toUInt32.toUInt16.toUInt32.toInt32))) (hc107_43 : ¬ ((f_isTagc0n1 ((((p0 &&& (65535 : Int32)).toUInt32.toUInt16.toUInt32.toInt32).toInt8.toInt32).toInt8.toInt32) cs) = (f1 ((p0 &&& (65535 : Int32)).toUInt32.toUInt16.toUInt32.toInt32)))) : False := by
  have hb := c_i2c (p0 &&& (65535 : Int32))
  generalize ((p0 &&& (65535 : Int32)).toUInt32.toUInt16.toUInt32.toInt32) = c at *
  apply hc107_43
  simp only [f_isTagc0n1, own_one hb.2.1 hc99_37 cs]
  exact own_01 c
theorem dead0_11 (p0 : Int32) (hcs : ¬ (cs = (0 : Int32))) (hc18_1 : ¬ ((((p0 &&& (65535 : Int32)).toUInt32.toUInt16.toUInt32.toInt32) - (48 : Int32)) < (0 : Int32))) (hc24_32 : (((p0 &&& (65535 : Int32)).toUInt32.toUInt16.toUInt32.toInt32) - (48 : Int32)) < (10 : Int32)) (hc36_33 : (((p0 &&& (65535 : Int32)).toUInt32.toUInt16.toUInt32.toInt32) - (97 : Int32)) < (0 : Int32)) (hc79_35 : ¬ ((f1 ((p0 &&& (65535 : Int32)).toUInt32.toUInt16.toUInt32.toInt32)) = (1 : Int32))) : False := by
  have hb := c_i2c (p0 &&& (65535 : Int32))
  generalize ((p0 &&& (65535 : Int32)).toUInt32.toUInt16.toUInt32.toInt32) = c at *
  have A := own_A hb.2.1 hb.2.2
  have e := own_f1 c
  simp only [A] at hc18_1 hc24_32 hc36_33
  by_cases q : (97 ≤ c.toInt ∧ c.toInt ≤ 122) ∨ (48 ≤ c.toInt ∧ c.toInt ≤ 57)
  · rw [if_pos q] at e; first | exact hc79_35 e | omega
  · rw [if_neg q] at e; first | exact hc79_35 e | omega
theorem dead0_12 (p0 : Int32) (hcs : ¬ (cs = (0 : Int32))) (hc18_1 : ¬ ((((p0 &&& (65535 : Int32)).toUInt32.toUInt16.toUInt32.toInt32) - (48 : Int32)) < (0 : Int32))) (hc24_32 : (((p0 &&& (65535 : Int32)).toUInt32.toUInt16.toUInt32.toInt32) - (48 : Int32)) < (10 : Int32)) (hc36_33 : ¬ ((((p0 &&& (65535 : Int32)).toUInt32.toUInt16.toUInt32.toInt32) - (97 : Int32)) < (0 : Int32))) (hc42_44 : (((p0 &&& (65535 : Int32)).toUInt32.toUInt16.toUInt32.toInt32) - (97 : Int32)) < (26 : Int32)) (hc79_46 : (f1 ((p0 &&& (65535 : Int32)).toUInt32.toUInt16.toUInt32.toInt32)) = (1 : Int32)) (hc99_48 : (255 : Int32) < ((p0 &&& (65535 : Int32)).toUInt32.toUInt16.toUInt32.toInt32)) (hc107_51 : ¬ ((f_isTagc1n2 (((((p0 &&& (65535 : Int32)).toUInt32.toUInt16.toUInt32.toInt32) >>> ((0 : Int32) &&& 31)).toInt8.toInt32).toInt8.toInt32) (((((p0 &&& (65535 : Int32)).toUInt32.toUInt16.toUInt32.toInt32) >>> ((8 : Int32) &&& 31)).toInt8.toInt32).toInt8.toInt32) cs) = (f1 ((p0 &&& (65535 : Int32)).toUInt32.toUInt16.toUInt32.toInt32)))) : False := by
  have hb := c_i2c (p0 &&& (65535 : Int32))
  generalize ((p0 &&& (65535 : Int32)).toUInt32.toUInt16.toUInt32.toInt32) = c at *
  apply hc107_51
  simp only [f_isTagc1n2, own_two hb.2.1 hb.2.2 cs]
  exact own_01 c
theorem dead0_13 (p0 : Int32) (hcs : ¬ (cs = (0 : Int32))) (hc18_1 : ¬ ((((p0 &&& (65535 : Int32)).toUInt32.toUInt16.toUInt32.toInt32) - (48 : Int32)) < (0 : Int32))) (hc24_32 : (((p0 &&& (65535 : Int32)).toUInt32.toUInt16.toUInt32.toInt32) - (48 : Int32)) < (10 : Int32)) (hc36_33 : ¬ ((((p0 &&& (65535 : Int32)).toUInt32.toUInt16.toUInt32.toInt32) - (97 : Int32)) < (0 : Int32))) (hc42_44 : (((p0 &&& (65535 : Int32)).toUInt32.toUInt16.toUInt32.toInt32) - (97 : Int32)) < (26 : Int32)) (hc79_46 : (f1 ((p0 &&& (65535 : Int32)).toUInt32.toUInt16.toUInt32.toInt32)) = (1 : Int32)) (hc99_48 : ¬ ((255 : Int32) < ((p0 &&& (65535 : Int32)).toUInt32.toUInt16.toUInt32.toInt32))) (hc107_54 : ¬ ((f_isTagc0n1 ((((p0 &&& (65535 : Int32)).toUInt32.toUInt16.toUInt32.toInt32).toInt8.toInt32).toInt8.toInt32) cs) = (f1 ((p0 &&& (65535 : Int32)).toUInt32.toUInt16.toUInt32.toInt32)))) : False := by
  have hb := c_i2c (p0 &&& (65535 : Int32))
  generalize ((p0 &&& (65535 : Int32)).toUInt32.toUInt16.toUInt32.toInt32) = c at *
  apply hc107_54
  simp only [f_isTagc0n1, own_one hb.2.1 hc99_48 cs]
  exact own_01 c
theorem dead0_14 (p0 : Int32) (hcs : ¬ (cs = (0 : Int32))) (hc18_1 : ¬ ((((p0 &&& (65535 : Int32)).toUInt32.toUInt16.toUInt32.toInt32) - (48 : Int32)) < (0 : Int32))) (hc24_32 : (((p0 &&& (65535 : Int32)).toUInt32.toUInt16.toUInt32.toInt32) - (48 : Int32)) < (10 : Int32)) (hc36_33 : ¬ ((((p0 &&& (65535 : Int32)).toUInt32.toUInt16.toUInt32.toInt32) - (97 : Int32)) < (0 : Int32))) (hc42_44 : (((p0 &&& (65535 : Int32)).toUInt32.toUInt16.toUInt32.toInt32) - (97 : Int32)) < (26 : Int32)) (hc79_46 : ¬ ((f1 ((p0 &&& (65535 : Int32)).toUInt32.toUInt16.toUInt32.toInt32)) = (1 : Int32))) : False := by
  have hb := c_i2c (p0 &&& (65535 : Int32))
  generalize ((p0 &&& (65535 : Int32)).toUInt32.toUInt16.toUInt32.toInt32) = c at *
  have A := own_A hb.2.1 hb.2.2
  have e := own_f1 c
  simp only [A] at hc18_1 hc24_32 hc36_33 hc42_44
  by_cases q : (97 ≤ c.toInt ∧ c.toInt ≤ 122) ∨ (48 ≤ c.toInt ∧ c.toInt ≤ 57)
  · rw [if_pos q] at e; first | exact hc79_46 e | omega
  · rw [if_neg q] at e; first | exact hc79_46 e | omega
theorem dead0_15 (p0 : Int32) (hcs : ¬ (cs = (0 : Int32))) (hc18_1 : ¬ ((((p0 &&& (65535 : Int32)).toUInt32.toUInt16.toUInt32.toInt32) - (48 : Int32)) < (0 : Int32))) (hc24_32 : (((p0 &&& (65535 : Int32)).toUInt32.toUInt16.toUInt32.toInt32) - (48 : Int32)) < (10 : Int32)) (hc36_33 : ¬ ((((p0 &&& (65535 : Int32)).toUInt32.toUInt16.toUInt32.toInt32) - (97 : Int32)) < (0 : Int32))) (hc42_44 : ¬ ((((p0 &&& (65535 : Int32)).toUInt32.toUInt16.toUInt32.toInt32) - (97 : Int32)) < (26 : Int32))) (hc79_56 : (f1 ((p0 &&& (65535 : Int32)).toUInt32.toUInt16.toUInt32.toInt32)) = (1 : Int32)) (hc99_58 : (255 : Int32) < ((p0 &&& (65535 : Int32)).toUInt32.toUInt16.toUInt32.toInt32)) (hc107_61 : ¬ ((f_isTagc1n2 (((((p0 &&& (65535 : Int32)).toUInt32.toUInt16.toUInt32.toInt32) >>> ((0 : Int32) &&& 31)).toInt8.toInt32).toInt8.toInt32) (((((p0 &&& (65535 : Int32)).toUInt32.toUInt16.toUInt32.toInt32) >>> ((8 : Int32) &&& 31)).toInt8.toInt32).toInt8.toInt32) cs) = (f1 ((p0 &&& (65535 : Int32)).toUInt32.toUInt16.toUInt32.toInt32)))) : False := by
  have hb := c_i2c (p0 &&& (65535 : Int32))
  generalize ((p0 &&& (65535 : Int32)).toUInt32.toUInt16.toUInt32.toInt32) = c at *
  apply hc107_61
  simp only [f_isTagc1n2, own_two hb.2.1 hb.2.2 cs]
  exact own_01 c
theorem dead0_16 (p0 : Int32) (hcs : ¬ (cs = (0 : Int32))) (hc18_1 : ¬ ((((p0 &&& (65535 : Int32)).toUInt32.toUInt16.toUInt32.toInt32) - (48 : Int32)) < (0 : Int32))) (hc24_32 : (((p0 &&& (65535 : Int32)).toUInt32.toUInt16.toUInt32.toInt32) - (48 : Int32)) < (10 : Int32)) (hc36_33 : ¬ ((((p0 &&& (65535 : Int32)).toUInt32.toUInt16.toUInt32.toInt32) - (97 : Int32)) < (0 : Int32))) (hc42_44 : ¬ ((((p0 &&& (65535 : Int32)).toUInt32.toUInt16.toUInt32.toInt32) - (97 : Int32)) < (26 : Int32))) (hc79_56 : (f1 ((p0 &&& (65535 : Int32)).toUInt32.toUInt16.toUInt32.toInt32)) = (1 : Int32)) (hc99_58 : ¬ ((255 : Int32) < ((p0 &&& (65535 : Int32)).toUInt32.toUInt16.toUInt32.toInt32))) (hc107_64 : ¬ ((f_isTagc0n1 ((((p0 &&& (65535 : Int32)).toUInt32.toUInt16.toUInt32.toInt32).toInt8.toInt32).toInt8.toInt32) cs) = (f1 ((p0 &&& (65535 : Int32)).toUInt32.toUInt16.toUInt32.toInt32)))) : False := by
  have hb := c_i2c (p0 &&& (65535 : Int32))
  generalize ((p0 &&& (65535 : Int32)).toUInt32.toUInt16.toUInt32.toInt32) = c at *
  apply hc107_64
  simp only [f_isTagc0n1, own_one hb.2.1 hc99_58 cs]
  exact own_01 c
theorem dead0_17 (p0 : Int32) (hcs : ¬ (cs = (0 : Int32))) (hc18_1 : ¬ ((((p0 &&& (65535 : Int32)).toUInt32.toUInt16.toUInt32.toInt32) - (48 : Int32)) < (0 : Int32))) (hc24_32 : (((p0 &&& (65535 : Int32)).toUInt32.toUInt16.toUInt32.toInt32) - (48 : Int32)) < (10 : Int32)) (hc36_33 : ¬ ((((p0 &&& (65535 : Int32)).toUInt32.toUInt16.toUInt32.toInt32) - (97 : Int32)) < (0 : Int32))) (hc42_44 : ¬ ((((p0 &&& (65535 : Int32)).toUInt32.toUInt16.toUInt32.toInt32) - (97 : Int32)) < (26 : Int32))) (hc79_56 : ¬ ((f1 ((p0 &&& (65535 : Int32)).toUInt32.toUInt16.toUInt32.toInt32)) = (1 : Int32))) : False := by
  have hb := c_i2c (p0 &&& (65535 : Int32))
  generalize ((p0 &&& (65535 : Int32)).toUInt32.toUInt16.toUInt32.toInt32) = c at *
  have A := own_A hb.2.1 hb.2.2
  have e := own_f1 c
  simp only [A] at hc18_1 hc24_32 hc36_33 hc42_44
  by_cases q : (97 ≤ c.toInt ∧ c.toInt ≤ 122) ∨ (48 ≤ c.toInt ∧ c.toInt ≤ 57)
  · rw [if_pos q] at e; first | exact hc79_56 e | omega
  · rw [if_neg q] at e; first | exact hc79_56 e | omega
theorem dead0_18 (p0 : Int32) (hcs : ¬ (cs = (0 : Int32))) (hc18_1 : ¬ ((((p0 &&& (65535 : Int32)).toUInt32.toUInt16.toUInt32.toInt32) - (48 : Int32)) < (0 : Int32))) (hc24_32 : ¬ ((((p0 &&& (65535 : Int32)).toUInt32.toUInt16.toUInt32.toInt32) - (48 : Int32)) < (10 : Int32))) (hc36_65 : (((p0 &&& (65535 : Int32)).toUInt32.toUInt16.toUInt32.toInt32) - (97 : Int32)) < (0 : Int32)) (hc79_67 : (f1 ((p0 &&& (65535 : Int32)).toUInt32.toUInt16.toUInt32.toInt32)) = (0 : Int32)) (hc99_68 : (255 : Int32) < ((p0 &&& (65535 : Int32)).toUInt32.toUInt16.toUInt32.toInt32)) (hc107_71 : ¬ ((f_isTagc1n2 (((((p0 &&& (65535 : Int32)).toUInt32.toUInt16.toUInt32.toInt32) >>> ((0 : Int32) &&& 31)).toInt8.toInt32).toInt8.toInt32) (((((p0 &&& (65535 : Int32)).toUInt32.toUInt16.toUInt32.toInt32) >>> ((8 : Int32) &&& 31)).toInt8.toInt32).toInt8.toInt32) cs) = (f1 ((p0 &&& (65535 : Int32)).toUInt32.toUInt16.toUInt32.toInt32)))) : False := by
  have hb := c_i2c (p0 &&& (65535 : Int32))
  generalize ((p0 &&& (65535 : Int32)).toUInt32.toUInt16.toUInt32.toInt32) = c at *
  apply hc107_71
  simp only [f_isTagc1n2, own_two hb.2.1 hb.2.2 cs]
  exact own_01 c
theorem dead0_19 (p0 : Int32) (hcs : ¬ (cs = (0 : Int32))) (hc18_1 : ¬ ((((p0 &&& (65535 : Int32)).toUInt32.toUInt16.toUInt32.toInt32) - (48 : Int32)) < (0 : Int32))) (hc24_32 : ¬ ((((p0 &&& (65535 : Int32)).toUInt32.toUInt16.toUInt32.toInt32) - (48 : Int32)) < (10 : Int32))) (hc36_65 : (((p0 &&& (65535 : Int32)).toUInt32.toUInt16.toUInt32.toInt32) - (97 : Int32)) < (0 : Int32)) (hc79_67 : (f1 ((p0 &&& (65535 : Int32)).toUInt32.toUInt16.toUInt32.toInt32)) = (0 : Int32)) (hc99_68 : ¬ ((255 : Int32) < ((p0 &&& (65535 : Int32)).toUInt32.toUInt16.toUInt32.toInt32))) (hc107_74 : ¬ ((f_isTagc0n1 ((((p0 &&& (65535 : Int32)).toUInt32.toUInt16.toUInt32.toInt32).toInt8.toInt32).toInt8.toInt32) cs) = (f1 ((p0 &&& (65535 : Int32)).toUInt32.toUInt16.toUInt32.toInt32)))) : False := by
  have hb := c_i2c (p0 &&& (65535 : Int32))
  generalize ((p0 &&& (65535 : Int32)).toUInt32.toUInt16.toUInt32.toInt32) = c at *
  apply hc107_74
  simp only [f_isTagc0n1, own_one hb.2.1 hc99_68 cs]
  exact own_01 c
theorem dead0_20 (p0 : Int32) (hcs : ¬ (cs = (0 : Int32))) (hc18_1 : ¬ ((((p0 &&& (65535 : Int32)).toUInt32.toUInt16.toUInt32.toInt32) - (48 : Int32)) < (0 : Int32))) (hc24_32 : ¬ ((((p0 &&& (65535 : Int32)).toUInt32.toUInt16.toUInt32.toInt32) - (48 : Int32)) < (10 : Int32))) (hc36_65 : (((p0 &&& (65535 : Int32)).toUInt32.toUInt16.toUInt32.toInt32) - (97 : Int32)) < (0 : Int32)) (hc79_67 : ¬ ((f1 ((p0 &&& (65535 : Int32)).toUInt32.toUInt16.toUInt32.toInt32)) = (0 : Int32))) : False := by
  have hb := c_i2c (p0 &&& (65535 : Int32))
  generalize ((p0 &&& (65535 : Int32)).toUInt32.toUInt16.toUInt32.toInt32) = c at *
  have A := own_A hb.2.1 hb.2.2
  have e := own_f1 c
  simp only [A] at hc18_1 hc24_32 hc36_65
  by_cases q : (97 ≤ c.toInt ∧ c.toInt ≤ 122) ∨ (48 ≤ c.toInt ∧ c.toInt ≤ 57)
  · rw [if_pos q] at e; first | exact hc79_67 e | omega
  · rw [if_neg q] at e; first | exact hc79_67 e | omega
theorem dead0_21 (p0 : Int32) (hcs : ¬ (cs = (0 : Int32))) (hc18_1 : ¬ ((((p0 &&& (65535 : Int32)).toUInt32.toUInt16.toUInt32.toInt32) - (48 : Int32)) < (0 : Int32))) (hc24_32 : ¬ ((((p0 &&& (65535 : Int32)).toUInt32.toUInt16.toUInt32.toInt32) - (48 : Int32)) < (10 : Int32))) (hc36_65 : ¬ ((((p0 &&& (65535 : Int32)).toUInt32.toUInt16.toUInt32.toInt32) - (97 : Int32)) < (0 : Int32))) (hc42_75 : (((p0 &&& (65535 : Int32)).toUInt32.toUInt16.toUInt32.toInt32) - (97 : Int32)) < (26 : Int32)) (hc79_77 : (f1 ((p0 &&& (65535 : Int32)).toUInt32.toUInt16.toUInt32.toInt32)) = (1 : Int32)) (hc99_79 : (255 : Int32) < ((p0 &&& (65535 : Int32)).toUInt32.toUInt16.toUInt32.toInt32)) (hc107_82 : ¬ ((f_isTagc1n2 (((((p0 &&& (65535 : Int32)).toUInt32.toUInt16.toUInt32.toInt32) >>> ((0 : Int32) &&& 31)).toInt8.toInt32).toInt8.toInt32) (((((p0 &&& (65535 : Int32)).toUInt32.toUInt16.toUInt32.toInt32) >>> ((8 : Int32) &&& 31)).toInt8.toInt32).toInt8.toInt32) cs) = (f1 ((p0 &&& (65535 : Int32)).toUInt32.toUInt16.toUInt32.toInt32)))) : False := by
  have hb := c_i2c (p0 &&& (65535 : Int32))
  generalize ((p0 &&& (65535 : Int32)).toUInt32.toUInt16.toUInt32.toInt32) = c at *
  apply hc107_82
  simp only [f_isTagc1n2, own_two hb.2.1 hb.2.2 cs]
  exact own_01 c
theorem dead0_22 (p0 : Int32) (hcs : ¬ (cs = (0 : Int32))) (hc18_1 : ¬ ((((p0 &&& (65535 : Int32)).toUInt32.toUInt16.toUInt32.toInt32) - (48 : Int32)) < (0 : Int32))) (hc24_32 : ¬ ((((p0 &&& (65535 : Int32)).toUInt32.toUInt16.toUInt32.toInt32) - (48 : Int32)) < (10 : Int32))) (hc36_65 : ¬ ((((p0 &&& (65535 : Int32)).toUInt32.toUInt16.toUInt32.toInt32) - (97 : Int32)) < (0 : Int32))) (hc42_75 : (((p0 &&& (65535 : Int32)).toUInt32.toUInt16.toUInt32.toInt32) - (97 : Int32)) < (26 : Int32)) (hc79_77 : (f1 ((p0 &&& (65535 : Int32)).toUInt32.toUInt16.toUInt32.toInt32)) = (1 : Int32)) (hc99_79 : ¬ ((255 : Int32) < ((p0 &&& (65535 : Int32)).toUInt32.toUInt16.toUInt32.toInt32))) (hc107_85 : ¬ ((f_isTagc0n1 ((((p0 &&& (65535 : Int32)).toUInt32.toUInt16.toUInt32.toInt32).toInt8.toInt32).toInt8.toInt32) cs) = (f1 ((p0 &&& (65535 : Int32)).toUInt32.toUInt16.toUInt32.toInt32)))) : False := by
  have hb := c_i2c (p0 &&& (65535 : Int32))
  generalize ((p0 &&& (65535 : Int32)).toUInt32.toUInt16.toUInt32.toInt32) = c at *
  apply hc107_85
  simp only [f_isTagc0n1, own_one hb.2.1 hc99_79 cs]
  exact own_01 c
theorem dead0_23 (p0 : Int32) (hcs : ¬ (cs = (0 : Int32))) (hc18_1 : ¬ ((((p0 &&& (65535 : Int32)).toUInt32.toUInt16.toUInt32.toInt32) - (48 : Int32)) < (0 : Int32))) (hc24_32 : ¬ ((((p0 &&& (65535 : Int32)).toUInt32.toUInt16.toUInt32.toInt32) - (48 : Int32)) < (10 : Int32))) (hc36_65 : ¬ ((((p0 &&& (65535 : Int32)).toUInt32.toUInt16.toUInt32.toInt32) - (97 : Int32)) < (0 : Int32))) (hc42_75 : (((p0 &&& (65535 : Int32)).toUInt32.toUInt16.toUInt32.toInt32) - (97 : Int32)) < (26 : Int32)) (hc79_77 : ¬ ((f1 ((p0 &&& (65535 : Int32)).toUInt32.toUInt16.toUInt32.toInt32)) = (1 : Int32))) : False := by
  have hb := c_i2c (p0 &&& (65535 : Int32))
  generalize ((p0 &&& (65535 : Int32)).toUInt32.toUInt16.toUInt32.toInt32) = c at *
  have A := own_A hb.2.1 hb.2.2
  have e := own_f1 c
  simp only [A] at hc18_1 hc24_32 hc36_65 hc42_75
  by_cases q : (97 ≤ c.toInt ∧ c.toInt ≤ 122) ∨ (48 ≤ c.toInt ∧ c.toInt ≤ 57)
  · rw [if_pos q] at e; first | exact hc79_77 e | omega
  · rw [if_neg q] at e; first | exact hc79_77 e | omega
theorem dead0_24 (p0 : Int32) (hcs : ¬ (cs = (0 : Int32))) (hc18_1 : ¬ ((((p0 &&& (65535 : Int32)).toUInt32.toUInt16.toUInt32.toInt32) - (48 : Int32)) < (0 : Int32))) (hc24_32 : ¬ ((((p0 &&& (65535 : Int32)).toUInt32.toUInt16.toUInt32.toInt32) - (48 : Int32)) < (10 : Int32))) (hc36_65 : ¬ ((((p0 &&& (65535 : Int32)).toUInt32.toUInt16.toUInt32.toInt32) - (97 : Int32)) < (0 : Int32))) (hc42_75 : ¬ ((((p0 &&& (65535 : Int32)).toUInt32.toUInt16.toUInt32.toInt32) - (97 : Int32)) < (26 : Int32))) (hc79_87 : (f1 ((p0 &&& (65535 : Int32)).toUInt32.toUInt16.toUInt32.toInt32)) = (0 : Int32)) (hc99_88 : (255 : Int32) < ((p0 &&& (65535 : Int32)).toUInt32.toUInt16.toUInt32.toInt32)) (hc107_91 : ¬ ((f_isTagc1n2 (((((p0 &&& (65535 : Int32)).toUInt32.toUInt16.toUInt32.toInt32) >>> ((0 : Int32) &&& 31)).toInt8.toInt32).toInt8.toInt32) (((((p0 &&& (65535 : Int32)).toUInt32.toUInt16.toUInt32.toInt32) >>> ((8 : Int32) &&& 31)).toInt8.toInt32).toInt8.toInt32) cs) = (f1 ((p0 &&& (65535 : Int32)).toUInt32.toUInt16.toUInt32.toInt32)))) : False := by
  have hb := c_i2c (p0 &&& (65535 : Int32))
  generalize ((p0 &&& (65535 : Int32)).toUInt32.toUInt16.toUInt32.toInt32) = c at *
  apply hc107_91
  simp only [f_isTagc1n2, own_two hb.2.1 hb.2.2 cs]
  exact own_01 c
theorem dead0_25 (p0 : Int32) (hcs : ¬ (cs = (0 : Int32))) (hc18_1 : ¬ ((((p0 &&& (65535 : Int32)).toUInt32.toUInt16.toUInt32.toInt32) - (48 : Int32)) < (0 : Int32))) (hc24_32 : ¬ ((((p0 &&& (65535 : Int32)).toUInt32.toUInt16.toUInt32.toInt32) - (48 : Int32)) < (10 : Int32))) (hc36_65 : ¬ ((((p0 &&& (65535 : Int32)).toUInt32.toUInt16.toUInt32.toInt32) - (97 : Int32)) < (0 : Int32))) (hc42_75 : ¬ ((((p0 &&& (65535 : Int32)).toUInt32.toUInt16.toUInt32.toInt32) - (97 : Int32)) < (26 : Int32))) (hc79_87 : (f1 ((p0 &&& (65535 : Int32)).toUInt32.toUInt16.toUInt32.toInt32)) = (0 : Int32)) (hc99_88 : ¬ ((255 : Int32) < ((p0 &&& (65535 : Int32)).toUInt32.toUInt16.toUInt32.toInt32))) (hc107_94 : ¬ ((f_isTagc0n1 ((((p0 &&& (65535 : Int32)).toUInt32.toUInt16.toUInt32.toInt32).toInt8.toInt32).toInt8.toInt32) cs) = (f1 ((p0 &&& (65535 : Int32)).toUInt32.toUInt16.toUInt32.toInt32)))) : False := by
  have hb := c_i2c (p0 &&& (65535 : Int32))
  generalize ((p0 &&& (65535 : Int32)).toUInt32.toUInt16.toUInt32.toInt32) = c at *
  apply hc107_94
  simp only [f_isTagc0n1, own_one hb.2.1 hc99_88 cs]
  exact own_01 c
theorem dead0_26 (p0 : Int32) (hcs : ¬ (cs = (0 : Int32))) (hc18_1 : ¬ ((((p0 &&& (65535 : Int32)).toUInt32.toUInt16.toUInt32.toInt32) - (48 : Int32)) < (0 : Int32))) (hc24_32 : ¬ ((((p0 &&& (65535 : Int32)).toUInt32.toUInt16.toUInt32.toInt32) - (48 : Int32)) < (10 : Int32))) (hc36_65 : ¬ ((((p0 &&& (65535 : Int32)).toUInt32.toUInt16.toUInt32.toInt32) - (97 : Int32)) < (0 : Int32))) (hc42_75 : ¬ ((((p0 &&& (65535 : Int32)).toUInt32.toUInt16.toUInt32.toInt32) - (97 : Int32)) < (26 : Int32))) (hc79_87 : ¬ ((f1 ((p0 &&& (65535 : Int32)).toUInt32.toUInt16.toUInt32.toInt32)) = (0 : Int32))) : False := by
  have hb := c_i2c (p0 &&& (65535 : Int32))
  generalize ((p0 &&& (65535 : Int32)).toUInt32.toUInt16.toUInt32.toInt32) = c at *
  have A := own_A hb.2.1 hb.2.2
  have e := own_f1 c
  simp only [A] at hc18_1 hc24_32 hc36_65 hc42_75
  by_cases q : (97 ≤ c.toInt ∧ c.toInt ≤ 122) ∨ (48 ≤ c.toInt ∧ c.toInt ≤ 57)
  · rw [if_pos q] at e; first | exact hc79_87 e | omega
  · rw [if_neg q] at e; first | exact hc79_87 e | omega
def Q0 (Z : State) (p0 : Int32) (cs : Int32) (vf : Value) (h0 : Heap) (n0 : Nat) (v : Option Value) (h : Heap) (L : List Loc) : Prop := v = some (.int 1) ∧ Fr n0 L
set_option maxRecDepth 65536 in
set_option maxHeartbeats 40000000 in
theorem rm0 (l : Launch) (Z : State) (a0 : Array Value) (hw : ∀ d ∈ tables_1, d.before a0 Z = true) (ws : List Jvm.Cond) (p0 : Int32) (cs : Int32) (vf : Value) (h0 : Heap) (n0 : Nat) (Z0 : n0 ≤ h0.size) (S_cs : Sta Z h0 "java/lang/String" "COMPACT_STRINGS" "Z" (.int cs)) (hcs : ¬ (cs = (0 : Int32))) (S_f : Sta Z h0 "jdk/internal/util/Preconditions" "SIOOBE_FORMATTER" "Ljava/util/function/BiFunction;" vf) (hvf : vf.isRef = true) (S_ad : Sta Z h0 "java/lang/StringUTF16" "$assertionsDisabled" "Z" (.int (1 : Int32))) (S_hi : Sta Z h0 "java/lang/StringUTF16" "HI_BYTE_SHIFT" "I" (.int (0 : Int32))) (S_lo : Sta Z h0 "java/lang/StringUTF16" "LO_BYTE_SHIFT" "I" (.int (8 : Int32))) :
    MetFree l x (head1 (Jvm.Cond.code x code maxLocals ret :: ws) room_1) (fun a U => a = #[(.int p0)] ∧ Z.Warmed39 U.vm ∧ U.heap = h0) (fun _ _ _ _ _ => True) (fun _ U o U' => ∃ v L, o = .returned v ∧ Q0 Z p0 cs vf h0 n0 v U'.heap L ∧ FrameEnd U o U' L 2 6) := by
  refine MetFree.of_bodySF (plainFor_of_name pn_5) hisR ?_
  intro p e s m args below meth c s₁ Bd hml0 hP hK
  obtain ⟨rfl, hZ, hh⟩ := hP
  have hx := Bd.exec
  have hby := Bd.bytes
  have hml : c.maxLocals = 8 := hml0
  have hown : s.vm.findClass "com/example/ringd/ringd/core/TagsIsStartPinLaw" = some m.cls := findClass_of_methodNamed Bd.named
  have hnm := (name_of_methodNamed Bd.named Bd.method).1
  have X0 : Stand p l e room_1 s m #[(.int p0)] below meth c s₁ [] 0 0 := Stand.of_body Bd
  have e0 : s₁.heap = h0 := by rw [← hh, Bd.state]; rfl
  have N0 := Fr.nil n0
  have hret := Bd.returns
  have hlk := BodyLoose.notSynchronized Bd
  show own_Out p e below (fun o U' => ∃ v L, o = .returned v ∧ Q0 Z p0 cs vf h0 n0 v U'.heap L ∧ FrameEnd s o U' L 2 6) (s₁.setTop (entryFrame m #[(.int p0)] maxLocals))
  refine own_of (fun t k => castTop (ef_0 m p0) k) ?_
  show own_Out p e below _ (s₁.setTop (mkF m 0 #[.val (.int p0), .unset, .unset, .unset, .unset, .unset, .unset, .unset] []))
  refine own_of (fun _ k => XS.iloadN X0.here hx rfl (hb hby at_0) rfl k) ?_
  show own_Out p e below _ (s₁.setTop (mkF m 1 #[.val (.int p0), .unset, .unset, .unset, .unset, .unset, .unset, .unset] [(.int p0)]))
  refine own_of (X0.ldcInt hx hown (mvT hZ (hw _ (List.mem_of_getElem? (i := 0) rfl))) (g := (mkF m 1 #[.val (.int p0), .unset, .unset, .unset, .unset, .unset, .unset, .unset] [(.int p0)])) rfl (hb hby at_1)) ?_
  show own_Out p e below _ (s₁.setTop (mkF m 3 #[.val (.int p0), .unset, .unset, .unset, .unset, .unset, .unset, .unset] [(.int (65535 : Int32)), (.int p0)]))
  refine own_of (fun _ k => XS.iand X0.here hx rfl (hb hby at_3) rfl k) ?_
  show own_Out p e below _ (s₁.setTop (mkF m 4 #[.val (.int p0), .unset, .unset, .unset, .unset, .unset, .unset, .unset] [(.int (p0 &&& (65535 : Int32)))]))
  refine own_of (fun _ k => XS.i2c X0.here hx rfl (hb hby at_4) rfl k) ?_
  show own_Out p e below _ (s₁.setTop (mkF m 5 #[.val (.int p0), .unset, .unset, .unset, .unset, .unset, .unset, .unset] [(.int ((p0 &&& (65535 : Int32)).toUInt32.toUInt16.toUInt32.toInt32))]))
  refine own_of (fun _ k => XS.istoreN X0.here hx rfl (hb hby at_5) rfl (l' := #[.val (.int p0), .val (.int ((p0 &&& (65535 : Int32)).toUInt32.toUInt16.toUInt32.toInt32)), .unset, .unset, .unset, .unset, .unset, .unset]) rfl k) ?_
  show own_Out p e below _ (s₁.setTop (mkF m 6 #[.val (.int p0), .val (.int ((p0 &&& (65535 : Int32)).toUInt32.toUInt16.toUInt32.toInt32)), .unset, .unset, .unset, .unset, .unset, .unset] []))
  refine own_of (fun _ k => XS.iloadN X0.here hx rfl (hb hby at_6) rfl k) ?_
  show own_Out p e below _ (s₁.setTop (mkF m 7 #[.val (.int p0), .val (.int ((p0 &&& (65535 : Int32)).toUInt32.toUInt16.toUInt32.toInt32)), .unset, .unset, .unset, .unset, .unset, .unset] [(.int ((p0 &&& (65535 : Int32)).toUInt32.toUInt16.toUInt32.toInt32))]))
  refine own_of (fun _ k => XS.bipush X0.here hx rfl (hb hby at_7) k) ?_
  show own_Out p e below _ (s₁.setTop (mkF m 9 #[.val (.int p0), .val (.int ((p0 &&& (65535 : Int32)).toUInt32.toUInt16.toUInt32.toInt32)), .unset, .unset, .unset, .unset, .unset, .unset] [(.int (48 : Int32)), (.int ((p0 &&& (65535 : Int32)).toUInt32.toUInt16.toUInt32.toInt32))]))
  refine own_of (fun _ k => XS.isub X0.here hx rfl (hb hby at_9) rfl k) ?_
  show own_Out p e below _ (s₁.setTop (mkF m 10 #[.val (.int p0), .val (.int ((p0 &&& (65535 : Int32)).toUInt32.toUInt16.toUInt32.toInt32)), .unset, .unset, .unset, .unset, .unset, .unset] [(.int (((p0 &&& (65535 : Int32)).toUInt32.toUInt16.toUInt32.toInt32) - (48 : Int32)))]))
  refine own_of (fun _ k => XS.istoreN X0.here hx rfl (hb hby at_10) rfl (l' := #[.val (.int p0), .val (.int ((p0 &&& (65535 : Int32)).toUInt32.toUInt16.toUInt32.toInt32)), .val (.int (((p0 &&& (65535 : Int32)).toUInt32.toUInt16.toUInt32.toInt32) - (48 : Int32))), .unset, .unset, .unset, .unset, .unset]) rfl k) ?_
  show own_Out p e below _ (s₁.setTop (mkF m 11 #[.val (.int p0), .val (.int ((p0 &&& (65535 : Int32)).toUInt32.toUInt16.toUInt32.toInt32)), .val (.int (((p0 &&& (65535 : Int32)).toUInt32.toUInt16.toUInt32.toInt32) - (48 : Int32))), .unset, .unset, .unset, .unset, .unset] []))
  refine own_of (fun _ k => XS.iloadN X0.here hx rfl (hb hby at_11) rfl k) ?_
  show own_Out p e below _ (s₁.setTop (mkF m 12 #[.val (.int p0), .val (.int ((p0 &&& (65535 : Int32)).toUInt32.toUInt16.toUInt32.toInt32)), .val (.int (((p0 &&& (65535 : Int32)).toUInt32.toUInt16.toUInt32.toInt32) - (48 : Int32))), .unset, .unset, .unset, .unset, .unset] [(.int ((p0 &&& (65535 : Int32)).toUInt32.toUInt16.toUInt32.toInt32))]))
  refine own_of (fun _ k => XS.bipush X0.here hx rfl (hb hby at_12) k) ?_
  show own_Out p e below _ (s₁.setTop (mkF m 14 #[.val (.int p0), .val (.int ((p0 &&& (65535 : Int32)).toUInt32.toUInt16.toUInt32.toInt32)), .val (.int (((p0 &&& (65535 : Int32)).toUInt32.toUInt16.toUInt32.toInt32) - (48 : Int32))), .unset, .unset, .unset, .unset, .unset] [(.int (97 : Int32)), (.int ((p0 &&& (65535 : Int32)).toUInt32.toUInt16.toUInt32.toInt32))]))
  refine own_of (fun _ k => XS.isub X0.here hx rfl (hb hby at_14) rfl k) ?_
  show own_Out p e below _ (s₁.setTop (mkF m 15 #[.val (.int p0), .val (.int ((p0 &&& (65535 : Int32)).toUInt32.toUInt16.toUInt32.toInt32)), .val (.int (((p0 &&& (65535 : Int32)).toUInt32.toUInt16.toUInt32.toInt32) - (48 : Int32))), .unset, .unset, .unset, .unset, .unset] [(.int (((p0 &&& (65535 : Int32)).toUInt32.toUInt16.toUInt32.toInt32) - (97 : Int32)))]))
  refine own_of (fun _ k => XS.istoreN X0.here hx rfl (hb hby at_15) rfl (l' := #[.val (.int p0), .val (.int ((p0 &&& (65535 : Int32)).toUInt32.toUInt16.toUInt32.toInt32)), .val (.int (((p0 &&& (65535 : Int32)).toUInt32.toUInt16.toUInt32.toInt32) - (48 : Int32))), .val (.int (((p0 &&& (65535 : Int32)).toUInt32.toUInt16.toUInt32.toInt32) - (97 : Int32))), .unset, .unset, .unset, .unset]) rfl k) ?_
  show own_Out p e below _ (s₁.setTop (mkF m 16 #[.val (.int p0), .val (.int ((p0 &&& (65535 : Int32)).toUInt32.toUInt16.toUInt32.toInt32)), .val (.int (((p0 &&& (65535 : Int32)).toUInt32.toUInt16.toUInt32.toInt32) - (48 : Int32))), .val (.int (((p0 &&& (65535 : Int32)).toUInt32.toUInt16.toUInt32.toInt32) - (97 : Int32))), .unset, .unset, .unset, .unset] []))
  refine own_of (fun _ k => XS.iconst X0.here hx rfl (hb hby at_16) k) ?_
  show own_Out p e below _ (s₁.setTop (mkF m 17 #[.val (.int p0), .val (.int ((p0 &&& (65535 : Int32)).toUInt32.toUInt16.toUInt32.toInt32)), .val (.int (((p0 &&& (65535 : Int32)).toUInt32.toUInt16.toUInt32.toInt32) - (48 : Int32))), .val (.int (((p0 &&& (65535 : Int32)).toUInt32.toUInt16.toUInt32.toInt32) - (97 : Int32))), .unset, .unset, .unset, .unset] [(.int (0 : Int32))]))
  refine own_of (fun _ k => XS.iloadN X0.here hx rfl (hb hby at_17) rfl k) ?_
  show own_Out p e below _ (s₁.setTop (mkF m 18 #[.val (.int p0), .val (.int ((p0 &&& (65535 : Int32)).toUInt32.toUInt16.toUInt32.toInt32)), .val (.int (((p0 &&& (65535 : Int32)).toUInt32.toUInt16.toUInt32.toInt32) - (48 : Int32))), .val (.int (((p0 &&& (65535 : Int32)).toUInt32.toUInt16.toUInt32.toInt32) - (97 : Int32))), .unset, .unset, .unset, .unset] [(.int (((p0 &&& (65535 : Int32)).toUInt32.toUInt16.toUInt32.toInt32) - (48 : Int32))), (.int (0 : Int32))]))
  by_cases hc18_1 : (((p0 &&& (65535 : Int32)).toUInt32.toUInt16.toUInt32.toInt32) - (48 : Int32)) < (0 : Int32)
  · skip
    refine own_of (fun _ k => XS.icmpYes X0.here hx rfl (pc0 := 18) (pc' := 31) rfl (hb hby at_18) rfl (tlt hc18_1).2.2.1 (by decide) (by decide) k) ?_
    show own_Out p e below _ (s₁.setTop (mkF m 31 #[.val (.int p0), .val (.int ((p0 &&& (65535 : Int32)).toUInt32.toUInt16.toUInt32.toInt32)), .val (.int (((p0 &&& (65535 : Int32)).toUInt32.toUInt16.toUInt32.toInt32) - (48 : Int32))), .val (.int (((p0 &&& (65535 : Int32)).toUInt32.toUInt16.toUInt32.toInt32) - (97 : Int32))), .unset, .unset, .unset, .unset] []))
    refine own_of (fun _ k => XS.iconst X0.here hx rfl (hb hby at_31) k) ?_
    show own_Out p e below _ (s₁.setTop (mkF m 32 #[.val (.int p0), .val (.int ((p0 &&& (65535 : Int32)).toUInt32.toUInt16.toUInt32.toInt32)), .val (.int (((p0 &&& (65535 : Int32)).toUInt32.toUInt16.toUInt32.toInt32) - (48 : Int32))), .val (.int (((p0 &&& (65535 : Int32)).toUInt32.toUInt16.toUInt32.toInt32) - (97 : Int32))), .unset, .unset, .unset, .unset] [(.int (0 : Int32))]))
    refine own_of (fun _ k => XS.istore X0.here hx rfl (hb hby at_32) rfl (l' := #[.val (.int p0), .val (.int ((p0 &&& (65535 : Int32)).toUInt32.toUInt16.toUInt32.toInt32)), .val (.int (((p0 &&& (65535 : Int32)).toUInt32.toUInt16.toUInt32.toInt32) - (48 : Int32))), .val (.int (((p0 &&& (65535 : Int32)).toUInt32.toUInt16.toUInt32.toInt32) - (97 : Int32))), .val (.int (0 : Int32)), .unset, .unset, .unset]) rfl k) ?_
    show own_Out p e below _ (s₁.setTop (mkF m 34 #[.val (.int p0), .val (.int ((p0 &&& (65535 : Int32)).toUInt32.toUInt16.toUInt32.toInt32)), .val (.int (((p0 &&& (65535 : Int32)).toUInt32.toUInt16.toUInt32.toInt32) - (48 : Int32))), .val (.int (((p0 &&& (65535 : Int32)).toUInt32.toUInt16.toUInt32.toInt32) - (97 : Int32))), .val (.int (0 : Int32)), .unset, .unset, .unset] []))
    refine own_of (fun _ k => XS.iconst X0.here hx rfl (hb hby at_34) k) ?_
    show own_Out p e below _ (s₁.setTop (mkF m 35 #[.val (.int p0), .val (.int ((p0 &&& (65535 : Int32)).toUInt32.toUInt16.toUInt32.toInt32)), .val (.int (((p0 &&& (65535 : Int32)).toUInt32.toUInt16.toUInt32.toInt32) - (48 : Int32))), .val (.int (((p0 &&& (65535 : Int32)).toUInt32.toUInt16.toUInt32.toInt32) - (97 : Int32))), .val (.int (0 : Int32)), .unset, .unset, .unset] [(.int (0 : Int32))]))
    refine own_of (fun _ k => XS.iloadN X0.here hx rfl (hb hby at_35) rfl k) ?_
    show own_Out p e below _ (s₁.setTop (mkF m 36 #[.val (.int p0), .val (.int ((p0 &&& (65535 : Int32)).toUInt32.toUInt16.toUInt32.toInt32)), .val (.int (((p0 &&& (65535 : Int32)).toUInt32.toUInt16.toUInt32.toInt32) - (48 : Int32))), .val (.int (((p0 &&& (65535 : Int32)).toUInt32.toUInt16.toUInt32.toInt32) - (97 : Int32))), .val (.int (0 : Int32)), .unset, .unset, .unset] [(.int (((p0 &&& (65535 : Int32)).toUInt32.toUInt16.toUInt32.toInt32) - (97 : Int32))), (.int (0 : Int32))]))
    by_cases hc36_2 : (((p0 &&& (65535 : Int32)).toUInt32.toUInt16.toUInt32.toInt32) - (97 : Int32)) < (0 : Int32)
    · skip
      refine own_of (fun _ k => XS.icmpYes X0.here hx rfl (pc0 := 36) (pc' := 49) rfl (hb hby at_36) rfl (tlt hc36_2).2.2.1 (by decide) (by decide) k) ?_
      show own_Out p e below _ (s₁.setTop (mkF m 49 #[.val (.int p0), .val (.int ((p0 &&& (65535 : Int32)).toUInt32.toUInt16.toUInt32.toInt32)), .val (.int (((p0 &&& (65535 : Int32)).toUInt32.toUInt16.toUInt32.toInt32) - (48 : Int32))), .val (.int (((p0 &&& (65535 : Int32)).toUInt32.toUInt16.toUInt32.toInt32) - (97 : Int32))), .val (.int (0 : Int32)), .unset, .unset, .unset] []))
      refine own_of (fun _ k => XS.iconst X0.here hx rfl (hb hby at_49) k) ?_
      show own_Out p e below _ (s₁.setTop (mkF m 50 #[.val (.int p0), .val (.int ((p0 &&& (65535 : Int32)).toUInt32.toUInt16.toUInt32.toInt32)), .val (.int (((p0 &&& (65535 : Int32)).toUInt32.toUInt16.toUInt32.toInt32) - (48 : Int32))), .val (.int (((p0 &&& (65535 : Int32)).toUInt32.toUInt16.toUInt32.toInt32) - (97 : Int32))), .val (.int (0 : Int32)), .unset, .unset, .unset] [(.int (0 : Int32))]))
      refine own_of (fun _ k => XS.istore X0.here hx rfl (hb hby at_50) rfl (l' := #[.val (.int p0), .val (.int ((p0 &&& (65535 : Int32)).toUInt32.toUInt16.toUInt32.toInt32)), .val (.int (((p0 &&& (65535 : Int32)).toUInt32.toUInt16.toUInt32.toInt32) - (48 : Int32))), .val (.int (((p0 &&& (65535 : Int32)).toUInt32.toUInt16.toUInt32.toInt32) - (97 : Int32))), .val (.int (0 : Int32)), .val (.int (0 : Int32)), .unset, .unset]) rfl k) ?_
      show own_Out p e below _ (s₁.setTop (mkF m 52 #[.val (.int p0), .val (.int ((p0 &&& (65535 : Int32)).toUInt32.toUInt16.toUInt32.toInt32)), .val (.int (((p0 &&& (65535 : Int32)).toUInt32.toUInt16.toUInt32.toInt32) - (48 : Int32))), .val (.int (((p0 &&& (65535 : Int32)).toUInt32.toUInt16.toUInt32.toInt32) - (97 : Int32))), .val (.int (0 : Int32)), .val (.int (0 : Int32)), .unset, .unset] []))
      refine own_of (fun _ k => XS.iload X0.here hx rfl (hb hby at_52) rfl k) ?_
      show own_Out p e below _ (s₁.setTop (mkF m 54 #[.val (.int p0), .val (.int ((p0 &&& (65535 : Int32)).toUInt32.toUInt16.toUInt32.toInt32)), .val (.int (((p0 &&& (65535 : Int32)).toUInt32.toUInt16.toUInt32.toInt32) - (48 : Int32))), .val (.int (((p0 &&& (65535 : Int32)).toUInt32.toUInt16.toUInt32.toInt32) - (97 : Int32))), .val (.int (0 : Int32)), .val (.int (0 : Int32)), .unset, .unset] [(.int (0 : Int32))]))
      refine own_of (fun _ k => XS.ifNo X0.here hx rfl (hb hby at_54) rfl ((if0 _ _).trans (teq (by decide : (0 : Int32) = (0 : Int32))).2) k) ?_
      show own_Out p e below _ (s₁.setTop (mkF m 57 #[.val (.int p0), .val (.int ((p0 &&& (65535 : Int32)).toUInt32.toUInt16.toUInt32.toInt32)), .val (.int (((p0 &&& (65535 : Int32)).toUInt32.toUInt16.toUInt32.toInt32) - (48 : Int32))), .val (.int (((p0 &&& (65535 : Int32)).toUInt32.toUInt16.toUInt32.toInt32) - (97 : Int32))), .val (.int (0 : Int32)), .val (.int (0 : Int32)), .unset, .unset] []))
      refine own_of (fun _ k => XS.iload X0.here hx rfl (hb hby at_57) rfl k) ?_
      show own_Out p e below _ (s₁.setTop (mkF m 59 #[.val (.int p0), .val (.int ((p0 &&& (65535 : Int32)).toUInt32.toUInt16.toUInt32.toInt32)), .val (.int (((p0 &&& (65535 : Int32)).toUInt32.toUInt16.toUInt32.toInt32) - (48 : Int32))), .val (.int (((p0 &&& (65535 : Int32)).toUInt32.toUInt16.toUInt32.toInt32) - (97 : Int32))), .val (.int (0 : Int32)), .val (.int (0 : Int32)), .unset, .unset] [(.int (0 : Int32))]))
      refine own_of (fun _ k => XS.ifYes X0.here hx rfl (pc0 := 59) (pc' := 66) rfl (hb hby at_59) rfl ((if0 _ _).trans (teq (by decide : (0 : Int32) = (0 : Int32))).1) (by decide) (by decide) k) ?_
      show own_Out p e below _ (s₁.setTop (mkF m 66 #[.val (.int p0), .val (.int ((p0 &&& (65535 : Int32)).toUInt32.toUInt16.toUInt32.toInt32)), .val (.int (((p0 &&& (65535 : Int32)).toUInt32.toUInt16.toUInt32.toInt32) - (48 : Int32))), .val (.int (((p0 &&& (65535 : Int32)).toUInt32.toUInt16.toUInt32.toInt32) - (97 : Int32))), .val (.int (0 : Int32)), .val (.int (0 : Int32)), .unset, .unset] []))
      refine own_of (fun _ k => XS.iconst X0.here hx rfl (hb hby at_66) k) ?_
      show own_Out p e below _ (s₁.setTop (mkF m 67 #[.val (.int p0), .val (.int ((p0 &&& (65535 : Int32)).toUInt32.toUInt16.toUInt32.toInt32)), .val (.int (((p0 &&& (65535 : Int32)).toUInt32.toUInt16.toUInt32.toInt32) - (48 : Int32))), .val (.int (((p0 &&& (65535 : Int32)).toUInt32.toUInt16.toUInt32.toInt32) - (97 : Int32))), .val (.int (0 : Int32)), .val (.int (0 : Int32)), .unset, .unset] [(.int (0 : Int32))]))
      refine own_of (fun _ k => XS.istore X0.here hx rfl (hb hby at_67) rfl (l' := #[.val (.int p0), .val (.int ((p0 &&& (65535 : Int32)).toUInt32.toUInt16.toUInt32.toInt32)), .val (.int (((p0 &&& (65535 : Int32)).toUInt32.toUInt16.toUInt32.toInt32) - (48 : Int32))), .val (.int (((p0 &&& (65535 : Int32)).toUInt32.toUInt16.toUInt32.toInt32) - (97 : Int32))), .val (.int (0 : Int32)), .val (.int (0 : Int32)), .val (.int (0 : Int32)), .unset]) rfl k) ?_
      show own_Out p e below _ (s₁.setTop (mkF m 69 #[.val (.int p0), .val (.int ((p0 &&& (65535 : Int32)).toUInt32.toUInt16.toUInt32.toInt32)), .val (.int (((p0 &&& (65535 : Int32)).toUInt32.toUInt16.toUInt32.toInt32) - (48 : Int32))), .val (.int (((p0 &&& (65535 : Int32)).toUInt32.toUInt16.toUInt32.toInt32) - (97 : Int32))), .val (.int (0 : Int32)), .val (.int (0 : Int32)), .val (.int (0 : Int32)), .unset] []))
      refine own_of (fun _ k => XS.iloadN X0.here hx rfl (hb hby at_69) rfl k) ?_
      show own_Out p e below _ (s₁.setTop (mkF m 70 #[.val (.int p0), .val (.int ((p0 &&& (65535 : Int32)).toUInt32.toUInt16.toUInt32.toInt32)), .val (.int (((p0 &&& (65535 : Int32)).toUInt32.toUInt16.toUInt32.toInt32) - (48 : Int32))), .val (.int (((p0 &&& (65535 : Int32)).toUInt32.toUInt16.toUInt32.toInt32) - (97 : Int32))), .val (.int (0 : Int32)), .val (.int (0 : Int32)), .val (.int (0 : Int32)), .unset] [(.int ((p0 &&& (65535 : Int32)).toUInt32.toUInt16.toUInt32.toInt32))]))
      obtain ⟨_, _, ⟨T3, L3, k3, n3⟩, -, X3, ⟨Lc3, hQ3, l3, y3, z3⟩, st3⟩ := Jvm.LawKit.callS X0 hx (y := (⟨"com/example/ringd/ringd/core/Tags", "isStart", "(C)Z"⟩ : MethodName)) hown (mvT hZ (hw _ (List.mem_of_getElem? (i := 1) rfl))) (mvT hZ (hw _ (List.mem_of_getElem? (i := 2) rfl))) (mvT hZ (hw _ (List.mem_of_getElem? (i := 3) rfl))) (mvT hZ (hw _ (List.mem_of_getElem? (i := 4) rfl))) (by decide) (backOf (W := 0) (rm1 l Z a0 hw [] ((p0 &&& (65535 : Int32)).toUInt32.toUInt16.toUInt32.toInt32) h0 n0 Z0 ) hZ (hw _ (List.mem_of_getElem? (i := 4) rfl)) (hw _ (List.mem_of_getElem? (i := 3) rfl)) (by decide) (by decide)) (g := (mkF m 70 #[.val (.int p0), .val (.int ((p0 &&& (65535 : Int32)).toUInt32.toUInt16.toUInt32.toInt32)), .val (.int (((p0 &&& (65535 : Int32)).toUInt32.toUInt16.toUInt32.toInt32) - (48 : Int32))), .val (.int (((p0 &&& (65535 : Int32)).toUInt32.toUInt16.toUInt32.toInt32) - (97 : Int32))), .val (.int (0 : Int32)), .val (.int (0 : Int32)), .val (.int (0 : Int32)), .unset] [(.int ((p0 &&& (65535 : Int32)).toUInt32.toUInt16.toUInt32.toInt32))])) rfl (by rw [hml]; rfl) (argsL := [(.int ((p0 &&& (65535 : Int32)).toUInt32.toUInt16.toUInt32.toInt32))]) (rest := []) (lenOf pd_0 rfl) rfl (by show 2 * 0 + _ ≤ _; exact Nat.le_of_eq rfl) (hb hby at_70) (fun _ _ => ⟨rfl, e0, (by decide : 0 + 0 ≤ _), (by decide : 0 + 0 ≤ _)⟩)
      dsimp only [Pt.U, Pt.locs, Pt.cells, Pt.slots] at X3 l3 y3 z3 st3 hQ3
      subst l3 y3 z3
      obtain ⟨rfl, N3q, hh3⟩ := hQ3
      have N3 := Fr.app N0 N3q
      refine own_of st3 ?_
      show own_Out p e below _ (T3.setTop (mkF m 73 #[.val (.int p0), .val (.int ((p0 &&& (65535 : Int32)).toUInt32.toUInt16.toUInt32.toInt32)), .val (.int (((p0 &&& (65535 : Int32)).toUInt32.toUInt16.toUInt32.toInt32) - (48 : Int32))), .val (.int (((p0 &&& (65535 : Int32)).toUInt32.toUInt16.toUInt32.toInt32) - (97 : Int32))), .val (.int (0 : Int32)), .val (.int (0 : Int32)), .val (.int (0 : Int32)), .unset] [(.int (f1 ((p0 &&& (65535 : Int32)).toUInt32.toUInt16.toUInt32.toInt32)))]))
      refine own_of (fun _ k => XS.istore X3.here hx rfl (hb hby at_73) rfl (l' := #[.val (.int p0), .val (.int ((p0 &&& (65535 : Int32)).toUInt32.toUInt16.toUInt32.toInt32)), .val (.int (((p0 &&& (65535 : Int32)).toUInt32.toUInt16.toUInt32.toInt32) - (48 : Int32))), .val (.int (((p0 &&& (65535 : Int32)).toUInt32.toUInt16.toUInt32.toInt32) - (97 : Int32))), .val (.int (0 : Int32)), .val (.int (0 : Int32)), .val (.int (0 : Int32)), .val (.int (f1 ((p0 &&& (65535 : Int32)).toUInt32.toUInt16.toUInt32.toInt32)))]) rfl k) ?_
      show own_Out p e below _ (T3.setTop (mkF m 75 #[.val (.int p0), .val (.int ((p0 &&& (65535 : Int32)).toUInt32.toUInt16.toUInt32.toInt32)), .val (.int (((p0 &&& (65535 : Int32)).toUInt32.toUInt16.toUInt32.toInt32) - (48 : Int32))), .val (.int (((p0 &&& (65535 : Int32)).toUInt32.toUInt16.toUInt32.toInt32) - (97 : Int32))), .val (.int (0 : Int32)), .val (.int (0 : Int32)), .val (.int (0 : Int32)), .val (.int (f1 ((p0 &&& (65535 : Int32)).toUInt32.toUInt16.toUInt32.toInt32)))] []))
      refine own_of (fun _ k => XS.iload X3.here hx rfl (hb hby at_75) rfl k) ?_
      show own_Out p e below _ (T3.setTop (mkF m 77 #[.val (.int p0), .val (.int ((p0 &&& (65535 : Int32)).toUInt32.toUInt16.toUInt32.toInt32)), .val (.int (((p0 &&& (65535 : Int32)).toUInt32.toUInt16.toUInt32.toInt32) - (48 : Int32))), .val (.int (((p0 &&& (65535 : Int32)).toUInt32.toUInt16.toUInt32.toInt32) - (97 : Int32))), .val (.int (0 : Int32)), .val (.int (0 : Int32)), .val (.int (0 : Int32)), .val (.int (f1 ((p0 &&& (65535 : Int32)).toUInt32.toUInt16.toUInt32.toInt32)))] [(.int (f1 ((p0 &&& (65535 : Int32)).toUInt32.toUInt16.toUInt32.toInt32)))]))
      refine own_of (fun _ k => XS.iload X3.here hx rfl (hb hby at_77) rfl k) ?_
      show own_Out p e below _ (T3.setTop (mkF m 79 #[.val (.int p0), .val (.int ((p0 &&& (65535 : Int32)).toUInt32.toUInt16.toUInt32.toInt32)), .val (.int (((p0 &&& (65535 : Int32)).toUInt32.toUInt16.toUInt32.toInt32) - (48 : Int32))), .val (.int (((p0 &&& (65535 : Int32)).toUInt32.toUInt16.toUInt32.toInt32) - (97 : Int32))), .val (.int (0 : Int32)), .val (.int (0 : Int32)), .val (.int (0 : Int32)), .val (.int (f1 ((p0 &&& (65535 : Int32)).toUInt32.toUInt16.toUInt32.toInt32)))] [(.int (0 : Int32)), (.int (f1 ((p0 &&& (65535 : Int32)).toUInt32.toUInt16.toUInt32.toInt32)))]))
      by_cases hc79_4 : (f1 ((p0 &&& (65535 : Int32)).toUInt32.toUInt16.toUInt32.toInt32)) = (0 : Int32)
      · skip
        refine own_of (fun _ k => XS.icmpYes X3.here hx rfl (pc0 := 79) (pc' := 84) rfl (hb hby at_79) rfl (teq hc79_4).1 (by decide) (by decide) k) ?_
        show own_Out p e below _ (T3.setTop (mkF m 84 #[.val (.int p0), .val (.int ((p0 &&& (65535 : Int32)).toUInt32.toUInt16.toUInt32.toInt32)), .val (.int (((p0 &&& (65535 : Int32)).toUInt32.toUInt16.toUInt32.toInt32) - (48 : Int32))), .val (.int (((p0 &&& (65535 : Int32)).toUInt32.toUInt16.toUInt32.toInt32) - (97 : Int32))), .val (.int (0 : Int32)), .val (.int (0 : Int32)), .val (.int (0 : Int32)), .val (.int (f1 ((p0 &&& (65535 : Int32)).toUInt32.toUInt16.toUInt32.toInt32)))] []))
        refine own_of (fun _ k => XS.iload X3.here hx rfl (hb hby at_84) rfl k) ?_
        show own_Out p e below _ (T3.setTop (mkF m 86 #[.val (.int p0), .val (.int ((p0 &&& (65535 : Int32)).toUInt32.toUInt16.toUInt32.toInt32)), .val (.int (((p0 &&& (65535 : Int32)).toUInt32.toUInt16.toUInt32.toInt32) - (48 : Int32))), .val (.int (((p0 &&& (65535 : Int32)).toUInt32.toUInt16.toUInt32.toInt32) - (97 : Int32))), .val (.int (0 : Int32)), .val (.int (0 : Int32)), .val (.int (0 : Int32)), .val (.int (f1 ((p0 &&& (65535 : Int32)).toUInt32.toUInt16.toUInt32.toInt32)))] [(.int (f1 ((p0 &&& (65535 : Int32)).toUInt32.toUInt16.toUInt32.toInt32)))]))
        refine own_of (fun _ k => XS.ifYes X3.here hx rfl (pc0 := 86) (pc' := 98) rfl (hb hby at_86) rfl ((if0 _ _).trans (teq hc79_4).1) (by decide) (by decide) k) ?_
        show own_Out p e below _ (T3.setTop (mkF m 98 #[.val (.int p0), .val (.int ((p0 &&& (65535 : Int32)).toUInt32.toUInt16.toUInt32.toInt32)), .val (.int (((p0 &&& (65535 : Int32)).toUInt32.toUInt16.toUInt32.toInt32) - (48 : Int32))), .val (.int (((p0 &&& (65535 : Int32)).toUInt32.toUInt16.toUInt32.toInt32) - (97 : Int32))), .val (.int (0 : Int32)), .val (.int (0 : Int32)), .val (.int (0 : Int32)), .val (.int (f1 ((p0 &&& (65535 : Int32)).toUInt32.toUInt16.toUInt32.toInt32)))] []))
        refine own_of (fun _ k => XS.iloadN X3.here hx rfl (hb hby at_98) rfl k) ?_
        show own_Out p e below _ (T3.setTop (mkF m 99 #[.val (.int p0), .val (.int ((p0 &&& (65535 : Int32)).toUInt32.toUInt16.toUInt32.toInt32)), .val (.int (((p0 &&& (65535 : Int32)).toUInt32.toUInt16.toUInt32.toInt32) - (48 : Int32))), .val (.int (((p0 &&& (65535 : Int32)).toUInt32.toUInt16.toUInt32.toInt32) - (97 : Int32))), .val (.int (0 : Int32)), .val (.int (0 : Int32)), .val (.int (0 : Int32)), .val (.int (f1 ((p0 &&& (65535 : Int32)).toUInt32.toUInt16.toUInt32.toInt32)))] [(.int ((p0 &&& (65535 : Int32)).toUInt32.toUInt16.toUInt32.toInt32))]))
        by_cases hc99_5 : (255 : Int32) < ((p0 &&& (65535 : Int32)).toUInt32.toUInt16.toUInt32.toInt32)
        · skip
          obtain ⟨_, _, ⟨T6, L6, k6, n6⟩, -, X6, ⟨Lc6, hQ6, l6, y6, z6⟩, st6⟩ := Jvm.LawKit.callS X3 hx (y := (⟨"java/lang/String", "valueOf", "(C)Ljava/lang/String;"⟩ : MethodName)) hown (mvT hZ (hw _ (List.mem_of_getElem? (i := 5) rfl))) (mvT hZ (hw _ (List.mem_of_getElem? (i := 6) rfl))) (mvT hZ (hw _ (List.mem_of_getElem? (i := 7) rfl))) (mvT hZ (hw _ (List.mem_of_getElem? (i := 8) rfl))) (by decide) (backOf (W := 0) (rm2u l Z a0 hw [] ((p0 &&& (65535 : Int32)).toUInt32.toUInt16.toUInt32.toInt32) cs h0 n0 Z0 S_cs hcs hc99_5 S_ad S_hi S_lo) hZ (hw _ (List.mem_of_getElem? (i := 8) rfl)) (hw _ (List.mem_of_getElem? (i := 7) rfl)) (by decide) (by decide)) (g := (mkF m 99 #[.val (.int p0), .val (.int ((p0 &&& (65535 : Int32)).toUInt32.toUInt16.toUInt32.toInt32)), .val (.int (((p0 &&& (65535 : Int32)).toUInt32.toUInt16.toUInt32.toInt32) - (48 : Int32))), .val (.int (((p0 &&& (65535 : Int32)).toUInt32.toUInt16.toUInt32.toInt32) - (97 : Int32))), .val (.int (0 : Int32)), .val (.int (0 : Int32)), .val (.int (0 : Int32)), .val (.int (f1 ((p0 &&& (65535 : Int32)).toUInt32.toUInt16.toUInt32.toInt32)))] [(.int ((p0 &&& (65535 : Int32)).toUInt32.toUInt16.toUInt32.toInt32))])) rfl (by rw [hml]; rfl) (argsL := [(.int ((p0 &&& (65535 : Int32)).toUInt32.toUInt16.toUInt32.toInt32))]) (rest := []) (lenOf pd_13 rfl) rfl (by show 2 * 0 + _ ≤ _; exact Nat.le_of_eq rfl) (hb hby at_99) (fun _ _ => ⟨rfl, hh3, (by decide : 0 + 2 ≤ _), (by decide : 0 + 6 ≤ _)⟩)
          dsimp only [Pt.U, Pt.locs, Pt.cells, Pt.slots] at X6 l6 y6 z6 st6 hQ6
          subst l6 y6 z6
          obtain ⟨r6, b6, k6, rfl, N6q, K6, E6, Fv6, Fc6, V6, hgr_6, hsr_6, hgb_6, hsb_6, hnrb_6⟩ := hQ6
          have N6 := Fr.app N3 N6q
          have S_java_lang_String_COMPACT_STRINGS_K6 := own_staK0 S_cs K6
          have S_jdk_internal_util_Preconditions_SIOOBE_FORMATTER_K6 := own_staK0 S_f K6
          have S_java_lang_StringUTF16__assertionsDisabled_K6 := own_staK0 S_ad K6
          have S_java_lang_StringUTF16_HI_BYTE_SHIFT_K6 := own_staK0 S_hi K6
          have S_java_lang_StringUTF16_LO_BYTE_SHIFT_K6 := own_staK0 S_lo K6
          have Zl6 : n0 ≤ T6.heap.size := Nat.le_trans Z0 K6.1
          refine own_of st6 ?_
          show own_Out p e below _ (T6.setTop (mkF m 102 #[.val (.int p0), .val (.int ((p0 &&& (65535 : Int32)).toUInt32.toUInt16.toUInt32.toInt32)), .val (.int (((p0 &&& (65535 : Int32)).toUInt32.toUInt16.toUInt32.toInt32) - (48 : Int32))), .val (.int (((p0 &&& (65535 : Int32)).toUInt32.toUInt16.toUInt32.toInt32) - (97 : Int32))), .val (.int (0 : Int32)), .val (.int (0 : Int32)), .val (.int (0 : Int32)), .val (.int (f1 ((p0 &&& (65535 : Int32)).toUInt32.toUInt16.toUInt32.toInt32)))] [(.ref r6)]))
          obtain ⟨_, _, ⟨T7, L7, k7, n7⟩, -, X7, ⟨Lc7, hQ7, l7, y7, z7⟩, st7⟩ := Jvm.LawKit.callS X6 hx (y := (⟨"com/example/ringd/ringd/core/Tags", "isTag", "(Ljava/lang/String;)Z"⟩ : MethodName)) hown (mvT hZ (hw _ (List.mem_of_getElem? (i := 31) rfl))) (mvT hZ (hw _ (List.mem_of_getElem? (i := 32) rfl))) (mvT hZ (hw _ (List.mem_of_getElem? (i := 3) rfl))) (mvT hZ (hw _ (List.mem_of_getElem? (i := 33) rfl))) (by decide) (backOf (W := 0) (rm7c1n2 l Z a0 hw [] r6 b6 k6 (((((p0 &&& (65535 : Int32)).toUInt32.toUInt16.toUInt32.toInt32) >>> ((0 : Int32) &&& 31)).toInt8.toInt32).toInt8.toInt32) (((((p0 &&& (65535 : Int32)).toUInt32.toUInt16.toUInt32.toInt32) >>> ((8 : Int32) &&& 31)).toInt8.toInt32).toInt8.toInt32) cs vf T6.heap n0 Zl6 E6 Fv6 Fc6 V6 S_java_lang_String_COMPACT_STRINGS_K6 hcs S_jdk_internal_util_Preconditions_SIOOBE_FORMATTER_K6 hvf S_java_lang_StringUTF16__assertionsDisabled_K6 S_java_lang_StringUTF16_HI_BYTE_SHIFT_K6 S_java_lang_StringUTF16_LO_BYTE_SHIFT_K6) hZ (hw _ (List.mem_of_getElem? (i := 33) rfl)) (hw _ (List.mem_of_getElem? (i := 3) rfl)) (by decide) (by decide)) (g := (mkF m 102 #[.val (.int p0), .val (.int ((p0 &&& (65535 : Int32)).toUInt32.toUInt16.toUInt32.toInt32)), .val (.int (((p0 &&& (65535 : Int32)).toUInt32.toUInt16.toUInt32.toInt32) - (48 : Int32))), .val (.int (((p0 &&& (65535 : Int32)).toUInt32.toUInt16.toUInt32.toInt32) - (97 : Int32))), .val (.int (0 : Int32)), .val (.int (0 : Int32)), .val (.int (0 : Int32)), .val (.int (f1 ((p0 &&& (65535 : Int32)).toUInt32.toUInt16.toUInt32.toInt32)))] [(.ref r6)])) rfl (by rw [hml]; rfl) (argsL := [(.ref r6)]) (rest := []) (lenOf pd_14 rfl) rfl (by show 2 * 0 + _ ≤ _; exact Nat.le_of_eq rfl) (hb hby at_102) (fun _ _ => ⟨rfl, rfl, (by decide : 2 + 0 ≤ _), (by decide : 6 + 0 ≤ _)⟩)
          dsimp only [Pt.U, Pt.locs, Pt.cells, Pt.slots] at X7 l7 y7 z7 st7 hQ7
          subst l7 y7 z7
          obtain ⟨rfl, N7q, hh7⟩ := hQ7
          have N7 := Fr.app N6 N7q
          refine own_of st7 ?_
          show own_Out p e below _ (T7.setTop (mkF m 105 #[.val (.int p0), .val (.int ((p0 &&& (65535 : Int32)).toUInt32.toUInt16.toUInt32.toInt32)), .val (.int (((p0 &&& (65535 : Int32)).toUInt32.toUInt16.toUInt32.toInt32) - (48 : Int32))), .val (.int (((p0 &&& (65535 : Int32)).toUInt32.toUInt16.toUInt32.toInt32) - (97 : Int32))), .val (.int (0 : Int32)), .val (.int (0 : Int32)), .val (.int (0 : Int32)), .val (.int (f1 ((p0 &&& (65535 : Int32)).toUInt32.toUInt16.toUInt32.toInt32)))] [(.int (f_isTagc1n2 (((((p0 &&& (65535 : Int32)).toUInt32.toUInt16.toUInt32.toInt32) >>> ((0 : Int32) &&& 31)).toInt8.toInt32).toInt8.toInt32) (((((p0 &&& (65535 : Int32)).toUInt32.toUInt16.toUInt32.toInt32) >>> ((8 : Int32) &&& 31)).toInt8.toInt32).toInt8.toInt32) cs))]))
          refine own_of (fun _ k => XS.iload X7.here hx rfl (hb hby at_105) rfl k) ?_
          show own_Out p e below _ (T7.setTop (mkF m 107 #[.val (.int p0), .val (.int ((p0 &&& (65535 : Int32)).toUInt32.toUInt16.toUInt32.toInt32)), .val (.int (((p0 &&& (65535 : Int32)).toUInt32.toUInt16.toUInt32.toInt32) - (48 : Int32))), .val (.int (((p0 &&& (65535 : Int32)).toUInt32.toUInt16.toUInt32.toInt32) - (97 : Int32))), .val (.int (0 : Int32)), .val (.int (0 : Int32)), .val (.int (0 : Int32)), .val (.int (f1 ((p0 &&& (65535 : Int32)).toUInt32.toUInt16.toUInt32.toInt32)))] [(.int (f1 ((p0 &&& (65535 : Int32)).toUInt32.toUInt16.toUInt32.toInt32))), (.int (f_isTagc1n2 (((((p0 &&& (65535 : Int32)).toUInt32.toUInt16.toUInt32.toInt32) >>> ((0 : Int32) &&& 31)).toInt8.toInt32).toInt8.toInt32) (((((p0 &&& (65535 : Int32)).toUInt32.toUInt16.toUInt32.toInt32) >>> ((8 : Int32) &&& 31)).toInt8.toInt32).toInt8.toInt32) cs))]))
          by_cases hc107_8 : (f_isTagc1n2 (((((p0 &&& (65535 : Int32)).toUInt32.toUInt16.toUInt32.toInt32) >>> ((0 : Int32) &&& 31)).toInt8.toInt32).toInt8.toInt32) (((((p0 &&& (65535 : Int32)).toUInt32.toUInt16.toUInt32.toInt32) >>> ((8 : Int32) &&& 31)).toInt8.toInt32).toInt8.toInt32) cs) = (f1 ((p0 &&& (65535 : Int32)).toUInt32.toUInt16.toUInt32.toInt32))
          · skip
            refine own_of (fun _ k => XS.icmpNo X7.here hx rfl (hb hby at_107) rfl (teq hc107_8).2 k) ?_
            show own_Out p e below _ (T7.setTop (mkF m 110 #[.val (.int p0), .val (.int ((p0 &&& (65535 : Int32)).toUInt32.toUInt16.toUInt32.toInt32)), .val (.int (((p0 &&& (65535 : Int32)).toUInt32.toUInt16.toUInt32.toInt32) - (48 : Int32))), .val (.int (((p0 &&& (65535 : Int32)).toUInt32.toUInt16.toUInt32.toInt32) - (97 : Int32))), .val (.int (0 : Int32)), .val (.int (0 : Int32)), .val (.int (0 : Int32)), .val (.int (f1 ((p0 &&& (65535 : Int32)).toUInt32.toUInt16.toUInt32.toInt32)))] []))
            refine own_of (fun _ k => XS.iconst X7.here hx rfl (hb hby at_110) k) ?_
            show own_Out p e below _ (T7.setTop (mkF m 111 #[.val (.int p0), .val (.int ((p0 &&& (65535 : Int32)).toUInt32.toUInt16.toUInt32.toInt32)), .val (.int (((p0 &&& (65535 : Int32)).toUInt32.toUInt16.toUInt32.toInt32) - (48 : Int32))), .val (.int (((p0 &&& (65535 : Int32)).toUInt32.toUInt16.toUInt32.toInt32) - (97 : Int32))), .val (.int (0 : Int32)), .val (.int (0 : Int32)), .val (.int (0 : Int32)), .val (.int (f1 ((p0 &&& (65535 : Int32)).toUInt32.toUInt16.toUInt32.toInt32)))] [(.int (1 : Int32))]))
            refine own_of (fun _ k => XS.goto X7.here hx rfl (pc0 := 111) (pc' := 115) rfl (hb hby at_111) (by decide) (by decide) k) ?_
            show own_Out p e below _ (T7.setTop (mkF m 115 #[.val (.int p0), .val (.int ((p0 &&& (65535 : Int32)).toUInt32.toUInt16.toUInt32.toInt32)), .val (.int (((p0 &&& (65535 : Int32)).toUInt32.toUInt16.toUInt32.toInt32) - (48 : Int32))), .val (.int (((p0 &&& (65535 : Int32)).toUInt32.toUInt16.toUInt32.toInt32) - (97 : Int32))), .val (.int (0 : Int32)), .val (.int (0 : Int32)), .val (.int (0 : Int32)), .val (.int (f1 ((p0 &&& (65535 : Int32)).toUInt32.toUInt16.toUInt32.toInt32)))] [(.int (1 : Int32))]))
            exact own_outN X7 hx hlk (t := .boolean) hret (by simp) (hb hby at_115) (z' := (1 : Int32)) rfl (Q := Q0 Z p0 cs vf h0 n0) ⟨rfl, N7⟩ (by decide) (by decide)
          · skip
            refine own_of (fun _ k => XS.icmpYes X7.here hx rfl (pc0 := 107) (pc' := 114) rfl (hb hby at_107) rfl (feq hc107_8).2 (by decide) (by decide) k) ?_
            show own_Out p e below _ (T7.setTop (mkF m 114 #[.val (.int p0), .val (.int ((p0 &&& (65535 : Int32)).toUInt32.toUInt16.toUInt32.toInt32)), .val (.int (((p0 &&& (65535 : Int32)).toUInt32.toUInt16.toUInt32.toInt32) - (48 : Int32))), .val (.int (((p0 &&& (65535 : Int32)).toUInt32.toUInt16.toUInt32.toInt32) - (97 : Int32))), .val (.int (0 : Int32)), .val (.int (0 : Int32)), .val (.int (0 : Int32)), .val (.int (f1 ((p0 &&& (65535 : Int32)).toUInt32.toUInt16.toUInt32.toInt32)))] []))
            refine own_of (fun _ k => XS.iconst X7.here hx rfl (hb hby at_114) k) ?_
            show own_Out p e below _ (T7.setTop (mkF m 115 #[.val (.int p0), .val (.int ((p0 &&& (65535 : Int32)).toUInt32.toUInt16.toUInt32.toInt32)), .val (.int (((p0 &&& (65535 : Int32)).toUInt32.toUInt16.toUInt32.toInt32) - (48 : Int32))), .val (.int (((p0 &&& (65535 : Int32)).toUInt32.toUInt16.toUInt32.toInt32) - (97 : Int32))), .val (.int (0 : Int32)), .val (.int (0 : Int32)), .val (.int (0 : Int32)), .val (.int (f1 ((p0 &&& (65535 : Int32)).toUInt32.toUInt16.toUInt32.toInt32)))] [(.int (0 : Int32))]))
            exact (dead0_0 p0 hcs hc18_1 hc36_2 hc79_4 hc99_5 hc107_8).elim
        · skip
          obtain ⟨_, _, ⟨T9, L9, k9, n9⟩, -, X9, ⟨Lc9, hQ9, l9, y9, z9⟩, st9⟩ := Jvm.LawKit.callS X3 hx (y := (⟨"java/lang/String", "valueOf", "(C)Ljava/lang/String;"⟩ : MethodName)) hown (mvT hZ (hw _ (List.mem_of_getElem? (i := 5) rfl))) (mvT hZ (hw _ (List.mem_of_getElem? (i := 6) rfl))) (mvT hZ (hw _ (List.mem_of_getElem? (i := 7) rfl))) (mvT hZ (hw _ (List.mem_of_getElem? (i := 8) rfl))) (by decide) (backOf (W := 0) (rm2l l Z a0 hw [] ((p0 &&& (65535 : Int32)).toUInt32.toUInt16.toUInt32.toInt32) cs h0 n0 Z0 S_cs hcs hc99_5) hZ (hw _ (List.mem_of_getElem? (i := 8) rfl)) (hw _ (List.mem_of_getElem? (i := 7) rfl)) (by decide) (by decide)) (g := (mkF m 99 #[.val (.int p0), .val (.int ((p0 &&& (65535 : Int32)).toUInt32.toUInt16.toUInt32.toInt32)), .val (.int (((p0 &&& (65535 : Int32)).toUInt32.toUInt16.toUInt32.toInt32) - (48 : Int32))), .val (.int (((p0 &&& (65535 : Int32)).toUInt32.toUInt16.toUInt32.toInt32) - (97 : Int32))), .val (.int (0 : Int32)), .val (.int (0 : Int32)), .val (.int (0 : Int32)), .val (.int (f1 ((p0 &&& (65535 : Int32)).toUInt32.toUInt16.toUInt32.toInt32)))] [(.int ((p0 &&& (65535 : Int32)).toUInt32.toUInt16.toUInt32.toInt32))])) rfl (by rw [hml]; rfl) (argsL := [(.int ((p0 &&& (65535 : Int32)).toUInt32.toUInt16.toUInt32.toInt32))]) (rest := []) (lenOf pd_13 rfl) rfl (by show 2 * 0 + _ ≤ _; exact Nat.le_of_eq rfl) (hb hby at_99) (fun _ _ => ⟨rfl, hh3, (by decide : 0 + 2 ≤ _), (by decide : 0 + 5 ≤ _)⟩)
          dsimp only [Pt.U, Pt.locs, Pt.cells, Pt.slots] at X9 l9 y9 z9 st9 hQ9
          subst l9 y9 z9
          obtain ⟨r9, b9, k9, rfl, N9q, K9, E9, Fv9, Fc9, V9, hgr_9, hsr_9, hgb_9, hsb_9, hnrb_9⟩ := hQ9
          have N9 := Fr.app N3 N9q
          have S_java_lang_String_COMPACT_STRINGS_K9 := own_staK0 S_cs K9
          have S_jdk_internal_util_Preconditions_SIOOBE_FORMATTER_K9 := own_staK0 S_f K9
          have S_java_lang_StringUTF16__assertionsDisabled_K9 := own_staK0 S_ad K9
          have S_java_lang_StringUTF16_HI_BYTE_SHIFT_K9 := own_staK0 S_hi K9
          have S_java_lang_StringUTF16_LO_BYTE_SHIFT_K9 := own_staK0 S_lo K9
          have Zl9 : n0 ≤ T9.heap.size := Nat.le_trans Z0 K9.1
          refine own_of st9 ?_
          show own_Out p e below _ (T9.setTop (mkF m 102 #[.val (.int p0), .val (.int ((p0 &&& (65535 : Int32)).toUInt32.toUInt16.toUInt32.toInt32)), .val (.int (((p0 &&& (65535 : Int32)).toUInt32.toUInt16.toUInt32.toInt32) - (48 : Int32))), .val (.int (((p0 &&& (65535 : Int32)).toUInt32.toUInt16.toUInt32.toInt32) - (97 : Int32))), .val (.int (0 : Int32)), .val (.int (0 : Int32)), .val (.int (0 : Int32)), .val (.int (f1 ((p0 &&& (65535 : Int32)).toUInt32.toUInt16.toUInt32.toInt32)))] [(.ref r9)]))
          obtain ⟨_, _, ⟨T10, L10, k10, n10⟩, -, X10, ⟨Lc10, hQ10, l10, y10, z10⟩, st10⟩ := Jvm.LawKit.callS X9 hx (y := (⟨"com/example/ringd/ringd/core/Tags", "isTag", "(Ljava/lang/String;)Z"⟩ : MethodName)) hown (mvT hZ (hw _ (List.mem_of_getElem? (i := 31) rfl))) (mvT hZ (hw _ (List.mem_of_getElem? (i := 32) rfl))) (mvT hZ (hw _ (List.mem_of_getElem? (i := 3) rfl))) (mvT hZ (hw _ (List.mem_of_getElem? (i := 33) rfl))) (by decide) (backOf (W := 0) (rm7c0n1 l Z a0 hw [] r9 b9 k9 ((((p0 &&& (65535 : Int32)).toUInt32.toUInt16.toUInt32.toInt32).toInt8.toInt32).toInt8.toInt32) cs vf T9.heap n0 Zl9 E9 Fv9 Fc9 V9 S_java_lang_String_COMPACT_STRINGS_K9 hcs S_jdk_internal_util_Preconditions_SIOOBE_FORMATTER_K9 hvf) hZ (hw _ (List.mem_of_getElem? (i := 33) rfl)) (hw _ (List.mem_of_getElem? (i := 3) rfl)) (by decide) (by decide)) (g := (mkF m 102 #[.val (.int p0), .val (.int ((p0 &&& (65535 : Int32)).toUInt32.toUInt16.toUInt32.toInt32)), .val (.int (((p0 &&& (65535 : Int32)).toUInt32.toUInt16.toUInt32.toInt32) - (48 : Int32))), .val (.int (((p0 &&& (65535 : Int32)).toUInt32.toUInt16.toUInt32.toInt32) - (97 : Int32))), .val (.int (0 : Int32)), .val (.int (0 : Int32)), .val (.int (0 : Int32)), .val (.int (f1 ((p0 &&& (65535 : Int32)).toUInt32.toUInt16.toUInt32.toInt32)))] [(.ref r9)])) rfl (by rw [hml]; rfl) (argsL := [(.ref r9)]) (rest := []) (lenOf pd_14 rfl) rfl (by show 2 * 0 + _ ≤ _; exact Nat.le_of_eq rfl) (hb hby at_102) (fun _ _ => ⟨rfl, rfl, (by decide : 2 + 0 ≤ _), (by decide : 5 + 0 ≤ _)⟩)
          dsimp only [Pt.U, Pt.locs, Pt.cells, Pt.slots] at X10 l10 y10 z10 st10 hQ10
          subst l10 y10 z10
          obtain ⟨rfl, N10q, hh10⟩ := hQ10
          have N10 := Fr.app N9 N10q
          refine own_of st10 ?_
          show own_Out p e below _ (T10.setTop (mkF m 105 #[.val (.int p0), .val (.int ((p0 &&& (65535 : Int32)).toUInt32.toUInt16.toUInt32.toInt32)), .val (.int (((p0 &&& (65535 : Int32)).toUInt32.toUInt16.toUInt32.toInt32) - (48 : Int32))), .val (.int (((p0 &&& (65535 : Int32)).toUInt32.toUInt16.toUInt32.toInt32) - (97 : Int32))), .val (.int (0 : Int32)), .val (.int (0 : Int32)), .val (.int (0 : Int32)), .val (.int (f1 ((p0 &&& (65535 : Int32)).toUInt32.toUInt16.toUInt32.toInt32)))] [(.int (f_isTagc0n1 ((((p0 &&& (65535 : Int32)).toUInt32.toUInt16.toUInt32.toInt32).toInt8.toInt32).toInt8.toInt32) cs))]))
          refine own_of (fun _ k => XS.iload X10.here hx rfl (hb hby at_105) rfl k) ?_
          show own_Out p e below _ (T10.setTop (mkF m 107 #[.val (.int p0), .val (.int ((p0 &&& (65535 : Int32)).toUInt32.toUInt16.toUInt32.toInt32)), .val (.int (((p0 &&& (65535 : Int32)).toUInt32.toUInt16.toUInt32.toInt32) - (48 : Int32))), .val (.int (((p0 &&& (65535 : Int32)).toUInt32.toUInt16.toUInt32.toInt32) - (97 : Int32))), .val (.int (0 : Int32)), .val (.int (0 : Int32)), .val (.int (0 : Int32)), .val (.int (f1 ((p0 &&& (65535 : Int32)).toUInt32.toUInt16.toUInt32.toInt32)))] [(.int (f1 ((p0 &&& (65535 : Int32)).toUInt32.toUInt16.toUInt32.toInt32))), (.int (f_isTagc0n1 ((((p0 &&& (65535 : Int32)).toUInt32.toUInt16.toUInt32.toInt32).toInt8.toInt32).toInt8.toInt32) cs))]))
          by_cases hc107_11 : (f_isTagc0n1 ((((p0 &&& (65535 : Int32)).toUInt32.toUInt16.toUInt32.toInt32).toInt8.toInt32).toInt8.toInt32) cs) = (f1 ((p0 &&& (65535 : Int32)).toUInt32.toUInt16.toUInt32.toInt32))
          · skip
            refine own_of (fun _ k => XS.icmpNo X10.here hx rfl (hb hby at_107) rfl (teq hc107_11).2 k) ?_
            show own_Out p e below _ (T10.setTop (mkF m 110 #[.val (.int p0), .val (.int ((p0 &&& (65535 : Int32)).toUInt32.toUInt16.toUInt32.toInt32)), .val (.int (((p0 &&& (65535 : Int32)).toUInt32.toUInt16.toUInt32.toInt32) - (48 : Int32))), .val (.int (((p0 &&& (65535 : Int32)).toUInt32.toUInt16.toUInt32.toInt32) - (97 : Int32))), .val (.int (0 : Int32)), .val (.int (0 : Int32)), .val (.int (0 : Int32)), .val (.int (f1 ((p0 &&& (65535 : Int32)).toUInt32.toUInt16.toUInt32.toInt32)))] []))
            refine own_of (fun _ k => XS.iconst X10.here hx rfl (hb hby at_110) k) ?_
            show own_Out p e below _ (T10.setTop (mkF m 111 #[.val (.int p0), .val (.int ((p0 &&& (65535 : Int32)).toUInt32.toUInt16.toUInt32.toInt32)), .val (.int (((p0 &&& (65535 : Int32)).toUInt32.toUInt16.toUInt32.toInt32) - (48 : Int32))), .val (.int (((p0 &&& (65535 : Int32)).toUInt32.toUInt16.toUInt32.toInt32) - (97 : Int32))), .val (.int (0 : Int32)), .val (.int (0 : Int32)), .val (.int (0 : Int32)), .val (.int (f1 ((p0 &&& (65535 : Int32)).toUInt32.toUInt16.toUInt32.toInt32)))] [(.int (1 : Int32))]))
            refine own_of (fun _ k => XS.goto X10.here hx rfl (pc0 := 111) (pc' := 115) rfl (hb hby at_111) (by decide) (by decide) k) ?_
            show own_Out p e below _ (T10.setTop (mkF m 115 #[.val (.int p0), .val (.int ((p0 &&& (65535 : Int32)).toUInt32.toUInt16.toUInt32.toInt32)), .val (.int (((p0 &&& (65535 : Int32)).toUInt32.toUInt16.toUInt32.toInt32) - (48 : Int32))), .val (.int (((p0 &&& (65535 : Int32)).toUInt32.toUInt16.toUInt32.toInt32) - (97 : Int32))), .val (.int (0 : Int32)), .val (.int (0 : Int32)), .val (.int (0 : Int32)), .val (.int (f1 ((p0 &&& (65535 : Int32)).toUInt32.toUInt16.toUInt32.toInt32)))] [(.int (1 : Int32))]))
            exact own_outN X10 hx hlk (t := .boolean) hret (by simp) (hb hby at_115) (z' := (1 : Int32)) rfl (Q := Q0 Z p0 cs vf h0 n0) ⟨rfl, N10⟩ (by decide) (by decide)
          · skip
            refine own_of (fun _ k => XS.icmpYes X10.here hx rfl (pc0 := 107) (pc' := 114) rfl (hb hby at_107) rfl (feq hc107_11).2 (by decide) (by decide) k) ?_
            show own_Out p e below _ (T10.setTop (mkF m 114 #[.val (.int p0), .val (.int ((p0 &&& (65535 : Int32)).toUInt32.toUInt16.toUInt32.toInt32)), .val (.int (((p0 &&& (65535 : Int32)).toUInt32.toUInt16.toUInt32.toInt32) - (48 : Int32))), .val (.int (((p0 &&& (65535 : Int32)).toUInt32.toUInt16.toUInt32.toInt32) - (97 : Int32))), .val (.int (0 : Int32)), .val (.int (0 : Int32)), .val (.int (0 : Int32)), .val (.int (f1 ((p0 &&& (65535 : Int32)).toUInt32.toUInt16.toUInt32.toInt32)))] []))
            refine own_of (fun _ k => XS.iconst X10.here hx rfl (hb hby at_114) k) ?_
            show own_Out p e below _ (T10.setTop (mkF m 115 #[.val (.int p0), .val (.int ((p0 &&& (65535 : Int32)).toUInt32.toUInt16.toUInt32.toInt32)), .val (.int (((p0 &&& (65535 : Int32)).toUInt32.toUInt16.toUInt32.toInt32) - (48 : Int32))), .val (.int (((p0 &&& (65535 : Int32)).toUInt32.toUInt16.toUInt32.toInt32) - (97 : Int32))), .val (.int (0 : Int32)), .val (.int (0 : Int32)), .val (.int (0 : Int32)), .val (.int (f1 ((p0 &&& (65535 : Int32)).toUInt32.toUInt16.toUInt32.toInt32)))] [(.int (0 : Int32))]))
            exact (dead0_1 p0 hcs hc18_1 hc36_2 hc79_4 hc99_5 hc107_11).elim
      · skip
        refine own_of (fun _ k => XS.icmpNo X3.here hx rfl (hb hby at_79) rfl (feq hc79_4).1 k) ?_
        show own_Out p e below _ (T3.setTop (mkF m 82 #[.val (.int p0), .val (.int ((p0 &&& (65535 : Int32)).toUInt32.toUInt16.toUInt32.toInt32)), .val (.int (((p0 &&& (65535 : Int32)).toUInt32.toUInt16.toUInt32.toInt32) - (48 : Int32))), .val (.int (((p0 &&& (65535 : Int32)).toUInt32.toUInt16.toUInt32.toInt32) - (97 : Int32))), .val (.int (0 : Int32)), .val (.int (0 : Int32)), .val (.int (0 : Int32)), .val (.int (f1 ((p0 &&& (65535 : Int32)).toUInt32.toUInt16.toUInt32.toInt32)))] []))
        refine own_of (fun _ k => XS.iconst X3.here hx rfl (hb hby at_82) k) ?_
        show own_Out p e below _ (T3.setTop (mkF m 83 #[.val (.int p0), .val (.int ((p0 &&& (65535 : Int32)).toUInt32.toUInt16.toUInt32.toInt32)), .val (.int (((p0 &&& (65535 : Int32)).toUInt32.toUInt16.toUInt32.toInt32) - (48 : Int32))), .val (.int (((p0 &&& (65535 : Int32)).toUInt32.toUInt16.toUInt32.toInt32) - (97 : Int32))), .val (.int (0 : Int32)), .val (.int (0 : Int32)), .val (.int (0 : Int32)), .val (.int (f1 ((p0 &&& (65535 : Int32)).toUInt32.toUInt16.toUInt32.toInt32)))] [(.int (0 : Int32))]))
        exact (dead0_2 p0 hcs hc18_1 hc36_2 hc79_4).elim
    · skip
      refine own_of (fun _ k => XS.icmpNo X0.here hx rfl (hb hby at_36) rfl (flt hc36_2).2.2.1 k) ?_
      show own_Out p e below _ (s₁.setTop (mkF m 39 #[.val (.int p0), .val (.int ((p0 &&& (65535 : Int32)).toUInt32.toUInt16.toUInt32.toInt32)), .val (.int (((p0 &&& (65535 : Int32)).toUInt32.toUInt16.toUInt32.toInt32) - (48 : Int32))), .val (.int (((p0 &&& (65535 : Int32)).toUInt32.toUInt16.toUInt32.toInt32) - (97 : Int32))), .val (.int (0 : Int32)), .unset, .unset, .unset] []))
      refine own_of (fun _ k => XS.iloadN X0.here hx rfl (hb hby at_39) rfl k) ?_
      show own_Out p e below _ (s₁.setTop (mkF m 40 #[.val (.int p0), .val (.int ((p0 &&& (65535 : Int32)).toUInt32.toUInt16.toUInt32.toInt32)), .val (.int (((p0 &&& (65535 : Int32)).toUInt32.toUInt16.toUInt32.toInt32) - (48 : Int32))), .val (.int (((p0 &&& (65535 : Int32)).toUInt32.toUInt16.toUInt32.toInt32) - (97 : Int32))), .val (.int (0 : Int32)), .unset, .unset, .unset] [(.int (((p0 &&& (65535 : Int32)).toUInt32.toUInt16.toUInt32.toInt32) - (97 : Int32)))]))
      refine own_of (fun _ k => XS.bipush X0.here hx rfl (hb hby at_40) k) ?_
      show own_Out p e below _ (s₁.setTop (mkF m 42 #[.val (.int p0), .val (.int ((p0 &&& (65535 : Int32)).toUInt32.toUInt16.toUInt32.toInt32)), .val (.int (((p0 &&& (65535 : Int32)).toUInt32.toUInt16.toUInt32.toInt32) - (48 : Int32))), .val (.int (((p0 &&& (65535 : Int32)).toUInt32.toUInt16.toUInt32.toInt32) - (97 : Int32))), .val (.int (0 : Int32)), .unset, .unset, .unset] [(.int (26 : Int32)), (.int (((p0 &&& (65535 : Int32)).toUInt32.toUInt16.toUInt32.toInt32) - (97 : Int32)))]))
      by_cases hc42_12 : (((p0 &&& (65535 : Int32)).toUInt32.toUInt16.toUInt32.toInt32) - (97 : Int32)) < (26 : Int32)
      · skip
        refine own_of (fun _ k => XS.icmpNo X0.here hx rfl (hb hby at_42) rfl (tlt hc42_12).2.1 k) ?_
        show own_Out p e below _ (s₁.setTop (mkF m 45 #[.val (.int p0), .val (.int ((p0 &&& (65535 : Int32)).toUInt32.toUInt16.toUInt32.toInt32)), .val (.int (((p0 &&& (65535 : Int32)).toUInt32.toUInt16.toUInt32.toInt32) - (48 : Int32))), .val (.int (((p0 &&& (65535 : Int32)).toUInt32.toUInt16.toUInt32.toInt32) - (97 : Int32))), .val (.int (0 : Int32)), .unset, .unset, .unset] []))
        refine own_of (fun _ k => XS.iconst X0.here hx rfl (hb hby at_45) k) ?_
        show own_Out p e below _ (s₁.setTop (mkF m 46 #[.val (.int p0), .val (.int ((p0 &&& (65535 : Int32)).toUInt32.toUInt16.toUInt32.toInt32)), .val (.int (((p0 &&& (65535 : Int32)).toUInt32.toUInt16.toUInt32.toInt32) - (48 : Int32))), .val (.int (((p0 &&& (65535 : Int32)).toUInt32.toUInt16.toUInt32.toInt32) - (97 : Int32))), .val (.int (0 : Int32)), .unset, .unset, .unset] [(.int (1 : Int32))]))
        refine own_of (fun _ k => XS.goto X0.here hx rfl (pc0 := 46) (pc' := 50) rfl (hb hby at_46) (by decide) (by decide) k) ?_
        show own_Out p e below _ (s₁.setTop (mkF m 50 #[.val (.int p0), .val (.int ((p0 &&& (65535 : Int32)).toUInt32.toUInt16.toUInt32.toInt32)), .val (.int (((p0 &&& (65535 : Int32)).toUInt32.toUInt16.toUInt32.toInt32) - (48 : Int32))), .val (.int (((p0 &&& (65535 : Int32)).toUInt32.toUInt16.toUInt32.toInt32) - (97 : Int32))), .val (.int (0 : Int32)), .unset, .unset, .unset] [(.int (1 : Int32))]))
        refine own_of (fun _ k => XS.istore X0.here hx rfl (hb hby at_50) rfl (l' := #[.val (.int p0), .val (.int ((p0 &&& (65535 : Int32)).toUInt32.toUInt16.toUInt32.toInt32)), .val (.int (((p0 &&& (65535 : Int32)).toUInt32.toUInt16.toUInt32.toInt32) - (48 : Int32))), .val (.int (((p0 &&& (65535 : Int32)).toUInt32.toUInt16.toUInt32.toInt32) - (97 : Int32))), .val (.int (0 : Int32)), .val (.int (1 : Int32)), .unset, .unset]) rfl k) ?_
        show own_Out p e below _ (s₁.setTop (mkF m 52 #[.val (.int p0), .val (.int ((p0 &&& (65535 : Int32)).toUInt32.toUInt16.toUInt32.toInt32)), .val (.int (((p0 &&& (65535 : Int32)).toUInt32.toUInt16.toUInt32.toInt32) - (48 : Int32))), .val (.int (((p0 &&& (65535 : Int32)).toUInt32.toUInt16.toUInt32.toInt32) - (97 : Int32))), .val (.int (0 : Int32)), .val (.int (1 : Int32)), .unset, .unset] []))
        refine own_of (fun _ k => XS.iload X0.here hx rfl (hb hby at_52) rfl k) ?_
        show own_Out p e below _ (s₁.setTop (mkF m 54 #[.val (.int p0), .val (.int ((p0 &&& (65535 : Int32)).toUInt32.toUInt16.toUInt32.toInt32)), .val (.int (((p0 &&& (65535 : Int32)).toUInt32.toUInt16.toUInt32.toInt32) - (48 : Int32))), .val (.int (((p0 &&& (65535 : Int32)).toUInt32.toUInt16.toUInt32.toInt32) - (97 : Int32))), .val (.int (0 : Int32)), .val (.int (1 : Int32)), .unset, .unset] [(.int (0 : Int32))]))
        refine own_of (fun _ k => XS.ifNo X0.here hx rfl (hb hby at_54) rfl ((if0 _ _).trans (teq (by decide : (0 : Int32) = (0 : Int32))).2) k) ?_
        show own_Out p e below _ (s₁.setTop (mkF m 57 #[.val (.int p0), .val (.int ((p0 &&& (65535 : Int32)).toUInt32.toUInt16.toUInt32.toInt32)), .val (.int (((p0 &&& (65535 : Int32)).toUInt32.toUInt16.toUInt32.toInt32) - (48 : Int32))), .val (.int (((p0 &&& (65535 : Int32)).toUInt32.toUInt16.toUInt32.toInt32) - (97 : Int32))), .val (.int (0 : Int32)), .val (.int (1 : Int32)), .unset, .unset] []))
        refine own_of (fun _ k => XS.iload X0.here hx rfl (hb hby at_57) rfl k) ?_
        show own_Out p e below _ (s₁.setTop (mkF m 59 #[.val (.int p0), .val (.int ((p0 &&& (65535 : Int32)).toUInt32.toUInt16.toUInt32.toInt32)), .val (.int (((p0 &&& (65535 : Int32)).toUInt32.toUInt16.toUInt32.toInt32) - (48 : Int32))), .val (.int (((p0 &&& (65535 : Int32)).toUInt32.toUInt16.toUInt32.toInt32) - (97 : Int32))), .val (.int (0 : Int32)), .val (.int (1 : Int32)), .unset, .unset] [(.int (1 : Int32))]))
        refine own_of (fun _ k => XS.ifNo X0.here hx rfl (hb hby at_59) rfl ((if0 _ _).trans (feq (by decide : ¬ ((1 : Int32) = (0 : Int32)))).1) k) ?_
        show own_Out p e below _ (s₁.setTop (mkF m 62 #[.val (.int p0), .val (.int ((p0 &&& (65535 : Int32)).toUInt32.toUInt16.toUInt32.toInt32)), .val (.int (((p0 &&& (65535 : Int32)).toUInt32.toUInt16.toUInt32.toInt32) - (48 : Int32))), .val (.int (((p0 &&& (65535 : Int32)).toUInt32.toUInt16.toUInt32.toInt32) - (97 : Int32))), .val (.int (0 : Int32)), .val (.int (1 : Int32)), .unset, .unset] []))
        refine own_of (fun _ k => XS.iconst X0.here hx rfl (hb hby at_62) k) ?_
        show own_Out p e below _ (s₁.setTop (mkF m 63 #[.val (.int p0), .val (.int ((p0 &&& (65535 : Int32)).toUInt32.toUInt16.toUInt32.toInt32)), .val (.int (((p0 &&& (65535 : Int32)).toUInt32.toUInt16.toUInt32.toInt32) - (48 : Int32))), .val (.int (((p0 &&& (65535 : Int32)).toUInt32.toUInt16.toUInt32.toInt32) - (97 : Int32))), .val (.int (0 : Int32)), .val (.int (1 : Int32)), .unset, .unset] [(.int (1 : Int32))]))
        refine own_of (fun _ k => XS.goto X0.here hx rfl (pc0 := 63) (pc' := 67) rfl (hb hby at_63) (by decide) (by decide) k) ?_
        show own_Out p e below _ (s₁.setTop (mkF m 67 #[.val (.int p0), .val (.int ((p0 &&& (65535 : Int32)).toUInt32.toUInt16.toUInt32.toInt32)), .val (.int (((p0 &&& (65535 : Int32)).toUInt32.toUInt16.toUInt32.toInt32) - (48 : Int32))), .val (.int (((p0 &&& (65535 : Int32)).toUInt32.toUInt16.toUInt32.toInt32) - (97 : Int32))), .val (.int (0 : Int32)), .val (.int (1 : Int32)), .unset, .unset] [(.int (1 : Int32))]))
        refine own_of (fun _ k => XS.istore X0.here hx rfl (hb hby at_67) rfl (l' := #[.val (.int p0), .val (.int ((p0 &&& (65535 : Int32)).toUInt32.toUInt16.toUInt32.toInt32)), .val (.int (((p0 &&& (65535 : Int32)).toUInt32.toUInt16.toUInt32.toInt32) - (48 : Int32))), .val (.int (((p0 &&& (65535 : Int32)).toUInt32.toUInt16.toUInt32.toInt32) - (97 : Int32))), .val (.int (0 : Int32)), .val (.int (1 : Int32)), .val (.int (1 : Int32)), .unset]) rfl k) ?_
        show own_Out p e below _ (s₁.setTop (mkF m 69 #[.val (.int p0), .val (.int ((p0 &&& (65535 : Int32)).toUInt32.toUInt16.toUInt32.toInt32)), .val (.int (((p0 &&& (65535 : Int32)).toUInt32.toUInt16.toUInt32.toInt32) - (48 : Int32))), .val (.int (((p0 &&& (65535 : Int32)).toUInt32.toUInt16.toUInt32.toInt32) - (97 : Int32))), .val (.int (0 : Int32)), .val (.int (1 : Int32)), .val (.int (1 : Int32)), .unset] []))
        refine own_of (fun _ k => XS.iloadN X0.here hx rfl (hb hby at_69) rfl k) ?_
        show own_Out p e below _ (s₁.setTop (mkF m 70 #[.val (.int p0), .val (.int ((p0 &&& (65535 : Int32)).toUInt32.toUInt16.toUInt32.toInt32)), .val (.int (((p0 &&& (65535 : Int32)).toUInt32.toUInt16.toUInt32.toInt32) - (48 : Int32))), .val (.int (((p0 &&& (65535 : Int32)).toUInt32.toUInt16.toUInt32.toInt32) - (97 : Int32))), .val (.int (0 : Int32)), .val (.int (1 : Int32)), .val (.int (1 : Int32)), .unset] [(.int ((p0 &&& (65535 : Int32)).toUInt32.toUInt16.toUInt32.toInt32))]))
        obtain ⟨_, _, ⟨T13, L13, k13, n13⟩, -, X13, ⟨Lc13, hQ13, l13, y13, z13⟩, st13⟩ := Jvm.LawKit.callS X0 hx (y := (⟨"com/example/ringd/ringd/core/Tags", "isStart", "(C)Z"⟩ : MethodName)) hown (mvT hZ (hw _ (List.mem_of_getElem? (i := 1) rfl))) (mvT hZ (hw _ (List.mem_of_getElem? (i := 2) rfl))) (mvT hZ (hw _ (List.mem_of_getElem? (i := 3) rfl))) (mvT hZ (hw _ (List.mem_of_getElem? (i := 4) rfl))) (by decide) (backOf (W := 0) (rm1 l Z a0 hw [] ((p0 &&& (65535 : Int32)).toUInt32.toUInt16.toUInt32.toInt32) h0 n0 Z0 ) hZ (hw _ (List.mem_of_getElem? (i := 4) rfl)) (hw _ (List.mem_of_getElem? (i := 3) rfl)) (by decide) (by decide)) (g := (mkF m 70 #[.val (.int p0), .val (.int ((p0 &&& (65535 : Int32)).toUInt32.toUInt16.toUInt32.toInt32)), .val (.int (((p0 &&& (65535 : Int32)).toUInt32.toUInt16.toUInt32.toInt32) - (48 : Int32))), .val (.int (((p0 &&& (65535 : Int32)).toUInt32.toUInt16.toUInt32.toInt32) - (97 : Int32))), .val (.int (0 : Int32)), .val (.int (1 : Int32)), .val (.int (1 : Int32)), .unset] [(.int ((p0 &&& (65535 : Int32)).toUInt32.toUInt16.toUInt32.toInt32))])) rfl (by rw [hml]; rfl) (argsL := [(.int ((p0 &&& (65535 : Int32)).toUInt32.toUInt16.toUInt32.toInt32))]) (rest := []) (lenOf pd_0 rfl) rfl (by show 2 * 0 + _ ≤ _; exact Nat.le_of_eq rfl) (hb hby at_70) (fun _ _ => ⟨rfl, e0, (by decide : 0 + 0 ≤ _), (by decide : 0 + 0 ≤ _)⟩)
        dsimp only [Pt.U, Pt.locs, Pt.cells, Pt.slots] at X13 l13 y13 z13 st13 hQ13
        subst l13 y13 z13
        obtain ⟨rfl, N13q, hh13⟩ := hQ13
        have N13 := Fr.app N0 N13q
        refine own_of st13 ?_
        show own_Out p e below _ (T13.setTop (mkF m 73 #[.val (.int p0), .val (.int ((p0 &&& (65535 : Int32)).toUInt32.toUInt16.toUInt32.toInt32)), .val (.int (((p0 &&& (65535 : Int32)).toUInt32.toUInt16.toUInt32.toInt32) - (48 : Int32))), .val (.int (((p0 &&& (65535 : Int32)).toUInt32.toUInt16.toUInt32.toInt32) - (97 : Int32))), .val (.int (0 : Int32)), .val (.int (1 : Int32)), .val (.int (1 : Int32)), .unset] [(.int (f1 ((p0 &&& (65535 : Int32)).toUInt32.toUInt16.toUInt32.toInt32)))]))
        refine own_of (fun _ k => XS.istore X13.here hx rfl (hb hby at_73) rfl (l' := #[.val (.int p0), .val (.int ((p0 &&& (65535 : Int32)).toUInt32.toUInt16.toUInt32.toInt32)), .val (.int (((p0 &&& (65535 : Int32)).toUInt32.toUInt16.toUInt32.toInt32) - (48 : Int32))), .val (.int (((p0 &&& (65535 : Int32)).toUInt32.toUInt16.toUInt32.toInt32) - (97 : Int32))), .val (.int (0 : Int32)), .val (.int (1 : Int32)), .val (.int (1 : Int32)), .val (.int (f1 ((p0 &&& (65535 : Int32)).toUInt32.toUInt16.toUInt32.toInt32)))]) rfl k) ?_
        show own_Out p e below _ (T13.setTop (mkF m 75 #[.val (.int p0), .val (.int ((p0 &&& (65535 : Int32)).toUInt32.toUInt16.toUInt32.toInt32)), .val (.int (((p0 &&& (65535 : Int32)).toUInt32.toUInt16.toUInt32.toInt32) - (48 : Int32))), .val (.int (((p0 &&& (65535 : Int32)).toUInt32.toUInt16.toUInt32.toInt32) - (97 : Int32))), .val (.int (0 : Int32)), .val (.int (1 : Int32)), .val (.int (1 : Int32)), .val (.int (f1 ((p0 &&& (65535 : Int32)).toUInt32.toUInt16.toUInt32.toInt32)))] []))
        refine own_of (fun _ k => XS.iload X13.here hx rfl (hb hby at_75) rfl k) ?_
        show own_Out p e below _ (T13.setTop (mkF m 77 #[.val (.int p0), .val (.int ((p0 &&& (65535 : Int32)).toUInt32.toUInt16.toUInt32.toInt32)), .val (.int (((p0 &&& (65535 : Int32)).toUInt32.toUInt16.toUInt32.toInt32) - (48 : Int32))), .val (.int (((p0 &&& (65535 : Int32)).toUInt32.toUInt16.toUInt32.toInt32) - (97 : Int32))), .val (.int (0 : Int32)), .val (.int (1 : Int32)), .val (.int (1 : Int32)), .val (.int (f1 ((p0 &&& (65535 : Int32)).toUInt32.toUInt16.toUInt32.toInt32)))] [(.int (f1 ((p0 &&& (65535 : Int32)).toUInt32.toUInt16.toUInt32.toInt32)))]))
        refine own_of (fun _ k => XS.iload X13.here hx rfl (hb hby at_77) rfl k) ?_
        show own_Out p e below _ (T13.setTop (mkF m 79 #[.val (.int p0), .val (.int ((p0 &&& (65535 : Int32)).toUInt32.toUInt16.toUInt32.toInt32)), .val (.int (((p0 &&& (65535 : Int32)).toUInt32.toUInt16.toUInt32.toInt32) - (48 : Int32))), .val (.int (((p0 &&& (65535 : Int32)).toUInt32.toUInt16.toUInt32.toInt32) - (97 : Int32))), .val (.int (0 : Int32)), .val (.int (1 : Int32)), .val (.int (1 : Int32)), .val (.int (f1 ((p0 &&& (65535 : Int32)).toUInt32.toUInt16.toUInt32.toInt32)))] [(.int (1 : Int32)), (.int (f1 ((p0 &&& (65535 : Int32)).toUInt32.toUInt16.toUInt32.toInt32)))]))
        by_cases hc79_14 : (f1 ((p0 &&& (65535 : Int32)).toUInt32.toUInt16.toUInt32.toInt32)) = (1 : Int32)
        · skip
          refine own_of (fun _ k => XS.icmpYes X13.here hx rfl (pc0 := 79) (pc' := 84) rfl (hb hby at_79) rfl (teq hc79_14).1 (by decide) (by decide) k) ?_
          show own_Out p e below _ (T13.setTop (mkF m 84 #[.val (.int p0), .val (.int ((p0 &&& (65535 : Int32)).toUInt32.toUInt16.toUInt32.toInt32)), .val (.int (((p0 &&& (65535 : Int32)).toUInt32.toUInt16.toUInt32.toInt32) - (48 : Int32))), .val (.int (((p0 &&& (65535 : Int32)).toUInt32.toUInt16.toUInt32.toInt32) - (97 : Int32))), .val (.int (0 : Int32)), .val (.int (1 : Int32)), .val (.int (1 : Int32)), .val (.int (f1 ((p0 &&& (65535 : Int32)).toUInt32.toUInt16.toUInt32.toInt32)))] []))
          refine own_of (fun _ k => XS.iload X13.here hx rfl (hb hby at_84) rfl k) ?_
          show own_Out p e below _ (T13.setTop (mkF m 86 #[.val (.int p0), .val (.int ((p0 &&& (65535 : Int32)).toUInt32.toUInt16.toUInt32.toInt32)), .val (.int (((p0 &&& (65535 : Int32)).toUInt32.toUInt16.toUInt32.toInt32) - (48 : Int32))), .val (.int (((p0 &&& (65535 : Int32)).toUInt32.toUInt16.toUInt32.toInt32) - (97 : Int32))), .val (.int (0 : Int32)), .val (.int (1 : Int32)), .val (.int (1 : Int32)), .val (.int (f1 ((p0 &&& (65535 : Int32)).toUInt32.toUInt16.toUInt32.toInt32)))] [(.int (f1 ((p0 &&& (65535 : Int32)).toUInt32.toUInt16.toUInt32.toInt32)))]))
          refine own_of (fun _ k => XS.ifNo X13.here hx rfl (hb hby at_86) rfl ((if0 _ _).trans (feq (own_T6 (own_L3 hc79_14) (by decide) : ¬ ((f1 ((p0 &&& (65535 : Int32)).toUInt32.toUInt16.toUInt32.toInt32)) = (0 : Int32)))).1) k) ?_
          show own_Out p e below _ (T13.setTop (mkF m 89 #[.val (.int p0), .val (.int ((p0 &&& (65535 : Int32)).toUInt32.toUInt16.toUInt32.toInt32)), .val (.int (((p0 &&& (65535 : Int32)).toUInt32.toUInt16.toUInt32.toInt32) - (48 : Int32))), .val (.int (((p0 &&& (65535 : Int32)).toUInt32.toUInt16.toUInt32.toInt32) - (97 : Int32))), .val (.int (0 : Int32)), .val (.int (1 : Int32)), .val (.int (1 : Int32)), .val (.int (f1 ((p0 &&& (65535 : Int32)).toUInt32.toUInt16.toUInt32.toInt32)))] []))
          refine own_of (fun _ k => XS.iloadN X13.here hx rfl (hb hby at_89) rfl k) ?_
          show own_Out p e below _ (T13.setTop (mkF m 90 #[.val (.int p0), .val (.int ((p0 &&& (65535 : Int32)).toUInt32.toUInt16.toUInt32.toInt32)), .val (.int (((p0 &&& (65535 : Int32)).toUInt32.toUInt16.toUInt32.toInt32) - (48 : Int32))), .val (.int (((p0 &&& (65535 : Int32)).toUInt32.toUInt16.toUInt32.toInt32) - (97 : Int32))), .val (.int (0 : Int32)), .val (.int (1 : Int32)), .val (.int (1 : Int32)), .val (.int (f1 ((p0 &&& (65535 : Int32)).toUInt32.toUInt16.toUInt32.toInt32)))] [(.int ((p0 &&& (65535 : Int32)).toUInt32.toUInt16.toUInt32.toInt32))]))
          obtain ⟨_, _, ⟨T15, L15, k15, n15⟩, -, X15, ⟨Lc15, hQ15, l15, y15, z15⟩, st15⟩ := Jvm.LawKit.callS X13 hx (y := (⟨"com/example/ringd/ringd/core/Tags", "isPart", "(C)Z"⟩ : MethodName)) hown (mvT hZ (hw _ (List.mem_of_getElem? (i := 61) rfl))) (mvT hZ (hw _ (List.mem_of_getElem? (i := 62) rfl))) (mvT hZ (hw _ (List.mem_of_getElem? (i := 3) rfl))) (mvT hZ (hw _ (List.mem_of_getElem? (i := 63) rfl))) (by decide) (backOf (W := 0) (rm14 l Z a0 hw [] ((p0 &&& (65535 : Int32)).toUInt32.toUInt16.toUInt32.toInt32) h0 n0 Z0 (own_T6 (own_L3 hc79_14) (by decide) : ¬ ((f1 ((p0 &&& (65535 : Int32)).toUInt32.toUInt16.toUInt32.toInt32)) = (0 : Int32)))) hZ (hw _ (List.mem_of_getElem? (i := 63) rfl)) (hw _ (List.mem_of_getElem? (i := 3) rfl)) (by decide) (by decide)) (g := (mkF m 90 #[.val (.int p0), .val (.int ((p0 &&& (65535 : Int32)).toUInt32.toUInt16.toUInt32.toInt32)), .val (.int (((p0 &&& (65535 : Int32)).toUInt32.toUInt16.toUInt32.toInt32) - (48 : Int32))), .val (.int (((p0 &&& (65535 : Int32)).toUInt32.toUInt16.toUInt32.toInt32) - (97 : Int32))), .val (.int (0 : Int32)), .val (.int (1 : Int32)), .val (.int (1 : Int32)), .val (.int (f1 ((p0 &&& (65535 : Int32)).toUInt32.toUInt16.toUInt32.toInt32)))] [(.int ((p0 &&& (65535 : Int32)).toUInt32.toUInt16.toUInt32.toInt32))])) rfl (by rw [hml]; rfl) (argsL := [(.int ((p0 &&& (65535 : Int32)).toUInt32.toUInt16.toUInt32.toInt32))]) (rest := []) (lenOf pd_0 rfl) rfl (by show 2 * 0 + _ ≤ _; exact Nat.le_of_eq rfl) (hb hby at_90) (fun _ _ => ⟨rfl, hh13, (by decide : 0 + 0 ≤ _), (by decide : 0 + 0 ≤ _)⟩)
          dsimp only [Pt.U, Pt.locs, Pt.cells, Pt.slots] at X15 l15 y15 z15 st15 hQ15
          subst l15 y15 z15
          obtain ⟨rfl, N15q, hh15⟩ := hQ15
          have N15 := Fr.app N13 N15q
          refine own_of st15 ?_
          show own_Out p e below _ (T15.setTop (mkF m 93 #[.val (.int p0), .val (.int ((p0 &&& (65535 : Int32)).toUInt32.toUInt16.toUInt32.toInt32)), .val (.int (((p0 &&& (65535 : Int32)).toUInt32.toUInt16.toUInt32.toInt32) - (48 : Int32))), .val (.int (((p0 &&& (65535 : Int32)).toUInt32.toUInt16.toUInt32.toInt32) - (97 : Int32))), .val (.int (0 : Int32)), .val (.int (1 : Int32)), .val (.int (1 : Int32)), .val (.int (f1 ((p0 &&& (65535 : Int32)).toUInt32.toUInt16.toUInt32.toInt32)))] [(.int (1 : Int32))]))
          refine own_of (fun _ k => XS.ifYes X15.here hx rfl (pc0 := 93) (pc' := 98) rfl (hb hby at_93) rfl ((if0 _ _).trans (feq (by decide : ¬ ((1 : Int32) = (0 : Int32)))).2) (by decide) (by decide) k) ?_
          show own_Out p e below _ (T15.setTop (mkF m 98 #[.val (.int p0), .val (.int ((p0 &&& (65535 : Int32)).toUInt32.toUInt16.toUInt32.toInt32)), .val (.int (((p0 &&& (65535 : Int32)).toUInt32.toUInt16.toUInt32.toInt32) - (48 : Int32))), .val (.int (((p0 &&& (65535 : Int32)).toUInt32.toUInt16.toUInt32.toInt32) - (97 : Int32))), .val (.int (0 : Int32)), .val (.int (1 : Int32)), .val (.int (1 : Int32)), .val (.int (f1 ((p0 &&& (65535 : Int32)).toUInt32.toUInt16.toUInt32.toInt32)))] []))
          refine own_of (fun _ k => XS.iloadN X15.here hx rfl (hb hby at_98) rfl k) ?_
          show own_Out p e below _ (T15.setTop (mkF m 99 #[.val (.int p0), .val (.int ((p0 &&& (65535 : Int32)).toUInt32.toUInt16.toUInt32.toInt32)), .val (.int (((p0 &&& (65535 : Int32)).toUInt32.toUInt16.toUInt32.toInt32) - (48 : Int32))), .val (.int (((p0 &&& (65535 : Int32)).toUInt32.toUInt16.toUInt32.toInt32) - (97 : Int32))), .val (.int (0 : Int32)), .val (.int (1 : Int32)), .val (.int (1 : Int32)), .val (.int (f1 ((p0 &&& (65535 : Int32)).toUInt32.toUInt16.toUInt32.toInt32)))] [(.int ((p0 &&& (65535 : Int32)).toUInt32.toUInt16.toUInt32.toInt32))]))
          by_cases hc99_16 : (255 : Int32) < ((p0 &&& (65535 : Int32)).toUInt32.toUInt16.toUInt32.toInt32)
          · skip
            obtain ⟨_, _, ⟨T17, L17, k17, n17⟩, -, X17, ⟨Lc17, hQ17, l17, y17, z17⟩, st17⟩ := Jvm.LawKit.callS X15 hx (y := (⟨"java/lang/String", "valueOf", "(C)Ljava/lang/String;"⟩ : MethodName)) hown (mvT hZ (hw _ (List.mem_of_getElem? (i := 5) rfl))) (mvT hZ (hw _ (List.mem_of_getElem? (i := 6) rfl))) (mvT hZ (hw _ (List.mem_of_getElem? (i := 7) rfl))) (mvT hZ (hw _ (List.mem_of_getElem? (i := 8) rfl))) (by decide) (backOf (W := 0) (rm2u l Z a0 hw [] ((p0 &&& (65535 : Int32)).toUInt32.toUInt16.toUInt32.toInt32) cs h0 n0 Z0 S_cs hcs hc99_16 S_ad S_hi S_lo) hZ (hw _ (List.mem_of_getElem? (i := 8) rfl)) (hw _ (List.mem_of_getElem? (i := 7) rfl)) (by decide) (by decide)) (g := (mkF m 99 #[.val (.int p0), .val (.int ((p0 &&& (65535 : Int32)).toUInt32.toUInt16.toUInt32.toInt32)), .val (.int (((p0 &&& (65535 : Int32)).toUInt32.toUInt16.toUInt32.toInt32) - (48 : Int32))), .val (.int (((p0 &&& (65535 : Int32)).toUInt32.toUInt16.toUInt32.toInt32) - (97 : Int32))), .val (.int (0 : Int32)), .val (.int (1 : Int32)), .val (.int (1 : Int32)), .val (.int (f1 ((p0 &&& (65535 : Int32)).toUInt32.toUInt16.toUInt32.toInt32)))] [(.int ((p0 &&& (65535 : Int32)).toUInt32.toUInt16.toUInt32.toInt32))])) rfl (by rw [hml]; rfl) (argsL := [(.int ((p0 &&& (65535 : Int32)).toUInt32.toUInt16.toUInt32.toInt32))]) (rest := []) (lenOf pd_13 rfl) rfl (by show 2 * 0 + _ ≤ _; exact Nat.le_of_eq rfl) (hb hby at_99) (fun _ _ => ⟨rfl, hh15, (by decide : 0 + 2 ≤ _), (by decide : 0 + 6 ≤ _)⟩)
            dsimp only [Pt.U, Pt.locs, Pt.cells, Pt.slots] at X17 l17 y17 z17 st17 hQ17
            subst l17 y17 z17
            obtain ⟨r17, b17, k17, rfl, N17q, K17, E17, Fv17, Fc17, V17, hgr_17, hsr_17, hgb_17, hsb_17, hnrb_17⟩ := hQ17
            have N17 := Fr.app N15 N17q
            have S_java_lang_String_COMPACT_STRINGS_K17 := own_staK0 S_cs K17
            have S_jdk_internal_util_Preconditions_SIOOBE_FORMATTER_K17 := own_staK0 S_f K17
            have S_java_lang_StringUTF16__assertionsDisabled_K17 := own_staK0 S_ad K17
            have S_java_lang_StringUTF16_HI_BYTE_SHIFT_K17 := own_staK0 S_hi K17
            have S_java_lang_StringUTF16_LO_BYTE_SHIFT_K17 := own_staK0 S_lo K17
            have Zl17 : n0 ≤ T17.heap.size := Nat.le_trans Z0 K17.1
            refine own_of st17 ?_
            show own_Out p e below _ (T17.setTop (mkF m 102 #[.val (.int p0), .val (.int ((p0 &&& (65535 : Int32)).toUInt32.toUInt16.toUInt32.toInt32)), .val (.int (((p0 &&& (65535 : Int32)).toUInt32.toUInt16.toUInt32.toInt32) - (48 : Int32))), .val (.int (((p0 &&& (65535 : Int32)).toUInt32.toUInt16.toUInt32.toInt32) - (97 : Int32))), .val (.int (0 : Int32)), .val (.int (1 : Int32)), .val (.int (1 : Int32)), .val (.int (f1 ((p0 &&& (65535 : Int32)).toUInt32.toUInt16.toUInt32.toInt32)))] [(.ref r17)]))
            obtain ⟨_, _, ⟨T18, L18, k18, n18⟩, -, X18, ⟨Lc18, hQ18, l18, y18, z18⟩, st18⟩ := Jvm.LawKit.callS X17 hx (y := (⟨"com/example/ringd/ringd/core/Tags", "isTag", "(Ljava/lang/String;)Z"⟩ : MethodName)) hown (mvT hZ (hw _ (List.mem_of_getElem? (i := 31) rfl))) (mvT hZ (hw _ (List.mem_of_getElem? (i := 32) rfl))) (mvT hZ (hw _ (List.mem_of_getElem? (i := 3) rfl))) (mvT hZ (hw _ (List.mem_of_getElem? (i := 33) rfl))) (by decide) (backOf (W := 0) (rm7c1n2 l Z a0 hw [] r17 b17 k17 (((((p0 &&& (65535 : Int32)).toUInt32.toUInt16.toUInt32.toInt32) >>> ((0 : Int32) &&& 31)).toInt8.toInt32).toInt8.toInt32) (((((p0 &&& (65535 : Int32)).toUInt32.toUInt16.toUInt32.toInt32) >>> ((8 : Int32) &&& 31)).toInt8.toInt32).toInt8.toInt32) cs vf T17.heap n0 Zl17 E17 Fv17 Fc17 V17 S_java_lang_String_COMPACT_STRINGS_K17 hcs S_jdk_internal_util_Preconditions_SIOOBE_FORMATTER_K17 hvf S_java_lang_StringUTF16__assertionsDisabled_K17 S_java_lang_StringUTF16_HI_BYTE_SHIFT_K17 S_java_lang_StringUTF16_LO_BYTE_SHIFT_K17) hZ (hw _ (List.mem_of_getElem? (i := 33) rfl)) (hw _ (List.mem_of_getElem? (i := 3) rfl)) (by decide) (by decide)) (g := (mkF m 102 #[.val (.int p0), .val (.int ((p0 &&& (65535 : Int32)).toUInt32.toUInt16.toUInt32.toInt32)), .val (.int (((p0 &&& (65535 : Int32)).toUInt32.toUInt16.toUInt32.toInt32) - (48 : Int32))), .val (.int (((p0 &&& (65535 : Int32)).toUInt32.toUInt16.toUInt32.toInt32) - (97 : Int32))), .val (.int (0 : Int32)), .val (.int (1 : Int32)), .val (.int (1 : Int32)), .val (.int (f1 ((p0 &&& (65535 : Int32)).toUInt32.toUInt16.toUInt32.toInt32)))] [(.ref r17)])) rfl (by rw [hml]; rfl) (argsL := [(.ref r17)]) (rest := []) (lenOf pd_14 rfl) rfl (by show 2 * 0 + _ ≤ _; exact Nat.le_of_eq rfl) (hb hby at_102) (fun _ _ => ⟨rfl, rfl, (by decide : 2 + 0 ≤ _), (by decide : 6 + 0 ≤ _)⟩)
            dsimp only [Pt.U, Pt.locs, Pt.cells, Pt.slots] at X18 l18 y18 z18 st18 hQ18
            subst l18 y18 z18
            obtain ⟨rfl, N18q, hh18⟩ := hQ18
            have N18 := Fr.app N17 N18q
            refine own_of st18 ?_
            show own_Out p e below _ (T18.setTop (mkF m 105 #[.val (.int p0), .val (.int ((p0 &&& (65535 : Int32)).toUInt32.toUInt16.toUInt32.toInt32)), .val (.int (((p0 &&& (65535 : Int32)).toUInt32.toUInt16.toUInt32.toInt32) - (48 : Int32))), .val (.int (((p0 &&& (65535 : Int32)).toUInt32.toUInt16.toUInt32.toInt32) - (97 : Int32))), .val (.int (0 : Int32)), .val (.int (1 : Int32)), .val (.int (1 : Int32)), .val (.int (f1 ((p0 &&& (65535 : Int32)).toUInt32.toUInt16.toUInt32.toInt32)))] [(.int (f_isTagc1n2 (((((p0 &&& (65535 : Int32)).toUInt32.toUInt16.toUInt32.toInt32) >>> ((0 : Int32) &&& 31)).toInt8.toInt32).toInt8.toInt32) (((((p0 &&& (65535 : Int32)).toUInt32.toUInt16.toUInt32.toInt32) >>> ((8 : Int32) &&& 31)).toInt8.toInt32).toInt8.toInt32) cs))]))
            refine own_of (fun _ k => XS.iload X18.here hx rfl (hb hby at_105) rfl k) ?_
            show own_Out p e below _ (T18.setTop (mkF m 107 #[.val (.int p0), .val (.int ((p0 &&& (65535 : Int32)).toUInt32.toUInt16.toUInt32.toInt32)), .val (.int (((p0 &&& (65535 : Int32)).toUInt32.toUInt16.toUInt32.toInt32) - (48 : Int32))), .val (.int (((p0 &&& (65535 : Int32)).toUInt32.toUInt16.toUInt32.toInt32) - (97 : Int32))), .val (.int (0 : Int32)), .val (.int (1 : Int32)), .val (.int (1 : Int32)), .val (.int (f1 ((p0 &&& (65535 : Int32)).toUInt32.toUInt16.toUInt32.toInt32)))] [(.int (f1 ((p0 &&& (65535 : Int32)).toUInt32.toUInt16.toUInt32.toInt32))), (.int (f_isTagc1n2 (((((p0 &&& (65535 : Int32)).toUInt32.toUInt16.toUInt32.toInt32) >>> ((0 : Int32) &&& 31)).toInt8.toInt32).toInt8.toInt32) (((((p0 &&& (65535 : Int32)).toUInt32.toUInt16.toUInt32.toInt32) >>> ((8 : Int32) &&& 31)).toInt8.toInt32).toInt8.toInt32) cs))]))
            by_cases hc107_19 : (f_isTagc1n2 (((((p0 &&& (65535 : Int32)).toUInt32.toUInt16.toUInt32.toInt32) >>> ((0 : Int32) &&& 31)).toInt8.toInt32).toInt8.toInt32) (((((p0 &&& (65535 : Int32)).toUInt32.toUInt16.toUInt32.toInt32) >>> ((8 : Int32) &&& 31)).toInt8.toInt32).toInt8.toInt32) cs) = (f1 ((p0 &&& (65535 : Int32)).toUInt32.toUInt16.toUInt32.toInt32))
            · skip
              refine own_of (fun _ k => XS.icmpNo X18.here hx rfl (hb hby at_107) rfl (teq hc107_19).2 k) ?_
              show own_Out p e below _ (T18.setTop (mkF m 110 #[.val (.int p0), .val (.int ((p0 &&& (65535 : Int32)).toUInt32.toUInt16.toUInt32.toInt32)), .val (.int (((p0 &&& (65535 : Int32)).toUInt32.toUInt16.toUInt32.toInt32) - (48 : Int32))), .val (.int (((p0 &&& (65535 : Int32)).toUInt32.toUInt16.toUInt32.toInt32) - (97 : Int32))), .val (.int (0 : Int32)), .val (.int (1 : Int32)), .val (.int (1 : Int32)), .val (.int (f1 ((p0 &&& (65535 : Int32)).toUInt32.toUInt16.toUInt32.toInt32)))] []))
              refine own_of (fun _ k => XS.iconst X18.here hx rfl (hb hby at_110) k) ?_
              show own_Out p e below _ (T18.setTop (mkF m 111 #[.val (.int p0), .val (.int ((p0 &&& (65535 : Int32)).toUInt32.toUInt16.toUInt32.toInt32)), .val (.int (((p0 &&& (65535 : Int32)).toUInt32.toUInt16.toUInt32.toInt32) - (48 : Int32))), .val (.int (((p0 &&& (65535 : Int32)).toUInt32.toUInt16.toUInt32.toInt32) - (97 : Int32))), .val (.int (0 : Int32)), .val (.int (1 : Int32)), .val (.int (1 : Int32)), .val (.int (f1 ((p0 &&& (65535 : Int32)).toUInt32.toUInt16.toUInt32.toInt32)))] [(.int (1 : Int32))]))
              refine own_of (fun _ k => XS.goto X18.here hx rfl (pc0 := 111) (pc' := 115) rfl (hb hby at_111) (by decide) (by decide) k) ?_
              show own_Out p e below _ (T18.setTop (mkF m 115 #[.val (.int p0), .val (.int ((p0 &&& (65535 : Int32)).toUInt32.toUInt16.toUInt32.toInt32)), .val (.int (((p0 &&& (65535 : Int32)).toUInt32.toUInt16.toUInt32.toInt32) - (48 : Int32))), .val (.int (((p0 &&& (65535 : Int32)).toUInt32.toUInt16.toUInt32.toInt32) - (97 : Int32))), .val (.int (0 : Int32)), .val (.int (1 : Int32)), .val (.int (1 : Int32)), .val (.int (f1 ((p0 &&& (65535 : Int32)).toUInt32.toUInt16.toUInt32.toInt32)))] [(.int (1 : Int32))]))
              exact own_outN X18 hx hlk (t := .boolean) hret (by simp) (hb hby at_115) (z' := (1 : Int32)) rfl (Q := Q0 Z p0 cs vf h0 n0) ⟨rfl, N18⟩ (by decide) (by decide)
            · skip
              refine own_of (fun _ k => XS.icmpYes X18.here hx rfl (pc0 := 107) (pc' := 114) rfl (hb hby at_107) rfl (feq hc107_19).2 (by decide) (by decide) k) ?_
              show own_Out p e below _ (T18.setTop (mkF m 114 #[.val (.int p0), .val (.int ((p0 &&& (65535 : Int32)).toUInt32.toUInt16.toUInt32.toInt32)), .val (.int (((p0 &&& (65535 : Int32)).toUInt32.toUInt16.toUInt32.toInt32) - (48 : Int32))), .val (.int (((p0 &&& (65535 : Int32)).toUInt32.toUInt16.toUInt32.toInt32) - (97 : Int32))), .val (.int (0 : Int32)), .val (.int (1 : Int32)), .val (.int (1 : Int32)), .val (.int (f1 ((p0 &&& (65535 : Int32)).toUInt32.toUInt16.toUInt32.toInt32)))] []))
              refine own_of (fun _ k => XS.iconst X18.here hx rfl (hb hby at_114) k) ?_
              show own_Out p e below _ (T18.setTop (mkF m 115 #[.val (.int p0), .val (.int ((p0 &&& (65535 : Int32)).toUInt32.toUInt16.toUInt32.toInt32)), .val (.int (((p0 &&& (65535 : Int32)).toUInt32.toUInt16.toUInt32.toInt32) - (48 : Int32))), .val (.int (((p0 &&& (65535 : Int32)).toUInt32.toUInt16.toUInt32.toInt32) - (97 : Int32))), .val (.int (0 : Int32)), .val (.int (1 : Int32)), .val (.int (1 : Int32)), .val (.int (f1 ((p0 &&& (65535 : Int32)).toUInt32.toUInt16.toUInt32.toInt32)))] [(.int (0 : Int32))]))
              exact (dead0_3 p0 hcs hc18_1 hc36_2 hc42_12 hc79_14 hc99_16 hc107_19).elim
          · skip
            obtain ⟨_, _, ⟨T20, L20, k20, n20⟩, -, X20, ⟨Lc20, hQ20, l20, y20, z20⟩, st20⟩ := Jvm.LawKit.callS X15 hx (y := (⟨"java/lang/String", "valueOf", "(C)Ljava/lang/String;"⟩ : MethodName)) hown (mvT hZ (hw _ (List.mem_of_getElem? (i := 5) rfl))) (mvT hZ (hw _ (List.mem_of_getElem? (i := 6) rfl))) (mvT hZ (hw _ (List.mem_of_getElem? (i := 7) rfl))) (mvT hZ (hw _ (List.mem_of_getElem? (i := 8) rfl))) (by decide) (backOf (W := 0) (rm2l l Z a0 hw [] ((p0 &&& (65535 : Int32)).toUInt32.toUInt16.toUInt32.toInt32) cs h0 n0 Z0 S_cs hcs hc99_16) hZ (hw _ (List.mem_of_getElem? (i := 8) rfl)) (hw _ (List.mem_of_getElem? (i := 7) rfl)) (by decide) (by decide)) (g := (mkF m 99 #[.val (.int p0), .val (.int ((p0 &&& (65535 : Int32)).toUInt32.toUInt16.toUInt32.toInt32)), .val (.int (((p0 &&& (65535 : Int32)).toUInt32.toUInt16.toUInt32.toInt32) - (48 : Int32))), .val (.int (((p0 &&& (65535 : Int32)).toUInt32.toUInt16.toUInt32.toInt32) - (97 : Int32))), .val (.int (0 : Int32)), .val (.int (1 : Int32)), .val (.int (1 : Int32)), .val (.int (f1 ((p0 &&& (65535 : Int32)).toUInt32.toUInt16.toUInt32.toInt32)))] [(.int ((p0 &&& (65535 : Int32)).toUInt32.toUInt16.toUInt32.toInt32))])) rfl (by rw [hml]; rfl) (argsL := [(.int ((p0 &&& (65535 : Int32)).toUInt32.toUInt16.toUInt32.toInt32))]) (rest := []) (lenOf pd_13 rfl) rfl (by show 2 * 0 + _ ≤ _; exact Nat.le_of_eq rfl) (hb hby at_99) (fun _ _ => ⟨rfl, hh15, (by decide : 0 + 2 ≤ _), (by decide : 0 + 5 ≤ _)⟩)
            dsimp only [Pt.U, Pt.locs, Pt.cells, Pt.slots] at X20 l20 y20 z20 st20 hQ20
            subst l20 y20 z20
            obtain ⟨r20, b20, k20, rfl, N20q, K20, E20, Fv20, Fc20, V20, hgr_20, hsr_20, hgb_20, hsb_20, hnrb_20⟩ := hQ20
            have N20 := Fr.app N15 N20q
            have S_java_lang_String_COMPACT_STRINGS_K20 := own_staK0 S_cs K20
            have S_jdk_internal_util_Preconditions_SIOOBE_FORMATTER_K20 := own_staK0 S_f K20
            have S_java_lang_StringUTF16__assertionsDisabled_K20 := own_staK0 S_ad K20
            have S_java_lang_StringUTF16_HI_BYTE_SHIFT_K20 := own_staK0 S_hi K20
            have S_java_lang_StringUTF16_LO_BYTE_SHIFT_K20 := own_staK0 S_lo K20
            have Zl20 : n0 ≤ T20.heap.size := Nat.le_trans Z0 K20.1
            refine own_of st20 ?_
            show own_Out p e below _ (T20.setTop (mkF m 102 #[.val (.int p0), .val (.int ((p0 &&& (65535 : Int32)).toUInt32.toUInt16.toUInt32.toInt32)), .val (.int (((p0 &&& (65535 : Int32)).toUInt32.toUInt16.toUInt32.toInt32) - (48 : Int32))), .val (.int (((p0 &&& (65535 : Int32)).toUInt32.toUInt16.toUInt32.toInt32) - (97 : Int32))), .val (.int (0 : Int32)), .val (.int (1 : Int32)), .val (.int (1 : Int32)), .val (.int (f1 ((p0 &&& (65535 : Int32)).toUInt32.toUInt16.toUInt32.toInt32)))] [(.ref r20)]))
            obtain ⟨_, _, ⟨T21, L21, k21, n21⟩, -, X21, ⟨Lc21, hQ21, l21, y21, z21⟩, st21⟩ := Jvm.LawKit.callS X20 hx (y := (⟨"com/example/ringd/ringd/core/Tags", "isTag", "(Ljava/lang/String;)Z"⟩ : MethodName)) hown (mvT hZ (hw _ (List.mem_of_getElem? (i := 31) rfl))) (mvT hZ (hw _ (List.mem_of_getElem? (i := 32) rfl))) (mvT hZ (hw _ (List.mem_of_getElem? (i := 3) rfl))) (mvT hZ (hw _ (List.mem_of_getElem? (i := 33) rfl))) (by decide) (backOf (W := 0) (rm7c0n1 l Z a0 hw [] r20 b20 k20 ((((p0 &&& (65535 : Int32)).toUInt32.toUInt16.toUInt32.toInt32).toInt8.toInt32).toInt8.toInt32) cs vf T20.heap n0 Zl20 E20 Fv20 Fc20 V20 S_java_lang_String_COMPACT_STRINGS_K20 hcs S_jdk_internal_util_Preconditions_SIOOBE_FORMATTER_K20 hvf) hZ (hw _ (List.mem_of_getElem? (i := 33) rfl)) (hw _ (List.mem_of_getElem? (i := 3) rfl)) (by decide) (by decide)) (g := (mkF m 102 #[.val (.int p0), .val (.int ((p0 &&& (65535 : Int32)).toUInt32.toUInt16.toUInt32.toInt32)), .val (.int (((p0 &&& (65535 : Int32)).toUInt32.toUInt16.toUInt32.toInt32) - (48 : Int32))), .val (.int (((p0 &&& (65535 : Int32)).toUInt32.toUInt16.toUInt32.toInt32) - (97 : Int32))), .val (.int (0 : Int32)), .val (.int (1 : Int32)), .val (.int (1 : Int32)), .val (.int (f1 ((p0 &&& (65535 : Int32)).toUInt32.toUInt16.toUInt32.toInt32)))] [(.ref r20)])) rfl (by rw [hml]; rfl) (argsL := [(.ref r20)]) (rest := []) (lenOf pd_14 rfl) rfl (by show 2 * 0 + _ ≤ _; exact Nat.le_of_eq rfl) (hb hby at_102) (fun _ _ => ⟨rfl, rfl, (by decide : 2 + 0 ≤ _), (by decide : 5 + 0 ≤ _)⟩)
            dsimp only [Pt.U, Pt.locs, Pt.cells, Pt.slots] at X21 l21 y21 z21 st21 hQ21
            subst l21 y21 z21
            obtain ⟨rfl, N21q, hh21⟩ := hQ21
            have N21 := Fr.app N20 N21q
            refine own_of st21 ?_
            show own_Out p e below _ (T21.setTop (mkF m 105 #[.val (.int p0), .val (.int ((p0 &&& (65535 : Int32)).toUInt32.toUInt16.toUInt32.toInt32)), .val (.int (((p0 &&& (65535 : Int32)).toUInt32.toUInt16.toUInt32.toInt32) - (48 : Int32))), .val (.int (((p0 &&& (65535 : Int32)).toUInt32.toUInt16.toUInt32.toInt32) - (97 : Int32))), .val (.int (0 : Int32)), .val (.int (1 : Int32)), .val (.int (1 : Int32)), .val (.int (f1 ((p0 &&& (65535 : Int32)).toUInt32.toUInt16.toUInt32.toInt32)))] [(.int (f_isTagc0n1 ((((p0 &&& (65535 : Int32)).toUInt32.toUInt16.toUInt32.toInt32).toInt8.toInt32).toInt8.toInt32) cs))]))
            refine own_of (fun _ k => XS.iload X21.here hx rfl (hb hby at_105) rfl k) ?_
            show own_Out p e below _ (T21.setTop (mkF m 107 #[.val (.int p0), .val (.int ((p0 &&& (65535 : Int32)).toUInt32.toUInt16.toUInt32.toInt32)), .val (.int (((p0 &&& (65535 : Int32)).toUInt32.toUInt16.toUInt32.toInt32) - (48 : Int32))), .val (.int (((p0 &&& (65535 : Int32)).toUInt32.toUInt16.toUInt32.toInt32) - (97 : Int32))), .val (.int (0 : Int32)), .val (.int (1 : Int32)), .val (.int (1 : Int32)), .val (.int (f1 ((p0 &&& (65535 : Int32)).toUInt32.toUInt16.toUInt32.toInt32)))] [(.int (f1 ((p0 &&& (65535 : Int32)).toUInt32.toUInt16.toUInt32.toInt32))), (.int (f_isTagc0n1 ((((p0 &&& (65535 : Int32)).toUInt32.toUInt16.toUInt32.toInt32).toInt8.toInt32).toInt8.toInt32) cs))]))
            by_cases hc107_22 : (f_isTagc0n1 ((((p0 &&& (65535 : Int32)).toUInt32.toUInt16.toUInt32.toInt32).toInt8.toInt32).toInt8.toInt32) cs) = (f1 ((p0 &&& (65535 : Int32)).toUInt32.toUInt16.toUInt32.toInt32))
            · skip
              refine own_of (fun _ k => XS.icmpNo X21.here hx rfl (hb hby at_107) rfl (teq hc107_22).2 k) ?_
              show own_Out p e below _ (T21.setTop (mkF m 110 #[.val (.int p0), .val (.int ((p0 &&& (65535 : Int32)).toUInt32.toUInt16.toUInt32.toInt32)), .val (.int (((p0 &&& (65535 : Int32)).toUInt32.toUInt16.toUInt32.toInt32) - (48 : Int32))), .val (.int (((p0 &&& (65535 : Int32)).toUInt32.toUInt16.toUInt32.toInt32) - (97 : Int32))), .val (.int (0 : Int32)), .val (.int (1 : Int32)), .val (.int (1 : Int32)), .val (.int (f1 ((p0 &&& (65535 : Int32)).toUInt32.toUInt16.toUInt32.toInt32)))] []))
              refine own_of (fun _ k => XS.iconst X21.here hx rfl (hb hby at_110) k) ?_
              show own_Out p e below _ (T21.setTop (mkF m 111 #[.val (.int p0), .val (.int ((p0 &&& (65535 : Int32)).toUInt32.toUInt16.toUInt32.toInt32)), .val (.int (((p0 &&& (65535 : Int32)).toUInt32.toUInt16.toUInt32.toInt32) - (48 : Int32))), .val (.int (((p0 &&& (65535 : Int32)).toUInt32.toUInt16.toUInt32.toInt32) - (97 : Int32))), .val (.int (0 : Int32)), .val (.int (1 : Int32)), .val (.int (1 : Int32)), .val (.int (f1 ((p0 &&& (65535 : Int32)).toUInt32.toUInt16.toUInt32.toInt32)))] [(.int (1 : Int32))]))
              refine own_of (fun _ k => XS.goto X21.here hx rfl (pc0 := 111) (pc' := 115) rfl (hb hby at_111) (by decide) (by decide) k) ?_
              show own_Out p e below _ (T21.setTop (mkF m 115 #[.val (.int p0), .val (.int ((p0 &&& (65535 : Int32)).toUInt32.toUInt16.toUInt32.toInt32)), .val (.int (((p0 &&& (65535 : Int32)).toUInt32.toUInt16.toUInt32.toInt32) - (48 : Int32))), .val (.int (((p0 &&& (65535 : Int32)).toUInt32.toUInt16.toUInt32.toInt32) - (97 : Int32))), .val (.int (0 : Int32)), .val (.int (1 : Int32)), .val (.int (1 : Int32)), .val (.int (f1 ((p0 &&& (65535 : Int32)).toUInt32.toUInt16.toUInt32.toInt32)))] [(.int (1 : Int32))]))
              exact own_outN X21 hx hlk (t := .boolean) hret (by simp) (hb hby at_115) (z' := (1 : Int32)) rfl (Q := Q0 Z p0 cs vf h0 n0) ⟨rfl, N21⟩ (by decide) (by decide)
            · skip
              refine own_of (fun _ k => XS.icmpYes X21.here hx rfl (pc0 := 107) (pc' := 114) rfl (hb hby at_107) rfl (feq hc107_22).2 (by decide) (by decide) k) ?_
              show own_Out p e below _ (T21.setTop (mkF m 114 #[.val (.int p0), .val (.int ((p0 &&& (65535 : Int32)).toUInt32.toUInt16.toUInt32.toInt32)), .val (.int (((p0 &&& (65535 : Int32)).toUInt32.toUInt16.toUInt32.toInt32) - (48 : Int32))), .val (.int (((p0 &&& (65535 : Int32)).toUInt32.toUInt16.toUInt32.toInt32) - (97 : Int32))), .val (.int (0 : Int32)), .val (.int (1 : Int32)), .val (.int (1 : Int32)), .val (.int (f1 ((p0 &&& (65535 : Int32)).toUInt32.toUInt16.toUInt32.toInt32)))] []))
              refine own_of (fun _ k => XS.iconst X21.here hx rfl (hb hby at_114) k) ?_
              show own_Out p e below _ (T21.setTop (mkF m 115 #[.val (.int p0), .val (.int ((p0 &&& (65535 : Int32)).toUInt32.toUInt16.toUInt32.toInt32)), .val (.int (((p0 &&& (65535 : Int32)).toUInt32.toUInt16.toUInt32.toInt32) - (48 : Int32))), .val (.int (((p0 &&& (65535 : Int32)).toUInt32.toUInt16.toUInt32.toInt32) - (97 : Int32))), .val (.int (0 : Int32)), .val (.int (1 : Int32)), .val (.int (1 : Int32)), .val (.int (f1 ((p0 &&& (65535 : Int32)).toUInt32.toUInt16.toUInt32.toInt32)))] [(.int (0 : Int32))]))
              exact (dead0_4 p0 hcs hc18_1 hc36_2 hc42_12 hc79_14 hc99_16 hc107_22).elim
        · skip
          refine own_of (fun _ k => XS.icmpNo X13.here hx rfl (hb hby at_79) rfl (feq hc79_14).1 k) ?_
          show own_Out p e below _ (T13.setTop (mkF m 82 #[.val (.int p0), .val (.int ((p0 &&& (65535 : Int32)).toUInt32.toUInt16.toUInt32.toInt32)), .val (.int (((p0 &&& (65535 : Int32)).toUInt32.toUInt16.toUInt32.toInt32) - (48 : Int32))), .val (.int (((p0 &&& (65535 : Int32)).toUInt32.toUInt16.toUInt32.toInt32) - (97 : Int32))), .val (.int (0 : Int32)), .val (.int (1 : Int32)), .val (.int (1 : Int32)), .val (.int (f1 ((p0 &&& (65535 : Int32)).toUInt32.toUInt16.toUInt32.toInt32)))] []))
          refine own_of (fun _ k => XS.iconst X13.here hx rfl (hb hby at_82) k) ?_
          show own_Out p e below _ (T13.setTop (mkF m 83 #[.val (.int p0), .val (.int ((p0 &&& (65535 : Int32)).toUInt32.toUInt16.toUInt32.toInt32)), .val (.int (((p0 &&& (65535 : Int32)).toUInt32.toUInt16.toUInt32.toInt32) - (48 : Int32))), .val (.int (((p0 &&& (65535 : Int32)).toUInt32.toUInt16.toUInt32.toInt32) - (97 : Int32))), .val (.int (0 : Int32)), .val (.int (1 : Int32)), .val (.int (1 : Int32)), .val (.int (f1 ((p0 &&& (65535 : Int32)).toUInt32.toUInt16.toUInt32.toInt32)))] [(.int (0 : Int32))]))
          exact (dead0_5 p0 hcs hc18_1 hc36_2 hc42_12 hc79_14).elim
      · skip
        refine own_of (fun _ k => XS.icmpYes X0.here hx rfl (pc0 := 42) (pc' := 49) rfl (hb hby at_42) rfl (flt hc42_12).2.1 (by decide) (by decide) k) ?_
        show own_Out p e below _ (s₁.setTop (mkF m 49 #[.val (.int p0), .val (.int ((p0 &&& (65535 : Int32)).toUInt32.toUInt16.toUInt32.toInt32)), .val (.int (((p0 &&& (65535 : Int32)).toUInt32.toUInt16.toUInt32.toInt32) - (48 : Int32))), .val (.int (((p0 &&& (65535 : Int32)).toUInt32.toUInt16.toUInt32.toInt32) - (97 : Int32))), .val (.int (0 : Int32)), .unset, .unset, .unset] []))
        refine own_of (fun _ k => XS.iconst X0.here hx rfl (hb hby at_49) k) ?_
        show own_Out p e below _ (s₁.setTop (mkF m 50 #[.val (.int p0), .val (.int ((p0 &&& (65535 : Int32)).toUInt32.toUInt16.toUInt32.toInt32)), .val (.int (((p0 &&& (65535 : Int32)).toUInt32.toUInt16.toUInt32.toInt32) - (48 : Int32))), .val (.int (((p0 &&& (65535 : Int32)).toUInt32.toUInt16.toUInt32.toInt32) - (97 : Int32))), .val (.int (0 : Int32)), .unset, .unset, .unset] [(.int (0 : Int32))]))
        refine own_of (fun _ k => XS.istore X0.here hx rfl (hb hby at_50) rfl (l' := #[.val (.int p0), .val (.int ((p0 &&& (65535 : Int32)).toUInt32.toUInt16.toUInt32.toInt32)), .val (.int (((p0 &&& (65535 : Int32)).toUInt32.toUInt16.toUInt32.toInt32) - (48 : Int32))), .val (.int (((p0 &&& (65535 : Int32)).toUInt32.toUInt16.toUInt32.toInt32) - (97 : Int32))), .val (.int (0 : Int32)), .val (.int (0 : Int32)), .unset, .unset]) rfl k) ?_
        show own_Out p e below _ (s₁.setTop (mkF m 52 #[.val (.int p0), .val (.int ((p0 &&& (65535 : Int32)).toUInt32.toUInt16.toUInt32.toInt32)), .val (.int (((p0 &&& (65535 : Int32)).toUInt32.toUInt16.toUInt32.toInt32) - (48 : Int32))), .val (.int (((p0 &&& (65535 : Int32)).toUInt32.toUInt16.toUInt32.toInt32) - (97 : Int32))), .val (.int (0 : Int32)), .val (.int (0 : Int32)), .unset, .unset] []))
        refine own_of (fun _ k => XS.iload X0.here hx rfl (hb hby at_52) rfl k) ?_
        show own_Out p e below _ (s₁.setTop (mkF m 54 #[.val (.int p0), .val (.int ((p0 &&& (65535 : Int32)).toUInt32.toUInt16.toUInt32.toInt32)), .val (.int (((p0 &&& (65535 : Int32)).toUInt32.toUInt16.toUInt32.toInt32) - (48 : Int32))), .val (.int (((p0 &&& (65535 : Int32)).toUInt32.toUInt16.toUInt32.toInt32) - (97 : Int32))), .val (.int (0 : Int32)), .val (.int (0 : Int32)), .unset, .unset] [(.int (0 : Int32))]))
        refine own_of (fun _ k => XS.ifNo X0.here hx rfl (hb hby at_54) rfl ((if0 _ _).trans (teq (by decide : (0 : Int32) = (0 : Int32))).2) k) ?_
        show own_Out p e below _ (s₁.setTop (mkF m 57 #[.val (.int p0), .val (.int ((p0 &&& (65535 : Int32)).toUInt32.toUInt16.toUInt32.toInt32)), .val (.int (((p0 &&& (65535 : Int32)).toUInt32.toUInt16.toUInt32.toInt32) - (48 : Int32))), .val (.int (((p0 &&& (65535 : Int32)).toUInt32.toUInt16.toUInt32.toInt32) - (97 : Int32))), .val (.int (0 : Int32)), .val (.int (0 : Int32)), .unset, .unset] []))
        refine own_of (fun _ k => XS.iload X0.here hx rfl (hb hby at_57) rfl k) ?_
        show own_Out p e below _ (s₁.setTop (mkF m 59 #[.val (.int p0), .val (.int ((p0 &&& (65535 : Int32)).toUInt32.toUInt16.toUInt32.toInt32)), .val (.int (((p0 &&& (65535 : Int32)).toUInt32.toUInt16.toUInt32.toInt32) - (48 : Int32))), .val (.int (((p0 &&& (65535 : Int32)).toUInt32.toUInt16.toUInt32.toInt32) - (97 : Int32))), .val (.int (0 : Int32)), .val (.int (0 : Int32)), .unset, .unset] [(.int (0 : Int32))]))
        refine own_of (fun _ k => XS.ifYes X0.here hx rfl (pc0 := 59) (pc' := 66) rfl (hb hby at_59) rfl ((if0 _ _).trans (teq (by decide : (0 : Int32) = (0 : Int32))).1) (by decide) (by decide) k) ?_
        show own_Out p e below _ (s₁.setTop (mkF m 66 #[.val (.int p0), .val (.int ((p0 &&& (65535 : Int32)).toUInt32.toUInt16.toUInt32.toInt32)), .val (.int (((p0 &&& (65535 : Int32)).toUInt32.toUInt16.toUInt32.toInt32) - (48 : Int32))), .val (.int (((p0 &&& (65535 : Int32)).toUInt32.toUInt16.toUInt32.toInt32) - (97 : Int32))), .val (.int (0 : Int32)), .val (.int (0 : Int32)), .unset, .unset] []))
        refine own_of (fun _ k => XS.iconst X0.here hx rfl (hb hby at_66) k) ?_
        show own_Out p e below _ (s₁.setTop (mkF m 67 #[.val (.int p0), .val (.int ((p0 &&& (65535 : Int32)).toUInt32.toUInt16.toUInt32.toInt32)), .val (.int (((p0 &&& (65535 : Int32)).toUInt32.toUInt16.toUInt32.toInt32) - (48 : Int32))), .val (.int (((p0 &&& (65535 : Int32)).toUInt32.toUInt16.toUInt32.toInt32) - (97 : Int32))), .val (.int (0 : Int32)), .val (.int (0 : Int32)), .unset, .unset] [(.int (0 : Int32))]))
        refine own_of (fun _ k => XS.istore X0.here hx rfl (hb hby at_67) rfl (l' := #[.val (.int p0), .val (.int ((p0 &&& (65535 : Int32)).toUInt32.toUInt16.toUInt32.toInt32)), .val (.int (((p0 &&& (65535 : Int32)).toUInt32.toUInt16.toUInt32.toInt32) - (48 : Int32))), .val (.int (((p0 &&& (65535 : Int32)).toUInt32.toUInt16.toUInt32.toInt32) - (97 : Int32))), .val (.int (0 : Int32)), .val (.int (0 : Int32)), .val (.int (0 : Int32)), .unset]) rfl k) ?_
        show own_Out p e below _ (s₁.setTop (mkF m 69 #[.val (.int p0), .val (.int ((p0 &&& (65535 : Int32)).toUInt32.toUInt16.toUInt32.toInt32)), .val (.int (((p0 &&& (65535 : Int32)).toUInt32.toUInt16.toUInt32.toInt32) - (48 : Int32))), .val (.int (((p0 &&& (65535 : Int32)).toUInt32.toUInt16.toUInt32.toInt32) - (97 : Int32))), .val (.int (0 : Int32)), .val (.int (0 : Int32)), .val (.int (0 : Int32)), .unset] []))
        refine own_of (fun _ k => XS.iloadN X0.here hx rfl (hb hby at_69) rfl k) ?_
        show own_Out p e below _ (s₁.setTop (mkF m 70 #[.val (.int p0), .val (.int ((p0 &&& (65535 : Int32)).toUInt32.toUInt16.toUInt32.toInt32)), .val (.int (((p0 &&& (65535 : Int32)).toUInt32.toUInt16.toUInt32.toInt32) - (48 : Int32))), .val (.int (((p0 &&& (65535 : Int32)).toUInt32.toUInt16.toUInt32.toInt32) - (97 : Int32))), .val (.int (0 : Int32)), .val (.int (0 : Int32)), .val (.int (0 : Int32)), .unset] [(.int ((p0 &&& (65535 : Int32)).toUInt32.toUInt16.toUInt32.toInt32))]))
        obtain ⟨_, _, ⟨T23, L23, k23, n23⟩, -, X23, ⟨Lc23, hQ23, l23, y23, z23⟩, st23⟩ := Jvm.LawKit.callS X0 hx (y := (⟨"com/example/ringd/ringd/core/Tags", "isStart", "(C)Z"⟩ : MethodName)) hown (mvT hZ (hw _ (List.mem_of_getElem? (i := 1) rfl))) (mvT hZ (hw _ (List.mem_of_getElem? (i := 2) rfl))) (mvT hZ (hw _ (List.mem_of_getElem? (i := 3) rfl))) (mvT hZ (hw _ (List.mem_of_getElem? (i := 4) rfl))) (by decide) (backOf (W := 0) (rm1 l Z a0 hw [] ((p0 &&& (65535 : Int32)).toUInt32.toUInt16.toUInt32.toInt32) h0 n0 Z0 ) hZ (hw _ (List.mem_of_getElem? (i := 4) rfl)) (hw _ (List.mem_of_getElem? (i := 3) rfl)) (by decide) (by decide)) (g := (mkF m 70 #[.val (.int p0), .val (.int ((p0 &&& (65535 : Int32)).toUInt32.toUInt16.toUInt32.toInt32)), .val (.int (((p0 &&& (65535 : Int32)).toUInt32.toUInt16.toUInt32.toInt32) - (48 : Int32))), .val (.int (((p0 &&& (65535 : Int32)).toUInt32.toUInt16.toUInt32.toInt32) - (97 : Int32))), .val (.int (0 : Int32)), .val (.int (0 : Int32)), .val (.int (0 : Int32)), .unset] [(.int ((p0 &&& (65535 : Int32)).toUInt32.toUInt16.toUInt32.toInt32))])) rfl (by rw [hml]; rfl) (argsL := [(.int ((p0 &&& (65535 : Int32)).toUInt32.toUInt16.toUInt32.toInt32))]) (rest := []) (lenOf pd_0 rfl) rfl (by show 2 * 0 + _ ≤ _; exact Nat.le_of_eq rfl) (hb hby at_70) (fun _ _ => ⟨rfl, e0, (by decide : 0 + 0 ≤ _), (by decide : 0 + 0 ≤ _)⟩)
        dsimp only [Pt.U, Pt.locs, Pt.cells, Pt.slots] at X23 l23 y23 z23 st23 hQ23
        subst l23 y23 z23
        obtain ⟨rfl, N23q, hh23⟩ := hQ23
        have N23 := Fr.app N0 N23q
        refine own_of st23 ?_
        show own_Out p e below _ (T23.setTop (mkF m 73 #[.val (.int p0), .val (.int ((p0 &&& (65535 : Int32)).toUInt32.toUInt16.toUInt32.toInt32)), .val (.int (((p0 &&& (65535 : Int32)).toUInt32.toUInt16.toUInt32.toInt32) - (48 : Int32))), .val (.int (((p0 &&& (65535 : Int32)).toUInt32.toUInt16.toUInt32.toInt32) - (97 : Int32))), .val (.int (0 : Int32)), .val (.int (0 : Int32)), .val (.int (0 : Int32)), .unset] [(.int (f1 ((p0 &&& (65535 : Int32)).toUInt32.toUInt16.toUInt32.toInt32)))]))
        refine own_of (fun _ k => XS.istore X23.here hx rfl (hb hby at_73) rfl (l' := #[.val (.int p0), .val (.int ((p0 &&& (65535 : Int32)).toUInt32.toUInt16.toUInt32.toInt32)), .val (.int (((p0 &&& (65535 : Int32)).toUInt32.toUInt16.toUInt32.toInt32) - (48 : Int32))), .val (.int (((p0 &&& (65535 : Int32)).toUInt32.toUInt16.toUInt32.toInt32) - (97 : Int32))), .val (.int (0 : Int32)), .val (.int (0 : Int32)), .val (.int (0 : Int32)), .val (.int (f1 ((p0 &&& (65535 : Int32)).toUInt32.toUInt16.toUInt32.toInt32)))]) rfl k) ?_
        show own_Out p e below _ (T23.setTop (mkF m 75 #[.val (.int p0), .val (.int ((p0 &&& (65535 : Int32)).toUInt32.toUInt16.toUInt32.toInt32)), .val (.int (((p0 &&& (65535 : Int32)).toUInt32.toUInt16.toUInt32.toInt32) - (48 : Int32))), .val (.int (((p0 &&& (65535 : Int32)).toUInt32.toUInt16.toUInt32.toInt32) - (97 : Int32))), .val (.int (0 : Int32)), .val (.int (0 : Int32)), .val (.int (0 : Int32)), .val (.int (f1 ((p0 &&& (65535 : Int32)).toUInt32.toUInt16.toUInt32.toInt32)))] []))
        refine own_of (fun _ k => XS.iload X23.here hx rfl (hb hby at_75) rfl k) ?_
        show own_Out p e below _ (T23.setTop (mkF m 77 #[.val (.int p0), .val (.int ((p0 &&& (65535 : Int32)).toUInt32.toUInt16.toUInt32.toInt32)), .val (.int (((p0 &&& (65535 : Int32)).toUInt32.toUInt16.toUInt32.toInt32) - (48 : Int32))), .val (.int (((p0 &&& (65535 : Int32)).toUInt32.toUInt16.toUInt32.toInt32) - (97 : Int32))), .val (.int (0 : Int32)), .val (.int (0 : Int32)), .val (.int (0 : Int32)), .val (.int (f1 ((p0 &&& (65535 : Int32)).toUInt32.toUInt16.toUInt32.toInt32)))] [(.int (f1 ((p0 &&& (65535 : Int32)).toUInt32.toUInt16.toUInt32.toInt32)))]))
        refine own_of (fun _ k => XS.iload X23.here hx rfl (hb hby at_77) rfl k) ?_
        show own_Out p e below _ (T23.setTop (mkF m 79 #[.val (.int p0), .val (.int ((p0 &&& (65535 : Int32)).toUInt32.toUInt16.toUInt32.toInt32)), .val (.int (((p0 &&& (65535 : Int32)).toUInt32.toUInt16.toUInt32.toInt32) - (48 : Int32))), .val (.int (((p0 &&& (65535 : Int32)).toUInt32.toUInt16.toUInt32.toInt32) - (97 : Int32))), .val (.int (0 : Int32)), .val (.int (0 : Int32)), .val (.int (0 : Int32)), .val (.int (f1 ((p0 &&& (65535 : Int32)).toUInt32.toUInt16.toUInt32.toInt32)))] [(.int (0 : Int32)), (.int (f1 ((p0 &&& (65535 : Int32)).toUInt32.toUInt16.toUInt32.toInt32)))]))
        by_cases hc79_24 : (f1 ((p0 &&& (65535 : Int32)).toUInt32.toUInt16.toUInt32.toInt32)) = (0 : Int32)
        · skip
          refine own_of (fun _ k => XS.icmpYes X23.here hx rfl (pc0 := 79) (pc' := 84) rfl (hb hby at_79) rfl (teq hc79_24).1 (by decide) (by decide) k) ?_
          show own_Out p e below _ (T23.setTop (mkF m 84 #[.val (.int p0), .val (.int ((p0 &&& (65535 : Int32)).toUInt32.toUInt16.toUInt32.toInt32)), .val (.int (((p0 &&& (65535 : Int32)).toUInt32.toUInt16.toUInt32.toInt32) - (48 : Int32))), .val (.int (((p0 &&& (65535 : Int32)).toUInt32.toUInt16.toUInt32.toInt32) - (97 : Int32))), .val (.int (0 : Int32)), .val (.int (0 : Int32)), .val (.int (0 : Int32)), .val (.int (f1 ((p0 &&& (65535 : Int32)).toUInt32.toUInt16.toUInt32.toInt32)))] []))
          refine own_of (fun _ k => XS.iload X23.here hx rfl (hb hby at_84) rfl k) ?_
          show own_Out p e below _ (T23.setTop (mkF m 86 #[.val (.int p0), .val (.int ((p0 &&& (65535 : Int32)).toUInt32.toUInt16.toUInt32.toInt32)), .val (.int (((p0 &&& (65535 : Int32)).toUInt32.toUInt16.toUInt32.toInt32) - (48 : Int32))), .val (.int (((p0 &&& (65535 : Int32)).toUInt32.toUInt16.toUInt32.toInt32) - (97 : Int32))), .val (.int (0 : Int32)), .val (.int (0 : Int32)), .val (.int (0 : Int32)), .val (.int (f1 ((p0 &&& (65535 : Int32)).toUInt32.toUInt16.toUInt32.toInt32)))] [(.int (f1 ((p0 &&& (65535 : Int32)).toUInt32.toUInt16.toUInt32.toInt32)))]))
          refine own_of (fun _ k => XS.ifYes X23.here hx rfl (pc0 := 86) (pc' := 98) rfl (hb hby at_86) rfl ((if0 _ _).trans (teq hc79_24).1) (by decide) (by decide) k) ?_
          show own_Out p e below _ (T23.setTop (mkF m 98 #[.val (.int p0), .val (.int ((p0 &&& (65535 : Int32)).toUInt32.toUInt16.toUInt32.toInt32)), .val (.int (((p0 &&& (65535 : Int32)).toUInt32.toUInt16.toUInt32.toInt32) - (48 : Int32))), .val (.int (((p0 &&& (65535 : Int32)).toUInt32.toUInt16.toUInt32.toInt32) - (97 : Int32))), .val (.int (0 : Int32)), .val (.int (0 : Int32)), .val (.int (0 : Int32)), .val (.int (f1 ((p0 &&& (65535 : Int32)).toUInt32.toUInt16.toUInt32.toInt32)))] []))
          refine own_of (fun _ k => XS.iloadN X23.here hx rfl (hb hby at_98) rfl k) ?_
          show own_Out p e below _ (T23.setTop (mkF m 99 #[.val (.int p0), .val (.int ((p0 &&& (65535 : Int32)).toUInt32.toUInt16.toUInt32.toInt32)), .val (.int (((p0 &&& (65535 : Int32)).toUInt32.toUInt16.toUInt32.toInt32) - (48 : Int32))), .val (.int (((p0 &&& (65535 : Int32)).toUInt32.toUInt16.toUInt32.toInt32) - (97 : Int32))), .val (.int (0 : Int32)), .val (.int (0 : Int32)), .val (.int (0 : Int32)), .val (.int (f1 ((p0 &&& (65535 : Int32)).toUInt32.toUInt16.toUInt32.toInt32)))] [(.int ((p0 &&& (65535 : Int32)).toUInt32.toUInt16.toUInt32.toInt32))]))
          by_cases hc99_25 : (255 : Int32) < ((p0 &&& (65535 : Int32)).toUInt32.toUInt16.toUInt32.toInt32)
          · skip
            obtain ⟨_, _, ⟨T26, L26, k26, n26⟩, -, X26, ⟨Lc26, hQ26, l26, y26, z26⟩, st26⟩ := Jvm.LawKit.callS X23 hx (y := (⟨"java/lang/String", "valueOf", "(C)Ljava/lang/String;"⟩ : MethodName)) hown (mvT hZ (hw _ (List.mem_of_getElem? (i := 5) rfl))) (mvT hZ (hw _ (List.mem_of_getElem? (i := 6) rfl))) (mvT hZ (hw _ (List.mem_of_getElem? (i := 7) rfl))) (mvT hZ (hw _ (List.mem_of_getElem? (i := 8) rfl))) (by decide) (backOf (W := 0) (rm2u l Z a0 hw [] ((p0 &&& (65535 : Int32)).toUInt32.toUInt16.toUInt32.toInt32) cs h0 n0 Z0 S_cs hcs hc99_25 S_ad S_hi S_lo) hZ (hw _ (List.mem_of_getElem? (i := 8) rfl)) (hw _ (List.mem_of_getElem? (i := 7) rfl)) (by decide) (by decide)) (g := (mkF m 99 #[.val (.int p0), .val (.int ((p0 &&& (65535 : Int32)).toUInt32.toUInt16.toUInt32.toInt32)), .val (.int (((p0 &&& (65535 : Int32)).toUInt32.toUInt16.toUInt32.toInt32) - (48 : Int32))), .val (.int (((p0 &&& (65535 : Int32)).toUInt32.toUInt16.toUInt32.toInt32) - (97 : Int32))), .val (.int (0 : Int32)), .val (.int (0 : Int32)), .val (.int (0 : Int32)), .val (.int (f1 ((p0 &&& (65535 : Int32)).toUInt32.toUInt16.toUInt32.toInt32)))] [(.int ((p0 &&& (65535 : Int32)).toUInt32.toUInt16.toUInt32.toInt32))])) rfl (by rw [hml]; rfl) (argsL := [(.int ((p0 &&& (65535 : Int32)).toUInt32.toUInt16.toUInt32.toInt32))]) (rest := []) (lenOf pd_13 rfl) rfl (by show 2 * 0 + _ ≤ _; exact Nat.le_of_eq rfl) (hb hby at_99) (fun _ _ => ⟨rfl, hh23, (by decide : 0 + 2 ≤ _), (by decide : 0 + 6 ≤ _)⟩)
            dsimp only [Pt.U, Pt.locs, Pt.cells, Pt.slots] at X26 l26 y26 z26 st26 hQ26
            subst l26 y26 z26
            obtain ⟨r26, b26, k26, rfl, N26q, K26, E26, Fv26, Fc26, V26, hgr_26, hsr_26, hgb_26, hsb_26, hnrb_26⟩ := hQ26
            have N26 := Fr.app N23 N26q
            have S_java_lang_String_COMPACT_STRINGS_K26 := own_staK0 S_cs K26
            have S_jdk_internal_util_Preconditions_SIOOBE_FORMATTER_K26 := own_staK0 S_f K26
            have S_java_lang_StringUTF16__assertionsDisabled_K26 := own_staK0 S_ad K26
            have S_java_lang_StringUTF16_HI_BYTE_SHIFT_K26 := own_staK0 S_hi K26
            have S_java_lang_StringUTF16_LO_BYTE_SHIFT_K26 := own_staK0 S_lo K26
            have Zl26 : n0 ≤ T26.heap.size := Nat.le_trans Z0 K26.1
            refine own_of st26 ?_
            show own_Out p e below _ (T26.setTop (mkF m 102 #[.val (.int p0), .val (.int ((p0 &&& (65535 : Int32)).toUInt32.toUInt16.toUInt32.toInt32)), .val (.int (((p0 &&& (65535 : Int32)).toUInt32.toUInt16.toUInt32.toInt32) - (48 : Int32))), .val (.int (((p0 &&& (65535 : Int32)).toUInt32.toUInt16.toUInt32.toInt32) - (97 : Int32))), .val (.int (0 : Int32)), .val (.int (0 : Int32)), .val (.int (0 : Int32)), .val (.int (f1 ((p0 &&& (65535 : Int32)).toUInt32.toUInt16.toUInt32.toInt32)))] [(.ref r26)]))
            obtain ⟨_, _, ⟨T27, L27, k27, n27⟩, -, X27, ⟨Lc27, hQ27, l27, y27, z27⟩, st27⟩ := Jvm.LawKit.callS X26 hx (y := (⟨"com/example/ringd/ringd/core/Tags", "isTag", "(Ljava/lang/String;)Z"⟩ : MethodName)) hown (mvT hZ (hw _ (List.mem_of_getElem? (i := 31) rfl))) (mvT hZ (hw _ (List.mem_of_getElem? (i := 32) rfl))) (mvT hZ (hw _ (List.mem_of_getElem? (i := 3) rfl))) (mvT hZ (hw _ (List.mem_of_getElem? (i := 33) rfl))) (by decide) (backOf (W := 0) (rm7c1n2 l Z a0 hw [] r26 b26 k26 (((((p0 &&& (65535 : Int32)).toUInt32.toUInt16.toUInt32.toInt32) >>> ((0 : Int32) &&& 31)).toInt8.toInt32).toInt8.toInt32) (((((p0 &&& (65535 : Int32)).toUInt32.toUInt16.toUInt32.toInt32) >>> ((8 : Int32) &&& 31)).toInt8.toInt32).toInt8.toInt32) cs vf T26.heap n0 Zl26 E26 Fv26 Fc26 V26 S_java_lang_String_COMPACT_STRINGS_K26 hcs S_jdk_internal_util_Preconditions_SIOOBE_FORMATTER_K26 hvf S_java_lang_StringUTF16__assertionsDisabled_K26 S_java_lang_StringUTF16_HI_BYTE_SHIFT_K26 S_java_lang_StringUTF16_LO_BYTE_SHIFT_K26) hZ (hw _ (List.mem_of_getElem? (i := 33) rfl)) (hw _ (List.mem_of_getElem? (i := 3) rfl)) (by decide) (by decide)) (g := (mkF m 102 #[.val (.int p0), .val (.int ((p0 &&& (65535 : Int32)).toUInt32.toUInt16.toUInt32.toInt32)), .val (.int (((p0 &&& (65535 : Int32)).toUInt32.toUInt16.toUInt32.toInt32) - (48 : Int32))), .val (.int (((p0 &&& (65535 : Int32)).toUInt32.toUInt16.toUInt32.toInt32) - (97 : Int32))), .val (.int (0 : Int32)), .val (.int (0 : Int32)), .val (.int (0 : Int32)), .val (.int (f1 ((p0 &&& (65535 : Int32)).toUInt32.toUInt16.toUInt32.toInt32)))] [(.ref r26)])) rfl (by rw [hml]; rfl) (argsL := [(.ref r26)]) (rest := []) (lenOf pd_14 rfl) rfl (by show 2 * 0 + _ ≤ _; exact Nat.le_of_eq rfl) (hb hby at_102) (fun _ _ => ⟨rfl, rfl, (by decide : 2 + 0 ≤ _), (by decide : 6 + 0 ≤ _)⟩)
            dsimp only [Pt.U, Pt.locs, Pt.cells, Pt.slots] at X27 l27 y27 z27 st27 hQ27
            subst l27 y27 z27
            obtain ⟨rfl, N27q, hh27⟩ := hQ27
            have N27 := Fr.app N26 N27q
            refine own_of st27 ?_
            show own_Out p e below _ (T27.setTop (mkF m 105 #[.val (.int p0), .val (.int ((p0 &&& (65535 : Int32)).toUInt32.toUInt16.toUInt32.toInt32)), .val (.int (((p0 &&& (65535 : Int32)).toUInt32.toUInt16.toUInt32.toInt32) - (48 : Int32))), .val (.int (((p0 &&& (65535 : Int32)).toUInt32.toUInt16.toUInt32.toInt32) - (97 : Int32))), .val (.int (0 : Int32)), .val (.int (0 : Int32)), .val (.int (0 : Int32)), .val (.int (f1 ((p0 &&& (65535 : Int32)).toUInt32.toUInt16.toUInt32.toInt32)))] [(.int (f_isTagc1n2 (((((p0 &&& (65535 : Int32)).toUInt32.toUInt16.toUInt32.toInt32) >>> ((0 : Int32) &&& 31)).toInt8.toInt32).toInt8.toInt32) (((((p0 &&& (65535 : Int32)).toUInt32.toUInt16.toUInt32.toInt32) >>> ((8 : Int32) &&& 31)).toInt8.toInt32).toInt8.toInt32) cs))]))
            refine own_of (fun _ k => XS.iload X27.here hx rfl (hb hby at_105) rfl k) ?_
            show own_Out p e below _ (T27.setTop (mkF m 107 #[.val (.int p0), .val (.int ((p0 &&& (65535 : Int32)).toUInt32.toUInt16.toUInt32.toInt32)), .val (.int (((p0 &&& (65535 : Int32)).toUInt32.toUInt16.toUInt32.toInt32) - (48 : Int32))), .val (.int (((p0 &&& (65535 : Int32)).toUInt32.toUInt16.toUInt32.toInt32) - (97 : Int32))), .val (.int (0 : Int32)), .val (.int (0 : Int32)), .val (.int (0 : Int32)), .val (.int (f1 ((p0 &&& (65535 : Int32)).toUInt32.toUInt16.toUInt32.toInt32)))] [(.int (f1 ((p0 &&& (65535 : Int32)).toUInt32.toUInt16.toUInt32.toInt32))), (.int (f_isTagc1n2 (((((p0 &&& (65535 : Int32)).toUInt32.toUInt16.toUInt32.toInt32) >>> ((0 : Int32) &&& 31)).toInt8.toInt32).toInt8.toInt32) (((((p0 &&& (65535 : Int32)).toUInt32.toUInt16.toUInt32.toInt32) >>> ((8 : Int32) &&& 31)).toInt8.toInt32).toInt8.toInt32) cs))]))
            by_cases hc107_28 : (f_isTagc1n2 (((((p0 &&& (65535 : Int32)).toUInt32.toUInt16.toUInt32.toInt32) >>> ((0 : Int32) &&& 31)).toInt8.toInt32).toInt8.toInt32) (((((p0 &&& (65535 : Int32)).toUInt32.toUInt16.toUInt32.toInt32) >>> ((8 : Int32) &&& 31)).toInt8.toInt32).toInt8.toInt32) cs) = (f1 ((p0 &&& (65535 : Int32)).toUInt32.toUInt16.toUInt32.toInt32))
            · skip
              refine own_of (fun _ k => XS.icmpNo X27.here hx rfl (hb hby at_107) rfl (teq hc107_28).2 k) ?_
              show own_Out p e below _ (T27.setTop (mkF m 110 #[.val (.int p0), .val (.int ((p0 &&& (65535 : Int32)).toUInt32.toUInt16.toUInt32.toInt32)), .val (.int (((p0 &&& (65535 : Int32)).toUInt32.toUInt16.toUInt32.toInt32) - (48 : Int32))), .val (.int (((p0 &&& (65535 : Int32)).toUInt32.toUInt16.toUInt32.toInt32) - (97 : Int32))), .val (.int (0 : Int32)), .val (.int (0 : Int32)), .val (.int (0 : Int32)), .val (.int (f1 ((p0 &&& (65535 : Int32)).toUInt32.toUInt16.toUInt32.toInt32)))] []))
              refine own_of (fun _ k => XS.iconst X27.here hx rfl (hb hby at_110) k) ?_
              show own_Out p e below _ (T27.setTop (mkF m 111 #[.val (.int p0), .val (.int ((p0 &&& (65535 : Int32)).toUInt32.toUInt16.toUInt32.toInt32)), .val (.int (((p0 &&& (65535 : Int32)).toUInt32.toUInt16.toUInt32.toInt32) - (48 : Int32))), .val (.int (((p0 &&& (65535 : Int32)).toUInt32.toUInt16.toUInt32.toInt32) - (97 : Int32))), .val (.int (0 : Int32)), .val (.int (0 : Int32)), .val (.int (0 : Int32)), .val (.int (f1 ((p0 &&& (65535 : Int32)).toUInt32.toUInt16.toUInt32.toInt32)))] [(.int (1 : Int32))]))
              refine own_of (fun _ k => XS.goto X27.here hx rfl (pc0 := 111) (pc' := 115) rfl (hb hby at_111) (by decide) (by decide) k) ?_
              show own_Out p e below _ (T27.setTop (mkF m 115 #[.val (.int p0), .val (.int ((p0 &&& (65535 : Int32)).toUInt32.toUInt16.toUInt32.toInt32)), .val (.int (((p0 &&& (65535 : Int32)).toUInt32.toUInt16.toUInt32.toInt32) - (48 : Int32))), .val (.int (((p0 &&& (65535 : Int32)).toUInt32.toUInt16.toUInt32.toInt32) - (97 : Int32))), .val (.int (0 : Int32)), .val (.int (0 : Int32)), .val (.int (0 : Int32)), .val (.int (f1 ((p0 &&& (65535 : Int32)).toUInt32.toUInt16.toUInt32.toInt32)))] [(.int (1 : Int32))]))
              exact own_outN X27 hx hlk (t := .boolean) hret (by simp) (hb hby at_115) (z' := (1 : Int32)) rfl (Q := Q0 Z p0 cs vf h0 n0) ⟨rfl, N27⟩ (by decide) (by decide)
            · skip
              refine own_of (fun _ k => XS.icmpYes X27.here hx rfl (pc0 := 107) (pc' := 114) rfl (hb hby at_107) rfl (feq hc107_28).2 (by decide) (by decide) k) ?_
              show own_Out p e below _ (T27.setTop (mkF m 114 #[.val (.int p0), .val (.int ((p0 &&& (65535 : Int32)).toUInt32.toUInt16.toUInt32.toInt32)), .val (.int (((p0 &&& (65535 : Int32)).toUInt32.toUInt16.toUInt32.toInt32) - (48 : Int32))), .val (.int (((p0 &&& (65535 : Int32)).toUInt32.toUInt16.toUInt32.toInt32) - (97 : Int32))), .val (.int (0 : Int32)), .val (.int (0 : Int32)), .val (.int (0 : Int32)), .val (.int (f1 ((p0 &&& (65535 : Int32)).toUInt32.toUInt16.toUInt32.toInt32)))] []))
              refine own_of (fun _ k => XS.iconst X27.here hx rfl (hb hby at_114) k) ?_
              show own_Out p e below _ (T27.setTop (mkF m 115 #[.val (.int p0), .val (.int ((p0 &&& (65535 : Int32)).toUInt32.toUInt16.toUInt32.toInt32)), .val (.int (((p0 &&& (65535 : Int32)).toUInt32.toUInt16.toUInt32.toInt32) - (48 : Int32))), .val (.int (((p0 &&& (65535 : Int32)).toUInt32.toUInt16.toUInt32.toInt32) - (97 : Int32))), .val (.int (0 : Int32)), .val (.int (0 : Int32)), .val (.int (0 : Int32)), .val (.int (f1 ((p0 &&& (65535 : Int32)).toUInt32.toUInt16.toUInt32.toInt32)))] [(.int (0 : Int32))]))
              exact (dead0_6 p0 hcs hc18_1 hc36_2 hc42_12 hc79_24 hc99_25 hc107_28).elim
          · skip
            obtain ⟨_, _, ⟨T29, L29, k29, n29⟩, -, X29, ⟨Lc29, hQ29, l29, y29, z29⟩, st29⟩ := Jvm.LawKit.callS X23 hx (y := (⟨"java/lang/String", "valueOf", "(C)Ljava/lang/String;"⟩ : MethodName)) hown (mvT hZ (hw _ (List.mem_of_getElem? (i := 5) rfl))) (mvT hZ (hw _ (List.mem_of_getElem? (i := 6) rfl))) (mvT hZ (hw _ (List.mem_of_getElem? (i := 7) rfl))) (mvT hZ (hw _ (List.mem_of_getElem? (i := 8) rfl))) (by decide) (backOf (W := 0) (rm2l l Z a0 hw [] ((p0 &&& (65535 : Int32)).toUInt32.toUInt16.toUInt32.toInt32) cs h0 n0 Z0 S_cs hcs hc99_25) hZ (hw _ (List.mem_of_getElem? (i := 8) rfl)) (hw _ (List.mem_of_getElem? (i := 7) rfl)) (by decide) (by decide)) (g := (mkF m 99 #[.val (.int p0), .val (.int ((p0 &&& (65535 : Int32)).toUInt32.toUInt16.toUInt32.toInt32)), .val (.int (((p0 &&& (65535 : Int32)).toUInt32.toUInt16.toUInt32.toInt32) - (48 : Int32))), .val (.int (((p0 &&& (65535 : Int32)).toUInt32.toUInt16.toUInt32.toInt32) - (97 : Int32))), .val (.int (0 : Int32)), .val (.int (0 : Int32)), .val (.int (0 : Int32)), .val (.int (f1 ((p0 &&& (65535 : Int32)).toUInt32.toUInt16.toUInt32.toInt32)))] [(.int ((p0 &&& (65535 : Int32)).toUInt32.toUInt16.toUInt32.toInt32))])) rfl (by rw [hml]; rfl) (argsL := [(.int ((p0 &&& (65535 : Int32)).toUInt32.toUInt16.toUInt32.toInt32))]) (rest := []) (lenOf pd_13 rfl) rfl (by show 2 * 0 + _ ≤ _; exact Nat.le_of_eq rfl) (hb hby at_99) (fun _ _ => ⟨rfl, hh23, (by decide : 0 + 2 ≤ _), (by decide : 0 + 5 ≤ _)⟩)
            dsimp only [Pt.U, Pt.locs, Pt.cells, Pt.slots] at X29 l29 y29 z29 st29 hQ29
            subst l29 y29 z29
            obtain ⟨r29, b29, k29, rfl, N29q, K29, E29, Fv29, Fc29, V29, hgr_29, hsr_29, hgb_29, hsb_29, hnrb_29⟩ := hQ29
            have N29 := Fr.app N23 N29q
            have S_java_lang_String_COMPACT_STRINGS_K29 := own_staK0 S_cs K29
            have S_jdk_internal_util_Preconditions_SIOOBE_FORMATTER_K29 := own_staK0 S_f K29
            have S_java_lang_StringUTF16__assertionsDisabled_K29 := own_staK0 S_ad K29
            have S_java_lang_StringUTF16_HI_BYTE_SHIFT_K29 := own_staK0 S_hi K29
            have S_java_lang_StringUTF16_LO_BYTE_SHIFT_K29 := own_staK0 S_lo K29
            have Zl29 : n0 ≤ T29.heap.size := Nat.le_trans Z0 K29.1
            refine own_of st29 ?_
            show own_Out p e below _ (T29.setTop (mkF m 102 #[.val (.int p0), .val (.int ((p0 &&& (65535 : Int32)).toUInt32.toUInt16.toUInt32.toInt32)), .val (.int (((p0 &&& (65535 : Int32)).toUInt32.toUInt16.toUInt32.toInt32) - (48 : Int32))), .val (.int (((p0 &&& (65535 : Int32)).toUInt32.toUInt16.toUInt32.toInt32) - (97 : Int32))), .val (.int (0 : Int32)), .val (.int (0 : Int32)), .val (.int (0 : Int32)), .val (.int (f1 ((p0 &&& (65535 : Int32)).toUInt32.toUInt16.toUInt32.toInt32)))] [(.ref r29)]))
            obtain ⟨_, _, ⟨T30, L30, k30, n30⟩, -, X30, ⟨Lc30, hQ30, l30, y30, z30⟩, st30⟩ := Jvm.LawKit.callS X29 hx (y := (⟨"com/example/ringd/ringd/core/Tags", "isTag", "(Ljava/lang/String;)Z"⟩ : MethodName)) hown (mvT hZ (hw _ (List.mem_of_getElem? (i := 31) rfl))) (mvT hZ (hw _ (List.mem_of_getElem? (i := 32) rfl))) (mvT hZ (hw _ (List.mem_of_getElem? (i := 3) rfl))) (mvT hZ (hw _ (List.mem_of_getElem? (i := 33) rfl))) (by decide) (backOf (W := 0) (rm7c0n1 l Z a0 hw [] r29 b29 k29 ((((p0 &&& (65535 : Int32)).toUInt32.toUInt16.toUInt32.toInt32).toInt8.toInt32).toInt8.toInt32) cs vf T29.heap n0 Zl29 E29 Fv29 Fc29 V29 S_java_lang_String_COMPACT_STRINGS_K29 hcs S_jdk_internal_util_Preconditions_SIOOBE_FORMATTER_K29 hvf) hZ (hw _ (List.mem_of_getElem? (i := 33) rfl)) (hw _ (List.mem_of_getElem? (i := 3) rfl)) (by decide) (by decide)) (g := (mkF m 102 #[.val (.int p0), .val (.int ((p0 &&& (65535 : Int32)).toUInt32.toUInt16.toUInt32.toInt32)), .val (.int (((p0 &&& (65535 : Int32)).toUInt32.toUInt16.toUInt32.toInt32) - (48 : Int32))), .val (.int (((p0 &&& (65535 : Int32)).toUInt32.toUInt16.toUInt32.toInt32) - (97 : Int32))), .val (.int (0 : Int32)), .val (.int (0 : Int32)), .val (.int (0 : Int32)), .val (.int (f1 ((p0 &&& (65535 : Int32)).toUInt32.toUInt16.toUInt32.toInt32)))] [(.ref r29)])) rfl (by rw [hml]; rfl) (argsL := [(.ref r29)]) (rest := []) (lenOf pd_14 rfl) rfl (by show 2 * 0 + _ ≤ _; exact Nat.le_of_eq rfl) (hb hby at_102) (fun _ _ => ⟨rfl, rfl, (by decide : 2 + 0 ≤ _), (by decide : 5 + 0 ≤ _)⟩)
            dsimp only [Pt.U, Pt.locs, Pt.cells, Pt.slots] at X30 l30 y30 z30 st30 hQ30
            subst l30 y30 z30
            obtain ⟨rfl, N30q, hh30⟩ := hQ30
            have N30 := Fr.app N29 N30q
            refine own_of st30 ?_
            show own_Out p e below _ (T30.setTop (mkF m 105 #[.val (.int p0), .val (.int ((p0 &&& (65535 : Int32)).toUInt32.toUInt16.toUInt32.toInt32)), .val (.int (((p0 &&& (65535 : Int32)).toUInt32.toUInt16.toUInt32.toInt32) - (48 : Int32))), .val (.int (((p0 &&& (65535 : Int32)).toUInt32.toUInt16.toUInt32.toInt32) - (97 : Int32))), .val (.int (0 : Int32)), .val (.int (0 : Int32)), .val (.int (0 : Int32)), .val (.int (f1 ((p0 &&& (65535 : Int32)).toUInt32.toUInt16.toUInt32.toInt32)))] [(.int (f_isTagc0n1 ((((p0 &&& (65535 : Int32)).toUInt32.toUInt16.toUInt32.toInt32).toInt8.toInt32).toInt8.toInt32) cs))]))
            refine own_of (fun _ k => XS.iload X30.here hx rfl (hb hby at_105) rfl k) ?_
            show own_Out p e below _ (T30.setTop (mkF m 107 #[.val (.int p0), .val (.int ((p0 &&& (65535 : Int32)).toUInt32.toUInt16.toUInt32.toInt32)), .val (.int (((p0 &&& (65535 : Int32)).toUInt32.toUInt16.toUInt32.toInt32) - (48 : Int32))), .val (.int (((p0 &&& (65535 : Int32)).toUInt32.toUInt16.toUInt32.toInt32) - (97 : Int32))), .val (.int (0 : Int32)), .val (.int (0 : Int32)), .val (.int (0 : Int32)), .val (.int (f1 ((p0 &&& (65535 : Int32)).toUInt32.toUInt16.toUInt32.toInt32)))] [(.int (f1 ((p0 &&& (65535 : Int32)).toUInt32.toUInt16.toUInt32.toInt32))), (.int (f_isTagc0n1 ((((p0 &&& (65535 : Int32)).toUInt32.toUInt16.toUInt32.toInt32).toInt8.toInt32).toInt8.toInt32) cs))]))
            by_cases hc107_31 : (f_isTagc0n1 ((((p0 &&& (65535 : Int32)).toUInt32.toUInt16.toUInt32.toInt32).toInt8.toInt32).toInt8.toInt32) cs) = (f1 ((p0 &&& (65535 : Int32)).toUInt32.toUInt16.toUInt32.toInt32))
            · skip
              refine own_of (fun _ k => XS.icmpNo X30.here hx rfl (hb hby at_107) rfl (teq hc107_31).2 k) ?_
              show own_Out p e below _ (T30.setTop (mkF m 110 #[.val (.int p0), .val (.int ((p0 &&& (65535 : Int32)).toUInt32.toUInt16.toUInt32.toInt32)), .val (.int (((p0 &&& (65535 : Int32)).toUInt32.toUInt16.toUInt32.toInt32) - (48 : Int32))), .val (.int (((p0 &&& (65535 : Int32)).toUInt32.toUInt16.toUInt32.toInt32) - (97 : Int32))), .val (.int (0 : Int32)), .val (.int (0 : Int32)), .val (.int (0 : Int32)), .val (.int (f1 ((p0 &&& (65535 : Int32)).toUInt32.toUInt16.toUInt32.toInt32)))] []))
              refine own_of (fun _ k => XS.iconst X30.here hx rfl (hb hby at_110) k) ?_
              show own_Out p e below _ (T30.setTop (mkF m 111 #[.val (.int p0), .val (.int ((p0 &&& (65535 : Int32)).toUInt32.toUInt16.toUInt32.toInt32)), .val (.int (((p0 &&& (65535 : Int32)).toUInt32.toUInt16.toUInt32.toInt32) - (48 : Int32))), .val (.int (((p0 &&& (65535 : Int32)).toUInt32.toUInt16.toUInt32.toInt32) - (97 : Int32))), .val (.int (0 : Int32)), .val (.int (0 : Int32)), .val (.int (0 : Int32)), .val (.int (f1 ((p0 &&& (65535 : Int32)).toUInt32.toUInt16.toUInt32.toInt32)))] [(.int (1 : Int32))]))
              refine own_of (fun _ k => XS.goto X30.here hx rfl (pc0 := 111) (pc' := 115) rfl (hb hby at_111) (by decide) (by decide) k) ?_
              show own_Out p e below _ (T30.setTop (mkF m 115 #[.val (.int p0), .val (.int ((p0 &&& (65535 : Int32)).toUInt32.toUInt16.toUInt32.toInt32)), .val (.int (((p0 &&& (65535 : Int32)).toUInt32.toUInt16.toUInt32.toInt32) - (48 : Int32))), .val (.int (((p0 &&& (65535 : Int32)).toUInt32.toUInt16.toUInt32.toInt32) - (97 : Int32))), .val (.int (0 : Int32)), .val (.int (0 : Int32)), .val (.int (0 : Int32)), .val (.int (f1 ((p0 &&& (65535 : Int32)).toUInt32.toUInt16.toUInt32.toInt32)))] [(.int (1 : Int32))]))
              exact own_outN X30 hx hlk (t := .boolean) hret (by simp) (hb hby at_115) (z' := (1 : Int32)) rfl (Q := Q0 Z p0 cs vf h0 n0) ⟨rfl, N30⟩ (by decide) (by decide)
            · skip
              refine own_of (fun _ k => XS.icmpYes X30.here hx rfl (pc0 := 107) (pc' := 114) rfl (hb hby at_107) rfl (feq hc107_31).2 (by decide) (by decide) k) ?_
              show own_Out p e below _ (T30.setTop (mkF m 114 #[.val (.int p0), .val (.int ((p0 &&& (65535 : Int32)).toUInt32.toUInt16.toUInt32.toInt32)), .val (.int (((p0 &&& (65535 : Int32)).toUInt32.toUInt16.toUInt32.toInt32) - (48 : Int32))), .val (.int (((p0 &&& (65535 : Int32)).toUInt32.toUInt16.toUInt32.toInt32) - (97 : Int32))), .val (.int (0 : Int32)), .val (.int (0 : Int32)), .val (.int (0 : Int32)), .val (.int (f1 ((p0 &&& (65535 : Int32)).toUInt32.toUInt16.toUInt32.toInt32)))] []))
              refine own_of (fun _ k => XS.iconst X30.here hx rfl (hb hby at_114) k) ?_
              show own_Out p e below _ (T30.setTop (mkF m 115 #[.val (.int p0), .val (.int ((p0 &&& (65535 : Int32)).toUInt32.toUInt16.toUInt32.toInt32)), .val (.int (((p0 &&& (65535 : Int32)).toUInt32.toUInt16.toUInt32.toInt32) - (48 : Int32))), .val (.int (((p0 &&& (65535 : Int32)).toUInt32.toUInt16.toUInt32.toInt32) - (97 : Int32))), .val (.int (0 : Int32)), .val (.int (0 : Int32)), .val (.int (0 : Int32)), .val (.int (f1 ((p0 &&& (65535 : Int32)).toUInt32.toUInt16.toUInt32.toInt32)))] [(.int (0 : Int32))]))
              exact (dead0_7 p0 hcs hc18_1 hc36_2 hc42_12 hc79_24 hc99_25 hc107_31).elim
        · skip
          refine own_of (fun _ k => XS.icmpNo X23.here hx rfl (hb hby at_79) rfl (feq hc79_24).1 k) ?_
          show own_Out p e below _ (T23.setTop (mkF m 82 #[.val (.int p0), .val (.int ((p0 &&& (65535 : Int32)).toUInt32.toUInt16.toUInt32.toInt32)), .val (.int (((p0 &&& (65535 : Int32)).toUInt32.toUInt16.toUInt32.toInt32) - (48 : Int32))), .val (.int (((p0 &&& (65535 : Int32)).toUInt32.toUInt16.toUInt32.toInt32) - (97 : Int32))), .val (.int (0 : Int32)), .val (.int (0 : Int32)), .val (.int (0 : Int32)), .val (.int (f1 ((p0 &&& (65535 : Int32)).toUInt32.toUInt16.toUInt32.toInt32)))] []))
          refine own_of (fun _ k => XS.iconst X23.here hx rfl (hb hby at_82) k) ?_
          show own_Out p e below _ (T23.setTop (mkF m 83 #[.val (.int p0), .val (.int ((p0 &&& (65535 : Int32)).toUInt32.toUInt16.toUInt32.toInt32)), .val (.int (((p0 &&& (65535 : Int32)).toUInt32.toUInt16.toUInt32.toInt32) - (48 : Int32))), .val (.int (((p0 &&& (65535 : Int32)).toUInt32.toUInt16.toUInt32.toInt32) - (97 : Int32))), .val (.int (0 : Int32)), .val (.int (0 : Int32)), .val (.int (0 : Int32)), .val (.int (f1 ((p0 &&& (65535 : Int32)).toUInt32.toUInt16.toUInt32.toInt32)))] [(.int (0 : Int32))]))
          exact (dead0_8 p0 hcs hc18_1 hc36_2 hc42_12 hc79_24).elim
  · skip
    refine own_of (fun _ k => XS.icmpNo X0.here hx rfl (hb hby at_18) rfl (flt hc18_1).2.2.1 k) ?_
    show own_Out p e below _ (s₁.setTop (mkF m 21 #[.val (.int p0), .val (.int ((p0 &&& (65535 : Int32)).toUInt32.toUInt16.toUInt32.toInt32)), .val (.int (((p0 &&& (65535 : Int32)).toUInt32.toUInt16.toUInt32.toInt32) - (48 : Int32))), .val (.int (((p0 &&& (65535 : Int32)).toUInt32.toUInt16.toUInt32.toInt32) - (97 : Int32))), .unset, .unset, .unset, .unset] []))
    refine own_of (fun _ k => XS.iloadN X0.here hx rfl (hb hby at_21) rfl k) ?_
    show own_Out p e below _ (s₁.setTop (mkF m 22 #[.val (.int p0), .val (.int ((p0 &&& (65535 : Int32)).toUInt32.toUInt16.toUInt32.toInt32)), .val (.int (((p0 &&& (65535 : Int32)).toUInt32.toUInt16.toUInt32.toInt32) - (48 : Int32))), .val (.int (((p0 &&& (65535 : Int32)).toUInt32.toUInt16.toUInt32.toInt32) - (97 : Int32))), .unset, .unset, .unset, .unset] [(.int (((p0 &&& (65535 : Int32)).toUInt32.toUInt16.toUInt32.toInt32) - (48 : Int32)))]))
    refine own_of (fun _ k => XS.bipush X0.here hx rfl (hb hby at_22) k) ?_
    show own_Out p e below _ (s₁.setTop (mkF m 24 #[.val (.int p0), .val (.int ((p0 &&& (65535 : Int32)).toUInt32.toUInt16.toUInt32.toInt32)), .val (.int (((p0 &&& (65535 : Int32)).toUInt32.toUInt16.toUInt32.toInt32) - (48 : Int32))), .val (.int (((p0 &&& (65535 : Int32)).toUInt32.toUInt16.toUInt32.toInt32) - (97 : Int32))), .unset, .unset, .unset, .unset] [(.int (10 : Int32)), (.int (((p0 &&& (65535 : Int32)).toUInt32.toUInt16.toUInt32.toInt32) - (48 : Int32)))]))
    by_cases hc24_32 : (((p0 &&& (65535 : Int32)).toUInt32.toUInt16.toUInt32.toInt32) - (48 : Int32)) < (10 : Int32)
    · skip
      refine own_of (fun _ k => XS.icmpNo X0.here hx rfl (hb hby at_24) rfl (tlt hc24_32).2.1 k) ?_
      show own_Out p e below _ (s₁.setTop (mkF m 27 #[.val (.int p0), .val (.int ((p0 &&& (65535 : Int32)).toUInt32.toUInt16.toUInt32.toInt32)), .val (.int (((p0 &&& (65535 : Int32)).toUInt32.toUInt16.toUInt32.toInt32) - (48 : Int32))), .val (.int (((p0 &&& (65535 : Int32)).toUInt32.toUInt16.toUInt32.toInt32) - (97 : Int32))), .unset, .unset, .unset, .unset] []))
      refine own_of (fun _ k => XS.iconst X0.here hx rfl (hb hby at_27) k) ?_
      show own_Out p e below _ (s₁.setTop (mkF m 28 #[.val (.int p0), .val (.int ((p0 &&& (65535 : Int32)).toUInt32.toUInt16.toUInt32.toInt32)), .val (.int (((p0 &&& (65535 : Int32)).toUInt32.toUInt16.toUInt32.toInt32) - (48 : Int32))), .val (.int (((p0 &&& (65535 : Int32)).toUInt32.toUInt16.toUInt32.toInt32) - (97 : Int32))), .unset, .unset, .unset, .unset] [(.int (1 : Int32))]))
      refine own_of (fun _ k => XS.goto X0.here hx rfl (pc0 := 28) (pc' := 32) rfl (hb hby at_28) (by decide) (by decide) k) ?_
      show own_Out p e below _ (s₁.setTop (mkF m 32 #[.val (.int p0), .val (.int ((p0 &&& (65535 : Int32)).toUInt32.toUInt16.toUInt32.toInt32)), .val (.int (((p0 &&& (65535 : Int32)).toUInt32.toUInt16.toUInt32.toInt32) - (48 : Int32))), .val (.int (((p0 &&& (65535 : Int32)).toUInt32.toUInt16.toUInt32.toInt32) - (97 : Int32))), .unset, .unset, .unset, .unset] [(.int (1 : Int32))]))
      refine own_of (fun _ k => XS.istore X0.here hx rfl (hb hby at_32) rfl (l' := #[.val (.int p0), .val (.int ((p0 &&& (65535 : Int32)).toUInt32.toUInt16.toUInt32.toInt32)), .val (.int (((p0 &&& (65535 : Int32)).toUInt32.toUInt16.toUInt32.toInt32) - (48 : Int32))), .val (.int (((p0 &&& (65535 : Int32)).toUInt32.toUInt16.toUInt32.toInt32) - (97 : Int32))), .val (.int (1 : Int32)), .unset, .unset, .unset]) rfl k) ?_
      show own_Out p e below _ (s₁.setTop (mkF m 34 #[.val (.int p0), .val (.int ((p0 &&& (65535 : Int32)).toUInt32.toUInt16.toUInt32.toInt32)), .val (.int (((p0 &&& (65535 : Int32)).toUInt32.toUInt16.toUInt32.toInt32) - (48 : Int32))), .val (.int (((p0 &&& (65535 : Int32)).toUInt32.toUInt16.toUInt32.toInt32) - (97 : Int32))), .val (.int (1 : Int32)), .unset, .unset, .unset] []))
      refine own_of (fun _ k => XS.iconst X0.here hx rfl (hb hby at_34) k) ?_
      show own_Out p e below _ (s₁.setTop (mkF m 35 #[.val (.int p0), .val (.int ((p0 &&& (65535 : Int32)).toUInt32.toUInt16.toUInt32.toInt32)), .val (.int (((p0 &&& (65535 : Int32)).toUInt32.toUInt16.toUInt32.toInt32) - (48 : Int32))), .val (.int (((p0 &&& (65535 : Int32)).toUInt32.toUInt16.toUInt32.toInt32) - (97 : Int32))), .val (.int (1 : Int32)), .unset, .unset, .unset] [(.int (0 : Int32))]))
      refine own_of (fun _ k => XS.iloadN X0.here hx rfl (hb hby at_35) rfl k) ?_
      show own_Out p e below _ (s₁.setTop (mkF m 36 #[.val (.int p0), .val (.int ((p0 &&& (65535 : Int32)).toUInt32.toUInt16.toUInt32.toInt32)), .val (.int (((p0 &&& (65535 : Int32)).toUInt32.toUInt16.toUInt32.toInt32) - (48 : Int32))), .val (.int (((p0 &&& (65535 : Int32)).toUInt32.toUInt16.toUInt32.toInt32) - (97 : Int32))), .val (.int (1 : Int32)), .unset, .unset, .unset] [(.int (((p0 &&& (65535 : Int32)).toUInt32.toUInt16.toUInt32.toInt32) - (97 : Int32))), (.int (0 : Int32))]))
      by_cases hc36_33 : (((p0 &&& (65535 : Int32)).toUInt32.toUInt16.toUInt32.toInt32) - (97 : Int32)) < (0 : Int32)
      · skip
        refine own_of (fun _ k => XS.icmpYes X0.here hx rfl (pc0 := 36) (pc' := 49) rfl (hb hby at_36) rfl (tlt hc36_33).2.2.1 (by decide) (by decide) k) ?_
        show own_Out p e below _ (s₁.setTop (mkF m 49 #[.val (.int p0), .val (.int ((p0 &&& (65535 : Int32)).toUInt32.toUInt16.toUInt32.toInt32)), .val (.int (((p0 &&& (65535 : Int32)).toUInt32.toUInt16.toUInt32.toInt32) - (48 : Int32))), .val (.int (((p0 &&& (65535 : Int32)).toUInt32.toUInt16.toUInt32.toInt32) - (97 : Int32))), .val (.int (1 : Int32)), .unset, .unset, .unset] []))
        refine own_of (fun _ k => XS.iconst X0.here hx rfl (hb hby at_49) k) ?_
        show own_Out p e below _ (s₁.setTop (mkF m 50 #[.val (.int p0), .val (.int ((p0 &&& (65535 : Int32)).toUInt32.toUInt16.toUInt32.toInt32)), .val (.int (((p0 &&& (65535 : Int32)).toUInt32.toUInt16.toUInt32.toInt32) - (48 : Int32))), .val (.int (((p0 &&& (65535 : Int32)).toUInt32.toUInt16.toUInt32.toInt32) - (97 : Int32))), .val (.int (1 : Int32)), .unset, .unset, .unset] [(.int (0 : Int32))]))
        refine own_of (fun _ k => XS.istore X0.here hx rfl (hb hby at_50) rfl (l' := #[.val (.int p0), .val (.int ((p0 &&& (65535 : Int32)).toUInt32.toUInt16.toUInt32.toInt32)), .val (.int (((p0 &&& (65535 : Int32)).toUInt32.toUInt16.toUInt32.toInt32) - (48 : Int32))), .val (.int (((p0 &&& (65535 : Int32)).toUInt32.toUInt16.toUInt32.toInt32) - (97 : Int32))), .val (.int (1 : Int32)), .val (.int (0 : Int32)), .unset, .unset]) rfl k) ?_
        show own_Out p e below _ (s₁.setTop (mkF m 52 #[.val (.int p0), .val (.int ((p0 &&& (65535 : Int32)).toUInt32.toUInt16.toUInt32.toInt32)), .val (.int (((p0 &&& (65535 : Int32)).toUInt32.toUInt16.toUInt32.toInt32) - (48 : Int32))), .val (.int (((p0 &&& (65535 : Int32)).toUInt32.toUInt16.toUInt32.toInt32) - (97 : Int32))), .val (.int (1 : Int32)), .val (.int (0 : Int32)), .unset, .unset] []))
        refine own_of (fun _ k => XS.iload X0.here hx rfl (hb hby at_52) rfl k) ?_
        show own_Out p e below _ (s₁.setTop (mkF m 54 #[.val (.int p0), .val (.int ((p0 &&& (65535 : Int32)).toUInt32.toUInt16.toUInt32.toInt32)), .val (.int (((p0 &&& (65535 : Int32)).toUInt32.toUInt16.toUInt32.toInt32) - (48 : Int32))), .val (.int (((p0 &&& (65535 : Int32)).toUInt32.toUInt16.toUInt32.toInt32) - (97 : Int32))), .val (.int (1 : Int32)), .val (.int (0 : Int32)), .unset, .unset] [(.int (1 : Int32))]))
        refine own_of (fun _ k => XS.ifYes X0.here hx rfl (pc0 := 54) (pc' := 62) rfl (hb hby at_54) rfl ((if0 _ _).trans (feq (by decide : ¬ ((1 : Int32) = (0 : Int32)))).2) (by decide) (by decide) k) ?_
        show own_Out p e below _ (s₁.setTop (mkF m 62 #[.val (.int p0), .val (.int ((p0 &&& (65535 : Int32)).toUInt32.toUInt16.toUInt32.toInt32)), .val (.int (((p0 &&& (65535 : Int32)).toUInt32.toUInt16.toUInt32.toInt32) - (48 : Int32))), .val (.int (((p0 &&& (65535 : Int32)).toUInt32.toUInt16.toUInt32.toInt32) - (97 : Int32))), .val (.int (1 : Int32)), .val (.int (0 : Int32)), .unset, .unset] []))
        refine own_of (fun _ k => XS.iconst X0.here hx rfl (hb hby at_62) k) ?_
        show own_Out p e below _ (s₁.setTop (mkF m 63 #[.val (.int p0), .val (.int ((p0 &&& (65535 : Int32)).toUInt32.toUInt16.toUInt32.toInt32)), .val (.int (((p0 &&& (65535 : Int32)).toUInt32.toUInt16.toUInt32.toInt32) - (48 : Int32))), .val (.int (((p0 &&& (65535 : Int32)).toUInt32.toUInt16.toUInt32.toInt32) - (97 : Int32))), .val (.int (1 : Int32)), .val (.int (0 : Int32)), .unset, .unset] [(.int (1 : Int32))]))
        refine own_of (fun _ k => XS.goto X0.here hx rfl (pc0 := 63) (pc' := 67) rfl (hb hby at_63) (by decide) (by decide) k) ?_
        show own_Out p e below _ (s₁.setTop (mkF m 67 #[.val (.int p0), .val (.int ((p0 &&& (65535 : Int32)).toUInt32.toUInt16.toUInt32.toInt32)), .val (.int (((p0 &&& (65535 : Int32)).toUInt32.toUInt16.toUInt32.toInt32) - (48 : Int32))), .val (.int (((p0 &&& (65535 : Int32)).toUInt32.toUInt16.toUInt32.toInt32) - (97 : Int32))), .val (.int (1 : Int32)), .val (.int (0 : Int32)), .unset, .unset] [(.int (1 : Int32))]))
        refine own_of (fun _ k => XS.istore X0.here hx rfl (hb hby at_67) rfl (l' := #[.val (.int p0), .val (.int ((p0 &&& (65535 : Int32)).toUInt32.toUInt16.toUInt32.toInt32)), .val (.int (((p0 &&& (65535 : Int32)).toUInt32.toUInt16.toUInt32.toInt32) - (48 : Int32))), .val (.int (((p0 &&& (65535 : Int32)).toUInt32.toUInt16.toUInt32.toInt32) - (97 : Int32))), .val (.int (1 : Int32)), .val (.int (0 : Int32)), .val (.int (1 : Int32)), .unset]) rfl k) ?_
        show own_Out p e below _ (s₁.setTop (mkF m 69 #[.val (.int p0), .val (.int ((p0 &&& (65535 : Int32)).toUInt32.toUInt16.toUInt32.toInt32)), .val (.int (((p0 &&& (65535 : Int32)).toUInt32.toUInt16.toUInt32.toInt32) - (48 : Int32))), .val (.int (((p0 &&& (65535 : Int32)).toUInt32.toUInt16.toUInt32.toInt32) - (97 : Int32))), .val (.int (1 : Int32)), .val (.int (0 : Int32)), .val (.int (1 : Int32)), .unset] []))
        refine own_of (fun _ k => XS.iloadN X0.here hx rfl (hb hby at_69) rfl k) ?_
        show own_Out p e below _ (s₁.setTop (mkF m 70 #[.val (.int p0), .val (.int ((p0 &&& (65535 : Int32)).toUInt32.toUInt16.toUInt32.toInt32)), .val (.int (((p0 &&& (65535 : Int32)).toUInt32.toUInt16.toUInt32.toInt32) - (48 : Int32))), .val (.int (((p0 &&& (65535 : Int32)).toUInt32.toUInt16.toUInt32.toInt32) - (97 : Int32))), .val (.int (1 : Int32)), .val (.int (0 : Int32)), .val (.int (1 : Int32)), .unset] [(.int ((p0 &&& (65535 : Int32)).toUInt32.toUInt16.toUInt32.toInt32))]))
        obtain ⟨_, _, ⟨T34, L34, k34, n34⟩, -, X34, ⟨Lc34, hQ34, l34, y34, z34⟩, st34⟩ := Jvm.LawKit.callS X0 hx (y := (⟨"com/example/ringd/ringd/core/Tags", "isStart", "(C)Z"⟩ : MethodName)) hown (mvT hZ (hw _ (List.mem_of_getElem? (i := 1) rfl))) (mvT hZ (hw _ (List.mem_of_getElem? (i := 2) rfl))) (mvT hZ (hw _ (List.mem_of_getElem? (i := 3) rfl))) (mvT hZ (hw _ (List.mem_of_getElem? (i := 4) rfl))) (by decide) (backOf (W := 0) (rm1 l Z a0 hw [] ((p0 &&& (65535 : Int32)).toUInt32.toUInt16.toUInt32.toInt32) h0 n0 Z0 ) hZ (hw _ (List.mem_of_getElem? (i := 4) rfl)) (hw _ (List.mem_of_getElem? (i := 3) rfl)) (by decide) (by decide)) (g := (mkF m 70 #[.val (.int p0), .val (.int ((p0 &&& (65535 : Int32)).toUInt32.toUInt16.toUInt32.toInt32)), .val (.int (((p0 &&& (65535 : Int32)).toUInt32.toUInt16.toUInt32.toInt32) - (48 : Int32))), .val (.int (((p0 &&& (65535 : Int32)).toUInt32.toUInt16.toUInt32.toInt32) - (97 : Int32))), .val (.int (1 : Int32)), .val (.int (0 : Int32)), .val (.int (1 : Int32)), .unset] [(.int ((p0 &&& (65535 : Int32)).toUInt32.toUInt16.toUInt32.toInt32))])) rfl (by rw [hml]; rfl) (argsL := [(.int ((p0 &&& (65535 : Int32)).toUInt32.toUInt16.toUInt32.toInt32))]) (rest := []) (lenOf pd_0 rfl) rfl (by show 2 * 0 + _ ≤ _; exact Nat.le_of_eq rfl) (hb hby at_70) (fun _ _ => ⟨rfl, e0, (by decide : 0 + 0 ≤ _), (by decide : 0 + 0 ≤ _)⟩)
        dsimp only [Pt.U, Pt.locs, Pt.cells, Pt.slots] at X34 l34 y34 z34 st34 hQ34
        subst l34 y34 z34
        obtain ⟨rfl, N34q, hh34⟩ := hQ34
        have N34 := Fr.app N0 N34q
        refine own_of st34 ?_
        show own_Out p e below _ (T34.setTop (mkF m 73 #[.val (.int p0), .val (.int ((p0 &&& (65535 : Int32)).toUInt32.toUInt16.toUInt32.toInt32)), .val (.int (((p0 &&& (65535 : Int32)).toUInt32.toUInt16.toUInt32.toInt32) - (48 : Int32))), .val (.int (((p0 &&& (65535 : Int32)).toUInt32.toUInt16.toUInt32.toInt32) - (97 : Int32))), .val (.int (1 : Int32)), .val (.int (0 : Int32)), .val (.int (1 : Int32)), .unset] [(.int (f1 ((p0 &&& (65535 : Int32)).toUInt32.toUInt16.toUInt32.toInt32)))]))
        refine own_of (fun _ k => XS.istore X34.here hx rfl (hb hby at_73) rfl (l' := #[.val (.int p0), .val (.int ((p0 &&& (65535 : Int32)).toUInt32.toUInt16.toUInt32.toInt32)), .val (.int (((p0 &&& (65535 : Int32)).toUInt32.toUInt16.toUInt32.toInt32) - (48 : Int32))), .val (.int (((p0 &&& (65535 : Int32)).toUInt32.toUInt16.toUInt32.toInt32) - (97 : Int32))), .val (.int (1 : Int32)), .val (.int (0 : Int32)), .val (.int (1 : Int32)), .val (.int (f1 ((p0 &&& (65535 : Int32)).toUInt32.toUInt16.toUInt32.toInt32)))]) rfl k) ?_
        show own_Out p e below _ (T34.setTop (mkF m 75 #[.val (.int p0), .val (.int ((p0 &&& (65535 : Int32)).toUInt32.toUInt16.toUInt32.toInt32)), .val (.int (((p0 &&& (65535 : Int32)).toUInt32.toUInt16.toUInt32.toInt32) - (48 : Int32))), .val (.int (((p0 &&& (65535 : Int32)).toUInt32.toUInt16.toUInt32.toInt32) - (97 : Int32))), .val (.int (1 : Int32)), .val (.int (0 : Int32)), .val (.int (1 : Int32)), .val (.int (f1 ((p0 &&& (65535 : Int32)).toUInt32.toUInt16.toUInt32.toInt32)))] []))
        refine own_of (fun _ k => XS.iload X34.here hx rfl (hb hby at_75) rfl k) ?_
        show own_Out p e below _ (T34.setTop (mkF m 77 #[.val (.int p0), .val (.int ((p0 &&& (65535 : Int32)).toUInt32.toUInt16.toUInt32.toInt32)), .val (.int (((p0 &&& (65535 : Int32)).toUInt32.toUInt16.toUInt32.toInt32) - (48 : Int32))), .val (.int (((p0 &&& (65535 : Int32)).toUInt32.toUInt16.toUInt32.toInt32) - (97 : Int32))), .val (.int (1 : Int32)), .val (.int (0 : Int32)), .val (.int (1 : Int32)), .val (.int (f1 ((p0 &&& (65535 : Int32)).toUInt32.toUInt16.toUInt32.toInt32)))] [(.int (f1 ((p0 &&& (65535 : Int32)).toUInt32.toUInt16.toUInt32.toInt32)))]))
        refine own_of (fun _ k => XS.iload X34.here hx rfl (hb hby at_77) rfl k) ?_
        show own_Out p e below _ (T34.setTop (mkF m 79 #[.val (.int p0), .val (.int ((p0 &&& (65535 : Int32)).toUInt32.toUInt16.toUInt32.toInt32)), .val (.int (((p0 &&& (65535 : Int32)).toUInt32.toUInt16.toUInt32.toInt32) - (48 : Int32))), .val (.int (((p0 &&& (65535 : Int32)).toUInt32.toUInt16.toUInt32.toInt32) - (97 : Int32))), .val (.int (1 : Int32)), .val (.int (0 : Int32)), .val (.int (1 : Int32)), .val (.int (f1 ((p0 &&& (65535 : Int32)).toUInt32.toUInt16.toUInt32.toInt32)))] [(.int (1 : Int32)), (.int (f1 ((p0 &&& (65535 : Int32)).toUInt32.toUInt16.toUInt32.toInt32)))]))
        by_cases hc79_35 : (f1 ((p0 &&& (65535 : Int32)).toUInt32.toUInt16.toUInt32.toInt32)) = (1 : Int32)
        · skip
          refine own_of (fun _ k => XS.icmpYes X34.here hx rfl (pc0 := 79) (pc' := 84) rfl (hb hby at_79) rfl (teq hc79_35).1 (by decide) (by decide) k) ?_
          show own_Out p e below _ (T34.setTop (mkF m 84 #[.val (.int p0), .val (.int ((p0 &&& (65535 : Int32)).toUInt32.toUInt16.toUInt32.toInt32)), .val (.int (((p0 &&& (65535 : Int32)).toUInt32.toUInt16.toUInt32.toInt32) - (48 : Int32))), .val (.int (((p0 &&& (65535 : Int32)).toUInt32.toUInt16.toUInt32.toInt32) - (97 : Int32))), .val (.int (1 : Int32)), .val (.int (0 : Int32)), .val (.int (1 : Int32)), .val (.int (f1 ((p0 &&& (65535 : Int32)).toUInt32.toUInt16.toUInt32.toInt32)))] []))
          refine own_of (fun _ k => XS.iload X34.here hx rfl (hb hby at_84) rfl k) ?_
          show own_Out p e below _ (T34.setTop (mkF m 86 #[.val (.int p0), .val (.int ((p0 &&& (65535 : Int32)).toUInt32.toUInt16.toUInt32.toInt32)), .val (.int (((p0 &&& (65535 : Int32)).toUInt32.toUInt16.toUInt32.toInt32) - (48 : Int32))), .val (.int (((p0 &&& (65535 : Int32)).toUInt32.toUInt16.toUInt32.toInt32) - (97 : Int32))), .val (.int (1 : Int32)), .val (.int (0 : Int32)), .val (.int (1 : Int32)), .val (.int (f1 ((p0 &&& (65535 : Int32)).toUInt32.toUInt16.toUInt32.toInt32)))] [(.int (f1 ((p0 &&& (65535 : Int32)).toUInt32.toUInt16.toUInt32.toInt32)))]))
          refine own_of (fun _ k => XS.ifNo X34.here hx rfl (hb hby at_86) rfl ((if0 _ _).trans (feq (own_T6 (own_L3 hc79_35) (by decide) : ¬ ((f1 ((p0 &&& (65535 : Int32)).toUInt32.toUInt16.toUInt32.toInt32)) = (0 : Int32)))).1) k) ?_
          show own_Out p e below _ (T34.setTop (mkF m 89 #[.val (.int p0), .val (.int ((p0 &&& (65535 : Int32)).toUInt32.toUInt16.toUInt32.toInt32)), .val (.int (((p0 &&& (65535 : Int32)).toUInt32.toUInt16.toUInt32.toInt32) - (48 : Int32))), .val (.int (((p0 &&& (65535 : Int32)).toUInt32.toUInt16.toUInt32.toInt32) - (97 : Int32))), .val (.int (1 : Int32)), .val (.int (0 : Int32)), .val (.int (1 : Int32)), .val (.int (f1 ((p0 &&& (65535 : Int32)).toUInt32.toUInt16.toUInt32.toInt32)))] []))
          refine own_of (fun _ k => XS.iloadN X34.here hx rfl (hb hby at_89) rfl k) ?_
          show own_Out p e below _ (T34.setTop (mkF m 90 #[.val (.int p0), .val (.int ((p0 &&& (65535 : Int32)).toUInt32.toUInt16.toUInt32.toInt32)), .val (.int (((p0 &&& (65535 : Int32)).toUInt32.toUInt16.toUInt32.toInt32) - (48 : Int32))), .val (.int (((p0 &&& (65535 : Int32)).toUInt32.toUInt16.toUInt32.toInt32) - (97 : Int32))), .val (.int (1 : Int32)), .val (.int (0 : Int32)), .val (.int (1 : Int32)), .val (.int (f1 ((p0 &&& (65535 : Int32)).toUInt32.toUInt16.toUInt32.toInt32)))] [(.int ((p0 &&& (65535 : Int32)).toUInt32.toUInt16.toUInt32.toInt32))]))
          obtain ⟨_, _, ⟨T36, L36, k36, n36⟩, -, X36, ⟨Lc36, hQ36, l36, y36, z36⟩, st36⟩ := Jvm.LawKit.callS X34 hx (y := (⟨"com/example/ringd/ringd/core/Tags", "isPart", "(C)Z"⟩ : MethodName)) hown (mvT hZ (hw _ (List.mem_of_getElem? (i := 61) rfl))) (mvT hZ (hw _ (List.mem_of_getElem? (i := 62) rfl))) (mvT hZ (hw _ (List.mem_of_getElem? (i := 3) rfl))) (mvT hZ (hw _ (List.mem_of_getElem? (i := 63) rfl))) (by decide) (backOf (W := 0) (rm14 l Z a0 hw [] ((p0 &&& (65535 : Int32)).toUInt32.toUInt16.toUInt32.toInt32) h0 n0 Z0 (own_T6 (own_L3 hc79_35) (by decide) : ¬ ((f1 ((p0 &&& (65535 : Int32)).toUInt32.toUInt16.toUInt32.toInt32)) = (0 : Int32)))) hZ (hw _ (List.mem_of_getElem? (i := 63) rfl)) (hw _ (List.mem_of_getElem? (i := 3) rfl)) (by decide) (by decide)) (g := (mkF m 90 #[.val (.int p0), .val (.int ((p0 &&& (65535 : Int32)).toUInt32.toUInt16.toUInt32.toInt32)), .val (.int (((p0 &&& (65535 : Int32)).toUInt32.toUInt16.toUInt32.toInt32) - (48 : Int32))), .val (.int (((p0 &&& (65535 : Int32)).toUInt32.toUInt16.toUInt32.toInt32) - (97 : Int32))), .val (.int (1 : Int32)), .val (.int (0 : Int32)), .val (.int (1 : Int32)), .val (.int (f1 ((p0 &&& (65535 : Int32)).toUInt32.toUInt16.toUInt32.toInt32)))] [(.int ((p0 &&& (65535 : Int32)).toUInt32.toUInt16.toUInt32.toInt32))])) rfl (by rw [hml]; rfl) (argsL := [(.int ((p0 &&& (65535 : Int32)).toUInt32.toUInt16.toUInt32.toInt32))]) (rest := []) (lenOf pd_0 rfl) rfl (by show 2 * 0 + _ ≤ _; exact Nat.le_of_eq rfl) (hb hby at_90) (fun _ _ => ⟨rfl, hh34, (by decide : 0 + 0 ≤ _), (by decide : 0 + 0 ≤ _)⟩)
          dsimp only [Pt.U, Pt.locs, Pt.cells, Pt.slots] at X36 l36 y36 z36 st36 hQ36
          subst l36 y36 z36
          obtain ⟨rfl, N36q, hh36⟩ := hQ36
          have N36 := Fr.app N34 N36q
          refine own_of st36 ?_
          show own_Out p e below _ (T36.setTop (mkF m 93 #[.val (.int p0), .val (.int ((p0 &&& (65535 : Int32)).toUInt32.toUInt16.toUInt32.toInt32)), .val (.int (((p0 &&& (65535 : Int32)).toUInt32.toUInt16.toUInt32.toInt32) - (48 : Int32))), .val (.int (((p0 &&& (65535 : Int32)).toUInt32.toUInt16.toUInt32.toInt32) - (97 : Int32))), .val (.int (1 : Int32)), .val (.int (0 : Int32)), .val (.int (1 : Int32)), .val (.int (f1 ((p0 &&& (65535 : Int32)).toUInt32.toUInt16.toUInt32.toInt32)))] [(.int (1 : Int32))]))
          refine own_of (fun _ k => XS.ifYes X36.here hx rfl (pc0 := 93) (pc' := 98) rfl (hb hby at_93) rfl ((if0 _ _).trans (feq (by decide : ¬ ((1 : Int32) = (0 : Int32)))).2) (by decide) (by decide) k) ?_
          show own_Out p e below _ (T36.setTop (mkF m 98 #[.val (.int p0), .val (.int ((p0 &&& (65535 : Int32)).toUInt32.toUInt16.toUInt32.toInt32)), .val (.int (((p0 &&& (65535 : Int32)).toUInt32.toUInt16.toUInt32.toInt32) - (48 : Int32))), .val (.int (((p0 &&& (65535 : Int32)).toUInt32.toUInt16.toUInt32.toInt32) - (97 : Int32))), .val (.int (1 : Int32)), .val (.int (0 : Int32)), .val (.int (1 : Int32)), .val (.int (f1 ((p0 &&& (65535 : Int32)).toUInt32.toUInt16.toUInt32.toInt32)))] []))
          refine own_of (fun _ k => XS.iloadN X36.here hx rfl (hb hby at_98) rfl k) ?_
          show own_Out p e below _ (T36.setTop (mkF m 99 #[.val (.int p0), .val (.int ((p0 &&& (65535 : Int32)).toUInt32.toUInt16.toUInt32.toInt32)), .val (.int (((p0 &&& (65535 : Int32)).toUInt32.toUInt16.toUInt32.toInt32) - (48 : Int32))), .val (.int (((p0 &&& (65535 : Int32)).toUInt32.toUInt16.toUInt32.toInt32) - (97 : Int32))), .val (.int (1 : Int32)), .val (.int (0 : Int32)), .val (.int (1 : Int32)), .val (.int (f1 ((p0 &&& (65535 : Int32)).toUInt32.toUInt16.toUInt32.toInt32)))] [(.int ((p0 &&& (65535 : Int32)).toUInt32.toUInt16.toUInt32.toInt32))]))
          by_cases hc99_37 : (255 : Int32) < ((p0 &&& (65535 : Int32)).toUInt32.toUInt16.toUInt32.toInt32)
          · skip
            obtain ⟨_, _, ⟨T38, L38, k38, n38⟩, -, X38, ⟨Lc38, hQ38, l38, y38, z38⟩, st38⟩ := Jvm.LawKit.callS X36 hx (y := (⟨"java/lang/String", "valueOf", "(C)Ljava/lang/String;"⟩ : MethodName)) hown (mvT hZ (hw _ (List.mem_of_getElem? (i := 5) rfl))) (mvT hZ (hw _ (List.mem_of_getElem? (i := 6) rfl))) (mvT hZ (hw _ (List.mem_of_getElem? (i := 7) rfl))) (mvT hZ (hw _ (List.mem_of_getElem? (i := 8) rfl))) (by decide) (backOf (W := 0) (rm2u l Z a0 hw [] ((p0 &&& (65535 : Int32)).toUInt32.toUInt16.toUInt32.toInt32) cs h0 n0 Z0 S_cs hcs hc99_37 S_ad S_hi S_lo) hZ (hw _ (List.mem_of_getElem? (i := 8) rfl)) (hw _ (List.mem_of_getElem? (i := 7) rfl)) (by decide) (by decide)) (g := (mkF m 99 #[.val (.int p0), .val (.int ((p0 &&& (65535 : Int32)).toUInt32.toUInt16.toUInt32.toInt32)), .val (.int (((p0 &&& (65535 : Int32)).toUInt32.toUInt16.toUInt32.toInt32) - (48 : Int32))), .val (.int (((p0 &&& (65535 : Int32)).toUInt32.toUInt16.toUInt32.toInt32) - (97 : Int32))), .val (.int (1 : Int32)), .val (.int (0 : Int32)), .val (.int (1 : Int32)), .val (.int (f1 ((p0 &&& (65535 : Int32)).toUInt32.toUInt16.toUInt32.toInt32)))] [(.int ((p0 &&& (65535 : Int32)).toUInt32.toUInt16.toUInt32.toInt32))])) rfl (by rw [hml]; rfl) (argsL := [(.int ((p0 &&& (65535 : Int32)).toUInt32.toUInt16.toUInt32.toInt32))]) (rest := []) (lenOf pd_13 rfl) rfl (by show 2 * 0 + _ ≤ _; exact Nat.le_of_eq rfl) (hb hby at_99) (fun _ _ => ⟨rfl, hh36, (by decide : 0 + 2 ≤ _), (by decide : 0 + 6 ≤ _)⟩)
            dsimp only [Pt.U, Pt.locs, Pt.cells, Pt.slots] at X38 l38 y38 z38 st38 hQ38
            subst l38 y38 z38
            obtain ⟨r38, b38, k38, rfl, N38q, K38, E38, Fv38, Fc38, V38, hgr_38, hsr_38, hgb_38, hsb_38, hnrb_38⟩ := hQ38
            have N38 := Fr.app N36 N38q
            have S_java_lang_String_COMPACT_STRINGS_K38 := own_staK0 S_cs K38
            have S_jdk_internal_util_Preconditions_SIOOBE_FORMATTER_K38 := own_staK0 S_f K38
            have S_java_lang_StringUTF16__assertionsDisabled_K38 := own_staK0 S_ad K38
            have S_java_lang_StringUTF16_HI_BYTE_SHIFT_K38 := own_staK0 S_hi K38
            have S_java_lang_StringUTF16_LO_BYTE_SHIFT_K38 := own_staK0 S_lo K38
            have Zl38 : n0 ≤ T38.heap.size := Nat.le_trans Z0 K38.1
            refine own_of st38 ?_
            show own_Out p e below _ (T38.setTop (mkF m 102 #[.val (.int p0), .val (.int ((p0 &&& (65535 : Int32)).toUInt32.toUInt16.toUInt32.toInt32)), .val (.int (((p0 &&& (65535 : Int32)).toUInt32.toUInt16.toUInt32.toInt32) - (48 : Int32))), .val (.int (((p0 &&& (65535 : Int32)).toUInt32.toUInt16.toUInt32.toInt32) - (97 : Int32))), .val (.int (1 : Int32)), .val (.int (0 : Int32)), .val (.int (1 : Int32)), .val (.int (f1 ((p0 &&& (65535 : Int32)).toUInt32.toUInt16.toUInt32.toInt32)))] [(.ref r38)]))
            obtain ⟨_, _, ⟨T39, L39, k39, n39⟩, -, X39, ⟨Lc39, hQ39, l39, y39, z39⟩, st39⟩ := Jvm.LawKit.callS X38 hx (y := (⟨"com/example/ringd/ringd/core/Tags", "isTag", "(Ljava/lang/String;)Z"⟩ : MethodName)) hown (mvT hZ (hw _ (List.mem_of_getElem? (i := 31) rfl))) (mvT hZ (hw _ (List.mem_of_getElem? (i := 32) rfl))) (mvT hZ (hw _ (List.mem_of_getElem? (i := 3) rfl))) (mvT hZ (hw _ (List.mem_of_getElem? (i := 33) rfl))) (by decide) (backOf (W := 0) (rm7c1n2 l Z a0 hw [] r38 b38 k38 (((((p0 &&& (65535 : Int32)).toUInt32.toUInt16.toUInt32.toInt32) >>> ((0 : Int32) &&& 31)).toInt8.toInt32).toInt8.toInt32) (((((p0 &&& (65535 : Int32)).toUInt32.toUInt16.toUInt32.toInt32) >>> ((8 : Int32) &&& 31)).toInt8.toInt32).toInt8.toInt32) cs vf T38.heap n0 Zl38 E38 Fv38 Fc38 V38 S_java_lang_String_COMPACT_STRINGS_K38 hcs S_jdk_internal_util_Preconditions_SIOOBE_FORMATTER_K38 hvf S_java_lang_StringUTF16__assertionsDisabled_K38 S_java_lang_StringUTF16_HI_BYTE_SHIFT_K38 S_java_lang_StringUTF16_LO_BYTE_SHIFT_K38) hZ (hw _ (List.mem_of_getElem? (i := 33) rfl)) (hw _ (List.mem_of_getElem? (i := 3) rfl)) (by decide) (by decide)) (g := (mkF m 102 #[.val (.int p0), .val (.int ((p0 &&& (65535 : Int32)).toUInt32.toUInt16.toUInt32.toInt32)), .val (.int (((p0 &&& (65535 : Int32)).toUInt32.toUInt16.toUInt32.toInt32) - (48 : Int32))), .val (.int (((p0 &&& (65535 : Int32)).toUInt32.toUInt16.toUInt32.toInt32) - (97 : Int32))), .val (.int (1 : Int32)), .val (.int (0 : Int32)), .val (.int (1 : Int32)), .val (.int (f1 ((p0 &&& (65535 : Int32)).toUInt32.toUInt16.toUInt32.toInt32)))] [(.ref r38)])) rfl (by rw [hml]; rfl) (argsL := [(.ref r38)]) (rest := []) (lenOf pd_14 rfl) rfl (by show 2 * 0 + _ ≤ _; exact Nat.le_of_eq rfl) (hb hby at_102) (fun _ _ => ⟨rfl, rfl, (by decide : 2 + 0 ≤ _), (by decide : 6 + 0 ≤ _)⟩)
            dsimp only [Pt.U, Pt.locs, Pt.cells, Pt.slots] at X39 l39 y39 z39 st39 hQ39
            subst l39 y39 z39
            obtain ⟨rfl, N39q, hh39⟩ := hQ39
            have N39 := Fr.app N38 N39q
            refine own_of st39 ?_
            show own_Out p e below _ (T39.setTop (mkF m 105 #[.val (.int p0), .val (.int ((p0 &&& (65535 : Int32)).toUInt32.toUInt16.toUInt32.toInt32)), .val (.int (((p0 &&& (65535 : Int32)).toUInt32.toUInt16.toUInt32.toInt32) - (48 : Int32))), .val (.int (((p0 &&& (65535 : Int32)).toUInt32.toUInt16.toUInt32.toInt32) - (97 : Int32))), .val (.int (1 : Int32)), .val (.int (0 : Int32)), .val (.int (1 : Int32)), .val (.int (f1 ((p0 &&& (65535 : Int32)).toUInt32.toUInt16.toUInt32.toInt32)))] [(.int (f_isTagc1n2 (((((p0 &&& (65535 : Int32)).toUInt32.toUInt16.toUInt32.toInt32) >>> ((0 : Int32) &&& 31)).toInt8.toInt32).toInt8.toInt32) (((((p0 &&& (65535 : Int32)).toUInt32.toUInt16.toUInt32.toInt32) >>> ((8 : Int32) &&& 31)).toInt8.toInt32).toInt8.toInt32) cs))]))
            refine own_of (fun _ k => XS.iload X39.here hx rfl (hb hby at_105) rfl k) ?_
            show own_Out p e below _ (T39.setTop (mkF m 107 #[.val (.int p0), .val (.int ((p0 &&& (65535 : Int32)).toUInt32.toUInt16.toUInt32.toInt32)), .val (.int (((p0 &&& (65535 : Int32)).toUInt32.toUInt16.toUInt32.toInt32) - (48 : Int32))), .val (.int (((p0 &&& (65535 : Int32)).toUInt32.toUInt16.toUInt32.toInt32) - (97 : Int32))), .val (.int (1 : Int32)), .val (.int (0 : Int32)), .val (.int (1 : Int32)), .val (.int (f1 ((p0 &&& (65535 : Int32)).toUInt32.toUInt16.toUInt32.toInt32)))] [(.int (f1 ((p0 &&& (65535 : Int32)).toUInt32.toUInt16.toUInt32.toInt32))), (.int (f_isTagc1n2 (((((p0 &&& (65535 : Int32)).toUInt32.toUInt16.toUInt32.toInt32) >>> ((0 : Int32) &&& 31)).toInt8.toInt32).toInt8.toInt32) (((((p0 &&& (65535 : Int32)).toUInt32.toUInt16.toUInt32.toInt32) >>> ((8 : Int32) &&& 31)).toInt8.toInt32).toInt8.toInt32) cs))]))
            by_cases hc107_40 : (f_isTagc1n2 (((((p0 &&& (65535 : Int32)).toUInt32.toUInt16.toUInt32.toInt32) >>> ((0 : Int32) &&& 31)).toInt8.toInt32).toInt8.toInt32) (((((p0 &&& (65535 : Int32)).toUInt32.toUInt16.toUInt32.toInt32) >>> ((8 : Int32) &&& 31)).toInt8.toInt32).toInt8.toInt32) cs) = (f1 ((p0 &&& (65535 : Int32)).toUInt32.toUInt16.toUInt32.toInt32))
            · skip
              refine own_of (fun _ k => XS.icmpNo X39.here hx rfl (hb hby at_107) rfl (teq hc107_40).2 k) ?_
              show own_Out p e below _ (T39.setTop (mkF m 110 #[.val (.int p0), .val (.int ((p0 &&& (65535 : Int32)).toUInt32.toUInt16.toUInt32.toInt32)), .val (.int (((p0 &&& (65535 : Int32)).toUInt32.toUInt16.toUInt32.toInt32) - (48 : Int32))), .val (.int (((p0 &&& (65535 : Int32)).toUInt32.toUInt16.toUInt32.toInt32) - (97 : Int32))), .val (.int (1 : Int32)), .val (.int (0 : Int32)), .val (.int (1 : Int32)), .val (.int (f1 ((p0 &&& (65535 : Int32)).toUInt32.toUInt16.toUInt32.toInt32)))] []))
              refine own_of (fun _ k => XS.iconst X39.here hx rfl (hb hby at_110) k) ?_
              show own_Out p e below _ (T39.setTop (mkF m 111 #[.val (.int p0), .val (.int ((p0 &&& (65535 : Int32)).toUInt32.toUInt16.toUInt32.toInt32)), .val (.int (((p0 &&& (65535 : Int32)).toUInt32.toUInt16.toUInt32.toInt32) - (48 : Int32))), .val (.int (((p0 &&& (65535 : Int32)).toUInt32.toUInt16.toUInt32.toInt32) - (97 : Int32))), .val (.int (1 : Int32)), .val (.int (0 : Int32)), .val (.int (1 : Int32)), .val (.int (f1 ((p0 &&& (65535 : Int32)).toUInt32.toUInt16.toUInt32.toInt32)))] [(.int (1 : Int32))]))
              refine own_of (fun _ k => XS.goto X39.here hx rfl (pc0 := 111) (pc' := 115) rfl (hb hby at_111) (by decide) (by decide) k) ?_
              show own_Out p e below _ (T39.setTop (mkF m 115 #[.val (.int p0), .val (.int ((p0 &&& (65535 : Int32)).toUInt32.toUInt16.toUInt32.toInt32)), .val (.int (((p0 &&& (65535 : Int32)).toUInt32.toUInt16.toUInt32.toInt32) - (48 : Int32))), .val (.int (((p0 &&& (65535 : Int32)).toUInt32.toUInt16.toUInt32.toInt32) - (97 : Int32))), .val (.int (1 : Int32)), .val (.int (0 : Int32)), .val (.int (1 : Int32)), .val (.int (f1 ((p0 &&& (65535 : Int32)).toUInt32.toUInt16.toUInt32.toInt32)))] [(.int (1 : Int32))]))
              exact own_outN X39 hx hlk (t := .boolean) hret (by simp) (hb hby at_115) (z' := (1 : Int32)) rfl (Q := Q0 Z p0 cs vf h0 n0) ⟨rfl, N39⟩ (by decide) (by decide)
            · skip
              refine own_of (fun _ k => XS.icmpYes X39.here hx rfl (pc0 := 107) (pc' := 114) rfl (hb hby at_107) rfl (feq hc107_40).2 (by decide) (by decide) k) ?_
              show own_Out p e below _ (T39.setTop (mkF m 114 #[.val (.int p0), .val (.int ((p0 &&& (65535 : Int32)).toUInt32.toUInt16.toUInt32.toInt32)), .val (.int (((p0 &&& (65535 : Int32)).toUInt32.toUInt16.toUInt32.toInt32) - (48 : Int32))), .val (.int (((p0 &&& (65535 : Int32)).toUInt32.toUInt16.toUInt32.toInt32) - (97 : Int32))), .val (.int (1 : Int32)), .val (.int (0 : Int32)), .val (.int (1 : Int32)), .val (.int (f1 ((p0 &&& (65535 : Int32)).toUInt32.toUInt16.toUInt32.toInt32)))] []))
              refine own_of (fun _ k => XS.iconst X39.here hx rfl (hb hby at_114) k) ?_
              show own_Out p e below _ (T39.setTop (mkF m 115 #[.val (.int p0), .val (.int ((p0 &&& (65535 : Int32)).toUInt32.toUInt16.toUInt32.toInt32)), .val (.int (((p0 &&& (65535 : Int32)).toUInt32.toUInt16.toUInt32.toInt32) - (48 : Int32))), .val (.int (((p0 &&& (65535 : Int32)).toUInt32.toUInt16.toUInt32.toInt32) - (97 : Int32))), .val (.int (1 : Int32)), .val (.int (0 : Int32)), .val (.int (1 : Int32)), .val (.int (f1 ((p0 &&& (65535 : Int32)).toUInt32.toUInt16.toUInt32.toInt32)))] [(.int (0 : Int32))]))
              exact (dead0_9 p0 hcs hc18_1 hc24_32 hc36_33 hc79_35 hc99_37 hc107_40).elim
          · skip
            obtain ⟨_, _, ⟨T41, L41, k41, n41⟩, -, X41, ⟨Lc41, hQ41, l41, y41, z41⟩, st41⟩ := Jvm.LawKit.callS X36 hx (y := (⟨"java/lang/String", "valueOf", "(C)Ljava/lang/String;"⟩ : MethodName)) hown (mvT hZ (hw _ (List.mem_of_getElem? (i := 5) rfl))) (mvT hZ (hw _ (List.mem_of_getElem? (i := 6) rfl))) (mvT hZ (hw _ (List.mem_of_getElem? (i := 7) rfl))) (mvT hZ (hw _ (List.mem_of_getElem? (i := 8) rfl))) (by decide) (backOf (W := 0) (rm2l l Z a0 hw [] ((p0 &&& (65535 : Int32)).toUInt32.toUInt16.toUInt32.toInt32) cs h0 n0 Z0 S_cs hcs hc99_37) hZ (hw _ (List.mem_of_getElem? (i := 8) rfl)) (hw _ (List.mem_of_getElem? (i := 7) rfl)) (by decide) (by decide)) (g := (mkF m 99 #[.val (.int p0), .val (.int ((p0 &&& (65535 : Int32)).toUInt32.toUInt16.toUInt32.toInt32)), .val (.int (((p0 &&& (65535 : Int32)).toUInt32.toUInt16.toUInt32.toInt32) - (48 : Int32))), .val (.int (((p0 &&& (65535 : Int32)).toUInt32.toUInt16.toUInt32.toInt32) - (97 : Int32))), .val (.int (1 : Int32)), .val (.int (0 : Int32)), .val (.int (1 : Int32)), .val (.int (f1 ((p0 &&& (65535 : Int32)).toUInt32.toUInt16.toUInt32.toInt32)))] [(.int ((p0 &&& (65535 : Int32)).toUInt32.toUInt16.toUInt32.toInt32))])) rfl (by rw [hml]; rfl) (argsL := [(.int ((p0 &&& (65535 : Int32)).toUInt32.toUInt16.toUInt32.toInt32))]) (rest := []) (lenOf pd_13 rfl) rfl (by show 2 * 0 + _ ≤ _; exact Nat.le_of_eq rfl) (hb hby at_99) (fun _ _ => ⟨rfl, hh36, (by decide : 0 + 2 ≤ _), (by decide : 0 + 5 ≤ _)⟩)
            dsimp only [Pt.U, Pt.locs, Pt.cells, Pt.slots] at X41 l41 y41 z41 st41 hQ41
            subst l41 y41 z41
            obtain ⟨r41, b41, k41, rfl, N41q, K41, E41, Fv41, Fc41, V41, hgr_41, hsr_41, hgb_41, hsb_41, hnrb_41⟩ := hQ41
            have N41 := Fr.app N36 N41q
            have S_java_lang_String_COMPACT_STRINGS_K41 := own_staK0 S_cs K41
            have S_jdk_internal_util_Preconditions_SIOOBE_FORMATTER_K41 := own_staK0 S_f K41
            have S_java_lang_StringUTF16__assertionsDisabled_K41 := own_staK0 S_ad K41
            have S_java_lang_StringUTF16_HI_BYTE_SHIFT_K41 := own_staK0 S_hi K41
            have S_java_lang_StringUTF16_LO_BYTE_SHIFT_K41 := own_staK0 S_lo K41
            have Zl41 : n0 ≤ T41.heap.size := Nat.le_trans Z0 K41.1
            refine own_of st41 ?_
            show own_Out p e below _ (T41.setTop (mkF m 102 #[.val (.int p0), .val (.int ((p0 &&& (65535 : Int32)).toUInt32.toUInt16.toUInt32.toInt32)), .val (.int (((p0 &&& (65535 : Int32)).toUInt32.toUInt16.toUInt32.toInt32) - (48 : Int32))), .val (.int (((p0 &&& (65535 : Int32)).toUInt32.toUInt16.toUInt32.toInt32) - (97 : Int32))), .val (.int (1 : Int32)), .val (.int (0 : Int32)), .val (.int (1 : Int32)), .val (.int (f1 ((p0 &&& (65535 : Int32)).toUInt32.toUInt16.toUInt32.toInt32)))] [(.ref r41)]))
            obtain ⟨_, _, ⟨T42, L42, k42, n42⟩, -, X42, ⟨Lc42, hQ42, l42, y42, z42⟩, st42⟩ := Jvm.LawKit.callS X41 hx (y := (⟨"com/example/ringd/ringd/core/Tags", "isTag", "(Ljava/lang/String;)Z"⟩ : MethodName)) hown (mvT hZ (hw _ (List.mem_of_getElem? (i := 31) rfl))) (mvT hZ (hw _ (List.mem_of_getElem? (i := 32) rfl))) (mvT hZ (hw _ (List.mem_of_getElem? (i := 3) rfl))) (mvT hZ (hw _ (List.mem_of_getElem? (i := 33) rfl))) (by decide) (backOf (W := 0) (rm7c0n1 l Z a0 hw [] r41 b41 k41 ((((p0 &&& (65535 : Int32)).toUInt32.toUInt16.toUInt32.toInt32).toInt8.toInt32).toInt8.toInt32) cs vf T41.heap n0 Zl41 E41 Fv41 Fc41 V41 S_java_lang_String_COMPACT_STRINGS_K41 hcs S_jdk_internal_util_Preconditions_SIOOBE_FORMATTER_K41 hvf) hZ (hw _ (List.mem_of_getElem? (i := 33) rfl)) (hw _ (List.mem_of_getElem? (i := 3) rfl)) (by decide) (by decide)) (g := (mkF m 102 #[.val (.int p0), .val (.int ((p0 &&& (65535 : Int32)).toUInt32.toUInt16.toUInt32.toInt32)), .val (.int (((p0 &&& (65535 : Int32)).toUInt32.toUInt16.toUInt32.toInt32) - (48 : Int32))), .val (.int (((p0 &&& (65535 : Int32)).toUInt32.toUInt16.toUInt32.toInt32) - (97 : Int32))), .val (.int (1 : Int32)), .val (.int (0 : Int32)), .val (.int (1 : Int32)), .val (.int (f1 ((p0 &&& (65535 : Int32)).toUInt32.toUInt16.toUInt32.toInt32)))] [(.ref r41)])) rfl (by rw [hml]; rfl) (argsL := [(.ref r41)]) (rest := []) (lenOf pd_14 rfl) rfl (by show 2 * 0 + _ ≤ _; exact Nat.le_of_eq rfl) (hb hby at_102) (fun _ _ => ⟨rfl, rfl, (by decide : 2 + 0 ≤ _), (by decide : 5 + 0 ≤ _)⟩)
            dsimp only [Pt.U, Pt.locs, Pt.cells, Pt.slots] at X42 l42 y42 z42 st42 hQ42
            subst l42 y42 z42
            obtain ⟨rfl, N42q, hh42⟩ := hQ42
            have N42 := Fr.app N41 N42q
            refine own_of st42 ?_
            show own_Out p e below _ (T42.setTop (mkF m 105 #[.val (.int p0), .val (.int ((p0 &&& (65535 : Int32)).toUInt32.toUInt16.toUInt32.toInt32)), .val (.int (((p0 &&& (65535 : Int32)).toUInt32.toUInt16.toUInt32.toInt32) - (48 : Int32))), .val (.int (((p0 &&& (65535 : Int32)).toUInt32.toUInt16.toUInt32.toInt32) - (97 : Int32))), .val (.int (1 : Int32)), .val (.int (0 : Int32)), .val (.int (1 : Int32)), .val (.int (f1 ((p0 &&& (65535 : Int32)).toUInt32.toUInt16.toUInt32.toInt32)))] [(.int (f_isTagc0n1 ((((p0 &&& (65535 : Int32)).toUInt32.toUInt16.toUInt32.toInt32).toInt8.toInt32).toInt8.toInt32) cs))]))
            refine own_of (fun _ k => XS.iload X42.here hx rfl (hb hby at_105) rfl k) ?_
            show own_Out p e below _ (T42.setTop (mkF m 107 #[.val (.int p0), .val (.int ((p0 &&& (65535 : Int32)).toUInt32.toUInt16.toUInt32.toInt32)), .val (.int (((p0 &&& (65535 : Int32)).toUInt32.toUInt16.toUInt32.toInt32) - (48 : Int32))), .val (.int (((p0 &&& (65535 : Int32)).toUInt32.toUInt16.toUInt32.toInt32) - (97 : Int32))), .val (.int (1 : Int32)), .val (.int (0 : Int32)), .val (.int (1 : Int32)), .val (.int (f1 ((p0 &&& (65535 : Int32)).toUInt32.toUInt16.toUInt32.toInt32)))] [(.int (f1 ((p0 &&& (65535 : Int32)).toUInt32.toUInt16.toUInt32.toInt32))), (.int (f_isTagc0n1 ((((p0 &&& (65535 : Int32)).toUInt32.toUInt16.toUInt32.toInt32).toInt8.toInt32).toInt8.toInt32) cs))]))
            by_cases hc107_43 : (f_isTagc0n1 ((((p0 &&& (65535 : Int32)).toUInt32.toUInt16.toUInt32.toInt32).toInt8.toInt32).toInt8.toInt32) cs) = (f1 ((p0 &&& (65535 : Int32)).toUInt32.toUInt16.toUInt32.toInt32))
            · skip
              refine own_of (fun _ k => XS.icmpNo X42.here hx rfl (hb hby at_107) rfl (teq hc107_43).2 k) ?_
              show own_Out p e below _ (T42.setTop (mkF m 110 #[.val (.int p0), .val (.int ((p0 &&& (65535 : Int32)).toUInt32.toUInt16.toUInt32.toInt32)), .val (.int (((p0 &&& (65535 : Int32)).toUInt32.toUInt16.toUInt32.toInt32) - (48 : Int32))), .val (.int (((p0 &&& (65535 : Int32)).toUInt32.toUInt16.toUInt32.toInt32) - (97 : Int32))), .val (.int (1 : Int32)), .val (.int (0 : Int32)), .val (.int (1 : Int32)), .val (.int (f1 ((p0 &&& (65535 : Int32)).toUInt32.toUInt16.toUInt32.toInt32)))] []))
              refine own_of (fun _ k => XS.iconst X42.here hx rfl (hb hby at_110) k) ?_
              show own_Out p e below _ (T42.setTop (mkF m 111 #[.val (.int p0), .val (.int ((p0 &&& (65535 : Int32)).toUInt32.toUInt16.toUInt32.toInt32)), .val (.int (((p0 &&& (65535 : Int32)).toUInt32.toUInt16.toUInt32.toInt32) - (48 : Int32))), .val (.int (((p0 &&& (65535 : Int32)).toUInt32.toUInt16.toUInt32.toInt32) - (97 : Int32))), .val (.int (1 : Int32)), .val (.int (0 : Int32)), .val (.int (1 : Int32)), .val (.int (f1 ((p0 &&& (65535 : Int32)).toUInt32.toUInt16.toUInt32.toInt32)))] [(.int (1 : Int32))]))
              refine own_of (fun _ k => XS.goto X42.here hx rfl (pc0 := 111) (pc' := 115) rfl (hb hby at_111) (by decide) (by decide) k) ?_
              show own_Out p e below _ (T42.setTop (mkF m 115 #[.val (.int p0), .val (.int ((p0 &&& (65535 : Int32)).toUInt32.toUInt16.toUInt32.toInt32)), .val (.int (((p0 &&& (65535 : Int32)).toUInt32.toUInt16.toUInt32.toInt32) - (48 : Int32))), .val (.int (((p0 &&& (65535 : Int32)).toUInt32.toUInt16.toUInt32.toInt32) - (97 : Int32))), .val (.int (1 : Int32)), .val (.int (0 : Int32)), .val (.int (1 : Int32)), .val (.int (f1 ((p0 &&& (65535 : Int32)).toUInt32.toUInt16.toUInt32.toInt32)))] [(.int (1 : Int32))]))
              exact own_outN X42 hx hlk (t := .boolean) hret (by simp) (hb hby at_115) (z' := (1 : Int32)) rfl (Q := Q0 Z p0 cs vf h0 n0) ⟨rfl, N42⟩ (by decide) (by decide)
            · skip
              refine own_of (fun _ k => XS.icmpYes X42.here hx rfl (pc0 := 107) (pc' := 114) rfl (hb hby at_107) rfl (feq hc107_43).2 (by decide) (by decide) k) ?_
              show own_Out p e below _ (T42.setTop (mkF m 114 #[.val (.int p0), .val (.int ((p0 &&& (65535 : Int32)).toUInt32.toUInt16.toUInt32.toInt32)), .val (.int (((p0 &&& (65535 : Int32)).toUInt32.toUInt16.toUInt32.toInt32) - (48 : Int32))), .val (.int (((p0 &&& (65535 : Int32)).toUInt32.toUInt16.toUInt32.toInt32) - (97 : Int32))), .val (.int (1 : Int32)), .val (.int (0 : Int32)), .val (.int (1 : Int32)), .val (.int (f1 ((p0 &&& (65535 : Int32)).toUInt32.toUInt16.toUInt32.toInt32)))] []))
              refine own_of (fun _ k => XS.iconst X42.here hx rfl (hb hby at_114) k) ?_
              show own_Out p e below _ (T42.setTop (mkF m 115 #[.val (.int p0), .val (.int ((p0 &&& (65535 : Int32)).toUInt32.toUInt16.toUInt32.toInt32)), .val (.int (((p0 &&& (65535 : Int32)).toUInt32.toUInt16.toUInt32.toInt32) - (48 : Int32))), .val (.int (((p0 &&& (65535 : Int32)).toUInt32.toUInt16.toUInt32.toInt32) - (97 : Int32))), .val (.int (1 : Int32)), .val (.int (0 : Int32)), .val (.int (1 : Int32)), .val (.int (f1 ((p0 &&& (65535 : Int32)).toUInt32.toUInt16.toUInt32.toInt32)))] [(.int (0 : Int32))]))
              exact (dead0_10 p0 hcs hc18_1 hc24_32 hc36_33 hc79_35 hc99_37 hc107_43).elim
        · skip
          refine own_of (fun _ k => XS.icmpNo X34.here hx rfl (hb hby at_79) rfl (feq hc79_35).1 k) ?_
          show own_Out p e below _ (T34.setTop (mkF m 82 #[.val (.int p0), .val (.int ((p0 &&& (65535 : Int32)).toUInt32.toUInt16.toUInt32.toInt32)), .val (.int (((p0 &&& (65535 : Int32)).toUInt32.toUInt16.toUInt32.toInt32) - (48 : Int32))), .val (.int (((p0 &&& (65535 : Int32)).toUInt32.toUInt16.toUInt32.toInt32) - (97 : Int32))), .val (.int (1 : Int32)), .val (.int (0 : Int32)), .val (.int (1 : Int32)), .val (.int (f1 ((p0 &&& (65535 : Int32)).toUInt32.toUInt16.toUInt32.toInt32)))] []))
          refine own_of (fun _ k => XS.iconst X34.here hx rfl (hb hby at_82) k) ?_
          show own_Out p e below _ (T34.setTop (mkF m 83 #[.val (.int p0), .val (.int ((p0 &&& (65535 : Int32)).toUInt32.toUInt16.toUInt32.toInt32)), .val (.int (((p0 &&& (65535 : Int32)).toUInt32.toUInt16.toUInt32.toInt32) - (48 : Int32))), .val (.int (((p0 &&& (65535 : Int32)).toUInt32.toUInt16.toUInt32.toInt32) - (97 : Int32))), .val (.int (1 : Int32)), .val (.int (0 : Int32)), .val (.int (1 : Int32)), .val (.int (f1 ((p0 &&& (65535 : Int32)).toUInt32.toUInt16.toUInt32.toInt32)))] [(.int (0 : Int32))]))
          exact (dead0_11 p0 hcs hc18_1 hc24_32 hc36_33 hc79_35).elim
      · skip
        refine own_of (fun _ k => XS.icmpNo X0.here hx rfl (hb hby at_36) rfl (flt hc36_33).2.2.1 k) ?_
        show own_Out p e below _ (s₁.setTop (mkF m 39 #[.val (.int p0), .val (.int ((p0 &&& (65535 : Int32)).toUInt32.toUInt16.toUInt32.toInt32)), .val (.int (((p0 &&& (65535 : Int32)).toUInt32.toUInt16.toUInt32.toInt32) - (48 : Int32))), .val (.int (((p0 &&& (65535 : Int32)).toUInt32.toUInt16.toUInt32.toInt32) - (97 : Int32))), .val (.int (1 : Int32)), .unset, .unset, .unset] []))
        refine own_of (fun _ k => XS.iloadN X0.here hx rfl (hb hby at_39) rfl k) ?_
        show own_Out p e below _ (s₁.setTop (mkF m 40 #[.val (.int p0), .val (.int ((p0 &&& (65535 : Int32)).toUInt32.toUInt16.toUInt32.toInt32)), .val (.int (((p0 &&& (65535 : Int32)).toUInt32.toUInt16.toUInt32.toInt32) - (48 : Int32))), .val (.int (((p0 &&& (65535 : Int32)).toUInt32.toUInt16.toUInt32.toInt32) - (97 : Int32))), .val (.int (1 : Int32)), .unset, .unset, .unset] [(.int (((p0 &&& (65535 : Int32)).toUInt32.toUInt16.toUInt32.toInt32) - (97 : Int32)))]))
        refine own_of (fun _ k => XS.bipush X0.here hx rfl (hb hby at_40) k) ?_
        show own_Out p e below _ (s₁.setTop (mkF m 42 #[.val (.int p0), .val (.int ((p0 &&& (65535 : Int32)).toUInt32.toUInt16.toUInt32.toInt32)), .val (.int (((p0 &&& (65535 : Int32)).toUInt32.toUInt16.toUInt32.toInt32) - (48 : Int32))), .val (.int (((p0 &&& (65535 : Int32)).toUInt32.toUInt16.toUInt32.toInt32) - (97 : Int32))), .val (.int (1 : Int32)), .unset, .unset, .unset] [(.int (26 : Int32)), (.int (((p0 &&& (65535 : Int32)).toUInt32.toUInt16.toUInt32.toInt32) - (97 : Int32)))]))
        by_cases hc42_44 : (((p0 &&& (65535 : Int32)).toUInt32.toUInt16.toUInt32.toInt32) - (97 : Int32)) < (26 : Int32)
        · skip
          refine own_of (fun _ k => XS.icmpNo X0.here hx rfl (hb hby at_42) rfl (tlt hc42_44).2.1 k) ?_
          show own_Out p e below _ (s₁.setTop (mkF m 45 #[.val (.int p0), .val (.int ((p0 &&& (65535 : Int32)).toUInt32.toUInt16.toUInt32.toInt32)), .val (.int (((p0 &&& (65535 : Int32)).toUInt32.toUInt16.toUInt32.toInt32) - (48 : Int32))), .val (.int (((p0 &&& (65535 : Int32)).toUInt32.toUInt16.toUInt32.toInt32) - (97 : Int32))), .val (.int (1 : Int32)), .unset, .unset, .unset] []))
          refine own_of (fun _ k => XS.iconst X0.here hx rfl (hb hby at_45) k) ?_
          show own_Out p e below _ (s₁.setTop (mkF m 46 #[.val (.int p0), .val (.int ((p0 &&& (65535 : Int32)).toUInt32.toUInt16.toUInt32.toInt32)), .val (.int (((p0 &&& (65535 : Int32)).toUInt32.toUInt16.toUInt32.toInt32) - (48 : Int32))), .val (.int (((p0 &&& (65535 : Int32)).toUInt32.toUInt16.toUInt32.toInt32) - (97 : Int32))), .val (.int (1 : Int32)), .unset, .unset, .unset] [(.int (1 : Int32))]))
          refine own_of (fun _ k => XS.goto X0.here hx rfl (pc0 := 46) (pc' := 50) rfl (hb hby at_46) (by decide) (by decide) k) ?_
          show own_Out p e below _ (s₁.setTop (mkF m 50 #[.val (.int p0), .val (.int ((p0 &&& (65535 : Int32)).toUInt32.toUInt16.toUInt32.toInt32)), .val (.int (((p0 &&& (65535 : Int32)).toUInt32.toUInt16.toUInt32.toInt32) - (48 : Int32))), .val (.int (((p0 &&& (65535 : Int32)).toUInt32.toUInt16.toUInt32.toInt32) - (97 : Int32))), .val (.int (1 : Int32)), .unset, .unset, .unset] [(.int (1 : Int32))]))
          refine own_of (fun _ k => XS.istore X0.here hx rfl (hb hby at_50) rfl (l' := #[.val (.int p0), .val (.int ((p0 &&& (65535 : Int32)).toUInt32.toUInt16.toUInt32.toInt32)), .val (.int (((p0 &&& (65535 : Int32)).toUInt32.toUInt16.toUInt32.toInt32) - (48 : Int32))), .val (.int (((p0 &&& (65535 : Int32)).toUInt32.toUInt16.toUInt32.toInt32) - (97 : Int32))), .val (.int (1 : Int32)), .val (.int (1 : Int32)), .unset, .unset]) rfl k) ?_
          show own_Out p e below _ (s₁.setTop (mkF m 52 #[.val (.int p0), .val (.int ((p0 &&& (65535 : Int32)).toUInt32.toUInt16.toUInt32.toInt32)), .val (.int (((p0 &&& (65535 : Int32)).toUInt32.toUInt16.toUInt32.toInt32) - (48 : Int32))), .val (.int (((p0 &&& (65535 : Int32)).toUInt32.toUInt16.toUInt32.toInt32) - (97 : Int32))), .val (.int (1 : Int32)), .val (.int (1 : Int32)), .unset, .unset] []))
          refine own_of (fun _ k => XS.iload X0.here hx rfl (hb hby at_52) rfl k) ?_
          show own_Out p e below _ (s₁.setTop (mkF m 54 #[.val (.int p0), .val (.int ((p0 &&& (65535 : Int32)).toUInt32.toUInt16.toUInt32.toInt32)), .val (.int (((p0 &&& (65535 : Int32)).toUInt32.toUInt16.toUInt32.toInt32) - (48 : Int32))), .val (.int (((p0 &&& (65535 : Int32)).toUInt32.toUInt16.toUInt32.toInt32) - (97 : Int32))), .val (.int (1 : Int32)), .val (.int (1 : Int32)), .unset, .unset] [(.int (1 : Int32))]))
          refine own_of (fun _ k => XS.ifYes X0.here hx rfl (pc0 := 54) (pc' := 62) rfl (hb hby at_54) rfl ((if0 _ _).trans (feq (by decide : ¬ ((1 : Int32) = (0 : Int32)))).2) (by decide) (by decide) k) ?_
          show own_Out p e below _ (s₁.setTop (mkF m 62 #[.val (.int p0), .val (.int ((p0 &&& (65535 : Int32)).toUInt32.toUInt16.toUInt32.toInt32)), .val (.int (((p0 &&& (65535 : Int32)).toUInt32.toUInt16.toUInt32.toInt32) - (48 : Int32))), .val (.int (((p0 &&& (65535 : Int32)).toUInt32.toUInt16.toUInt32.toInt32) - (97 : Int32))), .val (.int (1 : Int32)), .val (.int (1 : Int32)), .unset, .unset] []))
          refine own_of (fun _ k => XS.iconst X0.here hx rfl (hb hby at_62) k) ?_
          show own_Out p e below _ (s₁.setTop (mkF m 63 #[.val (.int p0), .val (.int ((p0 &&& (65535 : Int32)).toUInt32.toUInt16.toUInt32.toInt32)), .val (.int (((p0 &&& (65535 : Int32)).toUInt32.toUInt16.toUInt32.toInt32) - (48 : Int32))), .val (.int (((p0 &&& (65535 : Int32)).toUInt32.toUInt16.toUInt32.toInt32) - (97 : Int32))), .val (.int (1 : Int32)), .val (.int (1 : Int32)), .unset, .unset] [(.int (1 : Int32))]))
          refine own_of (fun _ k => XS.goto X0.here hx rfl (pc0 := 63) (pc' := 67) rfl (hb hby at_63) (by decide) (by decide) k) ?_
          show own_Out p e below _ (s₁.setTop (mkF m 67 #[.val (.int p0), .val (.int ((p0 &&& (65535 : Int32)).toUInt32.toUInt16.toUInt32.toInt32)), .val (.int (((p0 &&& (65535 : Int32)).toUInt32.toUInt16.toUInt32.toInt32) - (48 : Int32))), .val (.int (((p0 &&& (65535 : Int32)).toUInt32.toUInt16.toUInt32.toInt32) - (97 : Int32))), .val (.int (1 : Int32)), .val (.int (1 : Int32)), .unset, .unset] [(.int (1 : Int32))]))
          refine own_of (fun _ k => XS.istore X0.here hx rfl (hb hby at_67) rfl (l' := #[.val (.int p0), .val (.int ((p0 &&& (65535 : Int32)).toUInt32.toUInt16.toUInt32.toInt32)), .val (.int (((p0 &&& (65535 : Int32)).toUInt32.toUInt16.toUInt32.toInt32) - (48 : Int32))), .val (.int (((p0 &&& (65535 : Int32)).toUInt32.toUInt16.toUInt32.toInt32) - (97 : Int32))), .val (.int (1 : Int32)), .val (.int (1 : Int32)), .val (.int (1 : Int32)), .unset]) rfl k) ?_
          show own_Out p e below _ (s₁.setTop (mkF m 69 #[.val (.int p0), .val (.int ((p0 &&& (65535 : Int32)).toUInt32.toUInt16.toUInt32.toInt32)), .val (.int (((p0 &&& (65535 : Int32)).toUInt32.toUInt16.toUInt32.toInt32) - (48 : Int32))), .val (.int (((p0 &&& (65535 : Int32)).toUInt32.toUInt16.toUInt32.toInt32) - (97 : Int32))), .val (.int (1 : Int32)), .val (.int (1 : Int32)), .val (.int (1 : Int32)), .unset] []))
          refine own_of (fun _ k => XS.iloadN X0.here hx rfl (hb hby at_69) rfl k) ?_
          show own_Out p e below _ (s₁.setTop (mkF m 70 #[.val (.int p0), .val (.int ((p0 &&& (65535 : Int32)).toUInt32.toUInt16.toUInt32.toInt32)), .val (.int (((p0 &&& (65535 : Int32)).toUInt32.toUInt16.toUInt32.toInt32) - (48 : Int32))), .val (.int (((p0 &&& (65535 : Int32)).toUInt32.toUInt16.toUInt32.toInt32) - (97 : Int32))), .val (.int (1 : Int32)), .val (.int (1 : Int32)), .val (.int (1 : Int32)), .unset] [(.int ((p0 &&& (65535 : Int32)).toUInt32.toUInt16.toUInt32.toInt32))]))
          obtain ⟨_, _, ⟨T45, L45, k45, n45⟩, -, X45, ⟨Lc45, hQ45, l45, y45, z45⟩, st45⟩ := Jvm.LawKit.callS X0 hx (y := (⟨"com/example/ringd/ringd/core/Tags", "isStart", "(C)Z"⟩ : MethodName)) hown (mvT hZ (hw _ (List.mem_of_getElem? (i := 1) rfl))) (mvT hZ (hw _ (List.mem_of_getElem? (i := 2) rfl))) (mvT hZ (hw _ (List.mem_of_getElem? (i := 3) rfl))) (mvT hZ (hw _ (List.mem_of_getElem? (i := 4) rfl))) (by decide) (backOf (W := 0) (rm1 l Z a0 hw [] ((p0 &&& (65535 : Int32)).toUInt32.toUInt16.toUInt32.toInt32) h0 n0 Z0 ) hZ (hw _ (List.mem_of_getElem? (i := 4) rfl)) (hw _ (List.mem_of_getElem? (i := 3) rfl)) (by decide) (by decide)) (g := (mkF m 70 #[.val (.int p0), .val (.int ((p0 &&& (65535 : Int32)).toUInt32.toUInt16.toUInt32.toInt32)), .val (.int (((p0 &&& (65535 : Int32)).toUInt32.toUInt16.toUInt32.toInt32) - (48 : Int32))), .val (.int (((p0 &&& (65535 : Int32)).toUInt32.toUInt16.toUInt32.toInt32) - (97 : Int32))), .val (.int (1 : Int32)), .val (.int (1 : Int32)), .val (.int (1 : Int32)), .unset] [(.int ((p0 &&& (65535 : Int32)).toUInt32.toUInt16.toUInt32.toInt32))])) rfl (by rw [hml]; rfl) (argsL := [(.int ((p0 &&& (65535 : Int32)).toUInt32.toUInt16.toUInt32.toInt32))]) (rest := []) (lenOf pd_0 rfl) rfl (by show 2 * 0 + _ ≤ _; exact Nat.le_of_eq rfl) (hb hby at_70) (fun _ _ => ⟨rfl, e0, (by decide : 0 + 0 ≤ _), (by decide : 0 + 0 ≤ _)⟩)
          dsimp only [Pt.U, Pt.locs, Pt.cells, Pt.slots] at X45 l45 y45 z45 st45 hQ45
          subst l45 y45 z45
          obtain ⟨rfl, N45q, hh45⟩ := hQ45
          have N45 := Fr.app N0 N45q
          refine own_of st45 ?_
          show own_Out p e below _ (T45.setTop (mkF m 73 #[.val (.int p0), .val (.int ((p0 &&& (65535 : Int32)).toUInt32.toUInt16.toUInt32.toInt32)), .val (.int (((p0 &&& (65535 : Int32)).toUInt32.toUInt16.toUInt32.toInt32) - (48 : Int32))), .val (.int (((p0 &&& (65535 : Int32)).toUInt32.toUInt16.toUInt32.toInt32) - (97 : Int32))), .val (.int (1 : Int32)), .val (.int (1 : Int32)), .val (.int (1 : Int32)), .unset] [(.int (f1 ((p0 &&& (65535 : Int32)).toUInt32.toUInt16.toUInt32.toInt32)))]))
          refine own_of (fun _ k => XS.istore X45.here hx rfl (hb hby at_73) rfl (l' := #[.val (.int p0), .val (.int ((p0 &&& (65535 : Int32)).toUInt32.toUInt16.toUInt32.toInt32)), .val (.int (((p0 &&& (65535 : Int32)).toUInt32.toUInt16.toUInt32.toInt32) - (48 : Int32))), .val (.int (((p0 &&& (65535 : Int32)).toUInt32.toUInt16.toUInt32.toInt32) - (97 : Int32))), .val (.int (1 : Int32)), .val (.int (1 : Int32)), .val (.int (1 : Int32)), .val (.int (f1 ((p0 &&& (65535 : Int32)).toUInt32.toUInt16.toUInt32.toInt32)))]) rfl k) ?_
          show own_Out p e below _ (T45.setTop (mkF m 75 #[.val (.int p0), .val (.int ((p0 &&& (65535 : Int32)).toUInt32.toUInt16.toUInt32.toInt32)), .val (.int (((p0 &&& (65535 : Int32)).toUInt32.toUInt16.toUInt32.toInt32) - (48 : Int32))), .val (.int (((p0 &&& (65535 : Int32)).toUInt32.toUInt16.toUInt32.toInt32) - (97 : Int32))), .val (.int (1 : Int32)), .val (.int (1 : Int32)), .val (.int (1 : Int32)), .val (.int (f1 ((p0 &&& (65535 : Int32)).toUInt32.toUInt16.toUInt32.toInt32)))] []))
          refine own_of (fun _ k => XS.iload X45.here hx rfl (hb hby at_75) rfl k) ?_
          show own_Out p e below _ (T45.setTop (mkF m 77 #[.val (.int p0), .val (.int ((p0 &&& (65535 : Int32)).toUInt32.toUInt16.toUInt32.toInt32)), .val (.int (((p0 &&& (65535 : Int32)).toUInt32.toUInt16.toUInt32.toInt32) - (48 : Int32))), .val (.int (((p0 &&& (65535 : Int32)).toUInt32.toUInt16.toUInt32.toInt32) - (97 : Int32))), .val (.int (1 : Int32)), .val (.int (1 : Int32)), .val (.int (1 : Int32)), .val (.int (f1 ((p0 &&& (65535 : Int32)).toUInt32.toUInt16.toUInt32.toInt32)))] [(.int (f1 ((p0 &&& (65535 : Int32)).toUInt32.toUInt16.toUInt32.toInt32)))]))
          refine own_of (fun _ k => XS.iload X45.here hx rfl (hb hby at_77) rfl k) ?_
          show own_Out p e below _ (T45.setTop (mkF m 79 #[.val (.int p0), .val (.int ((p0 &&& (65535 : Int32)).toUInt32.toUInt16.toUInt32.toInt32)), .val (.int (((p0 &&& (65535 : Int32)).toUInt32.toUInt16.toUInt32.toInt32) - (48 : Int32))), .val (.int (((p0 &&& (65535 : Int32)).toUInt32.toUInt16.toUInt32.toInt32) - (97 : Int32))), .val (.int (1 : Int32)), .val (.int (1 : Int32)), .val (.int (1 : Int32)), .val (.int (f1 ((p0 &&& (65535 : Int32)).toUInt32.toUInt16.toUInt32.toInt32)))] [(.int (1 : Int32)), (.int (f1 ((p0 &&& (65535 : Int32)).toUInt32.toUInt16.toUInt32.toInt32)))]))
          by_cases hc79_46 : (f1 ((p0 &&& (65535 : Int32)).toUInt32.toUInt16.toUInt32.toInt32)) = (1 : Int32)
          · skip
            refine own_of (fun _ k => XS.icmpYes X45.here hx rfl (pc0 := 79) (pc' := 84) rfl (hb hby at_79) rfl (teq hc79_46).1 (by decide) (by decide) k) ?_
            show own_Out p e below _ (T45.setTop (mkF m 84 #[.val (.int p0), .val (.int ((p0 &&& (65535 : Int32)).toUInt32.toUInt16.toUInt32.toInt32)), .val (.int (((p0 &&& (65535 : Int32)).toUInt32.toUInt16.toUInt32.toInt32) - (48 : Int32))), .val (.int (((p0 &&& (65535 : Int32)).toUInt32.toUInt16.toUInt32.toInt32) - (97 : Int32))), .val (.int (1 : Int32)), .val (.int (1 : Int32)), .val (.int (1 : Int32)), .val (.int (f1 ((p0 &&& (65535 : Int32)).toUInt32.toUInt16.toUInt32.toInt32)))] []))
            refine own_of (fun _ k => XS.iload X45.here hx rfl (hb hby at_84) rfl k) ?_
            show own_Out p e below _ (T45.setTop (mkF m 86 #[.val (.int p0), .val (.int ((p0 &&& (65535 : Int32)).toUInt32.toUInt16.toUInt32.toInt32)), .val (.int (((p0 &&& (65535 : Int32)).toUInt32.toUInt16.toUInt32.toInt32) - (48 : Int32))), .val (.int (((p0 &&& (65535 : Int32)).toUInt32.toUInt16.toUInt32.toInt32) - (97 : Int32))), .val (.int (1 : Int32)), .val (.int (1 : Int32)), .val (.int (1 : Int32)), .val (.int (f1 ((p0 &&& (65535 : Int32)).toUInt32.toUInt16.toUInt32.toInt32)))] [(.int (f1 ((p0 &&& (65535 : Int32)).toUInt32.toUInt16.toUInt32.toInt32)))]))
            refine own_of (fun _ k => XS.ifNo X45.here hx rfl (hb hby at_86) rfl ((if0 _ _).trans (feq (own_T6 (own_L3 hc79_46) (by decide) : ¬ ((f1 ((p0 &&& (65535 : Int32)).toUInt32.toUInt16.toUInt32.toInt32)) = (0 : Int32)))).1) k) ?_
            show own_Out p e below _ (T45.setTop (mkF m 89 #[.val (.int p0), .val (.int ((p0 &&& (65535 : Int32)).toUInt32.toUInt16.toUInt32.toInt32)), .val (.int (((p0 &&& (65535 : Int32)).toUInt32.toUInt16.toUInt32.toInt32) - (48 : Int32))), .val (.int (((p0 &&& (65535 : Int32)).toUInt32.toUInt16.toUInt32.toInt32) - (97 : Int32))), .val (.int (1 : Int32)), .val (.int (1 : Int32)), .val (.int (1 : Int32)), .val (.int (f1 ((p0 &&& (65535 : Int32)).toUInt32.toUInt16.toUInt32.toInt32)))] []))
            refine own_of (fun _ k => XS.iloadN X45.here hx rfl (hb hby at_89) rfl k) ?_
            show own_Out p e below _ (T45.setTop (mkF m 90 #[.val (.int p0), .val (.int ((p0 &&& (65535 : Int32)).toUInt32.toUInt16.toUInt32.toInt32)), .val (.int (((p0 &&& (65535 : Int32)).toUInt32.toUInt16.toUInt32.toInt32) - (48 : Int32))), .val (.int (((p0 &&& (65535 : Int32)).toUInt32.toUInt16.toUInt32.toInt32) - (97 : Int32))), .val (.int (1 : Int32)), .val (.int (1 : Int32)), .val (.int (1 : Int32)), .val (.int (f1 ((p0 &&& (65535 : Int32)).toUInt32.toUInt16.toUInt32.toInt32)))] [(.int ((p0 &&& (65535 : Int32)).toUInt32.toUInt16.toUInt32.toInt32))]))
            obtain ⟨_, _, ⟨T47, L47, k47, n47⟩, -, X47, ⟨Lc47, hQ47, l47, y47, z47⟩, st47⟩ := Jvm.LawKit.callS X45 hx (y := (⟨"com/example/ringd/ringd/core/Tags", "isPart", "(C)Z"⟩ : MethodName)) hown (mvT hZ (hw _ (List.mem_of_getElem? (i := 61) rfl))) (mvT hZ (hw _ (List.mem_of_getElem? (i := 62) rfl))) (mvT hZ (hw _ (List.mem_of_getElem? (i := 3) rfl))) (mvT hZ (hw _ (List.mem_of_getElem? (i := 63) rfl))) (by decide) (backOf (W := 0) (rm14 l Z a0 hw [] ((p0 &&& (65535 : Int32)).toUInt32.toUInt16.toUInt32.toInt32) h0 n0 Z0 (own_T6 (own_L3 hc79_46) (by decide) : ¬ ((f1 ((p0 &&& (65535 : Int32)).toUInt32.toUInt16.toUInt32.toInt32)) = (0 : Int32)))) hZ (hw _ (List.mem_of_getElem? (i := 63) rfl)) (hw _ (List.mem_of_getElem? (i := 3) rfl)) (by decide) (by decide)) (g := (mkF m 90 #[.val (.int p0), .val (.int ((p0 &&& (65535 : Int32)).toUInt32.toUInt16.toUInt32.toInt32)), .val (.int (((p0 &&& (65535 : Int32)).toUInt32.toUInt16.toUInt32.toInt32) - (48 : Int32))), .val (.int (((p0 &&& (65535 : Int32)).toUInt32.toUInt16.toUInt32.toInt32) - (97 : Int32))), .val (.int (1 : Int32)), .val (.int (1 : Int32)), .val (.int (1 : Int32)), .val (.int (f1 ((p0 &&& (65535 : Int32)).toUInt32.toUInt16.toUInt32.toInt32)))] [(.int ((p0 &&& (65535 : Int32)).toUInt32.toUInt16.toUInt32.toInt32))])) rfl (by rw [hml]; rfl) (argsL := [(.int ((p0 &&& (65535 : Int32)).toUInt32.toUInt16.toUInt32.toInt32))]) (rest := []) (lenOf pd_0 rfl) rfl (by show 2 * 0 + _ ≤ _; exact Nat.le_of_eq rfl) (hb hby at_90) (fun _ _ => ⟨rfl, hh45, (by decide : 0 + 0 ≤ _), (by decide : 0 + 0 ≤ _)⟩)
            dsimp only [Pt.U, Pt.locs, Pt.cells, Pt.slots] at X47 l47 y47 z47 st47 hQ47
            subst l47 y47 z47
            obtain ⟨rfl, N47q, hh47⟩ := hQ47
            have N47 := Fr.app N45 N47q
            refine own_of st47 ?_
            show own_Out p e below _ (T47.setTop (mkF m 93 #[.val (.int p0), .val (.int ((p0 &&& (65535 : Int32)).toUInt32.toUInt16.toUInt32.toInt32)), .val (.int (((p0 &&& (65535 : Int32)).toUInt32.toUInt16.toUInt32.toInt32) - (48 : Int32))), .val (.int (((p0 &&& (65535 : Int32)).toUInt32.toUInt16.toUInt32.toInt32) - (97 : Int32))), .val (.int (1 : Int32)), .val (.int (1 : Int32)), .val (.int (1 : Int32)), .val (.int (f1 ((p0 &&& (65535 : Int32)).toUInt32.toUInt16.toUInt32.toInt32)))] [(.int (1 : Int32))]))
            refine own_of (fun _ k => XS.ifYes X47.here hx rfl (pc0 := 93) (pc' := 98) rfl (hb hby at_93) rfl ((if0 _ _).trans (feq (by decide : ¬ ((1 : Int32) = (0 : Int32)))).2) (by decide) (by decide) k) ?_
            show own_Out p e below _ (T47.setTop (mkF m 98 #[.val (.int p0), .val (.int ((p0 &&& (65535 : Int32)).toUInt32.toUInt16.toUInt32.toInt32)), .val (.int (((p0 &&& (65535 : Int32)).toUInt32.toUInt16.toUInt32.toInt32) - (48 : Int32))), .val (.int (((p0 &&& (65535 : Int32)).toUInt32.toUInt16.toUInt32.toInt32) - (97 : Int32))), .val (.int (1 : Int32)), .val (.int (1 : Int32)), .val (.int (1 : Int32)), .val (.int (f1 ((p0 &&& (65535 : Int32)).toUInt32.toUInt16.toUInt32.toInt32)))] []))
            refine own_of (fun _ k => XS.iloadN X47.here hx rfl (hb hby at_98) rfl k) ?_
            show own_Out p e below _ (T47.setTop (mkF m 99 #[.val (.int p0), .val (.int ((p0 &&& (65535 : Int32)).toUInt32.toUInt16.toUInt32.toInt32)), .val (.int (((p0 &&& (65535 : Int32)).toUInt32.toUInt16.toUInt32.toInt32) - (48 : Int32))), .val (.int (((p0 &&& (65535 : Int32)).toUInt32.toUInt16.toUInt32.toInt32) - (97 : Int32))), .val (.int (1 : Int32)), .val (.int (1 : Int32)), .val (.int (1 : Int32)), .val (.int (f1 ((p0 &&& (65535 : Int32)).toUInt32.toUInt16.toUInt32.toInt32)))] [(.int ((p0 &&& (65535 : Int32)).toUInt32.toUInt16.toUInt32.toInt32))]))
            by_cases hc99_48 : (255 : Int32) < ((p0 &&& (65535 : Int32)).toUInt32.toUInt16.toUInt32.toInt32)
            · skip
              obtain ⟨_, _, ⟨T49, L49, k49, n49⟩, -, X49, ⟨Lc49, hQ49, l49, y49, z49⟩, st49⟩ := Jvm.LawKit.callS X47 hx (y := (⟨"java/lang/String", "valueOf", "(C)Ljava/lang/String;"⟩ : MethodName)) hown (mvT hZ (hw _ (List.mem_of_getElem? (i := 5) rfl))) (mvT hZ (hw _ (List.mem_of_getElem? (i := 6) rfl))) (mvT hZ (hw _ (List.mem_of_getElem? (i := 7) rfl))) (mvT hZ (hw _ (List.mem_of_getElem? (i := 8) rfl))) (by decide) (backOf (W := 0) (rm2u l Z a0 hw [] ((p0 &&& (65535 : Int32)).toUInt32.toUInt16.toUInt32.toInt32) cs h0 n0 Z0 S_cs hcs hc99_48 S_ad S_hi S_lo) hZ (hw _ (List.mem_of_getElem? (i := 8) rfl)) (hw _ (List.mem_of_getElem? (i := 7) rfl)) (by decide) (by decide)) (g := (mkF m 99 #[.val (.int p0), .val (.int ((p0 &&& (65535 : Int32)).toUInt32.toUInt16.toUInt32.toInt32)), .val (.int (((p0 &&& (65535 : Int32)).toUInt32.toUInt16.toUInt32.toInt32) - (48 : Int32))), .val (.int (((p0 &&& (65535 : Int32)).toUInt32.toUInt16.toUInt32.toInt32) - (97 : Int32))), .val (.int (1 : Int32)), .val (.int (1 : Int32)), .val (.int (1 : Int32)), .val (.int (f1 ((p0 &&& (65535 : Int32)).toUInt32.toUInt16.toUInt32.toInt32)))] [(.int ((p0 &&& (65535 : Int32)).toUInt32.toUInt16.toUInt32.toInt32))])) rfl (by rw [hml]; rfl) (argsL := [(.int ((p0 &&& (65535 : Int32)).toUInt32.toUInt16.toUInt32.toInt32))]) (rest := []) (lenOf pd_13 rfl) rfl (by show 2 * 0 + _ ≤ _; exact Nat.le_of_eq rfl) (hb hby at_99) (fun _ _ => ⟨rfl, hh47, (by decide : 0 + 2 ≤ _), (by decide : 0 + 6 ≤ _)⟩)
              dsimp only [Pt.U, Pt.locs, Pt.cells, Pt.slots] at X49 l49 y49 z49 st49 hQ49
              subst l49 y49 z49
              obtain ⟨r49, b49, k49, rfl, N49q, K49, E49, Fv49, Fc49, V49, hgr_49, hsr_49, hgb_49, hsb_49, hnrb_49⟩ := hQ49
              have N49 := Fr.app N47 N49q
              have S_java_lang_String_COMPACT_STRINGS_K49 := own_staK0 S_cs K49
              have S_jdk_internal_util_Preconditions_SIOOBE_FORMATTER_K49 := own_staK0 S_f K49
              have S_java_lang_StringUTF16__assertionsDisabled_K49 := own_staK0 S_ad K49
              have S_java_lang_StringUTF16_HI_BYTE_SHIFT_K49 := own_staK0 S_hi K49
              have S_java_lang_StringUTF16_LO_BYTE_SHIFT_K49 := own_staK0 S_lo K49
              have Zl49 : n0 ≤ T49.heap.size := Nat.le_trans Z0 K49.1
              refine own_of st49 ?_
              show own_Out p e below _ (T49.setTop (mkF m 102 #[.val (.int p0), .val (.int ((p0 &&& (65535 : Int32)).toUInt32.toUInt16.toUInt32.toInt32)), .val (.int (((p0 &&& (65535 : Int32)).toUInt32.toUInt16.toUInt32.toInt32) - (48 : Int32))), .val (.int (((p0 &&& (65535 : Int32)).toUInt32.toUInt16.toUInt32.toInt32) - (97 : Int32))), .val (.int (1 : Int32)), .val (.int (1 : Int32)), .val (.int (1 : Int32)), .val (.int (f1 ((p0 &&& (65535 : Int32)).toUInt32.toUInt16.toUInt32.toInt32)))] [(.ref r49)]))
              obtain ⟨_, _, ⟨T50, L50, k50, n50⟩, -, X50, ⟨Lc50, hQ50, l50, y50, z50⟩, st50⟩ := Jvm.LawKit.callS X49 hx (y := (⟨"com/example/ringd/ringd/core/Tags", "isTag", "(Ljava/lang/String;)Z"⟩ : MethodName)) hown (mvT hZ (hw _ (List.mem_of_getElem? (i := 31) rfl))) (mvT hZ (hw _ (List.mem_of_getElem? (i := 32) rfl))) (mvT hZ (hw _ (List.mem_of_getElem? (i := 3) rfl))) (mvT hZ (hw _ (List.mem_of_getElem? (i := 33) rfl))) (by decide) (backOf (W := 0) (rm7c1n2 l Z a0 hw [] r49 b49 k49 (((((p0 &&& (65535 : Int32)).toUInt32.toUInt16.toUInt32.toInt32) >>> ((0 : Int32) &&& 31)).toInt8.toInt32).toInt8.toInt32) (((((p0 &&& (65535 : Int32)).toUInt32.toUInt16.toUInt32.toInt32) >>> ((8 : Int32) &&& 31)).toInt8.toInt32).toInt8.toInt32) cs vf T49.heap n0 Zl49 E49 Fv49 Fc49 V49 S_java_lang_String_COMPACT_STRINGS_K49 hcs S_jdk_internal_util_Preconditions_SIOOBE_FORMATTER_K49 hvf S_java_lang_StringUTF16__assertionsDisabled_K49 S_java_lang_StringUTF16_HI_BYTE_SHIFT_K49 S_java_lang_StringUTF16_LO_BYTE_SHIFT_K49) hZ (hw _ (List.mem_of_getElem? (i := 33) rfl)) (hw _ (List.mem_of_getElem? (i := 3) rfl)) (by decide) (by decide)) (g := (mkF m 102 #[.val (.int p0), .val (.int ((p0 &&& (65535 : Int32)).toUInt32.toUInt16.toUInt32.toInt32)), .val (.int (((p0 &&& (65535 : Int32)).toUInt32.toUInt16.toUInt32.toInt32) - (48 : Int32))), .val (.int (((p0 &&& (65535 : Int32)).toUInt32.toUInt16.toUInt32.toInt32) - (97 : Int32))), .val (.int (1 : Int32)), .val (.int (1 : Int32)), .val (.int (1 : Int32)), .val (.int (f1 ((p0 &&& (65535 : Int32)).toUInt32.toUInt16.toUInt32.toInt32)))] [(.ref r49)])) rfl (by rw [hml]; rfl) (argsL := [(.ref r49)]) (rest := []) (lenOf pd_14 rfl) rfl (by show 2 * 0 + _ ≤ _; exact Nat.le_of_eq rfl) (hb hby at_102) (fun _ _ => ⟨rfl, rfl, (by decide : 2 + 0 ≤ _), (by decide : 6 + 0 ≤ _)⟩)
              dsimp only [Pt.U, Pt.locs, Pt.cells, Pt.slots] at X50 l50 y50 z50 st50 hQ50
              subst l50 y50 z50
              obtain ⟨rfl, N50q, hh50⟩ := hQ50
              have N50 := Fr.app N49 N50q
              refine own_of st50 ?_
              show own_Out p e below _ (T50.setTop (mkF m 105 #[.val (.int p0), .val (.int ((p0 &&& (65535 : Int32)).toUInt32.toUInt16.toUInt32.toInt32)), .val (.int (((p0 &&& (65535 : Int32)).toUInt32.toUInt16.toUInt32.toInt32) - (48 : Int32))), .val (.int (((p0 &&& (65535 : Int32)).toUInt32.toUInt16.toUInt32.toInt32) - (97 : Int32))), .val (.int (1 : Int32)), .val (.int (1 : Int32)), .val (.int (1 : Int32)), .val (.int (f1 ((p0 &&& (65535 : Int32)).toUInt32.toUInt16.toUInt32.toInt32)))] [(.int (f_isTagc1n2 (((((p0 &&& (65535 : Int32)).toUInt32.toUInt16.toUInt32.toInt32) >>> ((0 : Int32) &&& 31)).toInt8.toInt32).toInt8.toInt32) (((((p0 &&& (65535 : Int32)).toUInt32.toUInt16.toUInt32.toInt32) >>> ((8 : Int32) &&& 31)).toInt8.toInt32).toInt8.toInt32) cs))]))
              refine own_of (fun _ k => XS.iload X50.here hx rfl (hb hby at_105) rfl k) ?_
              show own_Out p e below _ (T50.setTop (mkF m 107 #[.val (.int p0), .val (.int ((p0 &&& (65535 : Int32)).toUInt32.toUInt16.toUInt32.toInt32)), .val (.int (((p0 &&& (65535 : Int32)).toUInt32.toUInt16.toUInt32.toInt32) - (48 : Int32))), .val (.int (((p0 &&& (65535 : Int32)).toUInt32.toUInt16.toUInt32.toInt32) - (97 : Int32))), .val (.int (1 : Int32)), .val (.int (1 : Int32)), .val (.int (1 : Int32)), .val (.int (f1 ((p0 &&& (65535 : Int32)).toUInt32.toUInt16.toUInt32.toInt32)))] [(.int (f1 ((p0 &&& (65535 : Int32)).toUInt32.toUInt16.toUInt32.toInt32))), (.int (f_isTagc1n2 (((((p0 &&& (65535 : Int32)).toUInt32.toUInt16.toUInt32.toInt32) >>> ((0 : Int32) &&& 31)).toInt8.toInt32).toInt8.toInt32) (((((p0 &&& (65535 : Int32)).toUInt32.toUInt16.toUInt32.toInt32) >>> ((8 : Int32) &&& 31)).toInt8.toInt32).toInt8.toInt32) cs))]))
              by_cases hc107_51 : (f_isTagc1n2 (((((p0 &&& (65535 : Int32)).toUInt32.toUInt16.toUInt32.toInt32) >>> ((0 : Int32) &&& 31)).toInt8.toInt32).toInt8.toInt32) (((((p0 &&& (65535 : Int32)).toUInt32.toUInt16.toUInt32.toInt32) >>> ((8 : Int32) &&& 31)).toInt8.toInt32).toInt8.toInt32) cs) = (f1 ((p0 &&& (65535 : Int32)).toUInt32.toUInt16.toUInt32.toInt32))
              · skip
                refine own_of (fun _ k => XS.icmpNo X50.here hx rfl (hb hby at_107) rfl (teq hc107_51).2 k) ?_
                show own_Out p e below _ (T50.setTop (mkF m 110 #[.val (.int p0), .val (.int ((p0 &&& (65535 : Int32)).toUInt32.toUInt16.toUInt32.toInt32)), .val (.int (((p0 &&& (65535 : Int32)).toUInt32.toUInt16.toUInt32.toInt32) - (48 : Int32))), .val (.int (((p0 &&& (65535 : Int32)).toUInt32.toUInt16.toUInt32.toInt32) - (97 : Int32))), .val (.int (1 : Int32)), .val (.int (1 : Int32)), .val (.int (1 : Int32)), .val (.int (f1 ((p0 &&& (65535 : Int32)).toUInt32.toUInt16.toUInt32.toInt32)))] []))
                refine own_of (fun _ k => XS.iconst X50.here hx rfl (hb hby at_110) k) ?_
                show own_Out p e below _ (T50.setTop (mkF m 111 #[.val (.int p0), .val (.int ((p0 &&& (65535 : Int32)).toUInt32.toUInt16.toUInt32.toInt32)), .val (.int (((p0 &&& (65535 : Int32)).toUInt32.toUInt16.toUInt32.toInt32) - (48 : Int32))), .val (.int (((p0 &&& (65535 : Int32)).toUInt32.toUInt16.toUInt32.toInt32) - (97 : Int32))), .val (.int (1 : Int32)), .val (.int (1 : Int32)), .val (.int (1 : Int32)), .val (.int (f1 ((p0 &&& (65535 : Int32)).toUInt32.toUInt16.toUInt32.toInt32)))] [(.int (1 : Int32))]))
                refine own_of (fun _ k => XS.goto X50.here hx rfl (pc0 := 111) (pc' := 115) rfl (hb hby at_111) (by decide) (by decide) k) ?_
                show own_Out p e below _ (T50.setTop (mkF m 115 #[.val (.int p0), .val (.int ((p0 &&& (65535 : Int32)).toUInt32.toUInt16.toUInt32.toInt32)), .val (.int (((p0 &&& (65535 : Int32)).toUInt32.toUInt16.toUInt32.toInt32) - (48 : Int32))), .val (.int (((p0 &&& (65535 : Int32)).toUInt32.toUInt16.toUInt32.toInt32) - (97 : Int32))), .val (.int (1 : Int32)), .val (.int (1 : Int32)), .val (.int (1 : Int32)), .val (.int (f1 ((p0 &&& (65535 : Int32)).toUInt32.toUInt16.toUInt32.toInt32)))] [(.int (1 : Int32))]))
                exact own_outN X50 hx hlk (t := .boolean) hret (by simp) (hb hby at_115) (z' := (1 : Int32)) rfl (Q := Q0 Z p0 cs vf h0 n0) ⟨rfl, N50⟩ (by decide) (by decide)
              · skip
                refine own_of (fun _ k => XS.icmpYes X50.here hx rfl (pc0 := 107) (pc' := 114) rfl (hb hby at_107) rfl (feq hc107_51).2 (by decide) (by decide) k) ?_
                show own_Out p e below _ (T50.setTop (mkF m 114 #[.val (.int p0), .val (.int ((p0 &&& (65535 : Int32)).toUInt32.toUInt16.toUInt32.toInt32)), .val (.int (((p0 &&& (65535 : Int32)).toUInt32.toUInt16.toUInt32.toInt32) - (48 : Int32))), .val (.int (((p0 &&& (65535 : Int32)).toUInt32.toUInt16.toUInt32.toInt32) - (97 : Int32))), .val (.int (1 : Int32)), .val (.int (1 : Int32)), .val (.int (1 : Int32)), .val (.int (f1 ((p0 &&& (65535 : Int32)).toUInt32.toUInt16.toUInt32.toInt32)))] []))
                refine own_of (fun _ k => XS.iconst X50.here hx rfl (hb hby at_114) k) ?_
                show own_Out p e below _ (T50.setTop (mkF m 115 #[.val (.int p0), .val (.int ((p0 &&& (65535 : Int32)).toUInt32.toUInt16.toUInt32.toInt32)), .val (.int (((p0 &&& (65535 : Int32)).toUInt32.toUInt16.toUInt32.toInt32) - (48 : Int32))), .val (.int (((p0 &&& (65535 : Int32)).toUInt32.toUInt16.toUInt32.toInt32) - (97 : Int32))), .val (.int (1 : Int32)), .val (.int (1 : Int32)), .val (.int (1 : Int32)), .val (.int (f1 ((p0 &&& (65535 : Int32)).toUInt32.toUInt16.toUInt32.toInt32)))] [(.int (0 : Int32))]))
                exact (dead0_12 p0 hcs hc18_1 hc24_32 hc36_33 hc42_44 hc79_46 hc99_48 hc107_51).elim
            · skip
              obtain ⟨_, _, ⟨T52, L52, k52, n52⟩, -, X52, ⟨Lc52, hQ52, l52, y52, z52⟩, st52⟩ := Jvm.LawKit.callS X47 hx (y := (⟨"java/lang/String", "valueOf", "(C)Ljava/lang/String;"⟩ : MethodName)) hown (mvT hZ (hw _ (List.mem_of_getElem? (i := 5) rfl))) (mvT hZ (hw _ (List.mem_of_getElem? (i := 6) rfl))) (mvT hZ (hw _ (List.mem_of_getElem? (i := 7) rfl))) (mvT hZ (hw _ (List.mem_of_getElem? (i := 8) rfl))) (by decide) (backOf (W := 0) (rm2l l Z a0 hw [] ((p0 &&& (65535 : Int32)).toUInt32.toUInt16.toUInt32.toInt32) cs h0 n0 Z0 S_cs hcs hc99_48) hZ (hw _ (List.mem_of_getElem? (i := 8) rfl)) (hw _ (List.mem_of_getElem? (i := 7) rfl)) (by decide) (by decide)) (g := (mkF m 99 #[.val (.int p0), .val (.int ((p0 &&& (65535 : Int32)).toUInt32.toUInt16.toUInt32.toInt32)), .val (.int (((p0 &&& (65535 : Int32)).toUInt32.toUInt16.toUInt32.toInt32) - (48 : Int32))), .val (.int (((p0 &&& (65535 : Int32)).toUInt32.toUInt16.toUInt32.toInt32) - (97 : Int32))), .val (.int (1 : Int32)), .val (.int (1 : Int32)), .val (.int (1 : Int32)), .val (.int (f1 ((p0 &&& (65535 : Int32)).toUInt32.toUInt16.toUInt32.toInt32)))] [(.int ((p0 &&& (65535 : Int32)).toUInt32.toUInt16.toUInt32.toInt32))])) rfl (by rw [hml]; rfl) (argsL := [(.int ((p0 &&& (65535 : Int32)).toUInt32.toUInt16.toUInt32.toInt32))]) (rest := []) (lenOf pd_13 rfl) rfl (by show 2 * 0 + _ ≤ _; exact Nat.le_of_eq rfl) (hb hby at_99) (fun _ _ => ⟨rfl, hh47, (by decide : 0 + 2 ≤ _), (by decide : 0 + 5 ≤ _)⟩)
              dsimp only [Pt.U, Pt.locs, Pt.cells, Pt.slots] at X52 l52 y52 z52 st52 hQ52
              subst l52 y52 z52
              obtain ⟨r52, b52, k52, rfl, N52q, K52, E52, Fv52, Fc52, V52, hgr_52, hsr_52, hgb_52, hsb_52, hnrb_52⟩ := hQ52
              have N52 := Fr.app N47 N52q
              have S_java_lang_String_COMPACT_STRINGS_K52 := own_staK0 S_cs K52
              have S_jdk_internal_util_Preconditions_SIOOBE_FORMATTER_K52 := own_staK0 S_f K52
              have S_java_lang_StringUTF16__assertionsDisabled_K52 := own_staK0 S_ad K52
              have S_java_lang_StringUTF16_HI_BYTE_SHIFT_K52 := own_staK0 S_hi K52
              have S_java_lang_StringUTF16_LO_BYTE_SHIFT_K52 := own_staK0 S_lo K52
              have Zl52 : n0 ≤ T52.heap.size := Nat.le_trans Z0 K52.1
              refine own_of st52 ?_
              show own_Out p e below _ (T52.setTop (mkF m 102 #[.val (.int p0), .val (.int ((p0 &&& (65535 : Int32)).toUInt32.toUInt16.toUInt32.toInt32)), .val (.int (((p0 &&& (65535 : Int32)).toUInt32.toUInt16.toUInt32.toInt32) - (48 : Int32))), .val (.int (((p0 &&& (65535 : Int32)).toUInt32.toUInt16.toUInt32.toInt32) - (97 : Int32))), .val (.int (1 : Int32)), .val (.int (1 : Int32)), .val (.int (1 : Int32)), .val (.int (f1 ((p0 &&& (65535 : Int32)).toUInt32.toUInt16.toUInt32.toInt32)))] [(.ref r52)]))
              obtain ⟨_, _, ⟨T53, L53, k53, n53⟩, -, X53, ⟨Lc53, hQ53, l53, y53, z53⟩, st53⟩ := Jvm.LawKit.callS X52 hx (y := (⟨"com/example/ringd/ringd/core/Tags", "isTag", "(Ljava/lang/String;)Z"⟩ : MethodName)) hown (mvT hZ (hw _ (List.mem_of_getElem? (i := 31) rfl))) (mvT hZ (hw _ (List.mem_of_getElem? (i := 32) rfl))) (mvT hZ (hw _ (List.mem_of_getElem? (i := 3) rfl))) (mvT hZ (hw _ (List.mem_of_getElem? (i := 33) rfl))) (by decide) (backOf (W := 0) (rm7c0n1 l Z a0 hw [] r52 b52 k52 ((((p0 &&& (65535 : Int32)).toUInt32.toUInt16.toUInt32.toInt32).toInt8.toInt32).toInt8.toInt32) cs vf T52.heap n0 Zl52 E52 Fv52 Fc52 V52 S_java_lang_String_COMPACT_STRINGS_K52 hcs S_jdk_internal_util_Preconditions_SIOOBE_FORMATTER_K52 hvf) hZ (hw _ (List.mem_of_getElem? (i := 33) rfl)) (hw _ (List.mem_of_getElem? (i := 3) rfl)) (by decide) (by decide)) (g := (mkF m 102 #[.val (.int p0), .val (.int ((p0 &&& (65535 : Int32)).toUInt32.toUInt16.toUInt32.toInt32)), .val (.int (((p0 &&& (65535 : Int32)).toUInt32.toUInt16.toUInt32.toInt32) - (48 : Int32))), .val (.int (((p0 &&& (65535 : Int32)).toUInt32.toUInt16.toUInt32.toInt32) - (97 : Int32))), .val (.int (1 : Int32)), .val (.int (1 : Int32)), .val (.int (1 : Int32)), .val (.int (f1 ((p0 &&& (65535 : Int32)).toUInt32.toUInt16.toUInt32.toInt32)))] [(.ref r52)])) rfl (by rw [hml]; rfl) (argsL := [(.ref r52)]) (rest := []) (lenOf pd_14 rfl) rfl (by show 2 * 0 + _ ≤ _; exact Nat.le_of_eq rfl) (hb hby at_102) (fun _ _ => ⟨rfl, rfl, (by decide : 2 + 0 ≤ _), (by decide : 5 + 0 ≤ _)⟩)
              dsimp only [Pt.U, Pt.locs, Pt.cells, Pt.slots] at X53 l53 y53 z53 st53 hQ53
              subst l53 y53 z53
              obtain ⟨rfl, N53q, hh53⟩ := hQ53
              have N53 := Fr.app N52 N53q
              refine own_of st53 ?_
              show own_Out p e below _ (T53.setTop (mkF m 105 #[.val (.int p0), .val (.int ((p0 &&& (65535 : Int32)).toUInt32.toUInt16.toUInt32.toInt32)), .val (.int (((p0 &&& (65535 : Int32)).toUInt32.toUInt16.toUInt32.toInt32) - (48 : Int32))), .val (.int (((p0 &&& (65535 : Int32)).toUInt32.toUInt16.toUInt32.toInt32) - (97 : Int32))), .val (.int (1 : Int32)), .val (.int (1 : Int32)), .val (.int (1 : Int32)), .val (.int (f1 ((p0 &&& (65535 : Int32)).toUInt32.toUInt16.toUInt32.toInt32)))] [(.int (f_isTagc0n1 ((((p0 &&& (65535 : Int32)).toUInt32.toUInt16.toUInt32.toInt32).toInt8.toInt32).toInt8.toInt32) cs))]))
              refine own_of (fun _ k => XS.iload X53.here hx rfl (hb hby at_105) rfl k) ?_
              show own_Out p e below _ (T53.setTop (mkF m 107 #[.val (.int p0), .val (.int ((p0 &&& (65535 : Int32)).toUInt32.toUInt16.toUInt32.toInt32)), .val (.int (((p0 &&& (65535 : Int32)).toUInt32.toUInt16.toUInt32.toInt32) - (48 : Int32))), .val (.int (((p0 &&& (65535 : Int32)).toUInt32.toUInt16.toUInt32.toInt32) - (97 : Int32))), .val (.int (1 : Int32)), .val (.int (1 : Int32)), .val (.int (1 : Int32)), .val (.int (f1 ((p0 &&& (65535 : Int32)).toUInt32.toUInt16.toUInt32.toInt32)))] [(.int (f1 ((p0 &&& (65535 : Int32)).toUInt32.toUInt16.toUInt32.toInt32))), (.int (f_isTagc0n1 ((((p0 &&& (65535 : Int32)).toUInt32.toUInt16.toUInt32.toInt32).toInt8.toInt32).toInt8.toInt32) cs))]))
              by_cases hc107_54 : (f_isTagc0n1 ((((p0 &&& (65535 : Int32)).toUInt32.toUInt16.toUInt32.toInt32).toInt8.toInt32).toInt8.toInt32) cs) = (f1 ((p0 &&& (65535 : Int32)).toUInt32.toUInt16.toUInt32.toInt32))
              · skip
                refine own_of (fun _ k => XS.icmpNo X53.here hx rfl (hb hby at_107) rfl (teq hc107_54).2 k) ?_
                show own_Out p e below _ (T53.setTop (mkF m 110 #[.val (.int p0), .val (.int ((p0 &&& (65535 : Int32)).toUInt32.toUInt16.toUInt32.toInt32)), .val (.int (((p0 &&& (65535 : Int32)).toUInt32.toUInt16.toUInt32.toInt32) - (48 : Int32))), .val (.int (((p0 &&& (65535 : Int32)).toUInt32.toUInt16.toUInt32.toInt32) - (97 : Int32))), .val (.int (1 : Int32)), .val (.int (1 : Int32)), .val (.int (1 : Int32)), .val (.int (f1 ((p0 &&& (65535 : Int32)).toUInt32.toUInt16.toUInt32.toInt32)))] []))
                refine own_of (fun _ k => XS.iconst X53.here hx rfl (hb hby at_110) k) ?_
                show own_Out p e below _ (T53.setTop (mkF m 111 #[.val (.int p0), .val (.int ((p0 &&& (65535 : Int32)).toUInt32.toUInt16.toUInt32.toInt32)), .val (.int (((p0 &&& (65535 : Int32)).toUInt32.toUInt16.toUInt32.toInt32) - (48 : Int32))), .val (.int (((p0 &&& (65535 : Int32)).toUInt32.toUInt16.toUInt32.toInt32) - (97 : Int32))), .val (.int (1 : Int32)), .val (.int (1 : Int32)), .val (.int (1 : Int32)), .val (.int (f1 ((p0 &&& (65535 : Int32)).toUInt32.toUInt16.toUInt32.toInt32)))] [(.int (1 : Int32))]))
                refine own_of (fun _ k => XS.goto X53.here hx rfl (pc0 := 111) (pc' := 115) rfl (hb hby at_111) (by decide) (by decide) k) ?_
                show own_Out p e below _ (T53.setTop (mkF m 115 #[.val (.int p0), .val (.int ((p0 &&& (65535 : Int32)).toUInt32.toUInt16.toUInt32.toInt32)), .val (.int (((p0 &&& (65535 : Int32)).toUInt32.toUInt16.toUInt32.toInt32) - (48 : Int32))), .val (.int (((p0 &&& (65535 : Int32)).toUInt32.toUInt16.toUInt32.toInt32) - (97 : Int32))), .val (.int (1 : Int32)), .val (.int (1 : Int32)), .val (.int (1 : Int32)), .val (.int (f1 ((p0 &&& (65535 : Int32)).toUInt32.toUInt16.toUInt32.toInt32)))] [(.int (1 : Int32))]))
                exact own_outN X53 hx hlk (t := .boolean) hret (by simp) (hb hby at_115) (z' := (1 : Int32)) rfl (Q := Q0 Z p0 cs vf h0 n0) ⟨rfl, N53⟩ (by decide) (by decide)
              · skip
                refine own_of (fun _ k => XS.icmpYes X53.here hx rfl (pc0 := 107) (pc' := 114) rfl (hb hby at_107) rfl (feq hc107_54).2 (by decide) (by decide) k) ?_
                show own_Out p e below _ (T53.setTop (mkF m 114 #[.val (.int p0), .val (.int ((p0 &&& (65535 : Int32)).toUInt32.toUInt16.toUInt32.toInt32)), .val (.int (((p0 &&& (65535 : Int32)).toUInt32.toUInt16.toUInt32.toInt32) - (48 : Int32))), .val (.int (((p0 &&& (65535 : Int32)).toUInt32.toUInt16.toUInt32.toInt32) - (97 : Int32))), .val (.int (1 : Int32)), .val (.int (1 : Int32)), .val (.int (1 : Int32)), .val (.int (f1 ((p0 &&& (65535 : Int32)).toUInt32.toUInt16.toUInt32.toInt32)))] []))
                refine own_of (fun _ k => XS.iconst X53.here hx rfl (hb hby at_114) k) ?_
                show own_Out p e below _ (T53.setTop (mkF m 115 #[.val (.int p0), .val (.int ((p0 &&& (65535 : Int32)).toUInt32.toUInt16.toUInt32.toInt32)), .val (.int (((p0 &&& (65535 : Int32)).toUInt32.toUInt16.toUInt32.toInt32) - (48 : Int32))), .val (.int (((p0 &&& (65535 : Int32)).toUInt32.toUInt16.toUInt32.toInt32) - (97 : Int32))), .val (.int (1 : Int32)), .val (.int (1 : Int32)), .val (.int (1 : Int32)), .val (.int (f1 ((p0 &&& (65535 : Int32)).toUInt32.toUInt16.toUInt32.toInt32)))] [(.int (0 : Int32))]))
                exact (dead0_13 p0 hcs hc18_1 hc24_32 hc36_33 hc42_44 hc79_46 hc99_48 hc107_54).elim
          · skip
            refine own_of (fun _ k => XS.icmpNo X45.here hx rfl (hb hby at_79) rfl (feq hc79_46).1 k) ?_
            show own_Out p e below _ (T45.setTop (mkF m 82 #[.val (.int p0), .val (.int ((p0 &&& (65535 : Int32)).toUInt32.toUInt16.toUInt32.toInt32)), .val (.int (((p0 &&& (65535 : Int32)).toUInt32.toUInt16.toUInt32.toInt32) - (48 : Int32))), .val (.int (((p0 &&& (65535 : Int32)).toUInt32.toUInt16.toUInt32.toInt32) - (97 : Int32))), .val (.int (1 : Int32)), .val (.int (1 : Int32)), .val (.int (1 : Int32)), .val (.int (f1 ((p0 &&& (65535 : Int32)).toUInt32.toUInt16.toUInt32.toInt32)))] []))
            refine own_of (fun _ k => XS.iconst X45.here hx rfl (hb hby at_82) k) ?_
            show own_Out p e below _ (T45.setTop (mkF m 83 #[.val (.int p0), .val (.int ((p0 &&& (65535 : Int32)).toUInt32.toUInt16.toUInt32.toInt32)), .val (.int (((p0 &&& (65535 : Int32)).toUInt32.toUInt16.toUInt32.toInt32) - (48 : Int32))), .val (.int (((p0 &&& (65535 : Int32)).toUInt32.toUInt16.toUInt32.toInt32) - (97 : Int32))), .val (.int (1 : Int32)), .val (.int (1 : Int32)), .val (.int (1 : Int32)), .val (.int (f1 ((p0 &&& (65535 : Int32)).toUInt32.toUInt16.toUInt32.toInt32)))] [(.int (0 : Int32))]))
            exact (dead0_14 p0 hcs hc18_1 hc24_32 hc36_33 hc42_44 hc79_46).elim
        · skip
          refine own_of (fun _ k => XS.icmpYes X0.here hx rfl (pc0 := 42) (pc' := 49) rfl (hb hby at_42) rfl (flt hc42_44).2.1 (by decide) (by decide) k) ?_
          show own_Out p e below _ (s₁.setTop (mkF m 49 #[.val (.int p0), .val (.int ((p0 &&& (65535 : Int32)).toUInt32.toUInt16.toUInt32.toInt32)), .val (.int (((p0 &&& (65535 : Int32)).toUInt32.toUInt16.toUInt32.toInt32) - (48 : Int32))), .val (.int (((p0 &&& (65535 : Int32)).toUInt32.toUInt16.toUInt32.toInt32) - (97 : Int32))), .val (.int (1 : Int32)), .unset, .unset, .unset] []))
          refine own_of (fun _ k => XS.iconst X0.here hx rfl (hb hby at_49) k) ?_
          show own_Out p e below _ (s₁.setTop (mkF m 50 #[.val (.int p0), .val (.int ((p0 &&& (65535 : Int32)).toUInt32.toUInt16.toUInt32.toInt32)), .val (.int (((p0 &&& (65535 : Int32)).toUInt32.toUInt16.toUInt32.toInt32) - (48 : Int32))), .val (.int (((p0 &&& (65535 : Int32)).toUInt32.toUInt16.toUInt32.toInt32) - (97 : Int32))), .val (.int (1 : Int32)), .unset, .unset, .unset] [(.int (0 : Int32))]))
          refine own_of (fun _ k => XS.istore X0.here hx rfl (hb hby at_50) rfl (l' := #[.val (.int p0), .val (.int ((p0 &&& (65535 : Int32)).toUInt32.toUInt16.toUInt32.toInt32)), .val (.int (((p0 &&& (65535 : Int32)).toUInt32.toUInt16.toUInt32.toInt32) - (48 : Int32))), .val (.int (((p0 &&& (65535 : Int32)).toUInt32.toUInt16.toUInt32.toInt32) - (97 : Int32))), .val (.int (1 : Int32)), .val (.int (0 : Int32)), .unset, .unset]) rfl k) ?_
          show own_Out p e below _ (s₁.setTop (mkF m 52 #[.val (.int p0), .val (.int ((p0 &&& (65535 : Int32)).toUInt32.toUInt16.toUInt32.toInt32)), .val (.int (((p0 &&& (65535 : Int32)).toUInt32.toUInt16.toUInt32.toInt32) - (48 : Int32))), .val (.int (((p0 &&& (65535 : Int32)).toUInt32.toUInt16.toUInt32.toInt32) - (97 : Int32))), .val (.int (1 : Int32)), .val (.int (0 : Int32)), .unset, .unset] []))
          refine own_of (fun _ k => XS.iload X0.here hx rfl (hb hby at_52) rfl k) ?_
          show own_Out p e below _ (s₁.setTop (mkF m 54 #[.val (.int p0), .val (.int ((p0 &&& (65535 : Int32)).toUInt32.toUInt16.toUInt32.toInt32)), .val (.int (((p0 &&& (65535 : Int32)).toUInt32.toUInt16.toUInt32.toInt32) - (48 : Int32))), .val (.int (((p0 &&& (65535 : Int32)).toUInt32.toUInt16.toUInt32.toInt32) - (97 : Int32))), .val (.int (1 : Int32)), .val (.int (0 : Int32)), .unset, .unset] [(.int (1 : Int32))]))
          refine own_of (fun _ k => XS.ifYes X0.here hx rfl (pc0 := 54) (pc' := 62) rfl (hb hby at_54) rfl ((if0 _ _).trans (feq (by decide : ¬ ((1 : Int32) = (0 : Int32)))).2) (by decide) (by decide) k) ?_
          show own_Out p e below _ (s₁.setTop (mkF m 62 #[.val (.int p0), .val (.int ((p0 &&& (65535 : Int32)).toUInt32.toUInt16.toUInt32.toInt32)), .val (.int (((p0 &&& (65535 : Int32)).toUInt32.toUInt16.toUInt32.toInt32) - (48 : Int32))), .val (.int (((p0 &&& (65535 : Int32)).toUInt32.toUInt16.toUInt32.toInt32) - (97 : Int32))), .val (.int (1 : Int32)), .val (.int (0 : Int32)), .unset, .unset] []))
          refine own_of (fun _ k => XS.iconst X0.here hx rfl (hb hby at_62) k) ?_
          show own_Out p e below _ (s₁.setTop (mkF m 63 #[.val (.int p0), .val (.int ((p0 &&& (65535 : Int32)).toUInt32.toUInt16.toUInt32.toInt32)), .val (.int (((p0 &&& (65535 : Int32)).toUInt32.toUInt16.toUInt32.toInt32) - (48 : Int32))), .val (.int (((p0 &&& (65535 : Int32)).toUInt32.toUInt16.toUInt32.toInt32) - (97 : Int32))), .val (.int (1 : Int32)), .val (.int (0 : Int32)), .unset, .unset] [(.int (1 : Int32))]))
          refine own_of (fun _ k => XS.goto X0.here hx rfl (pc0 := 63) (pc' := 67) rfl (hb hby at_63) (by decide) (by decide) k) ?_
          show own_Out p e below _ (s₁.setTop (mkF m 67 #[.val (.int p0), .val (.int ((p0 &&& (65535 : Int32)).toUInt32.toUInt16.toUInt32.toInt32)), .val (.int (((p0 &&& (65535 : Int32)).toUInt32.toUInt16.toUInt32.toInt32) - (48 : Int32))), .val (.int (((p0 &&& (65535 : Int32)).toUInt32.toUInt16.toUInt32.toInt32) - (97 : Int32))), .val (.int (1 : Int32)), .val (.int (0 : Int32)), .unset, .unset] [(.int (1 : Int32))]))
          refine own_of (fun _ k => XS.istore X0.here hx rfl (hb hby at_67) rfl (l' := #[.val (.int p0), .val (.int ((p0 &&& (65535 : Int32)).toUInt32.toUInt16.toUInt32.toInt32)), .val (.int (((p0 &&& (65535 : Int32)).toUInt32.toUInt16.toUInt32.toInt32) - (48 : Int32))), .val (.int (((p0 &&& (65535 : Int32)).toUInt32.toUInt16.toUInt32.toInt32) - (97 : Int32))), .val (.int (1 : Int32)), .val (.int (0 : Int32)), .val (.int (1 : Int32)), .unset]) rfl k) ?_
          show own_Out p e below _ (s₁.setTop (mkF m 69 #[.val (.int p0), .val (.int ((p0 &&& (65535 : Int32)).toUInt32.toUInt16.toUInt32.toInt32)), .val (.int (((p0 &&& (65535 : Int32)).toUInt32.toUInt16.toUInt32.toInt32) - (48 : Int32))), .val (.int (((p0 &&& (65535 : Int32)).toUInt32.toUInt16.toUInt32.toInt32) - (97 : Int32))), .val (.int (1 : Int32)), .val (.int (0 : Int32)), .val (.int (1 : Int32)), .unset] []))
          refine own_of (fun _ k => XS.iloadN X0.here hx rfl (hb hby at_69) rfl k) ?_
          show own_Out p e below _ (s₁.setTop (mkF m 70 #[.val (.int p0), .val (.int ((p0 &&& (65535 : Int32)).toUInt32.toUInt16.toUInt32.toInt32)), .val (.int (((p0 &&& (65535 : Int32)).toUInt32.toUInt16.toUInt32.toInt32) - (48 : Int32))), .val (.int (((p0 &&& (65535 : Int32)).toUInt32.toUInt16.toUInt32.toInt32) - (97 : Int32))), .val (.int (1 : Int32)), .val (.int (0 : Int32)), .val (.int (1 : Int32)), .unset] [(.int ((p0 &&& (65535 : Int32)).toUInt32.toUInt16.toUInt32.toInt32))]))
          obtain ⟨_, _, ⟨T55, L55, k55, n55⟩, -, X55, ⟨Lc55, hQ55, l55, y55, z55⟩, st55⟩ := Jvm.LawKit.callS X0 hx (y := (⟨"com/example/ringd/ringd/core/Tags", "isStart", "(C)Z"⟩ : MethodName)) hown (mvT hZ (hw _ (List.mem_of_getElem? (i := 1) rfl))) (mvT hZ (hw _ (List.mem_of_getElem? (i := 2) rfl))) (mvT hZ (hw _ (List.mem_of_getElem? (i := 3) rfl))) (mvT hZ (hw _ (List.mem_of_getElem? (i := 4) rfl))) (by decide) (backOf (W := 0) (rm1 l Z a0 hw [] ((p0 &&& (65535 : Int32)).toUInt32.toUInt16.toUInt32.toInt32) h0 n0 Z0 ) hZ (hw _ (List.mem_of_getElem? (i := 4) rfl)) (hw _ (List.mem_of_getElem? (i := 3) rfl)) (by decide) (by decide)) (g := (mkF m 70 #[.val (.int p0), .val (.int ((p0 &&& (65535 : Int32)).toUInt32.toUInt16.toUInt32.toInt32)), .val (.int (((p0 &&& (65535 : Int32)).toUInt32.toUInt16.toUInt32.toInt32) - (48 : Int32))), .val (.int (((p0 &&& (65535 : Int32)).toUInt32.toUInt16.toUInt32.toInt32) - (97 : Int32))), .val (.int (1 : Int32)), .val (.int (0 : Int32)), .val (.int (1 : Int32)), .unset] [(.int ((p0 &&& (65535 : Int32)).toUInt32.toUInt16.toUInt32.toInt32))])) rfl (by rw [hml]; rfl) (argsL := [(.int ((p0 &&& (65535 : Int32)).toUInt32.toUInt16.toUInt32.toInt32))]) (rest := []) (lenOf pd_0 rfl) rfl (by show 2 * 0 + _ ≤ _; exact Nat.le_of_eq rfl) (hb hby at_70) (fun _ _ => ⟨rfl, e0, (by decide : 0 + 0 ≤ _), (by decide : 0 + 0 ≤ _)⟩)
          dsimp only [Pt.U, Pt.locs, Pt.cells, Pt.slots] at X55 l55 y55 z55 st55 hQ55
          subst l55 y55 z55
          obtain ⟨rfl, N55q, hh55⟩ := hQ55
          have N55 := Fr.app N0 N55q
          refine own_of st55 ?_
          show own_Out p e below _ (T55.setTop (mkF m 73 #[.val (.int p0), .val (.int ((p0 &&& (65535 : Int32)).toUInt32.toUInt16.toUInt32.toInt32)), .val (.int (((p0 &&& (65535 : Int32)).toUInt32.toUInt16.toUInt32.toInt32) - (48 : Int32))), .val (.int (((p0 &&& (65535 : Int32)).toUInt32.toUInt16.toUInt32.toInt32) - (97 : Int32))), .val (.int (1 : Int32)), .val (.int (0 : Int32)), .val (.int (1 : Int32)), .unset] [(.int (f1 ((p0 &&& (65535 : Int32)).toUInt32.toUInt16.toUInt32.toInt32)))]))
          refine own_of (fun _ k => XS.istore X55.here hx rfl (hb hby at_73) rfl (l' := #[.val (.int p0), .val (.int ((p0 &&& (65535 : Int32)).toUInt32.toUInt16.toUInt32.toInt32)), .val (.int (((p0 &&& (65535 : Int32)).toUInt32.toUInt16.toUInt32.toInt32) - (48 : Int32))), .val (.int (((p0 &&& (65535 : Int32)).toUInt32.toUInt16.toUInt32.toInt32) - (97 : Int32))), .val (.int (1 : Int32)), .val (.int (0 : Int32)), .val (.int (1 : Int32)), .val (.int (f1 ((p0 &&& (65535 : Int32)).toUInt32.toUInt16.toUInt32.toInt32)))]) rfl k) ?_
          show own_Out p e below _ (T55.setTop (mkF m 75 #[.val (.int p0), .val (.int ((p0 &&& (65535 : Int32)).toUInt32.toUInt16.toUInt32.toInt32)), .val (.int (((p0 &&& (65535 : Int32)).toUInt32.toUInt16.toUInt32.toInt32) - (48 : Int32))), .val (.int (((p0 &&& (65535 : Int32)).toUInt32.toUInt16.toUInt32.toInt32) - (97 : Int32))), .val (.int (1 : Int32)), .val (.int (0 : Int32)), .val (.int (1 : Int32)), .val (.int (f1 ((p0 &&& (65535 : Int32)).toUInt32.toUInt16.toUInt32.toInt32)))] []))
          refine own_of (fun _ k => XS.iload X55.here hx rfl (hb hby at_75) rfl k) ?_
          show own_Out p e below _ (T55.setTop (mkF m 77 #[.val (.int p0), .val (.int ((p0 &&& (65535 : Int32)).toUInt32.toUInt16.toUInt32.toInt32)), .val (.int (((p0 &&& (65535 : Int32)).toUInt32.toUInt16.toUInt32.toInt32) - (48 : Int32))), .val (.int (((p0 &&& (65535 : Int32)).toUInt32.toUInt16.toUInt32.toInt32) - (97 : Int32))), .val (.int (1 : Int32)), .val (.int (0 : Int32)), .val (.int (1 : Int32)), .val (.int (f1 ((p0 &&& (65535 : Int32)).toUInt32.toUInt16.toUInt32.toInt32)))] [(.int (f1 ((p0 &&& (65535 : Int32)).toUInt32.toUInt16.toUInt32.toInt32)))]))
          refine own_of (fun _ k => XS.iload X55.here hx rfl (hb hby at_77) rfl k) ?_
          show own_Out p e below _ (T55.setTop (mkF m 79 #[.val (.int p0), .val (.int ((p0 &&& (65535 : Int32)).toUInt32.toUInt16.toUInt32.toInt32)), .val (.int (((p0 &&& (65535 : Int32)).toUInt32.toUInt16.toUInt32.toInt32) - (48 : Int32))), .val (.int (((p0 &&& (65535 : Int32)).toUInt32.toUInt16.toUInt32.toInt32) - (97 : Int32))), .val (.int (1 : Int32)), .val (.int (0 : Int32)), .val (.int (1 : Int32)), .val (.int (f1 ((p0 &&& (65535 : Int32)).toUInt32.toUInt16.toUInt32.toInt32)))] [(.int (1 : Int32)), (.int (f1 ((p0 &&& (65535 : Int32)).toUInt32.toUInt16.toUInt32.toInt32)))]))
          by_cases hc79_56 : (f1 ((p0 &&& (65535 : Int32)).toUInt32.toUInt16.toUInt32.toInt32)) = (1 : Int32)
          · skip
            refine own_of (fun _ k => XS.icmpYes X55.here hx rfl (pc0 := 79) (pc' := 84) rfl (hb hby at_79) rfl (teq hc79_56).1 (by decide) (by decide) k) ?_
            show own_Out p e below _ (T55.setTop (mkF m 84 #[.val (.int p0), .val (.int ((p0 &&& (65535 : Int32)).toUInt32.toUInt16.toUInt32.toInt32)), .val (.int (((p0 &&& (65535 : Int32)).toUInt32.toUInt16.toUInt32.toInt32) - (48 : Int32))), .val (.int (((p0 &&& (65535 : Int32)).toUInt32.toUInt16.toUInt32.toInt32) - (97 : Int32))), .val (.int (1 : Int32)), .val (.int (0 : Int32)), .val (.int (1 : Int32)), .val (.int (f1 ((p0 &&& (65535 : Int32)).toUInt32.toUInt16.toUInt32.toInt32)))] []))
            refine own_of (fun _ k => XS.iload X55.here hx rfl (hb hby at_84) rfl k) ?_
            show own_Out p e below _ (T55.setTop (mkF m 86 #[.val (.int p0), .val (.int ((p0 &&& (65535 : Int32)).toUInt32.toUInt16.toUInt32.toInt32)), .val (.int (((p0 &&& (65535 : Int32)).toUInt32.toUInt16.toUInt32.toInt32) - (48 : Int32))), .val (.int (((p0 &&& (65535 : Int32)).toUInt32.toUInt16.toUInt32.toInt32) - (97 : Int32))), .val (.int (1 : Int32)), .val (.int (0 : Int32)), .val (.int (1 : Int32)), .val (.int (f1 ((p0 &&& (65535 : Int32)).toUInt32.toUInt16.toUInt32.toInt32)))] [(.int (f1 ((p0 &&& (65535 : Int32)).toUInt32.toUInt16.toUInt32.toInt32)))]))
            refine own_of (fun _ k => XS.ifNo X55.here hx rfl (hb hby at_86) rfl ((if0 _ _).trans (feq (own_T6 (own_L3 hc79_56) (by decide) : ¬ ((f1 ((p0 &&& (65535 : Int32)).toUInt32.toUInt16.toUInt32.toInt32)) = (0 : Int32)))).1) k) ?_
            show own_Out p e below _ (T55.setTop (mkF m 89 #[.val (.int p0), .val (.int ((p0 &&& (65535 : Int32)).toUInt32.toUInt16.toUInt32.toInt32)), .val (.int (((p0 &&& (65535 : Int32)).toUInt32.toUInt16.toUInt32.toInt32) - (48 : Int32))), .val (.int (((p0 &&& (65535 : Int32)).toUInt32.toUInt16.toUInt32.toInt32) - (97 : Int32))), .val (.int (1 : Int32)), .val (.int (0 : Int32)), .val (.int (1 : Int32)), .val (.int (f1 ((p0 &&& (65535 : Int32)).toUInt32.toUInt16.toUInt32.toInt32)))] []))
            refine own_of (fun _ k => XS.iloadN X55.here hx rfl (hb hby at_89) rfl k) ?_
            show own_Out p e below _ (T55.setTop (mkF m 90 #[.val (.int p0), .val (.int ((p0 &&& (65535 : Int32)).toUInt32.toUInt16.toUInt32.toInt32)), .val (.int (((p0 &&& (65535 : Int32)).toUInt32.toUInt16.toUInt32.toInt32) - (48 : Int32))), .val (.int (((p0 &&& (65535 : Int32)).toUInt32.toUInt16.toUInt32.toInt32) - (97 : Int32))), .val (.int (1 : Int32)), .val (.int (0 : Int32)), .val (.int (1 : Int32)), .val (.int (f1 ((p0 &&& (65535 : Int32)).toUInt32.toUInt16.toUInt32.toInt32)))] [(.int ((p0 &&& (65535 : Int32)).toUInt32.toUInt16.toUInt32.toInt32))]))
            obtain ⟨_, _, ⟨T57, L57, k57, n57⟩, -, X57, ⟨Lc57, hQ57, l57, y57, z57⟩, st57⟩ := Jvm.LawKit.callS X55 hx (y := (⟨"com/example/ringd/ringd/core/Tags", "isPart", "(C)Z"⟩ : MethodName)) hown (mvT hZ (hw _ (List.mem_of_getElem? (i := 61) rfl))) (mvT hZ (hw _ (List.mem_of_getElem? (i := 62) rfl))) (mvT hZ (hw _ (List.mem_of_getElem? (i := 3) rfl))) (mvT hZ (hw _ (List.mem_of_getElem? (i := 63) rfl))) (by decide) (backOf (W := 0) (rm14 l Z a0 hw [] ((p0 &&& (65535 : Int32)).toUInt32.toUInt16.toUInt32.toInt32) h0 n0 Z0 (own_T6 (own_L3 hc79_56) (by decide) : ¬ ((f1 ((p0 &&& (65535 : Int32)).toUInt32.toUInt16.toUInt32.toInt32)) = (0 : Int32)))) hZ (hw _ (List.mem_of_getElem? (i := 63) rfl)) (hw _ (List.mem_of_getElem? (i := 3) rfl)) (by decide) (by decide)) (g := (mkF m 90 #[.val (.int p0), .val (.int ((p0 &&& (65535 : Int32)).toUInt32.toUInt16.toUInt32.toInt32)), .val (.int (((p0 &&& (65535 : Int32)).toUInt32.toUInt16.toUInt32.toInt32) - (48 : Int32))), .val (.int (((p0 &&& (65535 : Int32)).toUInt32.toUInt16.toUInt32.toInt32) - (97 : Int32))), .val (.int (1 : Int32)), .val (.int (0 : Int32)), .val (.int (1 : Int32)), .val (.int (f1 ((p0 &&& (65535 : Int32)).toUInt32.toUInt16.toUInt32.toInt32)))] [(.int ((p0 &&& (65535 : Int32)).toUInt32.toUInt16.toUInt32.toInt32))])) rfl (by rw [hml]; rfl) (argsL := [(.int ((p0 &&& (65535 : Int32)).toUInt32.toUInt16.toUInt32.toInt32))]) (rest := []) (lenOf pd_0 rfl) rfl (by show 2 * 0 + _ ≤ _; exact Nat.le_of_eq rfl) (hb hby at_90) (fun _ _ => ⟨rfl, hh55, (by decide : 0 + 0 ≤ _), (by decide : 0 + 0 ≤ _)⟩)
            dsimp only [Pt.U, Pt.locs, Pt.cells, Pt.slots] at X57 l57 y57 z57 st57 hQ57
            subst l57 y57 z57
            obtain ⟨rfl, N57q, hh57⟩ := hQ57
            have N57 := Fr.app N55 N57q
            refine own_of st57 ?_
            show own_Out p e below _ (T57.setTop (mkF m 93 #[.val (.int p0), .val (.int ((p0 &&& (65535 : Int32)).toUInt32.toUInt16.toUInt32.toInt32)), .val (.int (((p0 &&& (65535 : Int32)).toUInt32.toUInt16.toUInt32.toInt32) - (48 : Int32))), .val (.int (((p0 &&& (65535 : Int32)).toUInt32.toUInt16.toUInt32.toInt32) - (97 : Int32))), .val (.int (1 : Int32)), .val (.int (0 : Int32)), .val (.int (1 : Int32)), .val (.int (f1 ((p0 &&& (65535 : Int32)).toUInt32.toUInt16.toUInt32.toInt32)))] [(.int (1 : Int32))]))
            refine own_of (fun _ k => XS.ifYes X57.here hx rfl (pc0 := 93) (pc' := 98) rfl (hb hby at_93) rfl ((if0 _ _).trans (feq (by decide : ¬ ((1 : Int32) = (0 : Int32)))).2) (by decide) (by decide) k) ?_
            show own_Out p e below _ (T57.setTop (mkF m 98 #[.val (.int p0), .val (.int ((p0 &&& (65535 : Int32)).toUInt32.toUInt16.toUInt32.toInt32)), .val (.int (((p0 &&& (65535 : Int32)).toUInt32.toUInt16.toUInt32.toInt32) - (48 : Int32))), .val (.int (((p0 &&& (65535 : Int32)).toUInt32.toUInt16.toUInt32.toInt32) - (97 : Int32))), .val (.int (1 : Int32)), .val (.int (0 : Int32)), .val (.int (1 : Int32)), .val (.int (f1 ((p0 &&& (65535 : Int32)).toUInt32.toUInt16.toUInt32.toInt32)))] []))
            refine own_of (fun _ k => XS.iloadN X57.here hx rfl (hb hby at_98) rfl k) ?_
            show own_Out p e below _ (T57.setTop (mkF m 99 #[.val (.int p0), .val (.int ((p0 &&& (65535 : Int32)).toUInt32.toUInt16.toUInt32.toInt32)), .val (.int (((p0 &&& (65535 : Int32)).toUInt32.toUInt16.toUInt32.toInt32) - (48 : Int32))), .val (.int (((p0 &&& (65535 : Int32)).toUInt32.toUInt16.toUInt32.toInt32) - (97 : Int32))), .val (.int (1 : Int32)), .val (.int (0 : Int32)), .val (.int (1 : Int32)), .val (.int (f1 ((p0 &&& (65535 : Int32)).toUInt32.toUInt16.toUInt32.toInt32)))] [(.int ((p0 &&& (65535 : Int32)).toUInt32.toUInt16.toUInt32.toInt32))]))
            by_cases hc99_58 : (255 : Int32) < ((p0 &&& (65535 : Int32)).toUInt32.toUInt16.toUInt32.toInt32)
            · skip
              obtain ⟨_, _, ⟨T59, L59, k59, n59⟩, -, X59, ⟨Lc59, hQ59, l59, y59, z59⟩, st59⟩ := Jvm.LawKit.callS X57 hx (y := (⟨"java/lang/String", "valueOf", "(C)Ljava/lang/String;"⟩ : MethodName)) hown (mvT hZ (hw _ (List.mem_of_getElem? (i := 5) rfl))) (mvT hZ (hw _ (List.mem_of_getElem? (i := 6) rfl))) (mvT hZ (hw _ (List.mem_of_getElem? (i := 7) rfl))) (mvT hZ (hw _ (List.mem_of_getElem? (i := 8) rfl))) (by decide) (backOf (W := 0) (rm2u l Z a0 hw [] ((p0 &&& (65535 : Int32)).toUInt32.toUInt16.toUInt32.toInt32) cs h0 n0 Z0 S_cs hcs hc99_58 S_ad S_hi S_lo) hZ (hw _ (List.mem_of_getElem? (i := 8) rfl)) (hw _ (List.mem_of_getElem? (i := 7) rfl)) (by decide) (by decide)) (g := (mkF m 99 #[.val (.int p0), .val (.int ((p0 &&& (65535 : Int32)).toUInt32.toUInt16.toUInt32.toInt32)), .val (.int (((p0 &&& (65535 : Int32)).toUInt32.toUInt16.toUInt32.toInt32) - (48 : Int32))), .val (.int (((p0 &&& (65535 : Int32)).toUInt32.toUInt16.toUInt32.toInt32) - (97 : Int32))), .val (.int (1 : Int32)), .val (.int (0 : Int32)), .val (.int (1 : Int32)), .val (.int (f1 ((p0 &&& (65535 : Int32)).toUInt32.toUInt16.toUInt32.toInt32)))] [(.int ((p0 &&& (65535 : Int32)).toUInt32.toUInt16.toUInt32.toInt32))])) rfl (by rw [hml]; rfl) (argsL := [(.int ((p0 &&& (65535 : Int32)).toUInt32.toUInt16.toUInt32.toInt32))]) (rest := []) (lenOf pd_13 rfl) rfl (by show 2 * 0 + _ ≤ _; exact Nat.le_of_eq rfl) (hb hby at_99) (fun _ _ => ⟨rfl, hh57, (by decide : 0 + 2 ≤ _), (by decide : 0 + 6 ≤ _)⟩)
              dsimp only [Pt.U, Pt.locs, Pt.cells, Pt.slots] at X59 l59 y59 z59 st59 hQ59
              subst l59 y59 z59
              obtain ⟨r59, b59, k59, rfl, N59q, K59, E59, Fv59, Fc59, V59, hgr_59, hsr_59, hgb_59, hsb_59, hnrb_59⟩ := hQ59
              have N59 := Fr.app N57 N59q
              have S_java_lang_String_COMPACT_STRINGS_K59 := own_staK0 S_cs K59
              have S_jdk_internal_util_Preconditions_SIOOBE_FORMATTER_K59 := own_staK0 S_f K59
              have S_java_lang_StringUTF16__assertionsDisabled_K59 := own_staK0 S_ad K59
              have S_java_lang_StringUTF16_HI_BYTE_SHIFT_K59 := own_staK0 S_hi K59
              have S_java_lang_StringUTF16_LO_BYTE_SHIFT_K59 := own_staK0 S_lo K59
              have Zl59 : n0 ≤ T59.heap.size := Nat.le_trans Z0 K59.1
              refine own_of st59 ?_
              show own_Out p e below _ (T59.setTop (mkF m 102 #[.val (.int p0), .val (.int ((p0 &&& (65535 : Int32)).toUInt32.toUInt16.toUInt32.toInt32)), .val (.int (((p0 &&& (65535 : Int32)).toUInt32.toUInt16.toUInt32.toInt32) - (48 : Int32))), .val (.int (((p0 &&& (65535 : Int32)).toUInt32.toUInt16.toUInt32.toInt32) - (97 : Int32))), .val (.int (1 : Int32)), .val (.int (0 : Int32)), .val (.int (1 : Int32)), .val (.int (f1 ((p0 &&& (65535 : Int32)).toUInt32.toUInt16.toUInt32.toInt32)))] [(.ref r59)]))
              obtain ⟨_, _, ⟨T60, L60, k60, n60⟩, -, X60, ⟨Lc60, hQ60, l60, y60, z60⟩, st60⟩ := Jvm.LawKit.callS X59 hx (y := (⟨"com/example/ringd/ringd/core/Tags", "isTag", "(Ljava/lang/String;)Z"⟩ : MethodName)) hown (mvT hZ (hw _ (List.mem_of_getElem? (i := 31) rfl))) (mvT hZ (hw _ (List.mem_of_getElem? (i := 32) rfl))) (mvT hZ (hw _ (List.mem_of_getElem? (i := 3) rfl))) (mvT hZ (hw _ (List.mem_of_getElem? (i := 33) rfl))) (by decide) (backOf (W := 0) (rm7c1n2 l Z a0 hw [] r59 b59 k59 (((((p0 &&& (65535 : Int32)).toUInt32.toUInt16.toUInt32.toInt32) >>> ((0 : Int32) &&& 31)).toInt8.toInt32).toInt8.toInt32) (((((p0 &&& (65535 : Int32)).toUInt32.toUInt16.toUInt32.toInt32) >>> ((8 : Int32) &&& 31)).toInt8.toInt32).toInt8.toInt32) cs vf T59.heap n0 Zl59 E59 Fv59 Fc59 V59 S_java_lang_String_COMPACT_STRINGS_K59 hcs S_jdk_internal_util_Preconditions_SIOOBE_FORMATTER_K59 hvf S_java_lang_StringUTF16__assertionsDisabled_K59 S_java_lang_StringUTF16_HI_BYTE_SHIFT_K59 S_java_lang_StringUTF16_LO_BYTE_SHIFT_K59) hZ (hw _ (List.mem_of_getElem? (i := 33) rfl)) (hw _ (List.mem_of_getElem? (i := 3) rfl)) (by decide) (by decide)) (g := (mkF m 102 #[.val (.int p0), .val (.int ((p0 &&& (65535 : Int32)).toUInt32.toUInt16.toUInt32.toInt32)), .val (.int (((p0 &&& (65535 : Int32)).toUInt32.toUInt16.toUInt32.toInt32) - (48 : Int32))), .val (.int (((p0 &&& (65535 : Int32)).toUInt32.toUInt16.toUInt32.toInt32) - (97 : Int32))), .val (.int (1 : Int32)), .val (.int (0 : Int32)), .val (.int (1 : Int32)), .val (.int (f1 ((p0 &&& (65535 : Int32)).toUInt32.toUInt16.toUInt32.toInt32)))] [(.ref r59)])) rfl (by rw [hml]; rfl) (argsL := [(.ref r59)]) (rest := []) (lenOf pd_14 rfl) rfl (by show 2 * 0 + _ ≤ _; exact Nat.le_of_eq rfl) (hb hby at_102) (fun _ _ => ⟨rfl, rfl, (by decide : 2 + 0 ≤ _), (by decide : 6 + 0 ≤ _)⟩)
              dsimp only [Pt.U, Pt.locs, Pt.cells, Pt.slots] at X60 l60 y60 z60 st60 hQ60
              subst l60 y60 z60
              obtain ⟨rfl, N60q, hh60⟩ := hQ60
              have N60 := Fr.app N59 N60q
              refine own_of st60 ?_
              show own_Out p e below _ (T60.setTop (mkF m 105 #[.val (.int p0), .val (.int ((p0 &&& (65535 : Int32)).toUInt32.toUInt16.toUInt32.toInt32)), .val (.int (((p0 &&& (65535 : Int32)).toUInt32.toUInt16.toUInt32.toInt32) - (48 : Int32))), .val (.int (((p0 &&& (65535 : Int32)).toUInt32.toUInt16.toUInt32.toInt32) - (97 : Int32))), .val (.int (1 : Int32)), .val (.int (0 : Int32)), .val (.int (1 : Int32)), .val (.int (f1 ((p0 &&& (65535 : Int32)).toUInt32.toUInt16.toUInt32.toInt32)))] [(.int (f_isTagc1n2 (((((p0 &&& (65535 : Int32)).toUInt32.toUInt16.toUInt32.toInt32) >>> ((0 : Int32) &&& 31)).toInt8.toInt32).toInt8.toInt32) (((((p0 &&& (65535 : Int32)).toUInt32.toUInt16.toUInt32.toInt32) >>> ((8 : Int32) &&& 31)).toInt8.toInt32).toInt8.toInt32) cs))]))
              refine own_of (fun _ k => XS.iload X60.here hx rfl (hb hby at_105) rfl k) ?_
              show own_Out p e below _ (T60.setTop (mkF m 107 #[.val (.int p0), .val (.int ((p0 &&& (65535 : Int32)).toUInt32.toUInt16.toUInt32.toInt32)), .val (.int (((p0 &&& (65535 : Int32)).toUInt32.toUInt16.toUInt32.toInt32) - (48 : Int32))), .val (.int (((p0 &&& (65535 : Int32)).toUInt32.toUInt16.toUInt32.toInt32) - (97 : Int32))), .val (.int (1 : Int32)), .val (.int (0 : Int32)), .val (.int (1 : Int32)), .val (.int (f1 ((p0 &&& (65535 : Int32)).toUInt32.toUInt16.toUInt32.toInt32)))] [(.int (f1 ((p0 &&& (65535 : Int32)).toUInt32.toUInt16.toUInt32.toInt32))), (.int (f_isTagc1n2 (((((p0 &&& (65535 : Int32)).toUInt32.toUInt16.toUInt32.toInt32) >>> ((0 : Int32) &&& 31)).toInt8.toInt32).toInt8.toInt32) (((((p0 &&& (65535 : Int32)).toUInt32.toUInt16.toUInt32.toInt32) >>> ((8 : Int32) &&& 31)).toInt8.toInt32).toInt8.toInt32) cs))]))
              by_cases hc107_61 : (f_isTagc1n2 (((((p0 &&& (65535 : Int32)).toUInt32.toUInt16.toUInt32.toInt32) >>> ((0 : Int32) &&& 31)).toInt8.toInt32).toInt8.toInt32) (((((p0 &&& (65535 : Int32)).toUInt32.toUInt16.toUInt32.toInt32) >>> ((8 : Int32) &&& 31)).toInt8.toInt32).toInt8.toInt32) cs) = (f1 ((p0 &&& (65535 : Int32)).toUInt32.toUInt16.toUInt32.toInt32))
              · skip
                refine own_of (fun _ k => XS.icmpNo X60.here hx rfl (hb hby at_107) rfl (teq hc107_61).2 k) ?_
                show own_Out p e below _ (T60.setTop (mkF m 110 #[.val (.int p0), .val (.int ((p0 &&& (65535 : Int32)).toUInt32.toUInt16.toUInt32.toInt32)), .val (.int (((p0 &&& (65535 : Int32)).toUInt32.toUInt16.toUInt32.toInt32) - (48 : Int32))), .val (.int (((p0 &&& (65535 : Int32)).toUInt32.toUInt16.toUInt32.toInt32) - (97 : Int32))), .val (.int (1 : Int32)), .val (.int (0 : Int32)), .val (.int (1 : Int32)), .val (.int (f1 ((p0 &&& (65535 : Int32)).toUInt32.toUInt16.toUInt32.toInt32)))] []))
                refine own_of (fun _ k => XS.iconst X60.here hx rfl (hb hby at_110) k) ?_
                show own_Out p e below _ (T60.setTop (mkF m 111 #[.val (.int p0), .val (.int ((p0 &&& (65535 : Int32)).toUInt32.toUInt16.toUInt32.toInt32)), .val (.int (((p0 &&& (65535 : Int32)).toUInt32.toUInt16.toUInt32.toInt32) - (48 : Int32))), .val (.int (((p0 &&& (65535 : Int32)).toUInt32.toUInt16.toUInt32.toInt32) - (97 : Int32))), .val (.int (1 : Int32)), .val (.int (0 : Int32)), .val (.int (1 : Int32)), .val (.int (f1 ((p0 &&& (65535 : Int32)).toUInt32.toUInt16.toUInt32.toInt32)))] [(.int (1 : Int32))]))
                refine own_of (fun _ k => XS.goto X60.here hx rfl (pc0 := 111) (pc' := 115) rfl (hb hby at_111) (by decide) (by decide) k) ?_
                show own_Out p e below _ (T60.setTop (mkF m 115 #[.val (.int p0), .val (.int ((p0 &&& (65535 : Int32)).toUInt32.toUInt16.toUInt32.toInt32)), .val (.int (((p0 &&& (65535 : Int32)).toUInt32.toUInt16.toUInt32.toInt32) - (48 : Int32))), .val (.int (((p0 &&& (65535 : Int32)).toUInt32.toUInt16.toUInt32.toInt32) - (97 : Int32))), .val (.int (1 : Int32)), .val (.int (0 : Int32)), .val (.int (1 : Int32)), .val (.int (f1 ((p0 &&& (65535 : Int32)).toUInt32.toUInt16.toUInt32.toInt32)))] [(.int (1 : Int32))]))
                exact own_outN X60 hx hlk (t := .boolean) hret (by simp) (hb hby at_115) (z' := (1 : Int32)) rfl (Q := Q0 Z p0 cs vf h0 n0) ⟨rfl, N60⟩ (by decide) (by decide)
              · skip
                refine own_of (fun _ k => XS.icmpYes X60.here hx rfl (pc0 := 107) (pc' := 114) rfl (hb hby at_107) rfl (feq hc107_61).2 (by decide) (by decide) k) ?_
                show own_Out p e below _ (T60.setTop (mkF m 114 #[.val (.int p0), .val (.int ((p0 &&& (65535 : Int32)).toUInt32.toUInt16.toUInt32.toInt32)), .val (.int (((p0 &&& (65535 : Int32)).toUInt32.toUInt16.toUInt32.toInt32) - (48 : Int32))), .val (.int (((p0 &&& (65535 : Int32)).toUInt32.toUInt16.toUInt32.toInt32) - (97 : Int32))), .val (.int (1 : Int32)), .val (.int (0 : Int32)), .val (.int (1 : Int32)), .val (.int (f1 ((p0 &&& (65535 : Int32)).toUInt32.toUInt16.toUInt32.toInt32)))] []))
                refine own_of (fun _ k => XS.iconst X60.here hx rfl (hb hby at_114) k) ?_
                show own_Out p e below _ (T60.setTop (mkF m 115 #[.val (.int p0), .val (.int ((p0 &&& (65535 : Int32)).toUInt32.toUInt16.toUInt32.toInt32)), .val (.int (((p0 &&& (65535 : Int32)).toUInt32.toUInt16.toUInt32.toInt32) - (48 : Int32))), .val (.int (((p0 &&& (65535 : Int32)).toUInt32.toUInt16.toUInt32.toInt32) - (97 : Int32))), .val (.int (1 : Int32)), .val (.int (0 : Int32)), .val (.int (1 : Int32)), .val (.int (f1 ((p0 &&& (65535 : Int32)).toUInt32.toUInt16.toUInt32.toInt32)))] [(.int (0 : Int32))]))
                exact (dead0_15 p0 hcs hc18_1 hc24_32 hc36_33 hc42_44 hc79_56 hc99_58 hc107_61).elim
            · skip
              obtain ⟨_, _, ⟨T62, L62, k62, n62⟩, -, X62, ⟨Lc62, hQ62, l62, y62, z62⟩, st62⟩ := Jvm.LawKit.callS X57 hx (y := (⟨"java/lang/String", "valueOf", "(C)Ljava/lang/String;"⟩ : MethodName)) hown (mvT hZ (hw _ (List.mem_of_getElem? (i := 5) rfl))) (mvT hZ (hw _ (List.mem_of_getElem? (i := 6) rfl))) (mvT hZ (hw _ (List.mem_of_getElem? (i := 7) rfl))) (mvT hZ (hw _ (List.mem_of_getElem? (i := 8) rfl))) (by decide) (backOf (W := 0) (rm2l l Z a0 hw [] ((p0 &&& (65535 : Int32)).toUInt32.toUInt16.toUInt32.toInt32) cs h0 n0 Z0 S_cs hcs hc99_58) hZ (hw _ (List.mem_of_getElem? (i := 8) rfl)) (hw _ (List.mem_of_getElem? (i := 7) rfl)) (by decide) (by decide)) (g := (mkF m 99 #[.val (.int p0), .val (.int ((p0 &&& (65535 : Int32)).toUInt32.toUInt16.toUInt32.toInt32)), .val (.int (((p0 &&& (65535 : Int32)).toUInt32.toUInt16.toUInt32.toInt32) - (48 : Int32))), .val (.int (((p0 &&& (65535 : Int32)).toUInt32.toUInt16.toUInt32.toInt32) - (97 : Int32))), .val (.int (1 : Int32)), .val (.int (0 : Int32)), .val (.int (1 : Int32)), .val (.int (f1 ((p0 &&& (65535 : Int32)).toUInt32.toUInt16.toUInt32.toInt32)))] [(.int ((p0 &&& (65535 : Int32)).toUInt32.toUInt16.toUInt32.toInt32))])) rfl (by rw [hml]; rfl) (argsL := [(.int ((p0 &&& (65535 : Int32)).toUInt32.toUInt16.toUInt32.toInt32))]) (rest := []) (lenOf pd_13 rfl) rfl (by show 2 * 0 + _ ≤ _; exact Nat.le_of_eq rfl) (hb hby at_99) (fun _ _ => ⟨rfl, hh57, (by decide : 0 + 2 ≤ _), (by decide : 0 + 5 ≤ _)⟩)
              dsimp only [Pt.U, Pt.locs, Pt.cells, Pt.slots] at X62 l62 y62 z62 st62 hQ62
              subst l62 y62 z62
              obtain ⟨r62, b62, k62, rfl, N62q, K62, E62, Fv62, Fc62, V62, hgr_62, hsr_62, hgb_62, hsb_62, hnrb_62⟩ := hQ62
              have N62 := Fr.app N57 N62q
              have S_java_lang_String_COMPACT_STRINGS_K62 := own_staK0 S_cs K62
              have S_jdk_internal_util_Preconditions_SIOOBE_FORMATTER_K62 := own_staK0 S_f K62
              have S_java_lang_StringUTF16__assertionsDisabled_K62 := own_staK0 S_ad K62
              have S_java_lang_StringUTF16_HI_BYTE_SHIFT_K62 := own_staK0 S_hi K62
              have S_java_lang_StringUTF16_LO_BYTE_SHIFT_K62 := own_staK0 S_lo K62
              have Zl62 : n0 ≤ T62.heap.size := Nat.le_trans Z0 K62.1
              refine own_of st62 ?_
              show own_Out p e below _ (T62.setTop (mkF m 102 #[.val (.int p0), .val (.int ((p0 &&& (65535 : Int32)).toUInt32.toUInt16.toUInt32.toInt32)), .val (.int (((p0 &&& (65535 : Int32)).toUInt32.toUInt16.toUInt32.toInt32) - (48 : Int32))), .val (.int (((p0 &&& (65535 : Int32)).toUInt32.toUInt16.toUInt32.toInt32) - (97 : Int32))), .val (.int (1 : Int32)), .val (.int (0 : Int32)), .val (.int (1 : Int32)), .val (.int (f1 ((p0 &&& (65535 : Int32)).toUInt32.toUInt16.toUInt32.toInt32)))] [(.ref r62)]))
              obtain ⟨_, _, ⟨T63, L63, k63, n63⟩, -, X63, ⟨Lc63, hQ63, l63, y63, z63⟩, st63⟩ := Jvm.LawKit.callS X62 hx (y := (⟨"com/example/ringd/ringd/core/Tags", "isTag", "(Ljava/lang/String;)Z"⟩ : MethodName)) hown (mvT hZ (hw _ (List.mem_of_getElem? (i := 31) rfl))) (mvT hZ (hw _ (List.mem_of_getElem? (i := 32) rfl))) (mvT hZ (hw _ (List.mem_of_getElem? (i := 3) rfl))) (mvT hZ (hw _ (List.mem_of_getElem? (i := 33) rfl))) (by decide) (backOf (W := 0) (rm7c0n1 l Z a0 hw [] r62 b62 k62 ((((p0 &&& (65535 : Int32)).toUInt32.toUInt16.toUInt32.toInt32).toInt8.toInt32).toInt8.toInt32) cs vf T62.heap n0 Zl62 E62 Fv62 Fc62 V62 S_java_lang_String_COMPACT_STRINGS_K62 hcs S_jdk_internal_util_Preconditions_SIOOBE_FORMATTER_K62 hvf) hZ (hw _ (List.mem_of_getElem? (i := 33) rfl)) (hw _ (List.mem_of_getElem? (i := 3) rfl)) (by decide) (by decide)) (g := (mkF m 102 #[.val (.int p0), .val (.int ((p0 &&& (65535 : Int32)).toUInt32.toUInt16.toUInt32.toInt32)), .val (.int (((p0 &&& (65535 : Int32)).toUInt32.toUInt16.toUInt32.toInt32) - (48 : Int32))), .val (.int (((p0 &&& (65535 : Int32)).toUInt32.toUInt16.toUInt32.toInt32) - (97 : Int32))), .val (.int (1 : Int32)), .val (.int (0 : Int32)), .val (.int (1 : Int32)), .val (.int (f1 ((p0 &&& (65535 : Int32)).toUInt32.toUInt16.toUInt32.toInt32)))] [(.ref r62)])) rfl (by rw [hml]; rfl) (argsL := [(.ref r62)]) (rest := []) (lenOf pd_14 rfl) rfl (by show 2 * 0 + _ ≤ _; exact Nat.le_of_eq rfl) (hb hby at_102) (fun _ _ => ⟨rfl, rfl, (by decide : 2 + 0 ≤ _), (by decide : 5 + 0 ≤ _)⟩)
              dsimp only [Pt.U, Pt.locs, Pt.cells, Pt.slots] at X63 l63 y63 z63 st63 hQ63
              subst l63 y63 z63
              obtain ⟨rfl, N63q, hh63⟩ := hQ63
              have N63 := Fr.app N62 N63q
              refine own_of st63 ?_
              show own_Out p e below _ (T63.setTop (mkF m 105 #[.val (.int p0), .val (.int ((p0 &&& (65535 : Int32)).toUInt32.toUInt16.toUInt32.toInt32)), .val (.int (((p0 &&& (65535 : Int32)).toUInt32.toUInt16.toUInt32.toInt32) - (48 : Int32))), .val (.int (((p0 &&& (65535 : Int32)).toUInt32.toUInt16.toUInt32.toInt32) - (97 : Int32))), .val (.int (1 : Int32)), .val (.int (0 : Int32)), .val (.int (1 : Int32)), .val (.int (f1 ((p0 &&& (65535 : Int32)).toUInt32.toUInt16.toUInt32.toInt32)))] [(.int (f_isTagc0n1 ((((p0 &&& (65535 : Int32)).toUInt32.toUInt16.toUInt32.toInt32).toInt8.toInt32).toInt8.toInt32) cs))]))
              refine own_of (fun _ k => XS.iload X63.here hx rfl (hb hby at_105) rfl k) ?_
              show own_Out p e below _ (T63.setTop (mkF m 107 #[.val (.int p0), .val (.int ((p0 &&& (65535 : Int32)).toUInt32.toUInt16.toUInt32.toInt32)), .val (.int (((p0 &&& (65535 : Int32)).toUInt32.toUInt16.toUInt32.toInt32) - (48 : Int32))), .val (.int (((p0 &&& (65535 : Int32)).toUInt32.toUInt16.toUInt32.toInt32) - (97 : Int32))), .val (.int (1 : Int32)), .val (.int (0 : Int32)), .val (.int (1 : Int32)), .val (.int (f1 ((p0 &&& (65535 : Int32)).toUInt32.toUInt16.toUInt32.toInt32)))] [(.int (f1 ((p0 &&& (65535 : Int32)).toUInt32.toUInt16.toUInt32.toInt32))), (.int (f_isTagc0n1 ((((p0 &&& (65535 : Int32)).toUInt32.toUInt16.toUInt32.toInt32).toInt8.toInt32).toInt8.toInt32) cs))]))
              by_cases hc107_64 : (f_isTagc0n1 ((((p0 &&& (65535 : Int32)).toUInt32.toUInt16.toUInt32.toInt32).toInt8.toInt32).toInt8.toInt32) cs) = (f1 ((p0 &&& (65535 : Int32)).toUInt32.toUInt16.toUInt32.toInt32))
              · skip
                refine own_of (fun _ k => XS.icmpNo X63.here hx rfl (hb hby at_107) rfl (teq hc107_64).2 k) ?_
                show own_Out p e below _ (T63.setTop (mkF m 110 #[.val (.int p0), .val (.int ((p0 &&& (65535 : Int32)).toUInt32.toUInt16.toUInt32.toInt32)), .val (.int (((p0 &&& (65535 : Int32)).toUInt32.toUInt16.toUInt32.toInt32) - (48 : Int32))), .val (.int (((p0 &&& (65535 : Int32)).toUInt32.toUInt16.toUInt32.toInt32) - (97 : Int32))), .val (.int (1 : Int32)), .val (.int (0 : Int32)), .val (.int (1 : Int32)), .val (.int (f1 ((p0 &&& (65535 : Int32)).toUInt32.toUInt16.toUInt32.toInt32)))] []))
                refine own_of (fun _ k => XS.iconst X63.here hx rfl (hb hby at_110) k) ?_
                show own_Out p e below _ (T63.setTop (mkF m 111 #[.val (.int p0), .val (.int ((p0 &&& (65535 : Int32)).toUInt32.toUInt16.toUInt32.toInt32)), .val (.int (((p0 &&& (65535 : Int32)).toUInt32.toUInt16.toUInt32.toInt32) - (48 : Int32))), .val (.int (((p0 &&& (65535 : Int32)).toUInt32.toUInt16.toUInt32.toInt32) - (97 : Int32))), .val (.int (1 : Int32)), .val (.int (0 : Int32)), .val (.int (1 : Int32)), .val (.int (f1 ((p0 &&& (65535 : Int32)).toUInt32.toUInt16.toUInt32.toInt32)))] [(.int (1 : Int32))]))
                refine own_of (fun _ k => XS.goto X63.here hx rfl (pc0 := 111) (pc' := 115) rfl (hb hby at_111) (by decide) (by decide) k) ?_
                show own_Out p e below _ (T63.setTop (mkF m 115 #[.val (.int p0), .val (.int ((p0 &&& (65535 : Int32)).toUInt32.toUInt16.toUInt32.toInt32)), .val (.int (((p0 &&& (65535 : Int32)).toUInt32.toUInt16.toUInt32.toInt32) - (48 : Int32))), .val (.int (((p0 &&& (65535 : Int32)).toUInt32.toUInt16.toUInt32.toInt32) - (97 : Int32))), .val (.int (1 : Int32)), .val (.int (0 : Int32)), .val (.int (1 : Int32)), .val (.int (f1 ((p0 &&& (65535 : Int32)).toUInt32.toUInt16.toUInt32.toInt32)))] [(.int (1 : Int32))]))
                exact own_outN X63 hx hlk (t := .boolean) hret (by simp) (hb hby at_115) (z' := (1 : Int32)) rfl (Q := Q0 Z p0 cs vf h0 n0) ⟨rfl, N63⟩ (by decide) (by decide)
              · skip
                refine own_of (fun _ k => XS.icmpYes X63.here hx rfl (pc0 := 107) (pc' := 114) rfl (hb hby at_107) rfl (feq hc107_64).2 (by decide) (by decide) k) ?_
                show own_Out p e below _ (T63.setTop (mkF m 114 #[.val (.int p0), .val (.int ((p0 &&& (65535 : Int32)).toUInt32.toUInt16.toUInt32.toInt32)), .val (.int (((p0 &&& (65535 : Int32)).toUInt32.toUInt16.toUInt32.toInt32) - (48 : Int32))), .val (.int (((p0 &&& (65535 : Int32)).toUInt32.toUInt16.toUInt32.toInt32) - (97 : Int32))), .val (.int (1 : Int32)), .val (.int (0 : Int32)), .val (.int (1 : Int32)), .val (.int (f1 ((p0 &&& (65535 : Int32)).toUInt32.toUInt16.toUInt32.toInt32)))] []))
                refine own_of (fun _ k => XS.iconst X63.here hx rfl (hb hby at_114) k) ?_
                show own_Out p e below _ (T63.setTop (mkF m 115 #[.val (.int p0), .val (.int ((p0 &&& (65535 : Int32)).toUInt32.toUInt16.toUInt32.toInt32)), .val (.int (((p0 &&& (65535 : Int32)).toUInt32.toUInt16.toUInt32.toInt32) - (48 : Int32))), .val (.int (((p0 &&& (65535 : Int32)).toUInt32.toUInt16.toUInt32.toInt32) - (97 : Int32))), .val (.int (1 : Int32)), .val (.int (0 : Int32)), .val (.int (1 : Int32)), .val (.int (f1 ((p0 &&& (65535 : Int32)).toUInt32.toUInt16.toUInt32.toInt32)))] [(.int (0 : Int32))]))
                exact (dead0_16 p0 hcs hc18_1 hc24_32 hc36_33 hc42_44 hc79_56 hc99_58 hc107_64).elim
          · skip
            refine own_of (fun _ k => XS.icmpNo X55.here hx rfl (hb hby at_79) rfl (feq hc79_56).1 k) ?_
            show own_Out p e below _ (T55.setTop (mkF m 82 #[.val (.int p0), .val (.int ((p0 &&& (65535 : Int32)).toUInt32.toUInt16.toUInt32.toInt32)), .val (.int (((p0 &&& (65535 : Int32)).toUInt32.toUInt16.toUInt32.toInt32) - (48 : Int32))), .val (.int (((p0 &&& (65535 : Int32)).toUInt32.toUInt16.toUInt32.toInt32) - (97 : Int32))), .val (.int (1 : Int32)), .val (.int (0 : Int32)), .val (.int (1 : Int32)), .val (.int (f1 ((p0 &&& (65535 : Int32)).toUInt32.toUInt16.toUInt32.toInt32)))] []))
            refine own_of (fun _ k => XS.iconst X55.here hx rfl (hb hby at_82) k) ?_
            show own_Out p e below _ (T55.setTop (mkF m 83 #[.val (.int p0), .val (.int ((p0 &&& (65535 : Int32)).toUInt32.toUInt16.toUInt32.toInt32)), .val (.int (((p0 &&& (65535 : Int32)).toUInt32.toUInt16.toUInt32.toInt32) - (48 : Int32))), .val (.int (((p0 &&& (65535 : Int32)).toUInt32.toUInt16.toUInt32.toInt32) - (97 : Int32))), .val (.int (1 : Int32)), .val (.int (0 : Int32)), .val (.int (1 : Int32)), .val (.int (f1 ((p0 &&& (65535 : Int32)).toUInt32.toUInt16.toUInt32.toInt32)))] [(.int (0 : Int32))]))
            exact (dead0_17 p0 hcs hc18_1 hc24_32 hc36_33 hc42_44 hc79_56).elim
    · skip
      refine own_of (fun _ k => XS.icmpYes X0.here hx rfl (pc0 := 24) (pc' := 31) rfl (hb hby at_24) rfl (flt hc24_32).2.1 (by decide) (by decide) k) ?_
      show own_Out p e below _ (s₁.setTop (mkF m 31 #[.val (.int p0), .val (.int ((p0 &&& (65535 : Int32)).toUInt32.toUInt16.toUInt32.toInt32)), .val (.int (((p0 &&& (65535 : Int32)).toUInt32.toUInt16.toUInt32.toInt32) - (48 : Int32))), .val (.int (((p0 &&& (65535 : Int32)).toUInt32.toUInt16.toUInt32.toInt32) - (97 : Int32))), .unset, .unset, .unset, .unset] []))
      refine own_of (fun _ k => XS.iconst X0.here hx rfl (hb hby at_31) k) ?_
      show own_Out p e below _ (s₁.setTop (mkF m 32 #[.val (.int p0), .val (.int ((p0 &&& (65535 : Int32)).toUInt32.toUInt16.toUInt32.toInt32)), .val (.int (((p0 &&& (65535 : Int32)).toUInt32.toUInt16.toUInt32.toInt32) - (48 : Int32))), .val (.int (((p0 &&& (65535 : Int32)).toUInt32.toUInt16.toUInt32.toInt32) - (97 : Int32))), .unset, .unset, .unset, .unset] [(.int (0 : Int32))]))
      refine own_of (fun _ k => XS.istore X0.here hx rfl (hb hby at_32) rfl (l' := #[.val (.int p0), .val (.int ((p0 &&& (65535 : Int32)).toUInt32.toUInt16.toUInt32.toInt32)), .val (.int (((p0 &&& (65535 : Int32)).toUInt32.toUInt16.toUInt32.toInt32) - (48 : Int32))), .val (.int (((p0 &&& (65535 : Int32)).toUInt32.toUInt16.toUInt32.toInt32) - (97 : Int32))), .val (.int (0 : Int32)), .unset, .unset, .unset]) rfl k) ?_
      show own_Out p e below _ (s₁.setTop (mkF m 34 #[.val (.int p0), .val (.int ((p0 &&& (65535 : Int32)).toUInt32.toUInt16.toUInt32.toInt32)), .val (.int (((p0 &&& (65535 : Int32)).toUInt32.toUInt16.toUInt32.toInt32) - (48 : Int32))), .val (.int (((p0 &&& (65535 : Int32)).toUInt32.toUInt16.toUInt32.toInt32) - (97 : Int32))), .val (.int (0 : Int32)), .unset, .unset, .unset] []))
      refine own_of (fun _ k => XS.iconst X0.here hx rfl (hb hby at_34) k) ?_
      show own_Out p e below _ (s₁.setTop (mkF m 35 #[.val (.int p0), .val (.int ((p0 &&& (65535 : Int32)).toUInt32.toUInt16.toUInt32.toInt32)), .val (.int (((p0 &&& (65535 : Int32)).toUInt32.toUInt16.toUInt32.toInt32) - (48 : Int32))), .val (.int (((p0 &&& (65535 : Int32)).toUInt32.toUInt16.toUInt32.toInt32) - (97 : Int32))), .val (.int (0 : Int32)), .unset, .unset, .unset] [(.int (0 : Int32))]))
      refine own_of (fun _ k => XS.iloadN X0.here hx rfl (hb hby at_35) rfl k) ?_
      show own_Out p e below _ (s₁.setTop (mkF m 36 #[.val (.int p0), .val (.int ((p0 &&& (65535 : Int32)).toUInt32.toUInt16.toUInt32.toInt32)), .val (.int (((p0 &&& (65535 : Int32)).toUInt32.toUInt16.toUInt32.toInt32) - (48 : Int32))), .val (.int (((p0 &&& (65535 : Int32)).toUInt32.toUInt16.toUInt32.toInt32) - (97 : Int32))), .val (.int (0 : Int32)), .unset, .unset, .unset] [(.int (((p0 &&& (65535 : Int32)).toUInt32.toUInt16.toUInt32.toInt32) - (97 : Int32))), (.int (0 : Int32))]))
      by_cases hc36_65 : (((p0 &&& (65535 : Int32)).toUInt32.toUInt16.toUInt32.toInt32) - (97 : Int32)) < (0 : Int32)
      · skip
        refine own_of (fun _ k => XS.icmpYes X0.here hx rfl (pc0 := 36) (pc' := 49) rfl (hb hby at_36) rfl (tlt hc36_65).2.2.1 (by decide) (by decide) k) ?_
        show own_Out p e below _ (s₁.setTop (mkF m 49 #[.val (.int p0), .val (.int ((p0 &&& (65535 : Int32)).toUInt32.toUInt16.toUInt32.toInt32)), .val (.int (((p0 &&& (65535 : Int32)).toUInt32.toUInt16.toUInt32.toInt32) - (48 : Int32))), .val (.int (((p0 &&& (65535 : Int32)).toUInt32.toUInt16.toUInt32.toInt32) - (97 : Int32))), .val (.int (0 : Int32)), .unset, .unset, .unset] []))
        refine own_of (fun _ k => XS.iconst X0.here hx rfl (hb hby at_49) k) ?_
        show own_Out p e below _ (s₁.setTop (mkF m 50 #[.val (.int p0), .val (.int ((p0 &&& (65535 : Int32)).toUInt32.toUInt16.toUInt32.toInt32)), .val (.int (((p0 &&& (65535 : Int32)).toUInt32.toUInt16.toUInt32.toInt32) - (48 : Int32))), .val (.int (((p0 &&& (65535 : Int32)).toUInt32.toUInt16.toUInt32.toInt32) - (97 : Int32))), .val (.int (0 : Int32)), .unset, .unset, .unset] [(.int (0 : Int32))]))
        refine own_of (fun _ k => XS.istore X0.here hx rfl (hb hby at_50) rfl (l' := #[.val (.int p0), .val (.int ((p0 &&& (65535 : Int32)).toUInt32.toUInt16.toUInt32.toInt32)), .val (.int (((p0 &&& (65535 : Int32)).toUInt32.toUInt16.toUInt32.toInt32) - (48 : Int32))), .val (.int (((p0 &&& (65535 : Int32)).toUInt32.toUInt16.toUInt32.toInt32) - (97 : Int32))), .val (.int (0 : Int32)), .val (.int (0 : Int32)), .unset, .unset]) rfl k) ?_
        show own_Out p e below _ (s₁.setTop (mkF m 52 #[.val (.int p0), .val (.int ((p0 &&& (65535 : Int32)).toUInt32.toUInt16.toUInt32.toInt32)), .val (.int (((p0 &&& (65535 : Int32)).toUInt32.toUInt16.toUInt32.toInt32) - (48 : Int32))), .val (.int (((p0 &&& (65535 : Int32)).toUInt32.toUInt16.toUInt32.toInt32) - (97 : Int32))), .val (.int (0 : Int32)), .val (.int (0 : Int32)), .unset, .unset] []))
        refine own_of (fun _ k => XS.iload X0.here hx rfl (hb hby at_52) rfl k) ?_
        show own_Out p e below _ (s₁.setTop (mkF m 54 #[.val (.int p0), .val (.int ((p0 &&& (65535 : Int32)).toUInt32.toUInt16.toUInt32.toInt32)), .val (.int (((p0 &&& (65535 : Int32)).toUInt32.toUInt16.toUInt32.toInt32) - (48 : Int32))), .val (.int (((p0 &&& (65535 : Int32)).toUInt32.toUInt16.toUInt32.toInt32) - (97 : Int32))), .val (.int (0 : Int32)), .val (.int (0 : Int32)), .unset, .unset] [(.int (0 : Int32))]))
        refine own_of (fun _ k => XS.ifNo X0.here hx rfl (hb hby at_54) rfl ((if0 _ _).trans (teq (by decide : (0 : Int32) = (0 : Int32))).2) k) ?_
        show own_Out p e below _ (s₁.setTop (mkF m 57 #[.val (.int p0), .val (.int ((p0 &&& (65535 : Int32)).toUInt32.toUInt16.toUInt32.toInt32)), .val (.int (((p0 &&& (65535 : Int32)).toUInt32.toUInt16.toUInt32.toInt32) - (48 : Int32))), .val (.int (((p0 &&& (65535 : Int32)).toUInt32.toUInt16.toUInt32.toInt32) - (97 : Int32))), .val (.int (0 : Int32)), .val (.int (0 : Int32)), .unset, .unset] []))
        refine own_of (fun _ k => XS.iload X0.here hx rfl (hb hby at_57) rfl k) ?_
        show own_Out p e below _ (s₁.setTop (mkF m 59 #[.val (.int p0), .val (.int ((p0 &&& (65535 : Int32)).toUInt32.toUInt16.toUInt32.toInt32)), .val (.int (((p0 &&& (65535 : Int32)).toUInt32.toUInt16.toUInt32.toInt32) - (48 : Int32))), .val (.int (((p0 &&& (65535 : Int32)).toUInt32.toUInt16.toUInt32.toInt32) - (97 : Int32))), .val (.int (0 : Int32)), .val (.int (0 : Int32)), .unset, .unset] [(.int (0 : Int32))]))
        refine own_of (fun _ k => XS.ifYes X0.here hx rfl (pc0 := 59) (pc' := 66) rfl (hb hby at_59) rfl ((if0 _ _).trans (teq (by decide : (0 : Int32) = (0 : Int32))).1) (by decide) (by decide) k) ?_
        show own_Out p e below _ (s₁.setTop (mkF m 66 #[.val (.int p0), .val (.int ((p0 &&& (65535 : Int32)).toUInt32.toUInt16.toUInt32.toInt32)), .val (.int (((p0 &&& (65535 : Int32)).toUInt32.toUInt16.toUInt32.toInt32) - (48 : Int32))), .val (.int (((p0 &&& (65535 : Int32)).toUInt32.toUInt16.toUInt32.toInt32) - (97 : Int32))), .val (.int (0 : Int32)), .val (.int (0 : Int32)), .unset, .unset] []))
        refine own_of (fun _ k => XS.iconst X0.here hx rfl (hb hby at_66) k) ?_
        show own_Out p e below _ (s₁.setTop (mkF m 67 #[.val (.int p0), .val (.int ((p0 &&& (65535 : Int32)).toUInt32.toUInt16.toUInt32.toInt32)), .val (.int (((p0 &&& (65535 : Int32)).toUInt32.toUInt16.toUInt32.toInt32) - (48 : Int32))), .val (.int (((p0 &&& (65535 : Int32)).toUInt32.toUInt16.toUInt32.toInt32) - (97 : Int32))), .val (.int (0 : Int32)), .val (.int (0 : Int32)), .unset, .unset] [(.int (0 : Int32))]))
        refine own_of (fun _ k => XS.istore X0.here hx rfl (hb hby at_67) rfl (l' := #[.val (.int p0), .val (.int ((p0 &&& (65535 : Int32)).toUInt32.toUInt16.toUInt32.toInt32)), .val (.int (((p0 &&& (65535 : Int32)).toUInt32.toUInt16.toUInt32.toInt32) - (48 : Int32))), .val (.int (((p0 &&& (65535 : Int32)).toUInt32.toUInt16.toUInt32.toInt32) - (97 : Int32))), .val (.int (0 : Int32)), .val (.int (0 : Int32)), .val (.int (0 : Int32)), .unset]) rfl k) ?_
        show own_Out p e below _ (s₁.setTop (mkF m 69 #[.val (.int p0), .val (.int ((p0 &&& (65535 : Int32)).toUInt32.toUInt16.toUInt32.toInt32)), .val (.int (((p0 &&& (65535 : Int32)).toUInt32.toUInt16.toUInt32.toInt32) - (48 : Int32))), .val (.int (((p0 &&& (65535 : Int32)).toUInt32.toUInt16.toUInt32.toInt32) - (97 : Int32))), .val (.int (0 : Int32)), .val (.int (0 : Int32)), .val (.int (0 : Int32)), .unset] []))
        refine own_of (fun _ k => XS.iloadN X0.here hx rfl (hb hby at_69) rfl k) ?_
        show own_Out p e below _ (s₁.setTop (mkF m 70 #[.val (.int p0), .val (.int ((p0 &&& (65535 : Int32)).toUInt32.toUInt16.toUInt32.toInt32)), .val (.int (((p0 &&& (65535 : Int32)).toUInt32.toUInt16.toUInt32.toInt32) - (48 : Int32))), .val (.int (((p0 &&& (65535 : Int32)).toUInt32.toUInt16.toUInt32.toInt32) - (97 : Int32))), .val (.int (0 : Int32)), .val (.int (0 : Int32)), .val (.int (0 : Int32)), .unset] [(.int ((p0 &&& (65535 : Int32)).toUInt32.toUInt16.toUInt32.toInt32))]))
        obtain ⟨_, _, ⟨T66, L66, k66, n66⟩, -, X66, ⟨Lc66, hQ66, l66, y66, z66⟩, st66⟩ := Jvm.LawKit.callS X0 hx (y := (⟨"com/example/ringd/ringd/core/Tags", "isStart", "(C)Z"⟩ : MethodName)) hown (mvT hZ (hw _ (List.mem_of_getElem? (i := 1) rfl))) (mvT hZ (hw _ (List.mem_of_getElem? (i := 2) rfl))) (mvT hZ (hw _ (List.mem_of_getElem? (i := 3) rfl))) (mvT hZ (hw _ (List.mem_of_getElem? (i := 4) rfl))) (by decide) (backOf (W := 0) (rm1 l Z a0 hw [] ((p0 &&& (65535 : Int32)).toUInt32.toUInt16.toUInt32.toInt32) h0 n0 Z0 ) hZ (hw _ (List.mem_of_getElem? (i := 4) rfl)) (hw _ (List.mem_of_getElem? (i := 3) rfl)) (by decide) (by decide)) (g := (mkF m 70 #[.val (.int p0), .val (.int ((p0 &&& (65535 : Int32)).toUInt32.toUInt16.toUInt32.toInt32)), .val (.int (((p0 &&& (65535 : Int32)).toUInt32.toUInt16.toUInt32.toInt32) - (48 : Int32))), .val (.int (((p0 &&& (65535 : Int32)).toUInt32.toUInt16.toUInt32.toInt32) - (97 : Int32))), .val (.int (0 : Int32)), .val (.int (0 : Int32)), .val (.int (0 : Int32)), .unset] [(.int ((p0 &&& (65535 : Int32)).toUInt32.toUInt16.toUInt32.toInt32))])) rfl (by rw [hml]; rfl) (argsL := [(.int ((p0 &&& (65535 : Int32)).toUInt32.toUInt16.toUInt32.toInt32))]) (rest := []) (lenOf pd_0 rfl) rfl (by show 2 * 0 + _ ≤ _; exact Nat.le_of_eq rfl) (hb hby at_70) (fun _ _ => ⟨rfl, e0, (by decide : 0 + 0 ≤ _), (by decide : 0 + 0 ≤ _)⟩)
        dsimp only [Pt.U, Pt.locs, Pt.cells, Pt.slots] at X66 l66 y66 z66 st66 hQ66
        subst l66 y66 z66
        obtain ⟨rfl, N66q, hh66⟩ := hQ66
        have N66 := Fr.app N0 N66q
        refine own_of st66 ?_
        show own_Out p e below _ (T66.setTop (mkF m 73 #[.val (.int p0), .val (.int ((p0 &&& (65535 : Int32)).toUInt32.toUInt16.toUInt32.toInt32)), .val (.int (((p0 &&& (65535 : Int32)).toUInt32.toUInt16.toUInt32.toInt32) - (48 : Int32))), .val (.int (((p0 &&& (65535 : Int32)).toUInt32.toUInt16.toUInt32.toInt32) - (97 : Int32))), .val (.int (0 : Int32)), .val (.int (0 : Int32)), .val (.int (0 : Int32)), .unset] [(.int (f1 ((p0 &&& (65535 : Int32)).toUInt32.toUInt16.toUInt32.toInt32)))]))
        refine own_of (fun _ k => XS.istore X66.here hx rfl (hb hby at_73) rfl (l' := #[.val (.int p0), .val (.int ((p0 &&& (65535 : Int32)).toUInt32.toUInt16.toUInt32.toInt32)), .val (.int (((p0 &&& (65535 : Int32)).toUInt32.toUInt16.toUInt32.toInt32) - (48 : Int32))), .val (.int (((p0 &&& (65535 : Int32)).toUInt32.toUInt16.toUInt32.toInt32) - (97 : Int32))), .val (.int (0 : Int32)), .val (.int (0 : Int32)), .val (.int (0 : Int32)), .val (.int (f1 ((p0 &&& (65535 : Int32)).toUInt32.toUInt16.toUInt32.toInt32)))]) rfl k) ?_
        show own_Out p e below _ (T66.setTop (mkF m 75 #[.val (.int p0), .val (.int ((p0 &&& (65535 : Int32)).toUInt32.toUInt16.toUInt32.toInt32)), .val (.int (((p0 &&& (65535 : Int32)).toUInt32.toUInt16.toUInt32.toInt32) - (48 : Int32))), .val (.int (((p0 &&& (65535 : Int32)).toUInt32.toUInt16.toUInt32.toInt32) - (97 : Int32))), .val (.int (0 : Int32)), .val (.int (0 : Int32)), .val (.int (0 : Int32)), .val (.int (f1 ((p0 &&& (65535 : Int32)).toUInt32.toUInt16.toUInt32.toInt32)))] []))
        refine own_of (fun _ k => XS.iload X66.here hx rfl (hb hby at_75) rfl k) ?_
        show own_Out p e below _ (T66.setTop (mkF m 77 #[.val (.int p0), .val (.int ((p0 &&& (65535 : Int32)).toUInt32.toUInt16.toUInt32.toInt32)), .val (.int (((p0 &&& (65535 : Int32)).toUInt32.toUInt16.toUInt32.toInt32) - (48 : Int32))), .val (.int (((p0 &&& (65535 : Int32)).toUInt32.toUInt16.toUInt32.toInt32) - (97 : Int32))), .val (.int (0 : Int32)), .val (.int (0 : Int32)), .val (.int (0 : Int32)), .val (.int (f1 ((p0 &&& (65535 : Int32)).toUInt32.toUInt16.toUInt32.toInt32)))] [(.int (f1 ((p0 &&& (65535 : Int32)).toUInt32.toUInt16.toUInt32.toInt32)))]))
        refine own_of (fun _ k => XS.iload X66.here hx rfl (hb hby at_77) rfl k) ?_
        show own_Out p e below _ (T66.setTop (mkF m 79 #[.val (.int p0), .val (.int ((p0 &&& (65535 : Int32)).toUInt32.toUInt16.toUInt32.toInt32)), .val (.int (((p0 &&& (65535 : Int32)).toUInt32.toUInt16.toUInt32.toInt32) - (48 : Int32))), .val (.int (((p0 &&& (65535 : Int32)).toUInt32.toUInt16.toUInt32.toInt32) - (97 : Int32))), .val (.int (0 : Int32)), .val (.int (0 : Int32)), .val (.int (0 : Int32)), .val (.int (f1 ((p0 &&& (65535 : Int32)).toUInt32.toUInt16.toUInt32.toInt32)))] [(.int (0 : Int32)), (.int (f1 ((p0 &&& (65535 : Int32)).toUInt32.toUInt16.toUInt32.toInt32)))]))
        by_cases hc79_67 : (f1 ((p0 &&& (65535 : Int32)).toUInt32.toUInt16.toUInt32.toInt32)) = (0 : Int32)
        · skip
          refine own_of (fun _ k => XS.icmpYes X66.here hx rfl (pc0 := 79) (pc' := 84) rfl (hb hby at_79) rfl (teq hc79_67).1 (by decide) (by decide) k) ?_
          show own_Out p e below _ (T66.setTop (mkF m 84 #[.val (.int p0), .val (.int ((p0 &&& (65535 : Int32)).toUInt32.toUInt16.toUInt32.toInt32)), .val (.int (((p0 &&& (65535 : Int32)).toUInt32.toUInt16.toUInt32.toInt32) - (48 : Int32))), .val (.int (((p0 &&& (65535 : Int32)).toUInt32.toUInt16.toUInt32.toInt32) - (97 : Int32))), .val (.int (0 : Int32)), .val (.int (0 : Int32)), .val (.int (0 : Int32)), .val (.int (f1 ((p0 &&& (65535 : Int32)).toUInt32.toUInt16.toUInt32.toInt32)))] []))
          refine own_of (fun _ k => XS.iload X66.here hx rfl (hb hby at_84) rfl k) ?_
          show own_Out p e below _ (T66.setTop (mkF m 86 #[.val (.int p0), .val (.int ((p0 &&& (65535 : Int32)).toUInt32.toUInt16.toUInt32.toInt32)), .val (.int (((p0 &&& (65535 : Int32)).toUInt32.toUInt16.toUInt32.toInt32) - (48 : Int32))), .val (.int (((p0 &&& (65535 : Int32)).toUInt32.toUInt16.toUInt32.toInt32) - (97 : Int32))), .val (.int (0 : Int32)), .val (.int (0 : Int32)), .val (.int (0 : Int32)), .val (.int (f1 ((p0 &&& (65535 : Int32)).toUInt32.toUInt16.toUInt32.toInt32)))] [(.int (f1 ((p0 &&& (65535 : Int32)).toUInt32.toUInt16.toUInt32.toInt32)))]))
          refine own_of (fun _ k => XS.ifYes X66.here hx rfl (pc0 := 86) (pc' := 98) rfl (hb hby at_86) rfl ((if0 _ _).trans (teq hc79_67).1) (by decide) (by decide) k) ?_
          show own_Out p e below _ (T66.setTop (mkF m 98 #[.val (.int p0), .val (.int ((p0 &&& (65535 : Int32)).toUInt32.toUInt16.toUInt32.toInt32)), .val (.int (((p0 &&& (65535 : Int32)).toUInt32.toUInt16.toUInt32.toInt32) - (48 : Int32))), .val (.int (((p0 &&& (65535 : Int32)).toUInt32.toUInt16.toUInt32.toInt32) - (97 : Int32))), .val (.int (0 : Int32)), .val (.int (0 : Int32)), .val (.int (0 : Int32)), .val (.int (f1 ((p0 &&& (65535 : Int32)).toUInt32.toUInt16.toUInt32.toInt32)))] []))
          refine own_of (fun _ k => XS.iloadN X66.here hx rfl (hb hby at_98) rfl k) ?_
          show own_Out p e below _ (T66.setTop (mkF m 99 #[.val (.int p0), .val (.int ((p0 &&& (65535 : Int32)).toUInt32.toUInt16.toUInt32.toInt32)), .val (.int (((p0 &&& (65535 : Int32)).toUInt32.toUInt16.toUInt32.toInt32) - (48 : Int32))), .val (.int (((p0 &&& (65535 : Int32)).toUInt32.toUInt16.toUInt32.toInt32) - (97 : Int32))), .val (.int (0 : Int32)), .val (.int (0 : Int32)), .val (.int (0 : Int32)), .val (.int (f1 ((p0 &&& (65535 : Int32)).toUInt32.toUInt16.toUInt32.toInt32)))] [(.int ((p0 &&& (65535 : Int32)).toUInt32.toUInt16.toUInt32.toInt32))]))
          by_cases hc99_68 : (255 : Int32) < ((p0 &&& (65535 : Int32)).toUInt32.toUInt16.toUInt32.toInt32)
          · skip
            obtain ⟨_, _, ⟨T69, L69, k69, n69⟩, -, X69, ⟨Lc69, hQ69, l69, y69, z69⟩, st69⟩ := Jvm.LawKit.callS X66 hx (y := (⟨"java/lang/String", "valueOf", "(C)Ljava/lang/String;"⟩ : MethodName)) hown (mvT hZ (hw _ (List.mem_of_getElem? (i := 5) rfl))) (mvT hZ (hw _ (List.mem_of_getElem? (i := 6) rfl))) (mvT hZ (hw _ (List.mem_of_getElem? (i := 7) rfl))) (mvT hZ (hw _ (List.mem_of_getElem? (i := 8) rfl))) (by decide) (backOf (W := 0) (rm2u l Z a0 hw [] ((p0 &&& (65535 : Int32)).toUInt32.toUInt16.toUInt32.toInt32) cs h0 n0 Z0 S_cs hcs hc99_68 S_ad S_hi S_lo) hZ (hw _ (List.mem_of_getElem? (i := 8) rfl)) (hw _ (List.mem_of_getElem? (i := 7) rfl)) (by decide) (by decide)) (g := (mkF m 99 #[.val (.int p0), .val (.int ((p0 &&& (65535 : Int32)).toUInt32.toUInt16.toUInt32.toInt32)), .val (.int (((p0 &&& (65535 : Int32)).toUInt32.toUInt16.toUInt32.toInt32) - (48 : Int32))), .val (.int (((p0 &&& (65535 : Int32)).toUInt32.toUInt16.toUInt32.toInt32) - (97 : Int32))), .val (.int (0 : Int32)), .val (.int (0 : Int32)), .val (.int (0 : Int32)), .val (.int (f1 ((p0 &&& (65535 : Int32)).toUInt32.toUInt16.toUInt32.toInt32)))] [(.int ((p0 &&& (65535 : Int32)).toUInt32.toUInt16.toUInt32.toInt32))])) rfl (by rw [hml]; rfl) (argsL := [(.int ((p0 &&& (65535 : Int32)).toUInt32.toUInt16.toUInt32.toInt32))]) (rest := []) (lenOf pd_13 rfl) rfl (by show 2 * 0 + _ ≤ _; exact Nat.le_of_eq rfl) (hb hby at_99) (fun _ _ => ⟨rfl, hh66, (by decide : 0 + 2 ≤ _), (by decide : 0 + 6 ≤ _)⟩)
            dsimp only [Pt.U, Pt.locs, Pt.cells, Pt.slots] at X69 l69 y69 z69 st69 hQ69
            subst l69 y69 z69
            obtain ⟨r69, b69, k69, rfl, N69q, K69, E69, Fv69, Fc69, V69, hgr_69, hsr_69, hgb_69, hsb_69, hnrb_69⟩ := hQ69
            have N69 := Fr.app N66 N69q
            have S_java_lang_String_COMPACT_STRINGS_K69 := own_staK0 S_cs K69
            have S_jdk_internal_util_Preconditions_SIOOBE_FORMATTER_K69 := own_staK0 S_f K69
            have S_java_lang_StringUTF16__assertionsDisabled_K69 := own_staK0 S_ad K69
            have S_java_lang_StringUTF16_HI_BYTE_SHIFT_K69 := own_staK0 S_hi K69
            have S_java_lang_StringUTF16_LO_BYTE_SHIFT_K69 := own_staK0 S_lo K69
            have Zl69 : n0 ≤ T69.heap.size := Nat.le_trans Z0 K69.1
            refine own_of st69 ?_
            show own_Out p e below _ (T69.setTop (mkF m 102 #[.val (.int p0), .val (.int ((p0 &&& (65535 : Int32)).toUInt32.toUInt16.toUInt32.toInt32)), .val (.int (((p0 &&& (65535 : Int32)).toUInt32.toUInt16.toUInt32.toInt32) - (48 : Int32))), .val (.int (((p0 &&& (65535 : Int32)).toUInt32.toUInt16.toUInt32.toInt32) - (97 : Int32))), .val (.int (0 : Int32)), .val (.int (0 : Int32)), .val (.int (0 : Int32)), .val (.int (f1 ((p0 &&& (65535 : Int32)).toUInt32.toUInt16.toUInt32.toInt32)))] [(.ref r69)]))
            obtain ⟨_, _, ⟨T70, L70, k70, n70⟩, -, X70, ⟨Lc70, hQ70, l70, y70, z70⟩, st70⟩ := Jvm.LawKit.callS X69 hx (y := (⟨"com/example/ringd/ringd/core/Tags", "isTag", "(Ljava/lang/String;)Z"⟩ : MethodName)) hown (mvT hZ (hw _ (List.mem_of_getElem? (i := 31) rfl))) (mvT hZ (hw _ (List.mem_of_getElem? (i := 32) rfl))) (mvT hZ (hw _ (List.mem_of_getElem? (i := 3) rfl))) (mvT hZ (hw _ (List.mem_of_getElem? (i := 33) rfl))) (by decide) (backOf (W := 0) (rm7c1n2 l Z a0 hw [] r69 b69 k69 (((((p0 &&& (65535 : Int32)).toUInt32.toUInt16.toUInt32.toInt32) >>> ((0 : Int32) &&& 31)).toInt8.toInt32).toInt8.toInt32) (((((p0 &&& (65535 : Int32)).toUInt32.toUInt16.toUInt32.toInt32) >>> ((8 : Int32) &&& 31)).toInt8.toInt32).toInt8.toInt32) cs vf T69.heap n0 Zl69 E69 Fv69 Fc69 V69 S_java_lang_String_COMPACT_STRINGS_K69 hcs S_jdk_internal_util_Preconditions_SIOOBE_FORMATTER_K69 hvf S_java_lang_StringUTF16__assertionsDisabled_K69 S_java_lang_StringUTF16_HI_BYTE_SHIFT_K69 S_java_lang_StringUTF16_LO_BYTE_SHIFT_K69) hZ (hw _ (List.mem_of_getElem? (i := 33) rfl)) (hw _ (List.mem_of_getElem? (i := 3) rfl)) (by decide) (by decide)) (g := (mkF m 102 #[.val (.int p0), .val (.int ((p0 &&& (65535 : Int32)).toUInt32.toUInt16.toUInt32.toInt32)), .val (.int (((p0 &&& (65535 : Int32)).toUInt32.toUInt16.toUInt32.toInt32) - (48 : Int32))), .val (.int (((p0 &&& (65535 : Int32)).toUInt32.toUInt16.toUInt32.toInt32) - (97 : Int32))), .val (.int (0 : Int32)), .val (.int (0 : Int32)), .val (.int (0 : Int32)), .val (.int (f1 ((p0 &&& (65535 : Int32)).toUInt32.toUInt16.toUInt32.toInt32)))] [(.ref r69)])) rfl (by rw [hml]; rfl) (argsL := [(.ref r69)]) (rest := []) (lenOf pd_14 rfl) rfl (by show 2 * 0 + _ ≤ _; exact Nat.le_of_eq rfl) (hb hby at_102) (fun _ _ => ⟨rfl, rfl, (by decide : 2 + 0 ≤ _), (by decide : 6 + 0 ≤ _)⟩)
            dsimp only [Pt.U, Pt.locs, Pt.cells, Pt.slots] at X70 l70 y70 z70 st70 hQ70
            subst l70 y70 z70
            obtain ⟨rfl, N70q, hh70⟩ := hQ70
            have N70 := Fr.app N69 N70q
            refine own_of st70 ?_
            show own_Out p e below _ (T70.setTop (mkF m 105 #[.val (.int p0), .val (.int ((p0 &&& (65535 : Int32)).toUInt32.toUInt16.toUInt32.toInt32)), .val (.int (((p0 &&& (65535 : Int32)).toUInt32.toUInt16.toUInt32.toInt32) - (48 : Int32))), .val (.int (((p0 &&& (65535 : Int32)).toUInt32.toUInt16.toUInt32.toInt32) - (97 : Int32))), .val (.int (0 : Int32)), .val (.int (0 : Int32)), .val (.int (0 : Int32)), .val (.int (f1 ((p0 &&& (65535 : Int32)).toUInt32.toUInt16.toUInt32.toInt32)))] [(.int (f_isTagc1n2 (((((p0 &&& (65535 : Int32)).toUInt32.toUInt16.toUInt32.toInt32) >>> ((0 : Int32) &&& 31)).toInt8.toInt32).toInt8.toInt32) (((((p0 &&& (65535 : Int32)).toUInt32.toUInt16.toUInt32.toInt32) >>> ((8 : Int32) &&& 31)).toInt8.toInt32).toInt8.toInt32) cs))]))
            refine own_of (fun _ k => XS.iload X70.here hx rfl (hb hby at_105) rfl k) ?_
            show own_Out p e below _ (T70.setTop (mkF m 107 #[.val (.int p0), .val (.int ((p0 &&& (65535 : Int32)).toUInt32.toUInt16.toUInt32.toInt32)), .val (.int (((p0 &&& (65535 : Int32)).toUInt32.toUInt16.toUInt32.toInt32) - (48 : Int32))), .val (.int (((p0 &&& (65535 : Int32)).toUInt32.toUInt16.toUInt32.toInt32) - (97 : Int32))), .val (.int (0 : Int32)), .val (.int (0 : Int32)), .val (.int (0 : Int32)), .val (.int (f1 ((p0 &&& (65535 : Int32)).toUInt32.toUInt16.toUInt32.toInt32)))] [(.int (f1 ((p0 &&& (65535 : Int32)).toUInt32.toUInt16.toUInt32.toInt32))), (.int (f_isTagc1n2 (((((p0 &&& (65535 : Int32)).toUInt32.toUInt16.toUInt32.toInt32) >>> ((0 : Int32) &&& 31)).toInt8.toInt32).toInt8.toInt32) (((((p0 &&& (65535 : Int32)).toUInt32.toUInt16.toUInt32.toInt32) >>> ((8 : Int32) &&& 31)).toInt8.toInt32).toInt8.toInt32) cs))]))
            by_cases hc107_71 : (f_isTagc1n2 (((((p0 &&& (65535 : Int32)).toUInt32.toUInt16.toUInt32.toInt32) >>> ((0 : Int32) &&& 31)).toInt8.toInt32).toInt8.toInt32) (((((p0 &&& (65535 : Int32)).toUInt32.toUInt16.toUInt32.toInt32) >>> ((8 : Int32) &&& 31)).toInt8.toInt32).toInt8.toInt32) cs) = (f1 ((p0 &&& (65535 : Int32)).toUInt32.toUInt16.toUInt32.toInt32))
            · skip
              refine own_of (fun _ k => XS.icmpNo X70.here hx rfl (hb hby at_107) rfl (teq hc107_71).2 k) ?_
              show own_Out p e below _ (T70.setTop (mkF m 110 #[.val (.int p0), .val (.int ((p0 &&& (65535 : Int32)).toUInt32.toUInt16.toUInt32.toInt32)), .val (.int (((p0 &&& (65535 : Int32)).toUInt32.toUInt16.toUInt32.toInt32) - (48 : Int32))), .val (.int (((p0 &&& (65535 : Int32)).toUInt32.toUInt16.toUInt32.toInt32) - (97 : Int32))), .val (.int (0 : Int32)), .val (.int (0 : Int32)), .val (.int (0 : Int32)), .val (.int (f1 ((p0 &&& (65535 : Int32)).toUInt32.toUInt16.toUInt32.toInt32)))] []))
              refine own_of (fun _ k => XS.iconst X70.here hx rfl (hb hby at_110) k) ?_
              show own_Out p e below _ (T70.setTop (mkF m 111 #[.val (.int p0), .val (.int ((p0 &&& (65535 : Int32)).toUInt32.toUInt16.toUInt32.toInt32)), .val (.int (((p0 &&& (65535 : Int32)).toUInt32.toUInt16.toUInt32.toInt32) - (48 : Int32))), .val (.int (((p0 &&& (65535 : Int32)).toUInt32.toUInt16.toUInt32.toInt32) - (97 : Int32))), .val (.int (0 : Int32)), .val (.int (0 : Int32)), .val (.int (0 : Int32)), .val (.int (f1 ((p0 &&& (65535 : Int32)).toUInt32.toUInt16.toUInt32.toInt32)))] [(.int (1 : Int32))]))
              refine own_of (fun _ k => XS.goto X70.here hx rfl (pc0 := 111) (pc' := 115) rfl (hb hby at_111) (by decide) (by decide) k) ?_
              show own_Out p e below _ (T70.setTop (mkF m 115 #[.val (.int p0), .val (.int ((p0 &&& (65535 : Int32)).toUInt32.toUInt16.toUInt32.toInt32)), .val (.int (((p0 &&& (65535 : Int32)).toUInt32.toUInt16.toUInt32.toInt32) - (48 : Int32))), .val (.int (((p0 &&& (65535 : Int32)).toUInt32.toUInt16.toUInt32.toInt32) - (97 : Int32))), .val (.int (0 : Int32)), .val (.int (0 : Int32)), .val (.int (0 : Int32)), .val (.int (f1 ((p0 &&& (65535 : Int32)).toUInt32.toUInt16.toUInt32.toInt32)))] [(.int (1 : Int32))]))
              exact own_outN X70 hx hlk (t := .boolean) hret (by simp) (hb hby at_115) (z' := (1 : Int32)) rfl (Q := Q0 Z p0 cs vf h0 n0) ⟨rfl, N70⟩ (by decide) (by decide)
            · skip
              refine own_of (fun _ k => XS.icmpYes X70.here hx rfl (pc0 := 107) (pc' := 114) rfl (hb hby at_107) rfl (feq hc107_71).2 (by decide) (by decide) k) ?_
              show own_Out p e below _ (T70.setTop (mkF m 114 #[.val (.int p0), .val (.int ((p0 &&& (65535 : Int32)).toUInt32.toUInt16.toUInt32.toInt32)), .val (.int (((p0 &&& (65535 : Int32)).toUInt32.toUInt16.toUInt32.toInt32) - (48 : Int32))), .val (.int (((p0 &&& (65535 : Int32)).toUInt32.toUInt16.toUInt32.toInt32) - (97 : Int32))), .val (.int (0 : Int32)), .val (.int (0 : Int32)), .val (.int (0 : Int32)), .val (.int (f1 ((p0 &&& (65535 : Int32)).toUInt32.toUInt16.toUInt32.toInt32)))] []))
              refine own_of (fun _ k => XS.iconst X70.here hx rfl (hb hby at_114) k) ?_
              show own_Out p e below _ (T70.setTop (mkF m 115 #[.val (.int p0), .val (.int ((p0 &&& (65535 : Int32)).toUInt32.toUInt16.toUInt32.toInt32)), .val (.int (((p0 &&& (65535 : Int32)).toUInt32.toUInt16.toUInt32.toInt32) - (48 : Int32))), .val (.int (((p0 &&& (65535 : Int32)).toUInt32.toUInt16.toUInt32.toInt32) - (97 : Int32))), .val (.int (0 : Int32)), .val (.int (0 : Int32)), .val (.int (0 : Int32)), .val (.int (f1 ((p0 &&& (65535 : Int32)).toUInt32.toUInt16.toUInt32.toInt32)))] [(.int (0 : Int32))]))
              exact (dead0_18 p0 hcs hc18_1 hc24_32 hc36_65 hc79_67 hc99_68 hc107_71).elim
          · skip
            obtain ⟨_, _, ⟨T72, L72, k72, n72⟩, -, X72, ⟨Lc72, hQ72, l72, y72, z72⟩, st72⟩ := Jvm.LawKit.callS X66 hx (y := (⟨"java/lang/String", "valueOf", "(C)Ljava/lang/String;"⟩ : MethodName)) hown (mvT hZ (hw _ (List.mem_of_getElem? (i := 5) rfl))) (mvT hZ (hw _ (List.mem_of_getElem? (i := 6) rfl))) (mvT hZ (hw _ (List.mem_of_getElem? (i := 7) rfl))) (mvT hZ (hw _ (List.mem_of_getElem? (i := 8) rfl))) (by decide) (backOf (W := 0) (rm2l l Z a0 hw [] ((p0 &&& (65535 : Int32)).toUInt32.toUInt16.toUInt32.toInt32) cs h0 n0 Z0 S_cs hcs hc99_68) hZ (hw _ (List.mem_of_getElem? (i := 8) rfl)) (hw _ (List.mem_of_getElem? (i := 7) rfl)) (by decide) (by decide)) (g := (mkF m 99 #[.val (.int p0), .val (.int ((p0 &&& (65535 : Int32)).toUInt32.toUInt16.toUInt32.toInt32)), .val (.int (((p0 &&& (65535 : Int32)).toUInt32.toUInt16.toUInt32.toInt32) - (48 : Int32))), .val (.int (((p0 &&& (65535 : Int32)).toUInt32.toUInt16.toUInt32.toInt32) - (97 : Int32))), .val (.int (0 : Int32)), .val (.int (0 : Int32)), .val (.int (0 : Int32)), .val (.int (f1 ((p0 &&& (65535 : Int32)).toUInt32.toUInt16.toUInt32.toInt32)))] [(.int ((p0 &&& (65535 : Int32)).toUInt32.toUInt16.toUInt32.toInt32))])) rfl (by rw [hml]; rfl) (argsL := [(.int ((p0 &&& (65535 : Int32)).toUInt32.toUInt16.toUInt32.toInt32))]) (rest := []) (lenOf pd_13 rfl) rfl (by show 2 * 0 + _ ≤ _; exact Nat.le_of_eq rfl) (hb hby at_99) (fun _ _ => ⟨rfl, hh66, (by decide : 0 + 2 ≤ _), (by decide : 0 + 5 ≤ _)⟩)
            dsimp only [Pt.U, Pt.locs, Pt.cells, Pt.slots] at X72 l72 y72 z72 st72 hQ72
            subst l72 y72 z72
            obtain ⟨r72, b72, k72, rfl, N72q, K72, E72, Fv72, Fc72, V72, hgr_72, hsr_72, hgb_72, hsb_72, hnrb_72⟩ := hQ72
            have N72 := Fr.app N66 N72q
            have S_java_lang_String_COMPACT_STRINGS_K72 := own_staK0 S_cs K72
            have S_jdk_internal_util_Preconditions_SIOOBE_FORMATTER_K72 := own_staK0 S_f K72
            have S_java_lang_StringUTF16__assertionsDisabled_K72 := own_staK0 S_ad K72
            have S_java_lang_StringUTF16_HI_BYTE_SHIFT_K72 := own_staK0 S_hi K72
            have S_java_lang_StringUTF16_LO_BYTE_SHIFT_K72 := own_staK0 S_lo K72
            have Zl72 : n0 ≤ T72.heap.size := Nat.le_trans Z0 K72.1
            refine own_of st72 ?_
            show own_Out p e below _ (T72.setTop (mkF m 102 #[.val (.int p0), .val (.int ((p0 &&& (65535 : Int32)).toUInt32.toUInt16.toUInt32.toInt32)), .val (.int (((p0 &&& (65535 : Int32)).toUInt32.toUInt16.toUInt32.toInt32) - (48 : Int32))), .val (.int (((p0 &&& (65535 : Int32)).toUInt32.toUInt16.toUInt32.toInt32) - (97 : Int32))), .val (.int (0 : Int32)), .val (.int (0 : Int32)), .val (.int (0 : Int32)), .val (.int (f1 ((p0 &&& (65535 : Int32)).toUInt32.toUInt16.toUInt32.toInt32)))] [(.ref r72)]))
            obtain ⟨_, _, ⟨T73, L73, k73, n73⟩, -, X73, ⟨Lc73, hQ73, l73, y73, z73⟩, st73⟩ := Jvm.LawKit.callS X72 hx (y := (⟨"com/example/ringd/ringd/core/Tags", "isTag", "(Ljava/lang/String;)Z"⟩ : MethodName)) hown (mvT hZ (hw _ (List.mem_of_getElem? (i := 31) rfl))) (mvT hZ (hw _ (List.mem_of_getElem? (i := 32) rfl))) (mvT hZ (hw _ (List.mem_of_getElem? (i := 3) rfl))) (mvT hZ (hw _ (List.mem_of_getElem? (i := 33) rfl))) (by decide) (backOf (W := 0) (rm7c0n1 l Z a0 hw [] r72 b72 k72 ((((p0 &&& (65535 : Int32)).toUInt32.toUInt16.toUInt32.toInt32).toInt8.toInt32).toInt8.toInt32) cs vf T72.heap n0 Zl72 E72 Fv72 Fc72 V72 S_java_lang_String_COMPACT_STRINGS_K72 hcs S_jdk_internal_util_Preconditions_SIOOBE_FORMATTER_K72 hvf) hZ (hw _ (List.mem_of_getElem? (i := 33) rfl)) (hw _ (List.mem_of_getElem? (i := 3) rfl)) (by decide) (by decide)) (g := (mkF m 102 #[.val (.int p0), .val (.int ((p0 &&& (65535 : Int32)).toUInt32.toUInt16.toUInt32.toInt32)), .val (.int (((p0 &&& (65535 : Int32)).toUInt32.toUInt16.toUInt32.toInt32) - (48 : Int32))), .val (.int (((p0 &&& (65535 : Int32)).toUInt32.toUInt16.toUInt32.toInt32) - (97 : Int32))), .val (.int (0 : Int32)), .val (.int (0 : Int32)), .val (.int (0 : Int32)), .val (.int (f1 ((p0 &&& (65535 : Int32)).toUInt32.toUInt16.toUInt32.toInt32)))] [(.ref r72)])) rfl (by rw [hml]; rfl) (argsL := [(.ref r72)]) (rest := []) (lenOf pd_14 rfl) rfl (by show 2 * 0 + _ ≤ _; exact Nat.le_of_eq rfl) (hb hby at_102) (fun _ _ => ⟨rfl, rfl, (by decide : 2 + 0 ≤ _), (by decide : 5 + 0 ≤ _)⟩)
            dsimp only [Pt.U, Pt.locs, Pt.cells, Pt.slots] at X73 l73 y73 z73 st73 hQ73
            subst l73 y73 z73
            obtain ⟨rfl, N73q, hh73⟩ := hQ73
            have N73 := Fr.app N72 N73q
            refine own_of st73 ?_
            show own_Out p e below _ (T73.setTop (mkF m 105 #[.val (.int p0), .val (.int ((p0 &&& (65535 : Int32)).toUInt32.toUInt16.toUInt32.toInt32)), .val (.int (((p0 &&& (65535 : Int32)).toUInt32.toUInt16.toUInt32.toInt32) - (48 : Int32))), .val (.int (((p0 &&& (65535 : Int32)).toUInt32.toUInt16.toUInt32.toInt32) - (97 : Int32))), .val (.int (0 : Int32)), .val (.int (0 : Int32)), .val (.int (0 : Int32)), .val (.int (f1 ((p0 &&& (65535 : Int32)).toUInt32.toUInt16.toUInt32.toInt32)))] [(.int (f_isTagc0n1 ((((p0 &&& (65535 : Int32)).toUInt32.toUInt16.toUInt32.toInt32).toInt8.toInt32).toInt8.toInt32) cs))]))
            refine own_of (fun _ k => XS.iload X73.here hx rfl (hb hby at_105) rfl k) ?_
            show own_Out p e below _ (T73.setTop (mkF m 107 #[.val (.int p0), .val (.int ((p0 &&& (65535 : Int32)).toUInt32.toUInt16.toUInt32.toInt32)), .val (.int (((p0 &&& (65535 : Int32)).toUInt32.toUInt16.toUInt32.toInt32) - (48 : Int32))), .val (.int (((p0 &&& (65535 : Int32)).toUInt32.toUInt16.toUInt32.toInt32) - (97 : Int32))), .val (.int (0 : Int32)), .val (.int (0 : Int32)), .val (.int (0 : Int32)), .val (.int (f1 ((p0 &&& (65535 : Int32)).toUInt32.toUInt16.toUInt32.toInt32)))] [(.int (f1 ((p0 &&& (65535 : Int32)).toUInt32.toUInt16.toUInt32.toInt32))), (.int (f_isTagc0n1 ((((p0 &&& (65535 : Int32)).toUInt32.toUInt16.toUInt32.toInt32).toInt8.toInt32).toInt8.toInt32) cs))]))
            by_cases hc107_74 : (f_isTagc0n1 ((((p0 &&& (65535 : Int32)).toUInt32.toUInt16.toUInt32.toInt32).toInt8.toInt32).toInt8.toInt32) cs) = (f1 ((p0 &&& (65535 : Int32)).toUInt32.toUInt16.toUInt32.toInt32))
            · skip
              refine own_of (fun _ k => XS.icmpNo X73.here hx rfl (hb hby at_107) rfl (teq hc107_74).2 k) ?_
              show own_Out p e below _ (T73.setTop (mkF m 110 #[.val (.int p0), .val (.int ((p0 &&& (65535 : Int32)).toUInt32.toUInt16.toUInt32.toInt32)), .val (.int (((p0 &&& (65535 : Int32)).toUInt32.toUInt16.toUInt32.toInt32) - (48 : Int32))), .val (.int (((p0 &&& (65535 : Int32)).toUInt32.toUInt16.toUInt32.toInt32) - (97 : Int32))), .val (.int (0 : Int32)), .val (.int (0 : Int32)), .val (.int (0 : Int32)), .val (.int (f1 ((p0 &&& (65535 : Int32)).toUInt32.toUInt16.toUInt32.toInt32)))] []))
              refine own_of (fun _ k => XS.iconst X73.here hx rfl (hb hby at_110) k) ?_
              show own_Out p e below _ (T73.setTop (mkF m 111 #[.val (.int p0), .val (.int ((p0 &&& (65535 : Int32)).toUInt32.toUInt16.toUInt32.toInt32)), .val (.int (((p0 &&& (65535 : Int32)).toUInt32.toUInt16.toUInt32.toInt32) - (48 : Int32))), .val (.int (((p0 &&& (65535 : Int32)).toUInt32.toUInt16.toUInt32.toInt32) - (97 : Int32))), .val (.int (0 : Int32)), .val (.int (0 : Int32)), .val (.int (0 : Int32)), .val (.int (f1 ((p0 &&& (65535 : Int32)).toUInt32.toUInt16.toUInt32.toInt32)))] [(.int (1 : Int32))]))
              refine own_of (fun _ k => XS.goto X73.here hx rfl (pc0 := 111) (pc' := 115) rfl (hb hby at_111) (by decide) (by decide) k) ?_
              show own_Out p e below _ (T73.setTop (mkF m 115 #[.val (.int p0), .val (.int ((p0 &&& (65535 : Int32)).toUInt32.toUInt16.toUInt32.toInt32)), .val (.int (((p0 &&& (65535 : Int32)).toUInt32.toUInt16.toUInt32.toInt32) - (48 : Int32))), .val (.int (((p0 &&& (65535 : Int32)).toUInt32.toUInt16.toUInt32.toInt32) - (97 : Int32))), .val (.int (0 : Int32)), .val (.int (0 : Int32)), .val (.int (0 : Int32)), .val (.int (f1 ((p0 &&& (65535 : Int32)).toUInt32.toUInt16.toUInt32.toInt32)))] [(.int (1 : Int32))]))
              exact own_outN X73 hx hlk (t := .boolean) hret (by simp) (hb hby at_115) (z' := (1 : Int32)) rfl (Q := Q0 Z p0 cs vf h0 n0) ⟨rfl, N73⟩ (by decide) (by decide)
            · skip
              refine own_of (fun _ k => XS.icmpYes X73.here hx rfl (pc0 := 107) (pc' := 114) rfl (hb hby at_107) rfl (feq hc107_74).2 (by decide) (by decide) k) ?_
              show own_Out p e below _ (T73.setTop (mkF m 114 #[.val (.int p0), .val (.int ((p0 &&& (65535 : Int32)).toUInt32.toUInt16.toUInt32.toInt32)), .val (.int (((p0 &&& (65535 : Int32)).toUInt32.toUInt16.toUInt32.toInt32) - (48 : Int32))), .val (.int (((p0 &&& (65535 : Int32)).toUInt32.toUInt16.toUInt32.toInt32) - (97 : Int32))), .val (.int (0 : Int32)), .val (.int (0 : Int32)), .val (.int (0 : Int32)), .val (.int (f1 ((p0 &&& (65535 : Int32)).toUInt32.toUInt16.toUInt32.toInt32)))] []))
              refine own_of (fun _ k => XS.iconst X73.here hx rfl (hb hby at_114) k) ?_
              show own_Out p e below _ (T73.setTop (mkF m 115 #[.val (.int p0), .val (.int ((p0 &&& (65535 : Int32)).toUInt32.toUInt16.toUInt32.toInt32)), .val (.int (((p0 &&& (65535 : Int32)).toUInt32.toUInt16.toUInt32.toInt32) - (48 : Int32))), .val (.int (((p0 &&& (65535 : Int32)).toUInt32.toUInt16.toUInt32.toInt32) - (97 : Int32))), .val (.int (0 : Int32)), .val (.int (0 : Int32)), .val (.int (0 : Int32)), .val (.int (f1 ((p0 &&& (65535 : Int32)).toUInt32.toUInt16.toUInt32.toInt32)))] [(.int (0 : Int32))]))
              exact (dead0_19 p0 hcs hc18_1 hc24_32 hc36_65 hc79_67 hc99_68 hc107_74).elim
        · skip
          refine own_of (fun _ k => XS.icmpNo X66.here hx rfl (hb hby at_79) rfl (feq hc79_67).1 k) ?_
          show own_Out p e below _ (T66.setTop (mkF m 82 #[.val (.int p0), .val (.int ((p0 &&& (65535 : Int32)).toUInt32.toUInt16.toUInt32.toInt32)), .val (.int (((p0 &&& (65535 : Int32)).toUInt32.toUInt16.toUInt32.toInt32) - (48 : Int32))), .val (.int (((p0 &&& (65535 : Int32)).toUInt32.toUInt16.toUInt32.toInt32) - (97 : Int32))), .val (.int (0 : Int32)), .val (.int (0 : Int32)), .val (.int (0 : Int32)), .val (.int (f1 ((p0 &&& (65535 : Int32)).toUInt32.toUInt16.toUInt32.toInt32)))] []))
          refine own_of (fun _ k => XS.iconst X66.here hx rfl (hb hby at_82) k) ?_
          show own_Out p e below _ (T66.setTop (mkF m 83 #[.val (.int p0), .val (.int ((p0 &&& (65535 : Int32)).toUInt32.toUInt16.toUInt32.toInt32)), .val (.int (((p0 &&& (65535 : Int32)).toUInt32.toUInt16.toUInt32.toInt32) - (48 : Int32))), .val (.int (((p0 &&& (65535 : Int32)).toUInt32.toUInt16.toUInt32.toInt32) - (97 : Int32))), .val (.int (0 : Int32)), .val (.int (0 : Int32)), .val (.int (0 : Int32)), .val (.int (f1 ((p0 &&& (65535 : Int32)).toUInt32.toUInt16.toUInt32.toInt32)))] [(.int (0 : Int32))]))
          exact (dead0_20 p0 hcs hc18_1 hc24_32 hc36_65 hc79_67).elim
      · skip
        refine own_of (fun _ k => XS.icmpNo X0.here hx rfl (hb hby at_36) rfl (flt hc36_65).2.2.1 k) ?_
        show own_Out p e below _ (s₁.setTop (mkF m 39 #[.val (.int p0), .val (.int ((p0 &&& (65535 : Int32)).toUInt32.toUInt16.toUInt32.toInt32)), .val (.int (((p0 &&& (65535 : Int32)).toUInt32.toUInt16.toUInt32.toInt32) - (48 : Int32))), .val (.int (((p0 &&& (65535 : Int32)).toUInt32.toUInt16.toUInt32.toInt32) - (97 : Int32))), .val (.int (0 : Int32)), .unset, .unset, .unset] []))
        refine own_of (fun _ k => XS.iloadN X0.here hx rfl (hb hby at_39) rfl k) ?_
        show own_Out p e below _ (s₁.setTop (mkF m 40 #[.val (.int p0), .val (.int ((p0 &&& (65535 : Int32)).toUInt32.toUInt16.toUInt32.toInt32)), .val (.int (((p0 &&& (65535 : Int32)).toUInt32.toUInt16.toUInt32.toInt32) - (48 : Int32))), .val (.int (((p0 &&& (65535 : Int32)).toUInt32.toUInt16.toUInt32.toInt32) - (97 : Int32))), .val (.int (0 : Int32)), .unset, .unset, .unset] [(.int (((p0 &&& (65535 : Int32)).toUInt32.toUInt16.toUInt32.toInt32) - (97 : Int32)))]))
        refine own_of (fun _ k => XS.bipush X0.here hx rfl (hb hby at_40) k) ?_
        show own_Out p e below _ (s₁.setTop (mkF m 42 #[.val (.int p0), .val (.int ((p0 &&& (65535 : Int32)).toUInt32.toUInt16.toUInt32.toInt32)), .val (.int (((p0 &&& (65535 : Int32)).toUInt32.toUInt16.toUInt32.toInt32) - (48 : Int32))), .val (.int (((p0 &&& (65535 : Int32)).toUInt32.toUInt16.toUInt32.toInt32) - (97 : Int32))), .val (.int (0 : Int32)), .unset, .unset, .unset] [(.int (26 : Int32)), (.int (((p0 &&& (65535 : Int32)).toUInt32.toUInt16.toUInt32.toInt32) - (97 : Int32)))]))
        by_cases hc42_75 : (((p0 &&& (65535 : Int32)).toUInt32.toUInt16.toUInt32.toInt32) - (97 : Int32)) < (26 : Int32)
        · skip
          refine own_of (fun _ k => XS.icmpNo X0.here hx rfl (hb hby at_42) rfl (tlt hc42_75).2.1 k) ?_
          show own_Out p e below _ (s₁.setTop (mkF m 45 #[.val (.int p0), .val (.int ((p0 &&& (65535 : Int32)).toUInt32.toUInt16.toUInt32.toInt32)), .val (.int (((p0 &&& (65535 : Int32)).toUInt32.toUInt16.toUInt32.toInt32) - (48 : Int32))), .val (.int (((p0 &&& (65535 : Int32)).toUInt32.toUInt16.toUInt32.toInt32) - (97 : Int32))), .val (.int (0 : Int32)), .unset, .unset, .unset] []))
          refine own_of (fun _ k => XS.iconst X0.here hx rfl (hb hby at_45) k) ?_
          show own_Out p e below _ (s₁.setTop (mkF m 46 #[.val (.int p0), .val (.int ((p0 &&& (65535 : Int32)).toUInt32.toUInt16.toUInt32.toInt32)), .val (.int (((p0 &&& (65535 : Int32)).toUInt32.toUInt16.toUInt32.toInt32) - (48 : Int32))), .val (.int (((p0 &&& (65535 : Int32)).toUInt32.toUInt16.toUInt32.toInt32) - (97 : Int32))), .val (.int (0 : Int32)), .unset, .unset, .unset] [(.int (1 : Int32))]))
          refine own_of (fun _ k => XS.goto X0.here hx rfl (pc0 := 46) (pc' := 50) rfl (hb hby at_46) (by decide) (by decide) k) ?_
          show own_Out p e below _ (s₁.setTop (mkF m 50 #[.val (.int p0), .val (.int ((p0 &&& (65535 : Int32)).toUInt32.toUInt16.toUInt32.toInt32)), .val (.int (((p0 &&& (65535 : Int32)).toUInt32.toUInt16.toUInt32.toInt32) - (48 : Int32))), .val (.int (((p0 &&& (65535 : Int32)).toUInt32.toUInt16.toUInt32.toInt32) - (97 : Int32))), .val (.int (0 : Int32)), .unset, .unset, .unset] [(.int (1 : Int32))]))
          refine own_of (fun _ k => XS.istore X0.here hx rfl (hb hby at_50) rfl (l' := #[.val (.int p0), .val (.int ((p0 &&& (65535 : Int32)).toUInt32.toUInt16.toUInt32.toInt32)), .val (.int (((p0 &&& (65535 : Int32)).toUInt32.toUInt16.toUInt32.toInt32) - (48 : Int32))), .val (.int (((p0 &&& (65535 : Int32)).toUInt32.toUInt16.toUInt32.toInt32) - (97 : Int32))), .val (.int (0 : Int32)), .val (.int (1 : Int32)), .unset, .unset]) rfl k) ?_
          show own_Out p e below _ (s₁.setTop (mkF m 52 #[.val (.int p0), .val (.int ((p0 &&& (65535 : Int32)).toUInt32.toUInt16.toUInt32.toInt32)), .val (.int (((p0 &&& (65535 : Int32)).toUInt32.toUInt16.toUInt32.toInt32) - (48 : Int32))), .val (.int (((p0 &&& (65535 : Int32)).toUInt32.toUInt16.toUInt32.toInt32) - (97 : Int32))), .val (.int (0 : Int32)), .val (.int (1 : Int32)), .unset, .unset] []))
          refine own_of (fun _ k => XS.iload X0.here hx rfl (hb hby at_52) rfl k) ?_
          show own_Out p e below _ (s₁.setTop (mkF m 54 #[.val (.int p0), .val (.int ((p0 &&& (65535 : Int32)).toUInt32.toUInt16.toUInt32.toInt32)), .val (.int (((p0 &&& (65535 : Int32)).toUInt32.toUInt16.toUInt32.toInt32) - (48 : Int32))), .val (.int (((p0 &&& (65535 : Int32)).toUInt32.toUInt16.toUInt32.toInt32) - (97 : Int32))), .val (.int (0 : Int32)), .val (.int (1 : Int32)), .unset, .unset] [(.int (0 : Int32))]))
          refine own_of (fun _ k => XS.ifNo X0.here hx rfl (hb hby at_54) rfl ((if0 _ _).trans (teq (by decide : (0 : Int32) = (0 : Int32))).2) k) ?_
          show own_Out p e below _ (s₁.setTop (mkF m 57 #[.val (.int p0), .val (.int ((p0 &&& (65535 : Int32)).toUInt32.toUInt16.toUInt32.toInt32)), .val (.int (((p0 &&& (65535 : Int32)).toUInt32.toUInt16.toUInt32.toInt32) - (48 : Int32))), .val (.int (((p0 &&& (65535 : Int32)).toUInt32.toUInt16.toUInt32.toInt32) - (97 : Int32))), .val (.int (0 : Int32)), .val (.int (1 : Int32)), .unset, .unset] []))
          refine own_of (fun _ k => XS.iload X0.here hx rfl (hb hby at_57) rfl k) ?_
          show own_Out p e below _ (s₁.setTop (mkF m 59 #[.val (.int p0), .val (.int ((p0 &&& (65535 : Int32)).toUInt32.toUInt16.toUInt32.toInt32)), .val (.int (((p0 &&& (65535 : Int32)).toUInt32.toUInt16.toUInt32.toInt32) - (48 : Int32))), .val (.int (((p0 &&& (65535 : Int32)).toUInt32.toUInt16.toUInt32.toInt32) - (97 : Int32))), .val (.int (0 : Int32)), .val (.int (1 : Int32)), .unset, .unset] [(.int (1 : Int32))]))
          refine own_of (fun _ k => XS.ifNo X0.here hx rfl (hb hby at_59) rfl ((if0 _ _).trans (feq (by decide : ¬ ((1 : Int32) = (0 : Int32)))).1) k) ?_
          show own_Out p e below _ (s₁.setTop (mkF m 62 #[.val (.int p0), .val (.int ((p0 &&& (65535 : Int32)).toUInt32.toUInt16.toUInt32.toInt32)), .val (.int (((p0 &&& (65535 : Int32)).toUInt32.toUInt16.toUInt32.toInt32) - (48 : Int32))), .val (.int (((p0 &&& (65535 : Int32)).toUInt32.toUInt16.toUInt32.toInt32) - (97 : Int32))), .val (.int (0 : Int32)), .val (.int (1 : Int32)), .unset, .unset] []))
          refine own_of (fun _ k => XS.iconst X0.here hx rfl (hb hby at_62) k) ?_
          show own_Out p e below _ (s₁.setTop (mkF m 63 #[.val (.int p0), .val (.int ((p0 &&& (65535 : Int32)).toUInt32.toUInt16.toUInt32.toInt32)), .val (.int (((p0 &&& (65535 : Int32)).toUInt32.toUInt16.toUInt32.toInt32) - (48 : Int32))), .val (.int (((p0 &&& (65535 : Int32)).toUInt32.toUInt16.toUInt32.toInt32) - (97 : Int32))), .val (.int (0 : Int32)), .val (.int (1 : Int32)), .unset, .unset] [(.int (1 : Int32))]))
          refine own_of (fun _ k => XS.goto X0.here hx rfl (pc0 := 63) (pc' := 67) rfl (hb hby at_63) (by decide) (by decide) k) ?_
          show own_Out p e below _ (s₁.setTop (mkF m 67 #[.val (.int p0), .val (.int ((p0 &&& (65535 : Int32)).toUInt32.toUInt16.toUInt32.toInt32)), .val (.int (((p0 &&& (65535 : Int32)).toUInt32.toUInt16.toUInt32.toInt32) - (48 : Int32))), .val (.int (((p0 &&& (65535 : Int32)).toUInt32.toUInt16.toUInt32.toInt32) - (97 : Int32))), .val (.int (0 : Int32)), .val (.int (1 : Int32)), .unset, .unset] [(.int (1 : Int32))]))
          refine own_of (fun _ k => XS.istore X0.here hx rfl (hb hby at_67) rfl (l' := #[.val (.int p0), .val (.int ((p0 &&& (65535 : Int32)).toUInt32.toUInt16.toUInt32.toInt32)), .val (.int (((p0 &&& (65535 : Int32)).toUInt32.toUInt16.toUInt32.toInt32) - (48 : Int32))), .val (.int (((p0 &&& (65535 : Int32)).toUInt32.toUInt16.toUInt32.toInt32) - (97 : Int32))), .val (.int (0 : Int32)), .val (.int (1 : Int32)), .val (.int (1 : Int32)), .unset]) rfl k) ?_
          show own_Out p e below _ (s₁.setTop (mkF m 69 #[.val (.int p0), .val (.int ((p0 &&& (65535 : Int32)).toUInt32.toUInt16.toUInt32.toInt32)), .val (.int (((p0 &&& (65535 : Int32)).toUInt32.toUInt16.toUInt32.toInt32) - (48 : Int32))), .val (.int (((p0 &&& (65535 : Int32)).toUInt32.toUInt16.toUInt32.toInt32) - (97 : Int32))), .val (.int (0 : Int32)), .val (.int (1 : Int32)), .val (.int (1 : Int32)), .unset] []))
          refine own_of (fun _ k => XS.iloadN X0.here hx rfl (hb hby at_69) rfl k) ?_
          show own_Out p e below _ (s₁.setTop (mkF m 70 #[.val (.int p0), .val (.int ((p0 &&& (65535 : Int32)).toUInt32.toUInt16.toUInt32.toInt32)), .val (.int (((p0 &&& (65535 : Int32)).toUInt32.toUInt16.toUInt32.toInt32) - (48 : Int32))), .val (.int (((p0 &&& (65535 : Int32)).toUInt32.toUInt16.toUInt32.toInt32) - (97 : Int32))), .val (.int (0 : Int32)), .val (.int (1 : Int32)), .val (.int (1 : Int32)), .unset] [(.int ((p0 &&& (65535 : Int32)).toUInt32.toUInt16.toUInt32.toInt32))]))
          obtain ⟨_, _, ⟨T76, L76, k76, n76⟩, -, X76, ⟨Lc76, hQ76, l76, y76, z76⟩, st76⟩ := Jvm.LawKit.callS X0 hx (y := (⟨"com/example/ringd/ringd/core/Tags", "isStart", "(C)Z"⟩ : MethodName)) hown (mvT hZ (hw _ (List.mem_of_getElem? (i := 1) rfl))) (mvT hZ (hw _ (List.mem_of_getElem? (i := 2) rfl))) (mvT hZ (hw _ (List.mem_of_getElem? (i := 3) rfl))) (mvT hZ (hw _ (List.mem_of_getElem? (i := 4) rfl))) (by decide) (backOf (W := 0) (rm1 l Z a0 hw [] ((p0 &&& (65535 : Int32)).toUInt32.toUInt16.toUInt32.toInt32) h0 n0 Z0 ) hZ (hw _ (List.mem_of_getElem? (i := 4) rfl)) (hw _ (List.mem_of_getElem? (i := 3) rfl)) (by decide) (by decide)) (g := (mkF m 70 #[.val (.int p0), .val (.int ((p0 &&& (65535 : Int32)).toUInt32.toUInt16.toUInt32.toInt32)), .val (.int (((p0 &&& (65535 : Int32)).toUInt32.toUInt16.toUInt32.toInt32) - (48 : Int32))), .val (.int (((p0 &&& (65535 : Int32)).toUInt32.toUInt16.toUInt32.toInt32) - (97 : Int32))), .val (.int (0 : Int32)), .val (.int (1 : Int32)), .val (.int (1 : Int32)), .unset] [(.int ((p0 &&& (65535 : Int32)).toUInt32.toUInt16.toUInt32.toInt32))])) rfl (by rw [hml]; rfl) (argsL := [(.int ((p0 &&& (65535 : Int32)).toUInt32.toUInt16.toUInt32.toInt32))]) (rest := []) (lenOf pd_0 rfl) rfl (by show 2 * 0 + _ ≤ _; exact Nat.le_of_eq rfl) (hb hby at_70) (fun _ _ => ⟨rfl, e0, (by decide : 0 + 0 ≤ _), (by decide : 0 + 0 ≤ _)⟩)
          dsimp only [Pt.U, Pt.locs, Pt.cells, Pt.slots] at X76 l76 y76 z76 st76 hQ76
          subst l76 y76 z76
          obtain ⟨rfl, N76q, hh76⟩ := hQ76
          have N76 := Fr.app N0 N76q
          refine own_of st76 ?_
          show own_Out p e below _ (T76.setTop (mkF m 73 #[.val (.int p0), .val (.int ((p0 &&& (65535 : Int32)).toUInt32.toUInt16.toUInt32.toInt32)), .val (.int (((p0 &&& (65535 : Int32)).toUInt32.toUInt16.toUInt32.toInt32) - (48 : Int32))), .val (.int (((p0 &&& (65535 : Int32)).toUInt32.toUInt16.toUInt32.toInt32) - (97 : Int32))), .val (.int (0 : Int32)), .val (.int (1 : Int32)), .val (.int (1 : Int32)), .unset] [(.int (f1 ((p0 &&& (65535 : Int32)).toUInt32.toUInt16.toUInt32.toInt32)))]))
          refine own_of (fun _ k => XS.istore X76.here hx rfl (hb hby at_73) rfl (l' := #[.val (.int p0), .val (.int ((p0 &&& (65535 : Int32)).toUInt32.toUInt16.toUInt32.toInt32)), .val (.int (((p0 &&& (65535 : Int32)).toUInt32.toUInt16.toUInt32.toInt32) - (48 : Int32))), .val (.int (((p0 &&& (65535 : Int32)).toUInt32.toUInt16.toUInt32.toInt32) - (97 : Int32))), .val (.int (0 : Int32)), .val (.int (1 : Int32)), .val (.int (1 : Int32)), .val (.int (f1 ((p0 &&& (65535 : Int32)).toUInt32.toUInt16.toUInt32.toInt32)))]) rfl k) ?_
          show own_Out p e below _ (T76.setTop (mkF m 75 #[.val (.int p0), .val (.int ((p0 &&& (65535 : Int32)).toUInt32.toUInt16.toUInt32.toInt32)), .val (.int (((p0 &&& (65535 : Int32)).toUInt32.toUInt16.toUInt32.toInt32) - (48 : Int32))), .val (.int (((p0 &&& (65535 : Int32)).toUInt32.toUInt16.toUInt32.toInt32) - (97 : Int32))), .val (.int (0 : Int32)), .val (.int (1 : Int32)), .val (.int (1 : Int32)), .val (.int (f1 ((p0 &&& (65535 : Int32)).toUInt32.toUInt16.toUInt32.toInt32)))] []))
          refine own_of (fun _ k => XS.iload X76.here hx rfl (hb hby at_75) rfl k) ?_
          show own_Out p e below _ (T76.setTop (mkF m 77 #[.val (.int p0), .val (.int ((p0 &&& (65535 : Int32)).toUInt32.toUInt16.toUInt32.toInt32)), .val (.int (((p0 &&& (65535 : Int32)).toUInt32.toUInt16.toUInt32.toInt32) - (48 : Int32))), .val (.int (((p0 &&& (65535 : Int32)).toUInt32.toUInt16.toUInt32.toInt32) - (97 : Int32))), .val (.int (0 : Int32)), .val (.int (1 : Int32)), .val (.int (1 : Int32)), .val (.int (f1 ((p0 &&& (65535 : Int32)).toUInt32.toUInt16.toUInt32.toInt32)))] [(.int (f1 ((p0 &&& (65535 : Int32)).toUInt32.toUInt16.toUInt32.toInt32)))]))
          refine own_of (fun _ k => XS.iload X76.here hx rfl (hb hby at_77) rfl k) ?_
          show own_Out p e below _ (T76.setTop (mkF m 79 #[.val (.int p0), .val (.int ((p0 &&& (65535 : Int32)).toUInt32.toUInt16.toUInt32.toInt32)), .val (.int (((p0 &&& (65535 : Int32)).toUInt32.toUInt16.toUInt32.toInt32) - (48 : Int32))), .val (.int (((p0 &&& (65535 : Int32)).toUInt32.toUInt16.toUInt32.toInt32) - (97 : Int32))), .val (.int (0 : Int32)), .val (.int (1 : Int32)), .val (.int (1 : Int32)), .val (.int (f1 ((p0 &&& (65535 : Int32)).toUInt32.toUInt16.toUInt32.toInt32)))] [(.int (1 : Int32)), (.int (f1 ((p0 &&& (65535 : Int32)).toUInt32.toUInt16.toUInt32.toInt32)))]))
          by_cases hc79_77 : (f1 ((p0 &&& (65535 : Int32)).toUInt32.toUInt16.toUInt32.toInt32)) = (1 : Int32)
          · skip
            refine own_of (fun _ k => XS.icmpYes X76.here hx rfl (pc0 := 79) (pc' := 84) rfl (hb hby at_79) rfl (teq hc79_77).1 (by decide) (by decide) k) ?_
            show own_Out p e below _ (T76.setTop (mkF m 84 #[.val (.int p0), .val (.int ((p0 &&& (65535 : Int32)).toUInt32.toUInt16.toUInt32.toInt32)), .val (.int (((p0 &&& (65535 : Int32)).toUInt32.toUInt16.toUInt32.toInt32) - (48 : Int32))), .val (.int (((p0 &&& (65535 : Int32)).toUInt32.toUInt16.toUInt32.toInt32) - (97 : Int32))), .val (.int (0 : Int32)), .val (.int (1 : Int32)), .val (.int (1 : Int32)), .val (.int (f1 ((p0 &&& (65535 : Int32)).toUInt32.toUInt16.toUInt32.toInt32)))] []))
            refine own_of (fun _ k => XS.iload X76.here hx rfl (hb hby at_84) rfl k) ?_
            show own_Out p e below _ (T76.setTop (mkF m 86 #[.val (.int p0), .val (.int ((p0 &&& (65535 : Int32)).toUInt32.toUInt16.toUInt32.toInt32)), .val (.int (((p0 &&& (65535 : Int32)).toUInt32.toUInt16.toUInt32.toInt32) - (48 : Int32))), .val (.int (((p0 &&& (65535 : Int32)).toUInt32.toUInt16.toUInt32.toInt32) - (97 : Int32))), .val (.int (0 : Int32)), .val (.int (1 : Int32)), .val (.int (1 : Int32)), .val (.int (f1 ((p0 &&& (65535 : Int32)).toUInt32.toUInt16.toUInt32.toInt32)))] [(.int (f1 ((p0 &&& (65535 : Int32)).toUInt32.toUInt16.toUInt32.toInt32)))]))
            refine own_of (fun _ k => XS.ifNo X76.here hx rfl (hb hby at_86) rfl ((if0 _ _).trans (feq (own_T6 (own_L3 hc79_77) (by decide) : ¬ ((f1 ((p0 &&& (65535 : Int32)).toUInt32.toUInt16.toUInt32.toInt32)) = (0 : Int32)))).1) k) ?_
            show own_Out p e below _ (T76.setTop (mkF m 89 #[.val (.int p0), .val (.int ((p0 &&& (65535 : Int32)).toUInt32.toUInt16.toUInt32.toInt32)), .val (.int (((p0 &&& (65535 : Int32)).toUInt32.toUInt16.toUInt32.toInt32) - (48 : Int32))), .val (.int (((p0 &&& (65535 : Int32)).toUInt32.toUInt16.toUInt32.toInt32) - (97 : Int32))), .val (.int (0 : Int32)), .val (.int (1 : Int32)), .val (.int (1 : Int32)), .val (.int (f1 ((p0 &&& (65535 : Int32)).toUInt32.toUInt16.toUInt32.toInt32)))] []))
            refine own_of (fun _ k => XS.iloadN X76.here hx rfl (hb hby at_89) rfl k) ?_
            show own_Out p e below _ (T76.setTop (mkF m 90 #[.val (.int p0), .val (.int ((p0 &&& (65535 : Int32)).toUInt32.toUInt16.toUInt32.toInt32)), .val (.int (((p0 &&& (65535 : Int32)).toUInt32.toUInt16.toUInt32.toInt32) - (48 : Int32))), .val (.int (((p0 &&& (65535 : Int32)).toUInt32.toUInt16.toUInt32.toInt32) - (97 : Int32))), .val (.int (0 : Int32)), .val (.int (1 : Int32)), .val (.int (1 : Int32)), .val (.int (f1 ((p0 &&& (65535 : Int32)).toUInt32.toUInt16.toUInt32.toInt32)))] [(.int ((p0 &&& (65535 : Int32)).toUInt32.toUInt16.toUInt32.toInt32))]))
            obtain ⟨_, _, ⟨T78, L78, k78, n78⟩, -, X78, ⟨Lc78, hQ78, l78, y78, z78⟩, st78⟩ := Jvm.LawKit.callS X76 hx (y := (⟨"com/example/ringd/ringd/core/Tags", "isPart", "(C)Z"⟩ : MethodName)) hown (mvT hZ (hw _ (List.mem_of_getElem? (i := 61) rfl))) (mvT hZ (hw _ (List.mem_of_getElem? (i := 62) rfl))) (mvT hZ (hw _ (List.mem_of_getElem? (i := 3) rfl))) (mvT hZ (hw _ (List.mem_of_getElem? (i := 63) rfl))) (by decide) (backOf (W := 0) (rm14 l Z a0 hw [] ((p0 &&& (65535 : Int32)).toUInt32.toUInt16.toUInt32.toInt32) h0 n0 Z0 (own_T6 (own_L3 hc79_77) (by decide) : ¬ ((f1 ((p0 &&& (65535 : Int32)).toUInt32.toUInt16.toUInt32.toInt32)) = (0 : Int32)))) hZ (hw _ (List.mem_of_getElem? (i := 63) rfl)) (hw _ (List.mem_of_getElem? (i := 3) rfl)) (by decide) (by decide)) (g := (mkF m 90 #[.val (.int p0), .val (.int ((p0 &&& (65535 : Int32)).toUInt32.toUInt16.toUInt32.toInt32)), .val (.int (((p0 &&& (65535 : Int32)).toUInt32.toUInt16.toUInt32.toInt32) - (48 : Int32))), .val (.int (((p0 &&& (65535 : Int32)).toUInt32.toUInt16.toUInt32.toInt32) - (97 : Int32))), .val (.int (0 : Int32)), .val (.int (1 : Int32)), .val (.int (1 : Int32)), .val (.int (f1 ((p0 &&& (65535 : Int32)).toUInt32.toUInt16.toUInt32.toInt32)))] [(.int ((p0 &&& (65535 : Int32)).toUInt32.toUInt16.toUInt32.toInt32))])) rfl (by rw [hml]; rfl) (argsL := [(.int ((p0 &&& (65535 : Int32)).toUInt32.toUInt16.toUInt32.toInt32))]) (rest := []) (lenOf pd_0 rfl) rfl (by show 2 * 0 + _ ≤ _; exact Nat.le_of_eq rfl) (hb hby at_90) (fun _ _ => ⟨rfl, hh76, (by decide : 0 + 0 ≤ _), (by decide : 0 + 0 ≤ _)⟩)
            dsimp only [Pt.U, Pt.locs, Pt.cells, Pt.slots] at X78 l78 y78 z78 st78 hQ78
            subst l78 y78 z78
            obtain ⟨rfl, N78q, hh78⟩ := hQ78
            have N78 := Fr.app N76 N78q
            refine own_of st78 ?_
            show own_Out p e below _ (T78.setTop (mkF m 93 #[.val (.int p0), .val (.int ((p0 &&& (65535 : Int32)).toUInt32.toUInt16.toUInt32.toInt32)), .val (.int (((p0 &&& (65535 : Int32)).toUInt32.toUInt16.toUInt32.toInt32) - (48 : Int32))), .val (.int (((p0 &&& (65535 : Int32)).toUInt32.toUInt16.toUInt32.toInt32) - (97 : Int32))), .val (.int (0 : Int32)), .val (.int (1 : Int32)), .val (.int (1 : Int32)), .val (.int (f1 ((p0 &&& (65535 : Int32)).toUInt32.toUInt16.toUInt32.toInt32)))] [(.int (1 : Int32))]))
            refine own_of (fun _ k => XS.ifYes X78.here hx rfl (pc0 := 93) (pc' := 98) rfl (hb hby at_93) rfl ((if0 _ _).trans (feq (by decide : ¬ ((1 : Int32) = (0 : Int32)))).2) (by decide) (by decide) k) ?_
            show own_Out p e below _ (T78.setTop (mkF m 98 #[.val (.int p0), .val (.int ((p0 &&& (65535 : Int32)).toUInt32.toUInt16.toUInt32.toInt32)), .val (.int (((p0 &&& (65535 : Int32)).toUInt32.toUInt16.toUInt32.toInt32) - (48 : Int32))), .val (.int (((p0 &&& (65535 : Int32)).toUInt32.toUInt16.toUInt32.toInt32) - (97 : Int32))), .val (.int (0 : Int32)), .val (.int (1 : Int32)), .val (.int (1 : Int32)), .val (.int (f1 ((p0 &&& (65535 : Int32)).toUInt32.toUInt16.toUInt32.toInt32)))] []))
            refine own_of (fun _ k => XS.iloadN X78.here hx rfl (hb hby at_98) rfl k) ?_
            show own_Out p e below _ (T78.setTop (mkF m 99 #[.val (.int p0), .val (.int ((p0 &&& (65535 : Int32)).toUInt32.toUInt16.toUInt32.toInt32)), .val (.int (((p0 &&& (65535 : Int32)).toUInt32.toUInt16.toUInt32.toInt32) - (48 : Int32))), .val (.int (((p0 &&& (65535 : Int32)).toUInt32.toUInt16.toUInt32.toInt32) - (97 : Int32))), .val (.int (0 : Int32)), .val (.int (1 : Int32)), .val (.int (1 : Int32)), .val (.int (f1 ((p0 &&& (65535 : Int32)).toUInt32.toUInt16.toUInt32.toInt32)))] [(.int ((p0 &&& (65535 : Int32)).toUInt32.toUInt16.toUInt32.toInt32))]))
            by_cases hc99_79 : (255 : Int32) < ((p0 &&& (65535 : Int32)).toUInt32.toUInt16.toUInt32.toInt32)
            · skip
              obtain ⟨_, _, ⟨T80, L80, k80, n80⟩, -, X80, ⟨Lc80, hQ80, l80, y80, z80⟩, st80⟩ := Jvm.LawKit.callS X78 hx (y := (⟨"java/lang/String", "valueOf", "(C)Ljava/lang/String;"⟩ : MethodName)) hown (mvT hZ (hw _ (List.mem_of_getElem? (i := 5) rfl))) (mvT hZ (hw _ (List.mem_of_getElem? (i := 6) rfl))) (mvT hZ (hw _ (List.mem_of_getElem? (i := 7) rfl))) (mvT hZ (hw _ (List.mem_of_getElem? (i := 8) rfl))) (by decide) (backOf (W := 0) (rm2u l Z a0 hw [] ((p0 &&& (65535 : Int32)).toUInt32.toUInt16.toUInt32.toInt32) cs h0 n0 Z0 S_cs hcs hc99_79 S_ad S_hi S_lo) hZ (hw _ (List.mem_of_getElem? (i := 8) rfl)) (hw _ (List.mem_of_getElem? (i := 7) rfl)) (by decide) (by decide)) (g := (mkF m 99 #[.val (.int p0), .val (.int ((p0 &&& (65535 : Int32)).toUInt32.toUInt16.toUInt32.toInt32)), .val (.int (((p0 &&& (65535 : Int32)).toUInt32.toUInt16.toUInt32.toInt32) - (48 : Int32))), .val (.int (((p0 &&& (65535 : Int32)).toUInt32.toUInt16.toUInt32.toInt32) - (97 : Int32))), .val (.int (0 : Int32)), .val (.int (1 : Int32)), .val (.int (1 : Int32)), .val (.int (f1 ((p0 &&& (65535 : Int32)).toUInt32.toUInt16.toUInt32.toInt32)))] [(.int ((p0 &&& (65535 : Int32)).toUInt32.toUInt16.toUInt32.toInt32))])) rfl (by rw [hml]; rfl) (argsL := [(.int ((p0 &&& (65535 : Int32)).toUInt32.toUInt16.toUInt32.toInt32))]) (rest := []) (lenOf pd_13 rfl) rfl (by show 2 * 0 + _ ≤ _; exact Nat.le_of_eq rfl) (hb hby at_99) (fun _ _ => ⟨rfl, hh78, (by decide : 0 + 2 ≤ _), (by decide : 0 + 6 ≤ _)⟩)
              dsimp only [Pt.U, Pt.locs, Pt.cells, Pt.slots] at X80 l80 y80 z80 st80 hQ80
              subst l80 y80 z80
              obtain ⟨r80, b80, k80, rfl, N80q, K80, E80, Fv80, Fc80, V80, hgr_80, hsr_80, hgb_80, hsb_80, hnrb_80⟩ := hQ80
              have N80 := Fr.app N78 N80q
              have S_java_lang_String_COMPACT_STRINGS_K80 := own_staK0 S_cs K80
              have S_jdk_internal_util_Preconditions_SIOOBE_FORMATTER_K80 := own_staK0 S_f K80
              have S_java_lang_StringUTF16__assertionsDisabled_K80 := own_staK0 S_ad K80
              have S_java_lang_StringUTF16_HI_BYTE_SHIFT_K80 := own_staK0 S_hi K80
              have S_java_lang_StringUTF16_LO_BYTE_SHIFT_K80 := own_staK0 S_lo K80
              have Zl80 : n0 ≤ T80.heap.size := Nat.le_trans Z0 K80.1
              refine own_of st80 ?_
              show own_Out p e below _ (T80.setTop (mkF m 102 #[.val (.int p0), .val (.int ((p0 &&& (65535 : Int32)).toUInt32.toUInt16.toUInt32.toInt32)), .val (.int (((p0 &&& (65535 : Int32)).toUInt32.toUInt16.toUInt32.toInt32) - (48 : Int32))), .val (.int (((p0 &&& (65535 : Int32)).toUInt32.toUInt16.toUInt32.toInt32) - (97 : Int32))), .val (.int (0 : Int32)), .val (.int (1 : Int32)), .val (.int (1 : Int32)), .val (.int (f1 ((p0 &&& (65535 : Int32)).toUInt32.toUInt16.toUInt32.toInt32)))] [(.ref r80)]))
              obtain ⟨_, _, ⟨T81, L81, k81, n81⟩, -, X81, ⟨Lc81, hQ81, l81, y81, z81⟩, st81⟩ := Jvm.LawKit.callS X80 hx (y := (⟨"com/example/ringd/ringd/core/Tags", "isTag", "(Ljava/lang/String;)Z"⟩ : MethodName)) hown (mvT hZ (hw _ (List.mem_of_getElem? (i := 31) rfl))) (mvT hZ (hw _ (List.mem_of_getElem? (i := 32) rfl))) (mvT hZ (hw _ (List.mem_of_getElem? (i := 3) rfl))) (mvT hZ (hw _ (List.mem_of_getElem? (i := 33) rfl))) (by decide) (backOf (W := 0) (rm7c1n2 l Z a0 hw [] r80 b80 k80 (((((p0 &&& (65535 : Int32)).toUInt32.toUInt16.toUInt32.toInt32) >>> ((0 : Int32) &&& 31)).toInt8.toInt32).toInt8.toInt32) (((((p0 &&& (65535 : Int32)).toUInt32.toUInt16.toUInt32.toInt32) >>> ((8 : Int32) &&& 31)).toInt8.toInt32).toInt8.toInt32) cs vf T80.heap n0 Zl80 E80 Fv80 Fc80 V80 S_java_lang_String_COMPACT_STRINGS_K80 hcs S_jdk_internal_util_Preconditions_SIOOBE_FORMATTER_K80 hvf S_java_lang_StringUTF16__assertionsDisabled_K80 S_java_lang_StringUTF16_HI_BYTE_SHIFT_K80 S_java_lang_StringUTF16_LO_BYTE_SHIFT_K80) hZ (hw _ (List.mem_of_getElem? (i := 33) rfl)) (hw _ (List.mem_of_getElem? (i := 3) rfl)) (by decide) (by decide)) (g := (mkF m 102 #[.val (.int p0), .val (.int ((p0 &&& (65535 : Int32)).toUInt32.toUInt16.toUInt32.toInt32)), .val (.int (((p0 &&& (65535 : Int32)).toUInt32.toUInt16.toUInt32.toInt32) - (48 : Int32))), .val (.int (((p0 &&& (65535 : Int32)).toUInt32.toUInt16.toUInt32.toInt32) - (97 : Int32))), .val (.int (0 : Int32)), .val (.int (1 : Int32)), .val (.int (1 : Int32)), .val (.int (f1 ((p0 &&& (65535 : Int32)).toUInt32.toUInt16.toUInt32.toInt32)))] [(.ref r80)])) rfl (by rw [hml]; rfl) (argsL := [(.ref r80)]) (rest := []) (lenOf pd_14 rfl) rfl (by show 2 * 0 + _ ≤ _; exact Nat.le_of_eq rfl) (hb hby at_102) (fun _ _ => ⟨rfl, rfl, (by decide : 2 + 0 ≤ _), (by decide : 6 + 0 ≤ _)⟩)
              dsimp only [Pt.U, Pt.locs, Pt.cells, Pt.slots] at X81 l81 y81 z81 st81 hQ81
              subst l81 y81 z81
              obtain ⟨rfl, N81q, hh81⟩ := hQ81
              have N81 := Fr.app N80 N81q
              refine own_of st81 ?_
              show own_Out p e below _ (T81.setTop (mkF m 105 #[.val (.int p0), .val (.int ((p0 &&& (65535 : Int32)).toUInt32.toUInt16.toUInt32.toInt32)), .val (.int (((p0 &&& (65535 : Int32)).toUInt32.toUInt16.toUInt32.toInt32) - (48 : Int32))), .val (.int (((p0 &&& (65535 : Int32)).toUInt32.toUInt16.toUInt32.toInt32) - (97 : Int32))), .val (.int (0 : Int32)), .val (.int (1 : Int32)), .val (.int (1 : Int32)), .val (.int (f1 ((p0 &&& (65535 : Int32)).toUInt32.toUInt16.toUInt32.toInt32)))] [(.int (f_isTagc1n2 (((((p0 &&& (65535 : Int32)).toUInt32.toUInt16.toUInt32.toInt32) >>> ((0 : Int32) &&& 31)).toInt8.toInt32).toInt8.toInt32) (((((p0 &&& (65535 : Int32)).toUInt32.toUInt16.toUInt32.toInt32) >>> ((8 : Int32) &&& 31)).toInt8.toInt32).toInt8.toInt32) cs))]))
              refine own_of (fun _ k => XS.iload X81.here hx rfl (hb hby at_105) rfl k) ?_
              show own_Out p e below _ (T81.setTop (mkF m 107 #[.val (.int p0), .val (.int ((p0 &&& (65535 : Int32)).toUInt32.toUInt16.toUInt32.toInt32)), .val (.int (((p0 &&& (65535 : Int32)).toUInt32.toUInt16.toUInt32.toInt32) - (48 : Int32))), .val (.int (((p0 &&& (65535 : Int32)).toUInt32.toUInt16.toUInt32.toInt32) - (97 : Int32))), .val (.int (0 : Int32)), .val (.int (1 : Int32)), .val (.int (1 : Int32)), .val (.int (f1 ((p0 &&& (65535 : Int32)).toUInt32.toUInt16.toUInt32.toInt32)))] [(.int (f1 ((p0 &&& (65535 : Int32)).toUInt32.toUInt16.toUInt32.toInt32))), (.int (f_isTagc1n2 (((((p0 &&& (65535 : Int32)).toUInt32.toUInt16.toUInt32.toInt32) >>> ((0 : Int32) &&& 31)).toInt8.toInt32).toInt8.toInt32) (((((p0 &&& (65535 : Int32)).toUInt32.toUInt16.toUInt32.toInt32) >>> ((8 : Int32) &&& 31)).toInt8.toInt32).toInt8.toInt32) cs))]))
              by_cases hc107_82 : (f_isTagc1n2 (((((p0 &&& (65535 : Int32)).toUInt32.toUInt16.toUInt32.toInt32) >>> ((0 : Int32) &&& 31)).toInt8.toInt32).toInt8.toInt32) (((((p0 &&& (65535 : Int32)).toUInt32.toUInt16.toUInt32.toInt32) >>> ((8 : Int32) &&& 31)).toInt8.toInt32).toInt8.toInt32) cs) = (f1 ((p0 &&& (65535 : Int32)).toUInt32.toUInt16.toUInt32.toInt32))
              · skip
                refine own_of (fun _ k => XS.icmpNo X81.here hx rfl (hb hby at_107) rfl (teq hc107_82).2 k) ?_
                show own_Out p e below _ (T81.setTop (mkF m 110 #[.val (.int p0), .val (.int ((p0 &&& (65535 : Int32)).toUInt32.toUInt16.toUInt32.toInt32)), .val (.int (((p0 &&& (65535 : Int32)).toUInt32.toUInt16.toUInt32.toInt32) - (48 : Int32))), .val (.int (((p0 &&& (65535 : Int32)).toUInt32.toUInt16.toUInt32.toInt32) - (97 : Int32))), .val (.int (0 : Int32)), .val (.int (1 : Int32)), .val (.int (1 : Int32)), .val (.int (f1 ((p0 &&& (65535 : Int32)).toUInt32.toUInt16.toUInt32.toInt32)))] []))
                refine own_of (fun _ k => XS.iconst X81.here hx rfl (hb hby at_110) k) ?_
                show own_Out p e below _ (T81.setTop (mkF m 111 #[.val (.int p0), .val (.int ((p0 &&& (65535 : Int32)).toUInt32.toUInt16.toUInt32.toInt32)), .val (.int (((p0 &&& (65535 : Int32)).toUInt32.toUInt16.toUInt32.toInt32) - (48 : Int32))), .val (.int (((p0 &&& (65535 : Int32)).toUInt32.toUInt16.toUInt32.toInt32) - (97 : Int32))), .val (.int (0 : Int32)), .val (.int (1 : Int32)), .val (.int (1 : Int32)), .val (.int (f1 ((p0 &&& (65535 : Int32)).toUInt32.toUInt16.toUInt32.toInt32)))] [(.int (1 : Int32))]))
                refine own_of (fun _ k => XS.goto X81.here hx rfl (pc0 := 111) (pc' := 115) rfl (hb hby at_111) (by decide) (by decide) k) ?_
                show own_Out p e below _ (T81.setTop (mkF m 115 #[.val (.int p0), .val (.int ((p0 &&& (65535 : Int32)).toUInt32.toUInt16.toUInt32.toInt32)), .val (.int (((p0 &&& (65535 : Int32)).toUInt32.toUInt16.toUInt32.toInt32) - (48 : Int32))), .val (.int (((p0 &&& (65535 : Int32)).toUInt32.toUInt16.toUInt32.toInt32) - (97 : Int32))), .val (.int (0 : Int32)), .val (.int (1 : Int32)), .val (.int (1 : Int32)), .val (.int (f1 ((p0 &&& (65535 : Int32)).toUInt32.toUInt16.toUInt32.toInt32)))] [(.int (1 : Int32))]))
                exact own_outN X81 hx hlk (t := .boolean) hret (by simp) (hb hby at_115) (z' := (1 : Int32)) rfl (Q := Q0 Z p0 cs vf h0 n0) ⟨rfl, N81⟩ (by decide) (by decide)
              · skip
                refine own_of (fun _ k => XS.icmpYes X81.here hx rfl (pc0 := 107) (pc' := 114) rfl (hb hby at_107) rfl (feq hc107_82).2 (by decide) (by decide) k) ?_
                show own_Out p e below _ (T81.setTop (mkF m 114 #[.val (.int p0), .val (.int ((p0 &&& (65535 : Int32)).toUInt32.toUInt16.toUInt32.toInt32)), .val (.int (((p0 &&& (65535 : Int32)).toUInt32.toUInt16.toUInt32.toInt32) - (48 : Int32))), .val (.int (((p0 &&& (65535 : Int32)).toUInt32.toUInt16.toUInt32.toInt32) - (97 : Int32))), .val (.int (0 : Int32)), .val (.int (1 : Int32)), .val (.int (1 : Int32)), .val (.int (f1 ((p0 &&& (65535 : Int32)).toUInt32.toUInt16.toUInt32.toInt32)))] []))
                refine own_of (fun _ k => XS.iconst X81.here hx rfl (hb hby at_114) k) ?_
                show own_Out p e below _ (T81.setTop (mkF m 115 #[.val (.int p0), .val (.int ((p0 &&& (65535 : Int32)).toUInt32.toUInt16.toUInt32.toInt32)), .val (.int (((p0 &&& (65535 : Int32)).toUInt32.toUInt16.toUInt32.toInt32) - (48 : Int32))), .val (.int (((p0 &&& (65535 : Int32)).toUInt32.toUInt16.toUInt32.toInt32) - (97 : Int32))), .val (.int (0 : Int32)), .val (.int (1 : Int32)), .val (.int (1 : Int32)), .val (.int (f1 ((p0 &&& (65535 : Int32)).toUInt32.toUInt16.toUInt32.toInt32)))] [(.int (0 : Int32))]))
                exact (dead0_21 p0 hcs hc18_1 hc24_32 hc36_65 hc42_75 hc79_77 hc99_79 hc107_82).elim
            · skip
              obtain ⟨_, _, ⟨T83, L83, k83, n83⟩, -, X83, ⟨Lc83, hQ83, l83, y83, z83⟩, st83⟩ := Jvm.LawKit.callS X78 hx (y := (⟨"java/lang/String", "valueOf", "(C)Ljava/lang/String;"⟩ : MethodName)) hown (mvT hZ (hw _ (List.mem_of_getElem? (i := 5) rfl))) (mvT hZ (hw _ (List.mem_of_getElem? (i := 6) rfl))) (mvT hZ (hw _ (List.mem_of_getElem? (i := 7) rfl))) (mvT hZ (hw _ (List.mem_of_getElem? (i := 8) rfl))) (by decide) (backOf (W := 0) (rm2l l Z a0 hw [] ((p0 &&& (65535 : Int32)).toUInt32.toUInt16.toUInt32.toInt32) cs h0 n0 Z0 S_cs hcs hc99_79) hZ (hw _ (List.mem_of_getElem? (i := 8) rfl)) (hw _ (List.mem_of_getElem? (i := 7) rfl)) (by decide) (by decide)) (g := (mkF m 99 #[.val (.int p0), .val (.int ((p0 &&& (65535 : Int32)).toUInt32.toUInt16.toUInt32.toInt32)), .val (.int (((p0 &&& (65535 : Int32)).toUInt32.toUInt16.toUInt32.toInt32) - (48 : Int32))), .val (.int (((p0 &&& (65535 : Int32)).toUInt32.toUInt16.toUInt32.toInt32) - (97 : Int32))), .val (.int (0 : Int32)), .val (.int (1 : Int32)), .val (.int (1 : Int32)), .val (.int (f1 ((p0 &&& (65535 : Int32)).toUInt32.toUInt16.toUInt32.toInt32)))] [(.int ((p0 &&& (65535 : Int32)).toUInt32.toUInt16.toUInt32.toInt32))])) rfl (by rw [hml]; rfl) (argsL := [(.int ((p0 &&& (65535 : Int32)).toUInt32.toUInt16.toUInt32.toInt32))]) (rest := []) (lenOf pd_13 rfl) rfl (by show 2 * 0 + _ ≤ _; exact Nat.le_of_eq rfl) (hb hby at_99) (fun _ _ => ⟨rfl, hh78, (by decide : 0 + 2 ≤ _), (by decide : 0 + 5 ≤ _)⟩)
              dsimp only [Pt.U, Pt.locs, Pt.cells, Pt.slots] at X83 l83 y83 z83 st83 hQ83
              subst l83 y83 z83
              obtain ⟨r83, b83, k83, rfl, N83q, K83, E83, Fv83, Fc83, V83, hgr_83, hsr_83, hgb_83, hsb_83, hnrb_83⟩ := hQ83
              have N83 := Fr.app N78 N83q
              have S_java_lang_String_COMPACT_STRINGS_K83 := own_staK0 S_cs K83
              have S_jdk_internal_util_Preconditions_SIOOBE_FORMATTER_K83 := own_staK0 S_f K83
              have S_java_lang_StringUTF16__assertionsDisabled_K83 := own_staK0 S_ad K83
              have S_java_lang_StringUTF16_HI_BYTE_SHIFT_K83 := own_staK0 S_hi K83
              have S_java_lang_StringUTF16_LO_BYTE_SHIFT_K83 := own_staK0 S_lo K83
              have Zl83 : n0 ≤ T83.heap.size := Nat.le_trans Z0 K83.1
              refine own_of st83 ?_
              show own_Out p e below _ (T83.setTop (mkF m 102 #[.val (.int p0), .val (.int ((p0 &&& (65535 : Int32)).toUInt32.toUInt16.toUInt32.toInt32)), .val (.int (((p0 &&& (65535 : Int32)).toUInt32.toUInt16.toUInt32.toInt32) - (48 : Int32))), .val (.int (((p0 &&& (65535 : Int32)).toUInt32.toUInt16.toUInt32.toInt32) - (97 : Int32))), .val (.int (0 : Int32)), .val (.int (1 : Int32)), .val (.int (1 : Int32)), .val (.int (f1 ((p0 &&& (65535 : Int32)).toUInt32.toUInt16.toUInt32.toInt32)))] [(.ref r83)]))
              obtain ⟨_, _, ⟨T84, L84, k84, n84⟩, -, X84, ⟨Lc84, hQ84, l84, y84, z84⟩, st84⟩ := Jvm.LawKit.callS X83 hx (y := (⟨"com/example/ringd/ringd/core/Tags", "isTag", "(Ljava/lang/String;)Z"⟩ : MethodName)) hown (mvT hZ (hw _ (List.mem_of_getElem? (i := 31) rfl))) (mvT hZ (hw _ (List.mem_of_getElem? (i := 32) rfl))) (mvT hZ (hw _ (List.mem_of_getElem? (i := 3) rfl))) (mvT hZ (hw _ (List.mem_of_getElem? (i := 33) rfl))) (by decide) (backOf (W := 0) (rm7c0n1 l Z a0 hw [] r83 b83 k83 ((((p0 &&& (65535 : Int32)).toUInt32.toUInt16.toUInt32.toInt32).toInt8.toInt32).toInt8.toInt32) cs vf T83.heap n0 Zl83 E83 Fv83 Fc83 V83 S_java_lang_String_COMPACT_STRINGS_K83 hcs S_jdk_internal_util_Preconditions_SIOOBE_FORMATTER_K83 hvf) hZ (hw _ (List.mem_of_getElem? (i := 33) rfl)) (hw _ (List.mem_of_getElem? (i := 3) rfl)) (by decide) (by decide)) (g := (mkF m 102 #[.val (.int p0), .val (.int ((p0 &&& (65535 : Int32)).toUInt32.toUInt16.toUInt32.toInt32)), .val (.int (((p0 &&& (65535 : Int32)).toUInt32.toUInt16.toUInt32.toInt32) - (48 : Int32))), .val (.int (((p0 &&& (65535 : Int32)).toUInt32.toUInt16.toUInt32.toInt32) - (97 : Int32))), .val (.int (0 : Int32)), .val (.int (1 : Int32)), .val (.int (1 : Int32)), .val (.int (f1 ((p0 &&& (65535 : Int32)).toUInt32.toUInt16.toUInt32.toInt32)))] [(.ref r83)])) rfl (by rw [hml]; rfl) (argsL := [(.ref r83)]) (rest := []) (lenOf pd_14 rfl) rfl (by show 2 * 0 + _ ≤ _; exact Nat.le_of_eq rfl) (hb hby at_102) (fun _ _ => ⟨rfl, rfl, (by decide : 2 + 0 ≤ _), (by decide : 5 + 0 ≤ _)⟩)
              dsimp only [Pt.U, Pt.locs, Pt.cells, Pt.slots] at X84 l84 y84 z84 st84 hQ84
              subst l84 y84 z84
              obtain ⟨rfl, N84q, hh84⟩ := hQ84
              have N84 := Fr.app N83 N84q
              refine own_of st84 ?_
              show own_Out p e below _ (T84.setTop (mkF m 105 #[.val (.int p0), .val (.int ((p0 &&& (65535 : Int32)).toUInt32.toUInt16.toUInt32.toInt32)), .val (.int (((p0 &&& (65535 : Int32)).toUInt32.toUInt16.toUInt32.toInt32) - (48 : Int32))), .val (.int (((p0 &&& (65535 : Int32)).toUInt32.toUInt16.toUInt32.toInt32) - (97 : Int32))), .val (.int (0 : Int32)), .val (.int (1 : Int32)), .val (.int (1 : Int32)), .val (.int (f1 ((p0 &&& (65535 : Int32)).toUInt32.toUInt16.toUInt32.toInt32)))] [(.int (f_isTagc0n1 ((((p0 &&& (65535 : Int32)).toUInt32.toUInt16.toUInt32.toInt32).toInt8.toInt32).toInt8.toInt32) cs))]))
              refine own_of (fun _ k => XS.iload X84.here hx rfl (hb hby at_105) rfl k) ?_
              show own_Out p e below _ (T84.setTop (mkF m 107 #[.val (.int p0), .val (.int ((p0 &&& (65535 : Int32)).toUInt32.toUInt16.toUInt32.toInt32)), .val (.int (((p0 &&& (65535 : Int32)).toUInt32.toUInt16.toUInt32.toInt32) - (48 : Int32))), .val (.int (((p0 &&& (65535 : Int32)).toUInt32.toUInt16.toUInt32.toInt32) - (97 : Int32))), .val (.int (0 : Int32)), .val (.int (1 : Int32)), .val (.int (1 : Int32)), .val (.int (f1 ((p0 &&& (65535 : Int32)).toUInt32.toUInt16.toUInt32.toInt32)))] [(.int (f1 ((p0 &&& (65535 : Int32)).toUInt32.toUInt16.toUInt32.toInt32))), (.int (f_isTagc0n1 ((((p0 &&& (65535 : Int32)).toUInt32.toUInt16.toUInt32.toInt32).toInt8.toInt32).toInt8.toInt32) cs))]))
              by_cases hc107_85 : (f_isTagc0n1 ((((p0 &&& (65535 : Int32)).toUInt32.toUInt16.toUInt32.toInt32).toInt8.toInt32).toInt8.toInt32) cs) = (f1 ((p0 &&& (65535 : Int32)).toUInt32.toUInt16.toUInt32.toInt32))
              · skip
                refine own_of (fun _ k => XS.icmpNo X84.here hx rfl (hb hby at_107) rfl (teq hc107_85).2 k) ?_
                show own_Out p e below _ (T84.setTop (mkF m 110 #[.val (.int p0), .val (.int ((p0 &&& (65535 : Int32)).toUInt32.toUInt16.toUInt32.toInt32)), .val (.int (((p0 &&& (65535 : Int32)).toUInt32.toUInt16.toUInt32.toInt32) - (48 : Int32))), .val (.int (((p0 &&& (65535 : Int32)).toUInt32.toUInt16.toUInt32.toInt32) - (97 : Int32))), .val (.int (0 : Int32)), .val (.int (1 : Int32)), .val (.int (1 : Int32)), .val (.int (f1 ((p0 &&& (65535 : Int32)).toUInt32.toUInt16.toUInt32.toInt32)))] []))
                refine own_of (fun _ k => XS.iconst X84.here hx rfl (hb hby at_110) k) ?_
                show own_Out p e below _ (T84.setTop (mkF m 111 #[.val (.int p0), .val (.int ((p0 &&& (65535 : Int32)).toUInt32.toUInt16.toUInt32.toInt32)), .val (.int (((p0 &&& (65535 : Int32)).toUInt32.toUInt16.toUInt32.toInt32) - (48 : Int32))), .val (.int (((p0 &&& (65535 : Int32)).toUInt32.toUInt16.toUInt32.toInt32) - (97 : Int32))), .val (.int (0 : Int32)), .val (.int (1 : Int32)), .val (.int (1 : Int32)), .val (.int (f1 ((p0 &&& (65535 : Int32)).toUInt32.toUInt16.toUInt32.toInt32)))] [(.int (1 : Int32))]))
                refine own_of (fun _ k => XS.goto X84.here hx rfl (pc0 := 111) (pc' := 115) rfl (hb hby at_111) (by decide) (by decide) k) ?_
                show own_Out p e below _ (T84.setTop (mkF m 115 #[.val (.int p0), .val (.int ((p0 &&& (65535 : Int32)).toUInt32.toUInt16.toUInt32.toInt32)), .val (.int (((p0 &&& (65535 : Int32)).toUInt32.toUInt16.toUInt32.toInt32) - (48 : Int32))), .val (.int (((p0 &&& (65535 : Int32)).toUInt32.toUInt16.toUInt32.toInt32) - (97 : Int32))), .val (.int (0 : Int32)), .val (.int (1 : Int32)), .val (.int (1 : Int32)), .val (.int (f1 ((p0 &&& (65535 : Int32)).toUInt32.toUInt16.toUInt32.toInt32)))] [(.int (1 : Int32))]))
                exact own_outN X84 hx hlk (t := .boolean) hret (by simp) (hb hby at_115) (z' := (1 : Int32)) rfl (Q := Q0 Z p0 cs vf h0 n0) ⟨rfl, N84⟩ (by decide) (by decide)
              · skip
                refine own_of (fun _ k => XS.icmpYes X84.here hx rfl (pc0 := 107) (pc' := 114) rfl (hb hby at_107) rfl (feq hc107_85).2 (by decide) (by decide) k) ?_
                show own_Out p e below _ (T84.setTop (mkF m 114 #[.val (.int p0), .val (.int ((p0 &&& (65535 : Int32)).toUInt32.toUInt16.toUInt32.toInt32)), .val (.int (((p0 &&& (65535 : Int32)).toUInt32.toUInt16.toUInt32.toInt32) - (48 : Int32))), .val (.int (((p0 &&& (65535 : Int32)).toUInt32.toUInt16.toUInt32.toInt32) - (97 : Int32))), .val (.int (0 : Int32)), .val (.int (1 : Int32)), .val (.int (1 : Int32)), .val (.int (f1 ((p0 &&& (65535 : Int32)).toUInt32.toUInt16.toUInt32.toInt32)))] []))
                refine own_of (fun _ k => XS.iconst X84.here hx rfl (hb hby at_114) k) ?_
                show own_Out p e below _ (T84.setTop (mkF m 115 #[.val (.int p0), .val (.int ((p0 &&& (65535 : Int32)).toUInt32.toUInt16.toUInt32.toInt32)), .val (.int (((p0 &&& (65535 : Int32)).toUInt32.toUInt16.toUInt32.toInt32) - (48 : Int32))), .val (.int (((p0 &&& (65535 : Int32)).toUInt32.toUInt16.toUInt32.toInt32) - (97 : Int32))), .val (.int (0 : Int32)), .val (.int (1 : Int32)), .val (.int (1 : Int32)), .val (.int (f1 ((p0 &&& (65535 : Int32)).toUInt32.toUInt16.toUInt32.toInt32)))] [(.int (0 : Int32))]))
                exact (dead0_22 p0 hcs hc18_1 hc24_32 hc36_65 hc42_75 hc79_77 hc99_79 hc107_85).elim
          · skip
            refine own_of (fun _ k => XS.icmpNo X76.here hx rfl (hb hby at_79) rfl (feq hc79_77).1 k) ?_
            show own_Out p e below _ (T76.setTop (mkF m 82 #[.val (.int p0), .val (.int ((p0 &&& (65535 : Int32)).toUInt32.toUInt16.toUInt32.toInt32)), .val (.int (((p0 &&& (65535 : Int32)).toUInt32.toUInt16.toUInt32.toInt32) - (48 : Int32))), .val (.int (((p0 &&& (65535 : Int32)).toUInt32.toUInt16.toUInt32.toInt32) - (97 : Int32))), .val (.int (0 : Int32)), .val (.int (1 : Int32)), .val (.int (1 : Int32)), .val (.int (f1 ((p0 &&& (65535 : Int32)).toUInt32.toUInt16.toUInt32.toInt32)))] []))
            refine own_of (fun _ k => XS.iconst X76.here hx rfl (hb hby at_82) k) ?_
            show own_Out p e below _ (T76.setTop (mkF m 83 #[.val (.int p0), .val (.int ((p0 &&& (65535 : Int32)).toUInt32.toUInt16.toUInt32.toInt32)), .val (.int (((p0 &&& (65535 : Int32)).toUInt32.toUInt16.toUInt32.toInt32) - (48 : Int32))), .val (.int (((p0 &&& (65535 : Int32)).toUInt32.toUInt16.toUInt32.toInt32) - (97 : Int32))), .val (.int (0 : Int32)), .val (.int (1 : Int32)), .val (.int (1 : Int32)), .val (.int (f1 ((p0 &&& (65535 : Int32)).toUInt32.toUInt16.toUInt32.toInt32)))] [(.int (0 : Int32))]))
            exact (dead0_23 p0 hcs hc18_1 hc24_32 hc36_65 hc42_75 hc79_77).elim
        · skip
          refine own_of (fun _ k => XS.icmpYes X0.here hx rfl (pc0 := 42) (pc' := 49) rfl (hb hby at_42) rfl (flt hc42_75).2.1 (by decide) (by decide) k) ?_
          show own_Out p e below _ (s₁.setTop (mkF m 49 #[.val (.int p0), .val (.int ((p0 &&& (65535 : Int32)).toUInt32.toUInt16.toUInt32.toInt32)), .val (.int (((p0 &&& (65535 : Int32)).toUInt32.toUInt16.toUInt32.toInt32) - (48 : Int32))), .val (.int (((p0 &&& (65535 : Int32)).toUInt32.toUInt16.toUInt32.toInt32) - (97 : Int32))), .val (.int (0 : Int32)), .unset, .unset, .unset] []))
          refine own_of (fun _ k => XS.iconst X0.here hx rfl (hb hby at_49) k) ?_
          show own_Out p e below _ (s₁.setTop (mkF m 50 #[.val (.int p0), .val (.int ((p0 &&& (65535 : Int32)).toUInt32.toUInt16.toUInt32.toInt32)), .val (.int (((p0 &&& (65535 : Int32)).toUInt32.toUInt16.toUInt32.toInt32) - (48 : Int32))), .val (.int (((p0 &&& (65535 : Int32)).toUInt32.toUInt16.toUInt32.toInt32) - (97 : Int32))), .val (.int (0 : Int32)), .unset, .unset, .unset] [(.int (0 : Int32))]))
          refine own_of (fun _ k => XS.istore X0.here hx rfl (hb hby at_50) rfl (l' := #[.val (.int p0), .val (.int ((p0 &&& (65535 : Int32)).toUInt32.toUInt16.toUInt32.toInt32)), .val (.int (((p0 &&& (65535 : Int32)).toUInt32.toUInt16.toUInt32.toInt32) - (48 : Int32))), .val (.int (((p0 &&& (65535 : Int32)).toUInt32.toUInt16.toUInt32.toInt32) - (97 : Int32))), .val (.int (0 : Int32)), .val (.int (0 : Int32)), .unset, .unset]) rfl k) ?_
          show own_Out p e below _ (s₁.setTop (mkF m 52 #[.val (.int p0), .val (.int ((p0 &&& (65535 : Int32)).toUInt32.toUInt16.toUInt32.toInt32)), .val (.int (((p0 &&& (65535 : Int32)).toUInt32.toUInt16.toUInt32.toInt32) - (48 : Int32))), .val (.int (((p0 &&& (65535 : Int32)).toUInt32.toUInt16.toUInt32.toInt32) - (97 : Int32))), .val (.int (0 : Int32)), .val (.int (0 : Int32)), .unset, .unset] []))
          refine own_of (fun _ k => XS.iload X0.here hx rfl (hb hby at_52) rfl k) ?_
          show own_Out p e below _ (s₁.setTop (mkF m 54 #[.val (.int p0), .val (.int ((p0 &&& (65535 : Int32)).toUInt32.toUInt16.toUInt32.toInt32)), .val (.int (((p0 &&& (65535 : Int32)).toUInt32.toUInt16.toUInt32.toInt32) - (48 : Int32))), .val (.int (((p0 &&& (65535 : Int32)).toUInt32.toUInt16.toUInt32.toInt32) - (97 : Int32))), .val (.int (0 : Int32)), .val (.int (0 : Int32)), .unset, .unset] [(.int (0 : Int32))]))
          refine own_of (fun _ k => XS.ifNo X0.here hx rfl (hb hby at_54) rfl ((if0 _ _).trans (teq (by decide : (0 : Int32) = (0 : Int32))).2) k) ?_
          show own_Out p e below _ (s₁.setTop (mkF m 57 #[.val (.int p0), .val (.int ((p0 &&& (65535 : Int32)).toUInt32.toUInt16.toUInt32.toInt32)), .val (.int (((p0 &&& (65535 : Int32)).toUInt32.toUInt16.toUInt32.toInt32) - (48 : Int32))), .val (.int (((p0 &&& (65535 : Int32)).toUInt32.toUInt16.toUInt32.toInt32) - (97 : Int32))), .val (.int (0 : Int32)), .val (.int (0 : Int32)), .unset, .unset] []))
          refine own_of (fun _ k => XS.iload X0.here hx rfl (hb hby at_57) rfl k) ?_
          show own_Out p e below _ (s₁.setTop (mkF m 59 #[.val (.int p0), .val (.int ((p0 &&& (65535 : Int32)).toUInt32.toUInt16.toUInt32.toInt32)), .val (.int (((p0 &&& (65535 : Int32)).toUInt32.toUInt16.toUInt32.toInt32) - (48 : Int32))), .val (.int (((p0 &&& (65535 : Int32)).toUInt32.toUInt16.toUInt32.toInt32) - (97 : Int32))), .val (.int (0 : Int32)), .val (.int (0 : Int32)), .unset, .unset] [(.int (0 : Int32))]))
          refine own_of (fun _ k => XS.ifYes X0.here hx rfl (pc0 := 59) (pc' := 66) rfl (hb hby at_59) rfl ((if0 _ _).trans (teq (by decide : (0 : Int32) = (0 : Int32))).1) (by decide) (by decide) k) ?_
          show own_Out p e below _ (s₁.setTop (mkF m 66 #[.val (.int p0), .val (.int ((p0 &&& (65535 : Int32)).toUInt32.toUInt16.toUInt32.toInt32)), .val (.int (((p0 &&& (65535 : Int32)).toUInt32.toUInt16.toUInt32.toInt32) - (48 : Int32))), .val (.int (((p0 &&& (65535 : Int32)).toUInt32.toUInt16.toUInt32.toInt32) - (97 : Int32))), .val (.int (0 : Int32)), .val (.int (0 : Int32)), .unset, .unset] []))
          refine own_of (fun _ k => XS.iconst X0.here hx rfl (hb hby at_66) k) ?_
          show own_Out p e below _ (s₁.setTop (mkF m 67 #[.val (.int p0), .val (.int ((p0 &&& (65535 : Int32)).toUInt32.toUInt16.toUInt32.toInt32)), .val (.int (((p0 &&& (65535 : Int32)).toUInt32.toUInt16.toUInt32.toInt32) - (48 : Int32))), .val (.int (((p0 &&& (65535 : Int32)).toUInt32.toUInt16.toUInt32.toInt32) - (97 : Int32))), .val (.int (0 : Int32)), .val (.int (0 : Int32)), .unset, .unset] [(.int (0 : Int32))]))
          refine own_of (fun _ k => XS.istore X0.here hx rfl (hb hby at_67) rfl (l' := #[.val (.int p0), .val (.int ((p0 &&& (65535 : Int32)).toUInt32.toUInt16.toUInt32.toInt32)), .val (.int (((p0 &&& (65535 : Int32)).toUInt32.toUInt16.toUInt32.toInt32) - (48 : Int32))), .val (.int (((p0 &&& (65535 : Int32)).toUInt32.toUInt16.toUInt32.toInt32) - (97 : Int32))), .val (.int (0 : Int32)), .val (.int (0 : Int32)), .val (.int (0 : Int32)), .unset]) rfl k) ?_
          show own_Out p e below _ (s₁.setTop (mkF m 69 #[.val (.int p0), .val (.int ((p0 &&& (65535 : Int32)).toUInt32.toUInt16.toUInt32.toInt32)), .val (.int (((p0 &&& (65535 : Int32)).toUInt32.toUInt16.toUInt32.toInt32) - (48 : Int32))), .val (.int (((p0 &&& (65535 : Int32)).toUInt32.toUInt16.toUInt32.toInt32) - (97 : Int32))), .val (.int (0 : Int32)), .val (.int (0 : Int32)), .val (.int (0 : Int32)), .unset] []))
          refine own_of (fun _ k => XS.iloadN X0.here hx rfl (hb hby at_69) rfl k) ?_
          show own_Out p e below _ (s₁.setTop (mkF m 70 #[.val (.int p0), .val (.int ((p0 &&& (65535 : Int32)).toUInt32.toUInt16.toUInt32.toInt32)), .val (.int (((p0 &&& (65535 : Int32)).toUInt32.toUInt16.toUInt32.toInt32) - (48 : Int32))), .val (.int (((p0 &&& (65535 : Int32)).toUInt32.toUInt16.toUInt32.toInt32) - (97 : Int32))), .val (.int (0 : Int32)), .val (.int (0 : Int32)), .val (.int (0 : Int32)), .unset] [(.int ((p0 &&& (65535 : Int32)).toUInt32.toUInt16.toUInt32.toInt32))]))
          obtain ⟨_, _, ⟨T86, L86, k86, n86⟩, -, X86, ⟨Lc86, hQ86, l86, y86, z86⟩, st86⟩ := Jvm.LawKit.callS X0 hx (y := (⟨"com/example/ringd/ringd/core/Tags", "isStart", "(C)Z"⟩ : MethodName)) hown (mvT hZ (hw _ (List.mem_of_getElem? (i := 1) rfl))) (mvT hZ (hw _ (List.mem_of_getElem? (i := 2) rfl))) (mvT hZ (hw _ (List.mem_of_getElem? (i := 3) rfl))) (mvT hZ (hw _ (List.mem_of_getElem? (i := 4) rfl))) (by decide) (backOf (W := 0) (rm1 l Z a0 hw [] ((p0 &&& (65535 : Int32)).toUInt32.toUInt16.toUInt32.toInt32) h0 n0 Z0 ) hZ (hw _ (List.mem_of_getElem? (i := 4) rfl)) (hw _ (List.mem_of_getElem? (i := 3) rfl)) (by decide) (by decide)) (g := (mkF m 70 #[.val (.int p0), .val (.int ((p0 &&& (65535 : Int32)).toUInt32.toUInt16.toUInt32.toInt32)), .val (.int (((p0 &&& (65535 : Int32)).toUInt32.toUInt16.toUInt32.toInt32) - (48 : Int32))), .val (.int (((p0 &&& (65535 : Int32)).toUInt32.toUInt16.toUInt32.toInt32) - (97 : Int32))), .val (.int (0 : Int32)), .val (.int (0 : Int32)), .val (.int (0 : Int32)), .unset] [(.int ((p0 &&& (65535 : Int32)).toUInt32.toUInt16.toUInt32.toInt32))])) rfl (by rw [hml]; rfl) (argsL := [(.int ((p0 &&& (65535 : Int32)).toUInt32.toUInt16.toUInt32.toInt32))]) (rest := []) (lenOf pd_0 rfl) rfl (by show 2 * 0 + _ ≤ _; exact Nat.le_of_eq rfl) (hb hby at_70) (fun _ _ => ⟨rfl, e0, (by decide : 0 + 0 ≤ _), (by decide : 0 + 0 ≤ _)⟩)
          dsimp only [Pt.U, Pt.locs, Pt.cells, Pt.slots] at X86 l86 y86 z86 st86 hQ86
          subst l86 y86 z86
          obtain ⟨rfl, N86q, hh86⟩ := hQ86
          have N86 := Fr.app N0 N86q
          refine own_of st86 ?_
          show own_Out p e below _ (T86.setTop (mkF m 73 #[.val (.int p0), .val (.int ((p0 &&& (65535 : Int32)).toUInt32.toUInt16.toUInt32.toInt32)), .val (.int (((p0 &&& (65535 : Int32)).toUInt32.toUInt16.toUInt32.toInt32) - (48 : Int32))), .val (.int (((p0 &&& (65535 : Int32)).toUInt32.toUInt16.toUInt32.toInt32) - (97 : Int32))), .val (.int (0 : Int32)), .val (.int (0 : Int32)), .val (.int (0 : Int32)), .unset] [(.int (f1 ((p0 &&& (65535 : Int32)).toUInt32.toUInt16.toUInt32.toInt32)))]))
          refine own_of (fun _ k => XS.istore X86.here hx rfl (hb hby at_73) rfl (l' := #[.val (.int p0), .val (.int ((p0 &&& (65535 : Int32)).toUInt32.toUInt16.toUInt32.toInt32)), .val (.int (((p0 &&& (65535 : Int32)).toUInt32.toUInt16.toUInt32.toInt32) - (48 : Int32))), .val (.int (((p0 &&& (65535 : Int32)).toUInt32.toUInt16.toUInt32.toInt32) - (97 : Int32))), .val (.int (0 : Int32)), .val (.int (0 : Int32)), .val (.int (0 : Int32)), .val (.int (f1 ((p0 &&& (65535 : Int32)).toUInt32.toUInt16.toUInt32.toInt32)))]) rfl k) ?_
          show own_Out p e below _ (T86.setTop (mkF m 75 #[.val (.int p0), .val (.int ((p0 &&& (65535 : Int32)).toUInt32.toUInt16.toUInt32.toInt32)), .val (.int (((p0 &&& (65535 : Int32)).toUInt32.toUInt16.toUInt32.toInt32) - (48 : Int32))), .val (.int (((p0 &&& (65535 : Int32)).toUInt32.toUInt16.toUInt32.toInt32) - (97 : Int32))), .val (.int (0 : Int32)), .val (.int (0 : Int32)), .val (.int (0 : Int32)), .val (.int (f1 ((p0 &&& (65535 : Int32)).toUInt32.toUInt16.toUInt32.toInt32)))] []))
          refine own_of (fun _ k => XS.iload X86.here hx rfl (hb hby at_75) rfl k) ?_
          show own_Out p e below _ (T86.setTop (mkF m 77 #[.val (.int p0), .val (.int ((p0 &&& (65535 : Int32)).toUInt32.toUInt16.toUInt32.toInt32)), .val (.int (((p0 &&& (65535 : Int32)).toUInt32.toUInt16.toUInt32.toInt32) - (48 : Int32))), .val (.int (((p0 &&& (65535 : Int32)).toUInt32.toUInt16.toUInt32.toInt32) - (97 : Int32))), .val (.int (0 : Int32)), .val (.int (0 : Int32)), .val (.int (0 : Int32)), .val (.int (f1 ((p0 &&& (65535 : Int32)).toUInt32.toUInt16.toUInt32.toInt32)))] [(.int (f1 ((p0 &&& (65535 : Int32)).toUInt32.toUInt16.toUInt32.toInt32)))]))
          refine own_of (fun _ k => XS.iload X86.here hx rfl (hb hby at_77) rfl k) ?_
          show own_Out p e below _ (T86.setTop (mkF m 79 #[.val (.int p0), .val (.int ((p0 &&& (65535 : Int32)).toUInt32.toUInt16.toUInt32.toInt32)), .val (.int (((p0 &&& (65535 : Int32)).toUInt32.toUInt16.toUInt32.toInt32) - (48 : Int32))), .val (.int (((p0 &&& (65535 : Int32)).toUInt32.toUInt16.toUInt32.toInt32) - (97 : Int32))), .val (.int (0 : Int32)), .val (.int (0 : Int32)), .val (.int (0 : Int32)), .val (.int (f1 ((p0 &&& (65535 : Int32)).toUInt32.toUInt16.toUInt32.toInt32)))] [(.int (0 : Int32)), (.int (f1 ((p0 &&& (65535 : Int32)).toUInt32.toUInt16.toUInt32.toInt32)))]))
          by_cases hc79_87 : (f1 ((p0 &&& (65535 : Int32)).toUInt32.toUInt16.toUInt32.toInt32)) = (0 : Int32)
          · skip
            refine own_of (fun _ k => XS.icmpYes X86.here hx rfl (pc0 := 79) (pc' := 84) rfl (hb hby at_79) rfl (teq hc79_87).1 (by decide) (by decide) k) ?_
            show own_Out p e below _ (T86.setTop (mkF m 84 #[.val (.int p0), .val (.int ((p0 &&& (65535 : Int32)).toUInt32.toUInt16.toUInt32.toInt32)), .val (.int (((p0 &&& (65535 : Int32)).toUInt32.toUInt16.toUInt32.toInt32) - (48 : Int32))), .val (.int (((p0 &&& (65535 : Int32)).toUInt32.toUInt16.toUInt32.toInt32) - (97 : Int32))), .val (.int (0 : Int32)), .val (.int (0 : Int32)), .val (.int (0 : Int32)), .val (.int (f1 ((p0 &&& (65535 : Int32)).toUInt32.toUInt16.toUInt32.toInt32)))] []))
            refine own_of (fun _ k => XS.iload X86.here hx rfl (hb hby at_84) rfl k) ?_
            show own_Out p e below _ (T86.setTop (mkF m 86 #[.val (.int p0), .val (.int ((p0 &&& (65535 : Int32)).toUInt32.toUInt16.toUInt32.toInt32)), .val (.int (((p0 &&& (65535 : Int32)).toUInt32.toUInt16.toUInt32.toInt32) - (48 : Int32))), .val (.int (((p0 &&& (65535 : Int32)).toUInt32.toUInt16.toUInt32.toInt32) - (97 : Int32))), .val (.int (0 : Int32)), .val (.int (0 : Int32)), .val (.int (0 : Int32)), .val (.int (f1 ((p0 &&& (65535 : Int32)).toUInt32.toUInt16.toUInt32.toInt32)))] [(.int (f1 ((p0 &&& (65535 : Int32)).toUInt32.toUInt16.toUInt32.toInt32)))]))
            refine own_of (fun _ k => XS.ifYes X86.here hx rfl (pc0 := 86) (pc' := 98) rfl (hb hby at_86) rfl ((if0 _ _).trans (teq hc79_87).1) (by decide) (by decide) k) ?_
            show own_Out p e below _ (T86.setTop (mkF m 98 #[.val (.int p0), .val (.int ((p0 &&& (65535 : Int32)).toUInt32.toUInt16.toUInt32.toInt32)), .val (.int (((p0 &&& (65535 : Int32)).toUInt32.toUInt16.toUInt32.toInt32) - (48 : Int32))), .val (.int (((p0 &&& (65535 : Int32)).toUInt32.toUInt16.toUInt32.toInt32) - (97 : Int32))), .val (.int (0 : Int32)), .val (.int (0 : Int32)), .val (.int (0 : Int32)), .val (.int (f1 ((p0 &&& (65535 : Int32)).toUInt32.toUInt16.toUInt32.toInt32)))] []))
            refine own_of (fun _ k => XS.iloadN X86.here hx rfl (hb hby at_98) rfl k) ?_
            show own_Out p e below _ (T86.setTop (mkF m 99 #[.val (.int p0), .val (.int ((p0 &&& (65535 : Int32)).toUInt32.toUInt16.toUInt32.toInt32)), .val (.int (((p0 &&& (65535 : Int32)).toUInt32.toUInt16.toUInt32.toInt32) - (48 : Int32))), .val (.int (((p0 &&& (65535 : Int32)).toUInt32.toUInt16.toUInt32.toInt32) - (97 : Int32))), .val (.int (0 : Int32)), .val (.int (0 : Int32)), .val (.int (0 : Int32)), .val (.int (f1 ((p0 &&& (65535 : Int32)).toUInt32.toUInt16.toUInt32.toInt32)))] [(.int ((p0 &&& (65535 : Int32)).toUInt32.toUInt16.toUInt32.toInt32))]))
            by_cases hc99_88 : (255 : Int32) < ((p0 &&& (65535 : Int32)).toUInt32.toUInt16.toUInt32.toInt32)
            · skip
              obtain ⟨_, _, ⟨T89, L89, k89, n89⟩, -, X89, ⟨Lc89, hQ89, l89, y89, z89⟩, st89⟩ := Jvm.LawKit.callS X86 hx (y := (⟨"java/lang/String", "valueOf", "(C)Ljava/lang/String;"⟩ : MethodName)) hown (mvT hZ (hw _ (List.mem_of_getElem? (i := 5) rfl))) (mvT hZ (hw _ (List.mem_of_getElem? (i := 6) rfl))) (mvT hZ (hw _ (List.mem_of_getElem? (i := 7) rfl))) (mvT hZ (hw _ (List.mem_of_getElem? (i := 8) rfl))) (by decide) (backOf (W := 0) (rm2u l Z a0 hw [] ((p0 &&& (65535 : Int32)).toUInt32.toUInt16.toUInt32.toInt32) cs h0 n0 Z0 S_cs hcs hc99_88 S_ad S_hi S_lo) hZ (hw _ (List.mem_of_getElem? (i := 8) rfl)) (hw _ (List.mem_of_getElem? (i := 7) rfl)) (by decide) (by decide)) (g := (mkF m 99 #[.val (.int p0), .val (.int ((p0 &&& (65535 : Int32)).toUInt32.toUInt16.toUInt32.toInt32)), .val (.int (((p0 &&& (65535 : Int32)).toUInt32.toUInt16.toUInt32.toInt32) - (48 : Int32))), .val (.int (((p0 &&& (65535 : Int32)).toUInt32.toUInt16.toUInt32.toInt32) - (97 : Int32))), .val (.int (0 : Int32)), .val (.int (0 : Int32)), .val (.int (0 : Int32)), .val (.int (f1 ((p0 &&& (65535 : Int32)).toUInt32.toUInt16.toUInt32.toInt32)))] [(.int ((p0 &&& (65535 : Int32)).toUInt32.toUInt16.toUInt32.toInt32))])) rfl (by rw [hml]; rfl) (argsL := [(.int ((p0 &&& (65535 : Int32)).toUInt32.toUInt16.toUInt32.toInt32))]) (rest := []) (lenOf pd_13 rfl) rfl (by show 2 * 0 + _ ≤ _; exact Nat.le_of_eq rfl) (hb hby at_99) (fun _ _ => ⟨rfl, hh86, (by decide : 0 + 2 ≤ _), (by decide : 0 + 6 ≤ _)⟩)
              dsimp only [Pt.U, Pt.locs, Pt.cells, Pt.slots] at X89 l89 y89 z89 st89 hQ89
              subst l89 y89 z89
              obtain ⟨r89, b89, k89, rfl, N89q, K89, E89, Fv89, Fc89, V89, hgr_89, hsr_89, hgb_89, hsb_89, hnrb_89⟩ := hQ89
              have N89 := Fr.app N86 N89q
              have S_java_lang_String_COMPACT_STRINGS_K89 := own_staK0 S_cs K89
              have S_jdk_internal_util_Preconditions_SIOOBE_FORMATTER_K89 := own_staK0 S_f K89
              have S_java_lang_StringUTF16__assertionsDisabled_K89 := own_staK0 S_ad K89
              have S_java_lang_StringUTF16_HI_BYTE_SHIFT_K89 := own_staK0 S_hi K89
              have S_java_lang_StringUTF16_LO_BYTE_SHIFT_K89 := own_staK0 S_lo K89
              have Zl89 : n0 ≤ T89.heap.size := Nat.le_trans Z0 K89.1
              refine own_of st89 ?_
              show own_Out p e below _ (T89.setTop (mkF m 102 #[.val (.int p0), .val (.int ((p0 &&& (65535 : Int32)).toUInt32.toUInt16.toUInt32.toInt32)), .val (.int (((p0 &&& (65535 : Int32)).toUInt32.toUInt16.toUInt32.toInt32) - (48 : Int32))), .val (.int (((p0 &&& (65535 : Int32)).toUInt32.toUInt16.toUInt32.toInt32) - (97 : Int32))), .val (.int (0 : Int32)), .val (.int (0 : Int32)), .val (.int (0 : Int32)), .val (.int (f1 ((p0 &&& (65535 : Int32)).toUInt32.toUInt16.toUInt32.toInt32)))] [(.ref r89)]))
              obtain ⟨_, _, ⟨T90, L90, k90, n90⟩, -, X90, ⟨Lc90, hQ90, l90, y90, z90⟩, st90⟩ := Jvm.LawKit.callS X89 hx (y := (⟨"com/example/ringd/ringd/core/Tags", "isTag", "(Ljava/lang/String;)Z"⟩ : MethodName)) hown (mvT hZ (hw _ (List.mem_of_getElem? (i := 31) rfl))) (mvT hZ (hw _ (List.mem_of_getElem? (i := 32) rfl))) (mvT hZ (hw _ (List.mem_of_getElem? (i := 3) rfl))) (mvT hZ (hw _ (List.mem_of_getElem? (i := 33) rfl))) (by decide) (backOf (W := 0) (rm7c1n2 l Z a0 hw [] r89 b89 k89 (((((p0 &&& (65535 : Int32)).toUInt32.toUInt16.toUInt32.toInt32) >>> ((0 : Int32) &&& 31)).toInt8.toInt32).toInt8.toInt32) (((((p0 &&& (65535 : Int32)).toUInt32.toUInt16.toUInt32.toInt32) >>> ((8 : Int32) &&& 31)).toInt8.toInt32).toInt8.toInt32) cs vf T89.heap n0 Zl89 E89 Fv89 Fc89 V89 S_java_lang_String_COMPACT_STRINGS_K89 hcs S_jdk_internal_util_Preconditions_SIOOBE_FORMATTER_K89 hvf S_java_lang_StringUTF16__assertionsDisabled_K89 S_java_lang_StringUTF16_HI_BYTE_SHIFT_K89 S_java_lang_StringUTF16_LO_BYTE_SHIFT_K89) hZ (hw _ (List.mem_of_getElem? (i := 33) rfl)) (hw _ (List.mem_of_getElem? (i := 3) rfl)) (by decide) (by decide)) (g := (mkF m 102 #[.val (.int p0), .val (.int ((p0 &&& (65535 : Int32)).toUInt32.toUInt16.toUInt32.toInt32)), .val (.int (((p0 &&& (65535 : Int32)).toUInt32.toUInt16.toUInt32.toInt32) - (48 : Int32))), .val (.int (((p0 &&& (65535 : Int32)).toUInt32.toUInt16.toUInt32.toInt32) - (97 : Int32))), .val (.int (0 : Int32)), .val (.int (0 : Int32)), .val (.int (0 : Int32)), .val (.int (f1 ((p0 &&& (65535 : Int32)).toUInt32.toUInt16.toUInt32.toInt32)))] [(.ref r89)])) rfl (by rw [hml]; rfl) (argsL := [(.ref r89)]) (rest := []) (lenOf pd_14 rfl) rfl (by show 2 * 0 + _ ≤ _; exact Nat.le_of_eq rfl) (hb hby at_102) (fun _ _ => ⟨rfl, rfl, (by decide : 2 + 0 ≤ _), (by decide : 6 + 0 ≤ _)⟩)
              dsimp only [Pt.U, Pt.locs, Pt.cells, Pt.slots] at X90 l90 y90 z90 st90 hQ90
              subst l90 y90 z90
              obtain ⟨rfl, N90q, hh90⟩ := hQ90
              have N90 := Fr.app N89 N90q
              refine own_of st90 ?_
              show own_Out p e below _ (T90.setTop (mkF m 105 #[.val (.int p0), .val (.int ((p0 &&& (65535 : Int32)).toUInt32.toUInt16.toUInt32.toInt32)), .val (.int (((p0 &&& (65535 : Int32)).toUInt32.toUInt16.toUInt32.toInt32) - (48 : Int32))), .val (.int (((p0 &&& (65535 : Int32)).toUInt32.toUInt16.toUInt32.toInt32) - (97 : Int32))), .val (.int (0 : Int32)), .val (.int (0 : Int32)), .val (.int (0 : Int32)), .val (.int (f1 ((p0 &&& (65535 : Int32)).toUInt32.toUInt16.toUInt32.toInt32)))] [(.int (f_isTagc1n2 (((((p0 &&& (65535 : Int32)).toUInt32.toUInt16.toUInt32.toInt32) >>> ((0 : Int32) &&& 31)).toInt8.toInt32).toInt8.toInt32) (((((p0 &&& (65535 : Int32)).toUInt32.toUInt16.toUInt32.toInt32) >>> ((8 : Int32) &&& 31)).toInt8.toInt32).toInt8.toInt32) cs))]))
              refine own_of (fun _ k => XS.iload X90.here hx rfl (hb hby at_105) rfl k) ?_
              show own_Out p e below _ (T90.setTop (mkF m 107 #[.val (.int p0), .val (.int ((p0 &&& (65535 : Int32)).toUInt32.toUInt16.toUInt32.toInt32)), .val (.int (((p0 &&& (65535 : Int32)).toUInt32.toUInt16.toUInt32.toInt32) - (48 : Int32))), .val (.int (((p0 &&& (65535 : Int32)).toUInt32.toUInt16.toUInt32.toInt32) - (97 : Int32))), .val (.int (0 : Int32)), .val (.int (0 : Int32)), .val (.int (0 : Int32)), .val (.int (f1 ((p0 &&& (65535 : Int32)).toUInt32.toUInt16.toUInt32.toInt32)))] [(.int (f1 ((p0 &&& (65535 : Int32)).toUInt32.toUInt16.toUInt32.toInt32))), (.int (f_isTagc1n2 (((((p0 &&& (65535 : Int32)).toUInt32.toUInt16.toUInt32.toInt32) >>> ((0 : Int32) &&& 31)).toInt8.toInt32).toInt8.toInt32) (((((p0 &&& (65535 : Int32)).toUInt32.toUInt16.toUInt32.toInt32) >>> ((8 : Int32) &&& 31)).toInt8.toInt32).toInt8.toInt32) cs))]))
              by_cases hc107_91 : (f_isTagc1n2 (((((p0 &&& (65535 : Int32)).toUInt32.toUInt16.toUInt32.toInt32) >>> ((0 : Int32) &&& 31)).toInt8.toInt32).toInt8.toInt32) (((((p0 &&& (65535 : Int32)).toUInt32.toUInt16.toUInt32.toInt32) >>> ((8 : Int32) &&& 31)).toInt8.toInt32).toInt8.toInt32) cs) = (f1 ((p0 &&& (65535 : Int32)).toUInt32.toUInt16.toUInt32.toInt32))
              · skip
                refine own_of (fun _ k => XS.icmpNo X90.here hx rfl (hb hby at_107) rfl (teq hc107_91).2 k) ?_
                show own_Out p e below _ (T90.setTop (mkF m 110 #[.val (.int p0), .val (.int ((p0 &&& (65535 : Int32)).toUInt32.toUInt16.toUInt32.toInt32)), .val (.int (((p0 &&& (65535 : Int32)).toUInt32.toUInt16.toUInt32.toInt32) - (48 : Int32))), .val (.int (((p0 &&& (65535 : Int32)).toUInt32.toUInt16.toUInt32.toInt32) - (97 : Int32))), .val (.int (0 : Int32)), .val (.int (0 : Int32)), .val (.int (0 : Int32)), .val (.int (f1 ((p0 &&& (65535 : Int32)).toUInt32.toUInt16.toUInt32.toInt32)))] []))
                refine own_of (fun _ k => XS.iconst X90.here hx rfl (hb hby at_110) k) ?_
                show own_Out p e below _ (T90.setTop (mkF m 111 #[.val (.int p0), .val (.int ((p0 &&& (65535 : Int32)).toUInt32.toUInt16.toUInt32.toInt32)), .val (.int (((p0 &&& (65535 : Int32)).toUInt32.toUInt16.toUInt32.toInt32) - (48 : Int32))), .val (.int (((p0 &&& (65535 : Int32)).toUInt32.toUInt16.toUInt32.toInt32) - (97 : Int32))), .val (.int (0 : Int32)), .val (.int (0 : Int32)), .val (.int (0 : Int32)), .val (.int (f1 ((p0 &&& (65535 : Int32)).toUInt32.toUInt16.toUInt32.toInt32)))] [(.int (1 : Int32))]))
                refine own_of (fun _ k => XS.goto X90.here hx rfl (pc0 := 111) (pc' := 115) rfl (hb hby at_111) (by decide) (by decide) k) ?_
                show own_Out p e below _ (T90.setTop (mkF m 115 #[.val (.int p0), .val (.int ((p0 &&& (65535 : Int32)).toUInt32.toUInt16.toUInt32.toInt32)), .val (.int (((p0 &&& (65535 : Int32)).toUInt32.toUInt16.toUInt32.toInt32) - (48 : Int32))), .val (.int (((p0 &&& (65535 : Int32)).toUInt32.toUInt16.toUInt32.toInt32) - (97 : Int32))), .val (.int (0 : Int32)), .val (.int (0 : Int32)), .val (.int (0 : Int32)), .val (.int (f1 ((p0 &&& (65535 : Int32)).toUInt32.toUInt16.toUInt32.toInt32)))] [(.int (1 : Int32))]))
                exact own_outN X90 hx hlk (t := .boolean) hret (by simp) (hb hby at_115) (z' := (1 : Int32)) rfl (Q := Q0 Z p0 cs vf h0 n0) ⟨rfl, N90⟩ (by decide) (by decide)
              · skip
                refine own_of (fun _ k => XS.icmpYes X90.here hx rfl (pc0 := 107) (pc' := 114) rfl (hb hby at_107) rfl (feq hc107_91).2 (by decide) (by decide) k) ?_
                show own_Out p e below _ (T90.setTop (mkF m 114 #[.val (.int p0), .val (.int ((p0 &&& (65535 : Int32)).toUInt32.toUInt16.toUInt32.toInt32)), .val (.int (((p0 &&& (65535 : Int32)).toUInt32.toUInt16.toUInt32.toInt32) - (48 : Int32))), .val (.int (((p0 &&& (65535 : Int32)).toUInt32.toUInt16.toUInt32.toInt32) - (97 : Int32))), .val (.int (0 : Int32)), .val (.int (0 : Int32)), .val (.int (0 : Int32)), .val (.int (f1 ((p0 &&& (65535 : Int32)).toUInt32.toUInt16.toUInt32.toInt32)))] []))
                refine own_of (fun _ k => XS.iconst X90.here hx rfl (hb hby at_114) k) ?_
                show own_Out p e below _ (T90.setTop (mkF m 115 #[.val (.int p0), .val (.int ((p0 &&& (65535 : Int32)).toUInt32.toUInt16.toUInt32.toInt32)), .val (.int (((p0 &&& (65535 : Int32)).toUInt32.toUInt16.toUInt32.toInt32) - (48 : Int32))), .val (.int (((p0 &&& (65535 : Int32)).toUInt32.toUInt16.toUInt32.toInt32) - (97 : Int32))), .val (.int (0 : Int32)), .val (.int (0 : Int32)), .val (.int (0 : Int32)), .val (.int (f1 ((p0 &&& (65535 : Int32)).toUInt32.toUInt16.toUInt32.toInt32)))] [(.int (0 : Int32))]))
                exact (dead0_24 p0 hcs hc18_1 hc24_32 hc36_65 hc42_75 hc79_87 hc99_88 hc107_91).elim
            · skip
              obtain ⟨_, _, ⟨T92, L92, k92, n92⟩, -, X92, ⟨Lc92, hQ92, l92, y92, z92⟩, st92⟩ := Jvm.LawKit.callS X86 hx (y := (⟨"java/lang/String", "valueOf", "(C)Ljava/lang/String;"⟩ : MethodName)) hown (mvT hZ (hw _ (List.mem_of_getElem? (i := 5) rfl))) (mvT hZ (hw _ (List.mem_of_getElem? (i := 6) rfl))) (mvT hZ (hw _ (List.mem_of_getElem? (i := 7) rfl))) (mvT hZ (hw _ (List.mem_of_getElem? (i := 8) rfl))) (by decide) (backOf (W := 0) (rm2l l Z a0 hw [] ((p0 &&& (65535 : Int32)).toUInt32.toUInt16.toUInt32.toInt32) cs h0 n0 Z0 S_cs hcs hc99_88) hZ (hw _ (List.mem_of_getElem? (i := 8) rfl)) (hw _ (List.mem_of_getElem? (i := 7) rfl)) (by decide) (by decide)) (g := (mkF m 99 #[.val (.int p0), .val (.int ((p0 &&& (65535 : Int32)).toUInt32.toUInt16.toUInt32.toInt32)), .val (.int (((p0 &&& (65535 : Int32)).toUInt32.toUInt16.toUInt32.toInt32) - (48 : Int32))), .val (.int (((p0 &&& (65535 : Int32)).toUInt32.toUInt16.toUInt32.toInt32) - (97 : Int32))), .val (.int (0 : Int32)), .val (.int (0 : Int32)), .val (.int (0 : Int32)), .val (.int (f1 ((p0 &&& (65535 : Int32)).toUInt32.toUInt16.toUInt32.toInt32)))] [(.int ((p0 &&& (65535 : Int32)).toUInt32.toUInt16.toUInt32.toInt32))])) rfl (by rw [hml]; rfl) (argsL := [(.int ((p0 &&& (65535 : Int32)).toUInt32.toUInt16.toUInt32.toInt32))]) (rest := []) (lenOf pd_13 rfl) rfl (by show 2 * 0 + _ ≤ _; exact Nat.le_of_eq rfl) (hb hby at_99) (fun _ _ => ⟨rfl, hh86, (by decide : 0 + 2 ≤ _), (by decide : 0 + 5 ≤ _)⟩)
              dsimp only [Pt.U, Pt.locs, Pt.cells, Pt.slots] at X92 l92 y92 z92 st92 hQ92
              subst l92 y92 z92
              obtain ⟨r92, b92, k92, rfl, N92q, K92, E92, Fv92, Fc92, V92, hgr_92, hsr_92, hgb_92, hsb_92, hnrb_92⟩ := hQ92
              have N92 := Fr.app N86 N92q
              have S_java_lang_String_COMPACT_STRINGS_K92 := own_staK0 S_cs K92
              have S_jdk_internal_util_Preconditions_SIOOBE_FORMATTER_K92 := own_staK0 S_f K92
              have S_java_lang_StringUTF16__assertionsDisabled_K92 := own_staK0 S_ad K92
              have S_java_lang_StringUTF16_HI_BYTE_SHIFT_K92 := own_staK0 S_hi K92
              have S_java_lang_StringUTF16_LO_BYTE_SHIFT_K92 := own_staK0 S_lo K92
              have Zl92 : n0 ≤ T92.heap.size := Nat.le_trans Z0 K92.1
              refine own_of st92 ?_
              show own_Out p e below _ (T92.setTop (mkF m 102 #[.val (.int p0), .val (.int ((p0 &&& (65535 : Int32)).toUInt32.toUInt16.toUInt32.toInt32)), .val (.int (((p0 &&& (65535 : Int32)).toUInt32.toUInt16.toUInt32.toInt32) - (48 : Int32))), .val (.int (((p0 &&& (65535 : Int32)).toUInt32.toUInt16.toUInt32.toInt32) - (97 : Int32))), .val (.int (0 : Int32)), .val (.int (0 : Int32)), .val (.int (0 : Int32)), .val (.int (f1 ((p0 &&& (65535 : Int32)).toUInt32.toUInt16.toUInt32.toInt32)))] [(.ref r92)]))
              obtain ⟨_, _, ⟨T93, L93, k93, n93⟩, -, X93, ⟨Lc93, hQ93, l93, y93, z93⟩, st93⟩ := Jvm.LawKit.callS X92 hx (y := (⟨"com/example/ringd/ringd/core/Tags", "isTag", "(Ljava/lang/String;)Z"⟩ : MethodName)) hown (mvT hZ (hw _ (List.mem_of_getElem? (i := 31) rfl))) (mvT hZ (hw _ (List.mem_of_getElem? (i := 32) rfl))) (mvT hZ (hw _ (List.mem_of_getElem? (i := 3) rfl))) (mvT hZ (hw _ (List.mem_of_getElem? (i := 33) rfl))) (by decide) (backOf (W := 0) (rm7c0n1 l Z a0 hw [] r92 b92 k92 ((((p0 &&& (65535 : Int32)).toUInt32.toUInt16.toUInt32.toInt32).toInt8.toInt32).toInt8.toInt32) cs vf T92.heap n0 Zl92 E92 Fv92 Fc92 V92 S_java_lang_String_COMPACT_STRINGS_K92 hcs S_jdk_internal_util_Preconditions_SIOOBE_FORMATTER_K92 hvf) hZ (hw _ (List.mem_of_getElem? (i := 33) rfl)) (hw _ (List.mem_of_getElem? (i := 3) rfl)) (by decide) (by decide)) (g := (mkF m 102 #[.val (.int p0), .val (.int ((p0 &&& (65535 : Int32)).toUInt32.toUInt16.toUInt32.toInt32)), .val (.int (((p0 &&& (65535 : Int32)).toUInt32.toUInt16.toUInt32.toInt32) - (48 : Int32))), .val (.int (((p0 &&& (65535 : Int32)).toUInt32.toUInt16.toUInt32.toInt32) - (97 : Int32))), .val (.int (0 : Int32)), .val (.int (0 : Int32)), .val (.int (0 : Int32)), .val (.int (f1 ((p0 &&& (65535 : Int32)).toUInt32.toUInt16.toUInt32.toInt32)))] [(.ref r92)])) rfl (by rw [hml]; rfl) (argsL := [(.ref r92)]) (rest := []) (lenOf pd_14 rfl) rfl (by show 2 * 0 + _ ≤ _; exact Nat.le_of_eq rfl) (hb hby at_102) (fun _ _ => ⟨rfl, rfl, (by decide : 2 + 0 ≤ _), (by decide : 5 + 0 ≤ _)⟩)
              dsimp only [Pt.U, Pt.locs, Pt.cells, Pt.slots] at X93 l93 y93 z93 st93 hQ93
              subst l93 y93 z93
              obtain ⟨rfl, N93q, hh93⟩ := hQ93
              have N93 := Fr.app N92 N93q
              refine own_of st93 ?_
              show own_Out p e below _ (T93.setTop (mkF m 105 #[.val (.int p0), .val (.int ((p0 &&& (65535 : Int32)).toUInt32.toUInt16.toUInt32.toInt32)), .val (.int (((p0 &&& (65535 : Int32)).toUInt32.toUInt16.toUInt32.toInt32) - (48 : Int32))), .val (.int (((p0 &&& (65535 : Int32)).toUInt32.toUInt16.toUInt32.toInt32) - (97 : Int32))), .val (.int (0 : Int32)), .val (.int (0 : Int32)), .val (.int (0 : Int32)), .val (.int (f1 ((p0 &&& (65535 : Int32)).toUInt32.toUInt16.toUInt32.toInt32)))] [(.int (f_isTagc0n1 ((((p0 &&& (65535 : Int32)).toUInt32.toUInt16.toUInt32.toInt32).toInt8.toInt32).toInt8.toInt32) cs))]))
              refine own_of (fun _ k => XS.iload X93.here hx rfl (hb hby at_105) rfl k) ?_
              show own_Out p e below _ (T93.setTop (mkF m 107 #[.val (.int p0), .val (.int ((p0 &&& (65535 : Int32)).toUInt32.toUInt16.toUInt32.toInt32)), .val (.int (((p0 &&& (65535 : Int32)).toUInt32.toUInt16.toUInt32.toInt32) - (48 : Int32))), .val (.int (((p0 &&& (65535 : Int32)).toUInt32.toUInt16.toUInt32.toInt32) - (97 : Int32))), .val (.int (0 : Int32)), .val (.int (0 : Int32)), .val (.int (0 : Int32)), .val (.int (f1 ((p0 &&& (65535 : Int32)).toUInt32.toUInt16.toUInt32.toInt32)))] [(.int (f1 ((p0 &&& (65535 : Int32)).toUInt32.toUInt16.toUInt32.toInt32))), (.int (f_isTagc0n1 ((((p0 &&& (65535 : Int32)).toUInt32.toUInt16.toUInt32.toInt32).toInt8.toInt32).toInt8.toInt32) cs))]))
              by_cases hc107_94 : (f_isTagc0n1 ((((p0 &&& (65535 : Int32)).toUInt32.toUInt16.toUInt32.toInt32).toInt8.toInt32).toInt8.toInt32) cs) = (f1 ((p0 &&& (65535 : Int32)).toUInt32.toUInt16.toUInt32.toInt32))
              · skip
                refine own_of (fun _ k => XS.icmpNo X93.here hx rfl (hb hby at_107) rfl (teq hc107_94).2 k) ?_
                show own_Out p e below _ (T93.setTop (mkF m 110 #[.val (.int p0), .val (.int ((p0 &&& (65535 : Int32)).toUInt32.toUInt16.toUInt32.toInt32)), .val (.int (((p0 &&& (65535 : Int32)).toUInt32.toUInt16.toUInt32.toInt32) - (48 : Int32))), .val (.int (((p0 &&& (65535 : Int32)).toUInt32.toUInt16.toUInt32.toInt32) - (97 : Int32))), .val (.int (0 : Int32)), .val (.int (0 : Int32)), .val (.int (0 : Int32)), .val (.int (f1 ((p0 &&& (65535 : Int32)).toUInt32.toUInt16.toUInt32.toInt32)))] []))
                refine own_of (fun _ k => XS.iconst X93.here hx rfl (hb hby at_110) k) ?_
                show own_Out p e below _ (T93.setTop (mkF m 111 #[.val (.int p0), .val (.int ((p0 &&& (65535 : Int32)).toUInt32.toUInt16.toUInt32.toInt32)), .val (.int (((p0 &&& (65535 : Int32)).toUInt32.toUInt16.toUInt32.toInt32) - (48 : Int32))), .val (.int (((p0 &&& (65535 : Int32)).toUInt32.toUInt16.toUInt32.toInt32) - (97 : Int32))), .val (.int (0 : Int32)), .val (.int (0 : Int32)), .val (.int (0 : Int32)), .val (.int (f1 ((p0 &&& (65535 : Int32)).toUInt32.toUInt16.toUInt32.toInt32)))] [(.int (1 : Int32))]))
                refine own_of (fun _ k => XS.goto X93.here hx rfl (pc0 := 111) (pc' := 115) rfl (hb hby at_111) (by decide) (by decide) k) ?_
                show own_Out p e below _ (T93.setTop (mkF m 115 #[.val (.int p0), .val (.int ((p0 &&& (65535 : Int32)).toUInt32.toUInt16.toUInt32.toInt32)), .val (.int (((p0 &&& (65535 : Int32)).toUInt32.toUInt16.toUInt32.toInt32) - (48 : Int32))), .val (.int (((p0 &&& (65535 : Int32)).toUInt32.toUInt16.toUInt32.toInt32) - (97 : Int32))), .val (.int (0 : Int32)), .val (.int (0 : Int32)), .val (.int (0 : Int32)), .val (.int (f1 ((p0 &&& (65535 : Int32)).toUInt32.toUInt16.toUInt32.toInt32)))] [(.int (1 : Int32))]))
                exact own_outN X93 hx hlk (t := .boolean) hret (by simp) (hb hby at_115) (z' := (1 : Int32)) rfl (Q := Q0 Z p0 cs vf h0 n0) ⟨rfl, N93⟩ (by decide) (by decide)
              · skip
                refine own_of (fun _ k => XS.icmpYes X93.here hx rfl (pc0 := 107) (pc' := 114) rfl (hb hby at_107) rfl (feq hc107_94).2 (by decide) (by decide) k) ?_
                show own_Out p e below _ (T93.setTop (mkF m 114 #[.val (.int p0), .val (.int ((p0 &&& (65535 : Int32)).toUInt32.toUInt16.toUInt32.toInt32)), .val (.int (((p0 &&& (65535 : Int32)).toUInt32.toUInt16.toUInt32.toInt32) - (48 : Int32))), .val (.int (((p0 &&& (65535 : Int32)).toUInt32.toUInt16.toUInt32.toInt32) - (97 : Int32))), .val (.int (0 : Int32)), .val (.int (0 : Int32)), .val (.int (0 : Int32)), .val (.int (f1 ((p0 &&& (65535 : Int32)).toUInt32.toUInt16.toUInt32.toInt32)))] []))
                refine own_of (fun _ k => XS.iconst X93.here hx rfl (hb hby at_114) k) ?_
                show own_Out p e below _ (T93.setTop (mkF m 115 #[.val (.int p0), .val (.int ((p0 &&& (65535 : Int32)).toUInt32.toUInt16.toUInt32.toInt32)), .val (.int (((p0 &&& (65535 : Int32)).toUInt32.toUInt16.toUInt32.toInt32) - (48 : Int32))), .val (.int (((p0 &&& (65535 : Int32)).toUInt32.toUInt16.toUInt32.toInt32) - (97 : Int32))), .val (.int (0 : Int32)), .val (.int (0 : Int32)), .val (.int (0 : Int32)), .val (.int (f1 ((p0 &&& (65535 : Int32)).toUInt32.toUInt16.toUInt32.toInt32)))] [(.int (0 : Int32))]))
                exact (dead0_25 p0 hcs hc18_1 hc24_32 hc36_65 hc42_75 hc79_87 hc99_88 hc107_94).elim
          · skip
            refine own_of (fun _ k => XS.icmpNo X86.here hx rfl (hb hby at_79) rfl (feq hc79_87).1 k) ?_
            show own_Out p e below _ (T86.setTop (mkF m 82 #[.val (.int p0), .val (.int ((p0 &&& (65535 : Int32)).toUInt32.toUInt16.toUInt32.toInt32)), .val (.int (((p0 &&& (65535 : Int32)).toUInt32.toUInt16.toUInt32.toInt32) - (48 : Int32))), .val (.int (((p0 &&& (65535 : Int32)).toUInt32.toUInt16.toUInt32.toInt32) - (97 : Int32))), .val (.int (0 : Int32)), .val (.int (0 : Int32)), .val (.int (0 : Int32)), .val (.int (f1 ((p0 &&& (65535 : Int32)).toUInt32.toUInt16.toUInt32.toInt32)))] []))
            refine own_of (fun _ k => XS.iconst X86.here hx rfl (hb hby at_82) k) ?_
            show own_Out p e below _ (T86.setTop (mkF m 83 #[.val (.int p0), .val (.int ((p0 &&& (65535 : Int32)).toUInt32.toUInt16.toUInt32.toInt32)), .val (.int (((p0 &&& (65535 : Int32)).toUInt32.toUInt16.toUInt32.toInt32) - (48 : Int32))), .val (.int (((p0 &&& (65535 : Int32)).toUInt32.toUInt16.toUInt32.toInt32) - (97 : Int32))), .val (.int (0 : Int32)), .val (.int (0 : Int32)), .val (.int (0 : Int32)), .val (.int (f1 ((p0 &&& (65535 : Int32)).toUInt32.toUInt16.toUInt32.toInt32)))] [(.int (0 : Int32))]))
            exact (dead0_26 p0 hcs hc18_1 hc24_32 hc36_65 hc42_75 hc79_87).elim
theorem own_not0 {args : Array Value} {s : State} {t : Term} {x : Int32} (e : t.eval args s none [] s = some (.int x)) (h : (Jvm.Cond.not (Jvm.Cond.eq t (.int 0))).value args s none s [] = some true) : ¬ (x = (0 : Int32)) := gotF (Cond.eq_ints e (Term.int_eval 0)) (not_v h)
set_option maxRecDepth 65536 in
set_option maxHeartbeats 40000000 in
theorem comes_1 {Post : Tables → Env → Array Value → State → Outcome → State → Prop} (hpost : ∀ tb e args s v u, (limb_1_1.after args s (.returned v) u = true ∧ limb_1_2.after args s (.returned v) u = true ∧ True) → FrameEnd s (.returned v) u (Jvm.fieldLocs frame_1_writes args s ++ Jvm.arrayLocs frame_1_arrays args s ++ Jvm.staticLocs frame_1_statics s) 16 128 → Post tb e args s (.returned v) u) :
    ArmFor flags0 classFile x code maxLocals ret World_1 tables_1 room_1 Calls_1 rest_1 Pre_1 Post := by
  intro l hfl _ _ p e ha hc hk s m args below hf hA hF happ hP
  obtain ⟨hcalls, hrest, hpre⟩ := hP
  obtain ⟨-, -, -, hnamed, -, -, -, hat⟩ := (Spec.applies_iff hf).mp happ
  obtain ⟨hg, hn⟩ := and_e (Cond.before_iff.mp (show (Jvm.Cond.and given_1 narrow_1).before args s = true from hpre))
  obtain ⟨g1, g2⟩ := and_e hg
  obtain ⟨w0, rfl⟩ : ∃ w0 : Value, args = #[w0] := by
    have hs : args.size = 1 := by simpa [Cond.value, given_1] using g1
    obtain ⟨L⟩ := args
    match L, hs with
    | [w0], _ => exact ⟨w0, rfl⟩
  have hw := fun d (hd : d ∈ tables_1) => atoms_spec (ws := Jvm.Cond.code x code maxLocals ret :: tables_1) hat d (List.mem_cons_of_mem _ hd)
  have hfit : Fit s := fun {y c} hc i hi => by
    obtain ⟨ha, rfl⟩ := Array.getElem?_eq_some_iff.mp hc
    have q := List.all_eq_true.mp ((Array.all_eq_true_iff_forall_mem.mp hF) _ (Array.getElem_mem ha)) i (List.mem_range.mpr hi)
    simpa [Array.getElem?_eq_getElem hi] using q
  obtain ⟨hsets, hown0⟩ := atoms_of _ (rest_1_c_eq ▸ (show rest_1_c.before _ s = true from hrest))
  have hr0 := Cond.before_iff.mp hown0
  obtain ⟨i0, ei0⟩ := is_v g2
  obtain rfl : w0 = (.int i0) := Option.some.inj ei0
  obtain ⟨cs, ecs⟩ := is_v (Cond.before_iff.mp (hsets _ (List.mem_of_getElem? (i := 1) rfl)))
  have S_cs := Sta.start ecs (Or.inl (hsets _ (List.mem_of_getElem? (i := 0) rfl)))
  have hcs : ¬ (cs = (0 : Int32)) := own_not0 ecs (Cond.before_iff.mp (hsets _ (List.mem_of_getElem? (i := 2) rfl)))
  obtain ⟨vf, ef, hvf⟩ := isR_v (Cond.before_iff.mp (hsets _ (List.mem_of_getElem? (i := 8) rfl)))
  have S_f := Sta.start ef (Or.inl (hsets _ (List.mem_of_getElem? (i := 7) rfl)))
  have S_ad := Sta.start (eqv_i (Term.int_eval (1)) (Cond.before_iff.mp (hsets _ (List.mem_of_getElem? (i := 12) rfl)))) (Or.inl (hsets _ (List.mem_of_getElem? (i := 11) rfl)))
  have S_hi := Sta.start (eqv_i (Term.int_eval (0)) (Cond.before_iff.mp (hsets _ (List.mem_of_getElem? (i := 15) rfl)))) (Or.inl (hsets _ (List.mem_of_getElem? (i := 14) rfl)))
  have S_lo := Sta.start (eqv_i (Term.int_eval (8)) (Cond.before_iff.mp (hsets _ (List.mem_of_getElem? (i := 18) rfl)))) (Or.inl (hsets _ (List.mem_of_getElem? (i := 17) rfl)))
  obtain ⟨n, o, h1, h2, h3, _, L, rfl, ⟨rfl, N⟩, hq⟩ := rm0 l s _ hw tables_1 i0 cs vf s.heap s.heap.size (Nat.le_refl _) S_cs hcs S_f hvf S_ad S_hi S_lo p e ha hc hk s m _ below hf ((Spec.applies_iff_loose hf).mp happ).1 ⟨rfl, State.Warmed39.refl s, rfl⟩ trivial
  refine ⟨n, _, h1, h2, h3, hpost _ _ _ _ _ _ ⟨Cond.after_iff.mpr rfl, Cond.after_iff.mpr (eq_i res_at (Term.int_eval (1)) rfl), trivial⟩ ⟨hq.1, hq.2.1, (hq.2.2.sift fun y hy => Or.inr (N y hy)).mono (by decide) (by decide)⟩⟩
theorem main_1_1 : Claimed_1_1 := comes_1 fun _ _ _ _ _ _ h hF => ⟨h.1, hF⟩
theorem main_1_2 : Claimed_1_2 := comes_1 fun _ _ _ _ _ _ h hF => ⟨h.2.1, hF⟩
end Jvm.Pilot.@@N@@
namespace Jvm.Pilot.@@N@@
open Jvm Jvm.ClassFile Sem Op Lib Jvm.Free Jvm.Stand Jvm.Pilot.@@N@@.Jvm.D
/-! MADE BY PROGRAM (witnessworld.py) out of the Statement's table words and the real class files: 18 classes; the members and pool entries that the words name. The judged class is class 1, her method 1. -/
namespace start1
open Jvm.ClassFile
def u (s : String) : CpInfo := .utf8 (stringToUtf16 s)
/-- a pool by its gaps: so many unusable entries, then the entry; so many at the end -/
def gap : Nat → List CpInfo → List CpInfo
  | 0, r => r
  | n + 1, r => .unusable :: gap n r
def poolList (es : List (Nat × CpInfo)) (last : Nat) : List CpInfo := es.foldr (fun e r => gap e.1 (e.2 :: r)) (gap last [])
def pool (es : List (Nat × CpInfo)) (last : Nat) : Array CpInfo := ⟨poolList es last⟩
def fileOf (pool : Array CpInfo) (this : Nat) (attrs : Array Attribute := #[]) (ms : Array MethodInfo := #[]) (fl : Nat := 33) (sup : Nat := 0) (ifs : Array Nat := #[]) (fds : Array FieldInfo := #[]) : ClassFile where
  minorVersion := 0
  majorVersion := 65
  constantPool := pool
  accessFlags := fl
  thisClass := this
  superClass := sup
  interfaces := ifs
  fields := fds
  methods := ms
  attributes := attrs
def plain (name : String) (sup : Option ClassId) : Class where
  name := name
  kind := .ordinary
  loader := none
  accessFlags := 33
  super := sup
  interfaces := #[]
  cf := none
  fields := #[]
  methods := #[]
  instanceTypes := #[]
  staticTypes := #[]
  resolved := #[]
  callSites := []
  init := .initialized
  statics := none
  mirror := none

def pool0 : Array CpInfo := pool [(5, u "<init>"), (0, u "()V"), (1, .class_ 10), (1, u "java/lang/Object")] 113

def k0c0 : Code := { maxStack := 0, maxLocals := 1, code := object_method_1_code, exceptionTable := #[], attributes := #[] }
def k0m0 : Method := { name := "<init>", desc := "()V", sig := { parameters := [], returnType := none }, accessFlags := 1, code := some k0c0 }
/-- java/lang/Object -/
def k0 : Class := { plain "java/lang/Object" none with
  accessFlags := 33
  interfaces := #[]
  cf := some (fileOf pool0 8 #[] #[{ accessFlags := 1, nameIndex := 5, descriptorIndex := 6, attributes := #[] }] 33 0 #[] #[])
  fields := #[]
  methods := #[k0m0]
  instanceTypes := #[]
  staticTypes := #[]
  resolved := Array.replicate 124 none
  statics := none }

def pool1 : Array CpInfo := pool [(2, .class_ 4), (1, u "java/lang/Object"), (0, u "<init>"), (0, u "()V"), (0, .integer 65535), (0, .methodref 9 10), (0, .class_ 11), (0, .nameAndType 12 13), (0, u "com/example/ringd/ringd/core/Tags"), (0, u "isStart"), (0, u "(C)Z"), (0, .methodref 9 15), (0, .nameAndType 16 13), (0, u "isPart"), (0, .methodref 18 19), (0, .class_ 20), (0, .nameAndType 21 22), (0, u "java/lang/String"), (0, u "valueOf"), (0, u "(C)Ljava/lang/String;"), (0, .methodref 9 24), (0, .nameAndType 25 26), (0, u "isTag"), (0, u "(Ljava/lang/String;)Z"), (0, .class_ 28), (0, u "com/example/ringd/ringd/core/TagsIsStartPinLaw"), (2, u "law"), (0, u "(I)Z")] 3

def k1m0 : Method := { name := "<init>", desc := "()V", sig := { parameters := [], returnType := none }, accessFlags := 2, code := none }
def k1c1 : Code := { maxStack := 2, maxLocals := 8, code := code, exceptionTable := #[], attributes := #[] }
def k1m1 : Method := { name := "law", desc := "(I)Z", sig := { parameters := [.int], returnType := some .boolean }, accessFlags := 9, code := some k1c1 }
/-- com/example/ringd/ringd/core/TagsIsStartPinLaw -/
def k1 : Class := { plain "com/example/ringd/ringd/core/TagsIsStartPinLaw" (some 0) with
  accessFlags := 49
  interfaces := #[]
  cf := some (fileOf pool1 27 #[] #[{ accessFlags := 2, nameIndex := 5, descriptorIndex := 6, attributes := #[] }, { accessFlags := 9, nameIndex := 31, descriptorIndex := 32, attributes := #[] }] 49 2 #[] #[])
  fields := #[]
  methods := #[k1m0, k1m1]
  instanceTypes := #[]
  staticTypes := #[]
  resolved := Array.replicate 36 none
  statics := none }

def pool2 : Array CpInfo := pool [(2, .class_ 4), (1, u "java/lang/Object"), (0, u "<init>"), (0, u "()V"), (0, .methodref 8 9), (0, .class_ 10), (0, .nameAndType 11 12), (0, u "com/example/ringd/ringd/core/Tags"), (0, u "isStart"), (0, u "(C)Z"), (3, .class_ 18), (1, u "java/lang/String"), (2, .methodref 16 22), (0, .nameAndType 23 24), (0, u "isEmpty"), (0, u "()Z"), (0, .methodref 16 26), (0, .nameAndType 27 28), (0, u "charAt"), (0, u "(I)C"), (0, .methodref 16 30), (0, .nameAndType 31 32), (0, u "length"), (0, u "()I"), (0, .methodref 8 34), (0, .nameAndType 35 12), (0, u "isPart"), (0, u "PUNCTUATION"), (0, u "Ljava/lang/String;"), (4, u "isTag"), (0, u "(Ljava/lang/String;)Z")] 2

def k2m0 : Method := { name := "<init>", desc := "()V", sig := { parameters := [], returnType := none }, accessFlags := 2, code := none }
def k2c1 : Code := { maxStack := 2, maxLocals := 1, code := prog_115_method_2_code, exceptionTable := #[], attributes := #[] }
def k2m1 : Method := { name := "isStart", desc := "(C)Z", sig := { parameters := [.char], returnType := some .boolean }, accessFlags := 9, code := some k2c1 }
def k2c2 : Code := { maxStack := 2, maxLocals := 1, code := prog_115_method_3_code, exceptionTable := #[], attributes := #[] }
def k2m2 : Method := { name := "isPart", desc := "(C)Z", sig := { parameters := [.char], returnType := some .boolean }, accessFlags := 9, code := some k2c2 }
def k2c3 : Code := { maxStack := 2, maxLocals := 2, code := prog_115_method_4_code, exceptionTable := #[], attributes := #[] }
def k2m3 : Method := { name := "isTag", desc := "(Ljava/lang/String;)Z", sig := { parameters := [(.object "java/lang/String")], returnType := some .boolean }, accessFlags := 9, code := some k2c3 }
/-- com/example/ringd/ringd/core/Tags -/
def k2 : Class := { plain "com/example/ringd/ringd/core/Tags" (some 0) with
  accessFlags := 33
  interfaces := #[]
  cf := some (fileOf pool2 8 #[] #[{ accessFlags := 2, nameIndex := 5, descriptorIndex := 6, attributes := #[] }, { accessFlags := 9, nameIndex := 11, descriptorIndex := 12, attributes := #[] }, { accessFlags := 9, nameIndex := 35, descriptorIndex := 12, attributes := #[] }, { accessFlags := 9, nameIndex := 42, descriptorIndex := 43, attributes := #[] }] 33 2 #[] #[{ accessFlags := 26, nameIndex := 36, descriptorIndex := 37, attributes := #[] }])
  fields := #[{ name := "PUNCTUATION", type := (.object "java/lang/String"), accessFlags := 26, slot := 0, constantValue := 0 }]
  methods := #[k2m0, k2m1, k2m2, k2m3]
  instanceTypes := #[]
  staticTypes := #[(.object "java/lang/String")]
  resolved := Array.replicate 46 none
  statics := none }

def pool3 : Array CpInfo := pool [(1, .class_ 2), (0, u "java/io/Serializable"), (0, .class_ 4), (0, u "java/lang/Object")] 2

/-- java/io/Serializable -/
def k3 : Class := { plain "java/io/Serializable" (some 0) with
  accessFlags := 1537
  interfaces := #[]
  cf := some (fileOf pool3 1 #[] #[] 1537 3 #[] #[])
  fields := #[]
  methods := #[]
  instanceTypes := #[]
  staticTypes := #[]
  resolved := Array.replicate 7 none
  statics := none }

def pool4 : Array CpInfo := pool [(1, .class_ 2), (0, u "java/lang/Comparable"), (0, .class_ 4), (0, u "java/lang/Object")] 7

/-- java/lang/Comparable -/
def k4 : Class := { plain "java/lang/Comparable" (some 0) with
  accessFlags := 1537
  interfaces := #[]
  cf := some (fileOf pool4 1 #[] #[] 1537 3 #[] #[])
  fields := #[]
  methods := #[]
  instanceTypes := #[]
  staticTypes := #[]
  resolved := Array.replicate 12 none
  statics := none }

def pool5 : Array CpInfo := pool [(2, .class_ 4), (1, u "java/lang/CharSequence"), (42, .class_ 48), (0, u "java/lang/CharSequence$1CodePointIterator"), (10, .class_ 60), (0, u "java/lang/CharSequence$1CharIterator"), (5, .class_ 67), (0, u "java/lang/Object")] 63

/-- java/lang/CharSequence -/
def k5 : Class := { plain "java/lang/CharSequence" (some 0) with
  accessFlags := 1537
  interfaces := #[]
  cf := some (fileOf pool5 2 #[.nestMembers #[47, 59]] #[] 1537 66 #[] #[])
  fields := #[]
  methods := #[]
  instanceTypes := #[]
  staticTypes := #[]
  resolved := Array.replicate 131 none
  statics := none }

def pool6 : Array CpInfo := pool [(1, .class_ 2), (0, u "java/lang/constant/Constable"), (0, .class_ 4), (0, u "java/lang/Object")] 6

/-- java/lang/constant/Constable -/
def k6 : Class := { plain "java/lang/constant/Constable" (some 0) with
  accessFlags := 1537
  interfaces := #[]
  cf := some (fileOf pool6 1 #[] #[] 1537 3 #[] #[])
  fields := #[]
  methods := #[]
  instanceTypes := #[]
  staticTypes := #[]
  resolved := Array.replicate 11 none
  statics := none }

def pool7 : Array CpInfo := pool [(1, .class_ 2), (0, u "java/lang/constant/ConstantDesc"), (0, .class_ 4), (0, u "java/lang/Object")] 32

/-- java/lang/constant/ConstantDesc -/
def k7 : Class := { plain "java/lang/constant/ConstantDesc" (some 0) with
  accessFlags := 1537
  interfaces := #[]
  cf := some (fileOf pool7 1 #[] #[] 1537 3 #[] #[])
  fields := #[]
  methods := #[]
  instanceTypes := #[]
  staticTypes := #[]
  resolved := Array.replicate 37 none
  statics := none }

def pool8 : Array CpInfo := pool [(1, .methodref 2 3), (0, .class_ 4), (0, .nameAndType 5 6), (0, u "java/lang/Object"), (0, u "<init>"), (0, u "()V"), (2, .fieldref 10 11), (0, .class_ 12), (0, .nameAndType 13 14), (0, u "java/lang/String"), (0, u "value"), (0, u "[B"), (0, .fieldref 10 16), (0, .nameAndType 17 18), (0, u "coder"), (0, u "B"), (2, u "hash"), (0, u "I"), (2, u "hashIsZero"), (0, u "Z"), (11, .fieldref 10 39), (0, .nameAndType 40 26), (0, u "COMPACT_STRINGS"), (1, .class_ 44), (1, u "java/lang/StringUTF16"), (8, u "toBytes"), (53, .class_ 109), (1, u "java/lang/StringLatin1"), (32, u "()Z"), (66, .methodref 10 210), (0, .nameAndType 5 211), (0, u "([BB)V"), (122, u "()I"), (0, .methodref 10 336), (0, .nameAndType 17 337), (0, u "()B"), (25, u "([BI)C"), (5, u "(C)Z"), (21, u "(II)V"), (35, u "(I)C"), (64, .methodref 10 493), (0, .nameAndType 494 142), (0, u "isLatin1"), (0, .methodref 107 496), (0, .nameAndType 497 363), (0, u "charAt"), (0, .methodref 42 496), (2, u "checkIndex"), (5, u "length"), (67, .class_ 576), (0, u "java/lang/CharSequence"), (22, u "CASE_INSENSITIVE_ORDER"), (0, u "Ljava/util/Comparator;"), (91, u "isEmpty"), (89, u "valueOf"), (0, u "(C)Ljava/lang/String;"), (231, .methodref 107 1016), (0, .nameAndType 1017 369), (0, u "canEncode"), (0, .methodref 107 1019), (0, .nameAndType 53 1020), (0, u "(C)[B"), (0, .methodref 42 1019), (31, .fieldref 1054 1055), (0, .class_ 1056), (0, .nameAndType 1057 1058), (0, u "jdk/internal/util/Preconditions"), (0, u "SIOOBE_FORMATTER"), (0, u "Ljava/util/function/BiFunction;"), (0, .methodref 1054 1060), (0, .nameAndType 501 1061), (0, u "(IILjava/util/function/BiFunction;)I"), (39, u "serialPersistentFields"), (0, u "[Ljava/io/ObjectStreamField;"), (0, .class_ 1104), (0, u "java/lang/String$CaseInsensitiveComparator"), (1, .class_ 1107), (0, u "java/io/Serializable"), (0, .class_ 1109), (0, u "java/lang/Comparable"), (0, .class_ 1111), (0, u "java/lang/constant/Constable"), (0, .class_ 1113), (0, u "java/lang/constant/ConstantDesc"), (2, u "serialVersionUID"), (0, u "J"), (3, u "REPL"), (0, u "C"), (2, u "LATIN1"), (1, u "UTF16")] 323

def k8m0 : Method := { name := "<init>", desc := "()V", sig := { parameters := [], returnType := none }, accessFlags := 1, code := none }
def k8c1 : Code := { maxStack := 2, maxLocals := 1, code := jdk_42_method_54_code, exceptionTable := #[], attributes := #[] }
def k8m1 : Method := { name := "length", desc := "()I", sig := { parameters := [], returnType := some .int }, accessFlags := 1, code := some k8c1 }
def k8c2 : Code := { maxStack := 1, maxLocals := 1, code := jdk_42_method_55_code, exceptionTable := #[], attributes := #[] }
def k8m2 : Method := { name := "isEmpty", desc := "()Z", sig := { parameters := [], returnType := some .boolean }, accessFlags := 1, code := some k8c2 }
def k8c3 : Code := { maxStack := 2, maxLocals := 2, code := jdk_42_method_56_code, exceptionTable := #[], attributes := #[] }
def k8m3 : Method := { name := "charAt", desc := "(I)C", sig := { parameters := [.int], returnType := some .char }, accessFlags := 1, code := some k8c3 }
def k8c4 : Code := { maxStack := 4, maxLocals := 1, code := jdk_42_method_139_code, exceptionTable := #[], attributes := #[] }
def k8m4 : Method := { name := "valueOf", desc := "(C)Ljava/lang/String;", sig := { parameters := [.char], returnType := some (.object "java/lang/String") }, accessFlags := 9, code := some k8c4 }
def k8c5 : Code := { maxStack := 2, maxLocals := 3, code := jdk_42_method_151_code, exceptionTable := #[], attributes := #[] }
def k8m5 : Method := { name := "<init>", desc := "([BB)V", sig := { parameters := [(.array .byte), .byte], returnType := none }, accessFlags := 0, code := some k8c5 }
def k8c6 : Code := { maxStack := 1, maxLocals := 1, code := jdk_42_method_152_code, exceptionTable := #[], attributes := #[] }
def k8m6 : Method := { name := "coder", desc := "()B", sig := { parameters := [], returnType := some .byte }, accessFlags := 0, code := some k8c6 }
def k8c7 : Code := { maxStack := 1, maxLocals := 1, code := jdk_42_method_154_code, exceptionTable := #[], attributes := #[] }
def k8m7 : Method := { name := "isLatin1", desc := "()Z", sig := { parameters := [], returnType := some .boolean }, accessFlags := 0, code := some k8c7 }
def k8c8 : Code := { maxStack := 3, maxLocals := 2, code := jdk_42_method_155_code, exceptionTable := #[], attributes := #[] }
def k8m8 : Method := { name := "checkIndex", desc := "(II)V", sig := { parameters := [.int, .int], returnType := none }, accessFlags := 8, code := some k8c8 }
/-- java/lang/String -/
def k8 : Class := { plain "java/lang/String" (some 0) with
  accessFlags := 49
  interfaces := #[3, 4, 5, 6, 7]
  cf := some (fileOf pool8 10 #[.nestMembers #[1103]] #[{ accessFlags := 1, nameIndex := 5, descriptorIndex := 6, attributes := #[] }, { accessFlags := 1, nameIndex := 507, descriptorIndex := 334, attributes := #[] }, { accessFlags := 1, nameIndex := 692, descriptorIndex := 142, attributes := #[] }, { accessFlags := 1, nameIndex := 497, descriptorIndex := 427, attributes := #[] }, { accessFlags := 9, nameIndex := 782, descriptorIndex := 783, attributes := #[] }, { accessFlags := 0, nameIndex := 5, descriptorIndex := 211, attributes := #[] }, { accessFlags := 0, nameIndex := 17, descriptorIndex := 337, attributes := #[] }, { accessFlags := 0, nameIndex := 494, descriptorIndex := 142, attributes := #[] }, { accessFlags := 8, nameIndex := 501, descriptorIndex := 391, attributes := #[] }] 49 2 #[1106, 1108, 575, 1110, 1112] #[{ accessFlags := 18, nameIndex := 13, descriptorIndex := 14, attributes := #[] }, { accessFlags := 18, nameIndex := 17, descriptorIndex := 18, attributes := #[] }, { accessFlags := 2, nameIndex := 21, descriptorIndex := 22, attributes := #[] }, { accessFlags := 2, nameIndex := 25, descriptorIndex := 26, attributes := #[] }, { accessFlags := 26, nameIndex := 1116, descriptorIndex := 1117, attributes := #[] }, { accessFlags := 24, nameIndex := 40, descriptorIndex := 26, attributes := #[] }, { accessFlags := 26, nameIndex := 1101, descriptorIndex := 1102, attributes := #[] }, { accessFlags := 26, nameIndex := 1121, descriptorIndex := 1122, attributes := #[] }, { accessFlags := 25, nameIndex := 599, descriptorIndex := 600, attributes := #[] }, { accessFlags := 24, nameIndex := 1125, descriptorIndex := 18, attributes := #[] }, { accessFlags := 24, nameIndex := 1127, descriptorIndex := 18, attributes := #[] }])
  fields := #[{ name := "value", type := (.array .byte), accessFlags := 18, slot := 0, constantValue := 0 }, { name := "coder", type := .byte, accessFlags := 18, slot := 1, constantValue := 0 }, { name := "hash", type := .int, accessFlags := 2, slot := 2, constantValue := 0 }, { name := "hashIsZero", type := .boolean, accessFlags := 2, slot := 3, constantValue := 0 }, { name := "serialVersionUID", type := .long, accessFlags := 26, slot := 0, constantValue := 0 }, { name := "COMPACT_STRINGS", type := .boolean, accessFlags := 24, slot := 1, constantValue := 0 }, { name := "serialPersistentFields", type := (.array (.object "java/io/ObjectStreamField")), accessFlags := 26, slot := 2, constantValue := 0 }, { name := "REPL", type := .char, accessFlags := 26, slot := 3, constantValue := 0 }, { name := "CASE_INSENSITIVE_ORDER", type := (.object "java/util/Comparator"), accessFlags := 25, slot := 4, constantValue := 0 }, { name := "LATIN1", type := .byte, accessFlags := 24, slot := 5, constantValue := 0 }, { name := "UTF16", type := .byte, accessFlags := 24, slot := 6, constantValue := 0 }]
  methods := #[k8m0, k8m1, k8m2, k8m3, k8m4, k8m5, k8m6, k8m7, k8m8]
  instanceTypes := #[(.array .byte), .byte, .int, .boolean]
  staticTypes := #[.long, .boolean, (.array (.object "java/io/ObjectStreamField")), .char, (.object "java/util/Comparator"), .byte, .byte]
  resolved := Array.replicate 1451 none
  statics := some 0 }

def pool9 : Array CpInfo := pool [(1, .class_ 2), (0, u "java/lang/String"), (1, .class_ 6), (1, u "java/lang/Object"), (0, u "<init>"), (0, u "()V"), (0, .methodref 1 10), (0, .nameAndType 11 12), (0, u "checkIndex"), (0, u "(II)V"), (1, .class_ 16), (1, u "java/lang/StringLatin1"), (36, u "([BI)C"), (36, u "canEncode"), (14, u "(C)Z"), (15, u "$assertionsDisabled"), (0, u "Z"), (98, .class_ 223), (1, u "java/lang/StringLatin1$LinesSpliterator"), (28, u "charAt"), (127, u "toBytes"), (1, u "(C)[B"), (7, .class_ 391), (0, u "java/lang/StringLatin1$CharsSpliterator")] 3

def k9m0 : Method := { name := "<init>", desc := "()V", sig := { parameters := [], returnType := none }, accessFlags := 0, code := none }
def k9c1 : Code := { maxStack := 2, maxLocals := 2, code := jdk_43_method_2_code, exceptionTable := #[], attributes := #[] }
def k9m1 : Method := { name := "charAt", desc := "([BI)C", sig := { parameters := [(.array .byte), .int], returnType := some .char }, accessFlags := 9, code := some k9c1 }
def k9c2 : Code := { maxStack := 2, maxLocals := 1, code := jdk_43_method_3_code, exceptionTable := #[], attributes := #[] }
def k9m2 : Method := { name := "canEncode", desc := "(C)Z", sig := { parameters := [.char], returnType := some .boolean }, accessFlags := 9, code := some k9c2 }
def k9c3 : Code := { maxStack := 4, maxLocals := 1, code := jdk_43_method_46_code, exceptionTable := #[], attributes := #[] }
def k9m3 : Method := { name := "toBytes", desc := "(C)[B", sig := { parameters := [.char], returnType := some (.array .byte) }, accessFlags := 9, code := some k9c3 }
/-- java/lang/StringLatin1 -/
def k9 : Class := { plain "java/lang/StringLatin1" (some 0) with
  accessFlags := 48
  interfaces := #[]
  cf := some (fileOf pool9 14 #[.nestMembers #[390, 221]] #[{ accessFlags := 0, nameIndex := 7, descriptorIndex := 8, attributes := #[] }, { accessFlags := 9, nameIndex := 252, descriptorIndex := 53, attributes := #[] }, { accessFlags := 9, nameIndex := 90, descriptorIndex := 105, attributes := #[] }, { accessFlags := 9, nameIndex := 380, descriptorIndex := 382, attributes := #[] }] 48 4 #[] #[{ accessFlags := 4120, nameIndex := 121, descriptorIndex := 122, attributes := #[] }])
  fields := #[{ name := "$assertionsDisabled", type := .boolean, accessFlags := 4120, slot := 0, constantValue := 0 }]
  methods := #[k9m0, k9m1, k9m2, k9m3]
  instanceTypes := #[]
  staticTypes := #[.boolean]
  resolved := Array.replicate 395 none
  statics := none }

def pool10 : Array CpInfo := pool [(2, .class_ 4), (1, u "java/lang/Object"), (0, u "<init>"), (0, u "()V"), (17, .class_ 26), (1, u "jdk/internal/util/Preconditions"), (6, u "checkIndex"), (21, .class_ 56), (0, u "jdk/internal/util/Preconditions$4"), (57, .class_ 115), (0, u "jdk/internal/util/Preconditions$1"), (7, u "SIOOBE_FORMATTER"), (0, u "Ljava/util/function/BiFunction;"), (0, .class_ 126), (0, u "jdk/internal/util/Preconditions$2"), (3, u "AIOOBE_FORMATTER"), (0, .class_ 132), (0, u "jdk/internal/util/Preconditions$3"), (3, u "IOOBE_FORMATTER"), (41, u "(IILjava/util/function/BiFunction;)I")] 15

def k10m0 : Method := { name := "<init>", desc := "()V", sig := { parameters := [], returnType := none }, accessFlags := 1, code := none }
def k10c1 : Code := { maxStack := 3, maxLocals := 3, code := jdk_41_method_11_code, exceptionTable := #[], attributes := #[] }
def k10m1 : Method := { name := "checkIndex", desc := "(IILjava/util/function/BiFunction;)I", sig := { parameters := [.int, .int, (.object "java/util/function/BiFunction")], returnType := some .int }, accessFlags := 9, code := some k10c1 }
/-- jdk/internal/util/Preconditions -/
def k10 : Class := { plain "jdk/internal/util/Preconditions" (some 0) with
  accessFlags := 33
  interfaces := #[]
  cf := some (fileOf pool10 24 #[.nestMembers #[55, 131, 125, 114]] #[{ accessFlags := 1, nameIndex := 5, descriptorIndex := 6, attributes := #[] }, { accessFlags := 9, nameIndex := 33, descriptorIndex := 178, attributes := #[] }] 33 2 #[] #[{ accessFlags := 25, nameIndex := 123, descriptorIndex := 124, attributes := #[] }, { accessFlags := 25, nameIndex := 130, descriptorIndex := 124, attributes := #[] }, { accessFlags := 25, nameIndex := 136, descriptorIndex := 124, attributes := #[] }])
  fields := #[{ name := "SIOOBE_FORMATTER", type := (.object "java/util/function/BiFunction"), accessFlags := 25, slot := 0, constantValue := 0 }, { name := "AIOOBE_FORMATTER", type := (.object "java/util/function/BiFunction"), accessFlags := 25, slot := 1, constantValue := 0 }, { name := "IOOBE_FORMATTER", type := (.object "java/util/function/BiFunction"), accessFlags := 25, slot := 2, constantValue := 0 }]
  methods := #[k10m0, k10m1]
  instanceTypes := #[]
  staticTypes := #[(.object "java/util/function/BiFunction"), (.object "java/util/function/BiFunction"), (.object "java/util/function/BiFunction")]
  resolved := Array.replicate 194 none
  statics := some 1 }

def pool11 : Array CpInfo := pool [(3, .class_ 4), (0, u "java/lang/String"), (1, .class_ 8), (1, u "java/lang/Object"), (0, u "<init>"), (0, u "()V"), (1, .class_ 14), (1, u "java/lang/StringUTF16"), (29, .fieldref 12 45), (0, .nameAndType 46 47), (0, u "$assertionsDisabled"), (0, u "Z"), (0, .methodref 12 49), (0, .nameAndType 50 51), (0, u "length"), (0, u "([B)I"), (7, .fieldref 12 60), (0, .nameAndType 61 62), (0, u "HI_BYTE_SHIFT"), (0, u "I"), (0, .fieldref 12 64), (0, .nameAndType 65 62), (0, u "LO_BYTE_SHIFT"), (1, .methodref 12 68), (0, .nameAndType 69 70), (0, u "checkIndex"), (0, u "(I[B)V"), (0, .methodref 12 72), (0, .nameAndType 73 74), (0, u "getChar"), (0, u "([BI)C"), (36, .methodref 12 112), (0, .nameAndType 113 114), (0, u "putChar"), (0, u "([BII)V"), (6, u "toBytes"), (247, .class_ 371), (1, u "java/lang/StringUTF16$LinesSpliterator"), (20, u "charAt"), (21, .methodref 3 415), (0, .nameAndType 69 416), (0, u "(II)V"), (13, u "MAX_LENGTH"), (44, u "(C)[B"), (151, .class_ 628), (0, u "java/lang/StringUTF16$CodePointsSpliterator"), (0, .class_ 630), (0, u "java/lang/StringUTF16$CharsSpliterator")] 4

def k11m0 : Method := { name := "<init>", desc := "()V", sig := { parameters := [], returnType := none }, accessFlags := 0, code := none }
def k11c1 : Code := { maxStack := 4, maxLocals := 3, code := jdk_52_method_4_code, exceptionTable := #[], attributes := #[] }
def k11m1 : Method := { name := "putChar", desc := "([BII)V", sig := { parameters := [(.array .byte), .int, .int], returnType := none }, accessFlags := 8, code := some k11c1 }
def k11c2 : Code := { maxStack := 3, maxLocals := 2, code := jdk_52_method_5_code, exceptionTable := #[], attributes := #[] }
def k11m2 : Method := { name := "getChar", desc := "([BI)C", sig := { parameters := [(.array .byte), .int], returnType := some .char }, accessFlags := 8, code := some k11c2 }
def k11c3 : Code := { maxStack := 2, maxLocals := 1, code := jdk_52_method_6_code, exceptionTable := #[], attributes := #[] }
def k11m3 : Method := { name := "length", desc := "([B)I", sig := { parameters := [(.array .byte)], returnType := some .int }, accessFlags := 9, code := some k11c3 }
def k11c4 : Code := { maxStack := 3, maxLocals := 2, code := jdk_52_method_24_code, exceptionTable := #[], attributes := #[] }
def k11m4 : Method := { name := "toBytes", desc := "(C)[B", sig := { parameters := [.char], returnType := some (.array .byte) }, accessFlags := 9, code := some k11c4 }
def k11c5 : Code := { maxStack := 2, maxLocals := 2, code := jdk_52_method_83_code, exceptionTable := #[], attributes := #[] }
def k11m5 : Method := { name := "charAt", desc := "([BI)C", sig := { parameters := [(.array .byte), .int], returnType := some .char }, accessFlags := 9, code := some k11c5 }
def k11c6 : Code := { maxStack := 2, maxLocals := 2, code := jdk_52_method_91_code, exceptionTable := #[], attributes := #[] }
def k11m6 : Method := { name := "checkIndex", desc := "(I[B)V", sig := { parameters := [.int, (.array .byte)], returnType := none }, accessFlags := 9, code := some k11c6 }
/-- java/lang/StringUTF16 -/
def k11 : Class := { plain "java/lang/StringUTF16" (some 0) with
  accessFlags := 48
  interfaces := #[]
  cf := some (fileOf pool11 12 #[.nestMembers #[627, 629, 369]] #[{ accessFlags := 0, nameIndex := 9, descriptorIndex := 10, attributes := #[] }, { accessFlags := 8, nameIndex := 113, descriptorIndex := 114, attributes := #[] }, { accessFlags := 8, nameIndex := 73, descriptorIndex := 74, attributes := #[] }, { accessFlags := 9, nameIndex := 50, descriptorIndex := 51, attributes := #[] }, { accessFlags := 9, nameIndex := 121, descriptorIndex := 475, attributes := #[] }, { accessFlags := 9, nameIndex := 392, descriptorIndex := 74, attributes := #[] }, { accessFlags := 9, nameIndex := 69, descriptorIndex := 70, attributes := #[] }] 48 6 #[] #[{ accessFlags := 26, nameIndex := 61, descriptorIndex := 62, attributes := #[] }, { accessFlags := 26, nameIndex := 65, descriptorIndex := 62, attributes := #[] }, { accessFlags := 24, nameIndex := 430, descriptorIndex := 62, attributes := #[] }, { accessFlags := 4120, nameIndex := 46, descriptorIndex := 47, attributes := #[] }])
  fields := #[{ name := "HI_BYTE_SHIFT", type := .int, accessFlags := 26, slot := 0, constantValue := 0 }, { name := "LO_BYTE_SHIFT", type := .int, accessFlags := 26, slot := 1, constantValue := 0 }, { name := "MAX_LENGTH", type := .int, accessFlags := 24, slot := 2, constantValue := 0 }, { name := "$assertionsDisabled", type := .boolean, accessFlags := 4120, slot := 3, constantValue := 0 }]
  methods := #[k11m0, k11m1, k11m2, k11m3, k11m4, k11m5, k11m6]
  instanceTypes := #[]
  staticTypes := #[.int, .int, .int, .boolean]
  resolved := Array.replicate 635 none
  statics := some 2 }

def pool12 : Array CpInfo := pool [(9, u "<init>"), (6, .class_ 18), (1, u "java/lang/Object"), (0, u "()V"), (1, .class_ 23), (1, u "jdk/internal/util/ArraysSupport"), (0, u "LOG2_ARRAY_LONG_INDEX_SCALE"), (0, u "I"), (2, u "U"), (0, u "Ljdk/internal/misc/Unsafe;"), (8, u "BIG_ENDIAN"), (0, u "Z"), (8, u "LOG2_BYTE_BIT_SIZE"), (4, u "LOG2_ARRAY_INT_INDEX_SCALE"), (54, u "JLA"), (0, u "Ljdk/internal/access/JavaLangAccess;"), (11, u "LOG2_ARRAY_BOOLEAN_INDEX_SCALE"), (9, u "LOG2_ARRAY_BYTE_INDEX_SCALE"), (5, u "LOG2_ARRAY_CHAR_INDEX_SCALE"), (5, u "LOG2_ARRAY_SHORT_INDEX_SCALE"), (18, u "LOG2_ARRAY_FLOAT_INDEX_SCALE"), (24, u "LOG2_ARRAY_DOUBLE_INDEX_SCALE"), (89, u "T_BOOLEAN"), (2, u "T_CHAR"), (1, u "T_FLOAT"), (1, u "T_DOUBLE"), (1, u "T_BYTE"), (1, u "T_SHORT"), (1, u "T_INT"), (1, u "T_LONG"), (1, u "SOFT_MAX_ARRAY_LENGTH")] 83

def k12m0 : Method := { name := "<init>", desc := "()V", sig := { parameters := [], returnType := none }, accessFlags := 2, code := none }
/-- jdk/internal/util/ArraysSupport -/
def k12 : Class := { plain "jdk/internal/util/ArraysSupport" (some 0) with
  accessFlags := 33
  interfaces := #[]
  cf := some (fileOf pool12 21 #[] #[{ accessFlags := 2, nameIndex := 9, descriptorIndex := 19, attributes := #[] }] 33 16 #[] #[{ accessFlags := 24, nameIndex := 28, descriptorIndex := 29, attributes := #[] }, { accessFlags := 26, nameIndex := 38, descriptorIndex := 39, attributes := #[] }, { accessFlags := 25, nameIndex := 121, descriptorIndex := 25, attributes := #[] }, { accessFlags := 25, nameIndex := 131, descriptorIndex := 25, attributes := #[] }, { accessFlags := 25, nameIndex := 137, descriptorIndex := 25, attributes := #[] }, { accessFlags := 25, nameIndex := 143, descriptorIndex := 25, attributes := #[] }, { accessFlags := 25, nameIndex := 53, descriptorIndex := 25, attributes := #[] }, { accessFlags := 25, nameIndex := 24, descriptorIndex := 25, attributes := #[] }, { accessFlags := 25, nameIndex := 162, descriptorIndex := 25, attributes := #[] }, { accessFlags := 25, nameIndex := 187, descriptorIndex := 25, attributes := #[] }, { accessFlags := 26, nameIndex := 48, descriptorIndex := 25, attributes := #[] }, { accessFlags := 25, nameIndex := 277, descriptorIndex := 25, attributes := #[] }, { accessFlags := 25, nameIndex := 280, descriptorIndex := 25, attributes := #[] }, { accessFlags := 25, nameIndex := 282, descriptorIndex := 25, attributes := #[] }, { accessFlags := 25, nameIndex := 284, descriptorIndex := 25, attributes := #[] }, { accessFlags := 25, nameIndex := 286, descriptorIndex := 25, attributes := #[] }, { accessFlags := 25, nameIndex := 288, descriptorIndex := 25, attributes := #[] }, { accessFlags := 25, nameIndex := 290, descriptorIndex := 25, attributes := #[] }, { accessFlags := 25, nameIndex := 292, descriptorIndex := 25, attributes := #[] }, { accessFlags := 26, nameIndex := 108, descriptorIndex := 109, attributes := #[] }, { accessFlags := 25, nameIndex := 294, descriptorIndex := 25, attributes := #[] }])
  fields := #[{ name := "U", type := (.object "jdk/internal/misc/Unsafe"), accessFlags := 24, slot := 0, constantValue := 0 }, { name := "BIG_ENDIAN", type := .boolean, accessFlags := 26, slot := 1, constantValue := 0 }, { name := "LOG2_ARRAY_BOOLEAN_INDEX_SCALE", type := .int, accessFlags := 25, slot := 2, constantValue := 0 }, { name := "LOG2_ARRAY_BYTE_INDEX_SCALE", type := .int, accessFlags := 25, slot := 3, constantValue := 0 }, { name := "LOG2_ARRAY_CHAR_INDEX_SCALE", type := .int, accessFlags := 25, slot := 4, constantValue := 0 }, { name := "LOG2_ARRAY_SHORT_INDEX_SCALE", type := .int, accessFlags := 25, slot := 5, constantValue := 0 }, { name := "LOG2_ARRAY_INT_INDEX_SCALE", type := .int, accessFlags := 25, slot := 6, constantValue := 0 }, { name := "LOG2_ARRAY_LONG_INDEX_SCALE", type := .int, accessFlags := 25, slot := 7, constantValue := 0 }, { name := "LOG2_ARRAY_FLOAT_INDEX_SCALE", type := .int, accessFlags := 25, slot := 8, constantValue := 0 }, { name := "LOG2_ARRAY_DOUBLE_INDEX_SCALE", type := .int, accessFlags := 25, slot := 9, constantValue := 0 }, { name := "LOG2_BYTE_BIT_SIZE", type := .int, accessFlags := 26, slot := 10, constantValue := 0 }, { name := "T_BOOLEAN", type := .int, accessFlags := 25, slot := 11, constantValue := 0 }, { name := "T_CHAR", type := .int, accessFlags := 25, slot := 12, constantValue := 0 }, { name := "T_FLOAT", type := .int, accessFlags := 25, slot := 13, constantValue := 0 }, { name := "T_DOUBLE", type := .int, accessFlags := 25, slot := 14, constantValue := 0 }, { name := "T_BYTE", type := .int, accessFlags := 25, slot := 15, constantValue := 0 }, { name := "T_SHORT", type := .int, accessFlags := 25, slot := 16, constantValue := 0 }, { name := "T_INT", type := .int, accessFlags := 25, slot := 17, constantValue := 0 }, { name := "T_LONG", type := .int, accessFlags := 25, slot := 18, constantValue := 0 }, { name := "JLA", type := (.object "jdk/internal/access/JavaLangAccess"), accessFlags := 26, slot := 19, constantValue := 0 }, { name := "SOFT_MAX_ARRAY_LENGTH", type := .int, accessFlags := 25, slot := 20, constantValue := 0 }]
  methods := #[k12m0]
  instanceTypes := #[]
  staticTypes := #[(.object "jdk/internal/misc/Unsafe"), .boolean, .int, .int, .int, .int, .int, .int, .int, .int, .int, .int, .int, .int, .int, .int, .int, .int, .int, (.object "jdk/internal/access/JavaLangAccess"), .int]
  resolved := Array.replicate 378 none
  statics := none }

def pool13 : Array CpInfo := pool [(1, u "java/lang/Cloneable"), (0, .class_ 1), (0, u "java/lang/Object"), (0, .class_ 3)] 3

/-- java/lang/Cloneable -/
def k13 : Class := { plain "java/lang/Cloneable" (some 0) with
  accessFlags := 1537
  interfaces := #[]
  cf := some (fileOf pool13 2 #[] #[] 1537 4 #[] #[])
  fields := #[]
  methods := #[]
  instanceTypes := #[]
  staticTypes := #[]
  resolved := Array.replicate 8 none
  statics := none }

/-- the primitive byte -/
def k14 : Class := { plain "byte" none with kind := .primitive 'B', accessFlags := 0x411 }
/-- [B -/
def k15 : Class := { plain "[B" (some 0) with kind := .array 14 .byte, interfaces := #[13, 3], accessFlags := 1041 }

/-- the primitive int -/
def k16 : Class := { plain "int" none with kind := .primitive 'I', accessFlags := 0x411 }
/-- [I -/
def k17 : Class := { plain "[I" (some 0) with kind := .array 16 .int, interfaces := #[13, 3], accessFlags := 1041 }

def heap : Heap := #[{ cls := 8, slots := #[.long 0, .int 1, .null, .int 0, .null, .int 0, .int 0], vm := .statics 8 },
  { cls := 10, slots := #[.null, .null, .null], vm := .statics 10 },
  { cls := 11, slots := #[.int 0, .int 8, .int 0, .int 1], vm := .statics 11 }]
def classes : Array Class := #[k0, k1, k2, k3, k4, k5, k6, k7, k8, k9, k10, k11, k12, k13, k14, k15, k16, k17]
def interned : List (Array UInt16 × Addr) := []
def slotsUsed : Nat := 14
def theMethod : MethodId := ⟨1, 1⟩
def args0 : Array Value := #[.int 97]
def aboutOver (below : List Frame) : State where
  vm := { classes := classes, interned := interned.toArray }
  heap := heap
  slotsUsed := slotsUsed
  threads := #[{ frames := .invoking theMethod args0 :: below }]
def below0 : List Frame := [.native { method := ⟨0, 0⟩, args := #[] }]
def about1 : State := aboutOver below0
def p0 : Program := .bare "" "" ""
def e0 : Env := launch0.env 0 0 0
theorem w_frames : about1.frames = Frame.invoking theMethod args0 :: below0 := rfl
set_option maxRecDepth 65536 in
theorem w_args : argsFit about1.vm theMethod args0 = true := by decide +kernel
set_option maxRecDepth 65536 in
theorem w_heap : heapFits about1 = true := by decide +kernel
set_option maxRecDepth 65536 in
theorem w_runnable : about1.curStatus? = some .runnable := by decide +kernel
set_option maxRecDepth 65536 in
theorem w_alone : about1.alone = true := by decide +kernel
set_option maxRecDepth 65536 in
theorem w_named : about1.methodNamed? x = some theMethod := by decide +kernel
set_option maxRecDepth 65536 in
theorem w_hears : about1.hears theMethod below0 = true := by decide +kernel
set_option maxRecDepth 65536 in
theorem w_ripe : about1.ripe theMethod args0 below0 = true := by decide +kernel
theorem w_running : about1.status = .running := rfl
set_option maxRecDepth 65536 in
theorem w_room : about1.hasRoom e0.platform room_1 = true :=
  launch0.hasRoom_least _ room_1 (by decide +kernel) (by decide +kernel) (by decide +kernel) (by decide +kernel) (by decide +kernel) (by decide +kernel)
theorem allAtoms_all (ts : List Jvm.Cond) (a : Array Jvm.Value) (st : Jvm.State) : (allAtoms ts).before a st = ts.all (fun c => c.before a st) := by
  induction ts with
  | nil => rfl
  | cons c t ih =>
    show (Jvm.Cond.and c (allAtoms t)).before a st = _
    rw [Jvm.Cond.before_and, ih, List.all_cons]
def words1 : List Jvm.Cond := Jvm.Cond.code x code maxLocals ret :: tables_1
/-- a 'code' word, met by the world's own term for the bytes: nothing is compared byte by byte -/
theorem code_word {y : MethodName} {bytes : ByteArray} {mx : Nat} {rt : Option FieldType} {a : Array Value} {s : State} {m : MethodId} {meth : Method} {c : Code} (h1 : s.methodNamed? y = some m) (h2 : s.vm.method? m = some meth) (h3 : meth.code = some c) (h4 : c.code = bytes)
    (h5 : (c.maxLocals == mx && c.exceptionTable.isEmpty && decide (c.maxStack ≤ mostOperands) && decide (meth.sig.returnType = rt) && !meth.locks && decide (parseMethodDescriptor y.desc = some meth.sig)) = true) : (Jvm.Cond.code y bytes mx rt).before a s = true := by
  simp only [Bool.and_eq_true, beq_iff_eq, Bool.not_eq_true', decide_eq_true_eq] at h5
  obtain ⟨⟨⟨⟨⟨g1, g2⟩, g3⟩, g4⟩, g5⟩, g6⟩ := h5
  simp [Cond.before, Cond.holds, Cond.value, h1, h2, h3, h4, g1, g2, g3, g4, g5, g6]
def isCode : Jvm.Cond → Bool
  | .code _ _ _ _ => true
  | _ => false
theorem all_split {L : List Jvm.Cond} {P : Jvm.Cond → Bool} (h1 : L.all (fun c => isCode c || P c) = true) (h2 : ∀ c ∈ L.filter isCode, P c = true) : L.all P = true := by
  refine List.all_eq_true.mpr fun c hc => ?_
  have h := List.all_eq_true.mp h1 c hc
  rcases Bool.eq_false_or_eq_true (isCode c) with hi | hi
  · exact h2 c (List.mem_filter.mpr ⟨hc, hi⟩)
  · simpa [hi] using h
set_option maxRecDepth 65536 in
theorem w_c0 : (Jvm.Cond.code x code maxLocals ret).before args0 about1 = true := code_word (m := ⟨1, 1⟩) (meth := k1m1) (c := k1c1) (by decide +kernel) rfl rfl rfl (by decide +kernel)
set_option maxRecDepth 65536 in
theorem w_c1 : (Jvm.Cond.code ({ cls := "com/example/ringd/ringd/core/Tags", name := "isStart", desc := "(C)Z" } : Jvm.MethodName) prog_115_method_2_code (1 : Nat) (Option.some Jvm.ClassFile.FieldType.boolean)).before args0 about1 = true := code_word (m := ⟨2, 1⟩) (meth := k2m1) (c := k2c1) (by decide +kernel) rfl rfl rfl (by decide +kernel)
set_option maxRecDepth 65536 in
theorem w_c2 : (Jvm.Cond.code ({ cls := "java/lang/String", name := "valueOf", desc := "(C)Ljava/lang/String;" } : Jvm.MethodName) jdk_42_method_139_code (1 : Nat) (Option.some (Jvm.ClassFile.FieldType.object "java/lang/String"))).before args0 about1 = true := code_word (m := ⟨8, 4⟩) (meth := k8m4) (c := k8c4) (by decide +kernel) rfl rfl rfl (by decide +kernel)
set_option maxRecDepth 65536 in
theorem w_c3 : (Jvm.Cond.code ({ cls := "java/lang/StringLatin1", name := "canEncode", desc := "(C)Z" } : Jvm.MethodName) jdk_43_method_3_code (1 : Nat) (Option.some Jvm.ClassFile.FieldType.boolean)).before args0 about1 = true := code_word (m := ⟨9, 2⟩) (meth := k9m2) (c := k9c2) (by decide +kernel) rfl rfl rfl (by decide +kernel)
set_option maxRecDepth 65536 in
theorem w_c4 : (Jvm.Cond.code ({ cls := "java/lang/StringLatin1", name := "toBytes", desc := "(C)[B" } : Jvm.MethodName) jdk_43_method_46_code (1 : Nat) (Option.some (Jvm.ClassFile.FieldType.array Jvm.ClassFile.FieldType.byte))).before args0 about1 = true := code_word (m := ⟨9, 3⟩) (meth := k9m3) (c := k9c3) (by decide +kernel) rfl rfl rfl (by decide +kernel)
set_option maxRecDepth 65536 in
theorem w_c5 : (Jvm.Cond.code ({ cls := "java/lang/String", name := "<init>", desc := "([BB)V" } : Jvm.MethodName) jdk_42_method_151_code (3 : Nat) (Option.none : Option Jvm.ClassFile.FieldType)).before args0 about1 = true := code_word (m := ⟨8, 5⟩) (meth := k8m5) (c := k8c5) (by decide +kernel) rfl rfl rfl (by decide +kernel)
set_option maxRecDepth 65536 in
theorem w_c6 : (Jvm.Cond.code ({ cls := "java/lang/Object", name := "<init>", desc := "()V" } : Jvm.MethodName) object_method_1_code (1 : Nat) (Option.none : Option Jvm.ClassFile.FieldType)).before args0 about1 = true := code_word (m := ⟨0, 0⟩) (meth := k0m0) (c := k0c0) (by decide +kernel) rfl rfl rfl (by decide +kernel)
set_option maxRecDepth 65536 in
theorem w_c7 : (Jvm.Cond.code ({ cls := "com/example/ringd/ringd/core/Tags", name := "isTag", desc := "(Ljava/lang/String;)Z" } : Jvm.MethodName) prog_115_method_4_code (2 : Nat) (Option.some Jvm.ClassFile.FieldType.boolean)).before args0 about1 = true := code_word (m := ⟨2, 3⟩) (meth := k2m3) (c := k2c3) (by decide +kernel) rfl rfl rfl (by decide +kernel)
set_option maxRecDepth 65536 in
theorem w_c8 : (Jvm.Cond.code ({ cls := "java/lang/String", name := "isEmpty", desc := "()Z" } : Jvm.MethodName) jdk_42_method_55_code (1 : Nat) (Option.some Jvm.ClassFile.FieldType.boolean)).before args0 about1 = true := code_word (m := ⟨8, 2⟩) (meth := k8m2) (c := k8c2) (by decide +kernel) rfl rfl rfl (by decide +kernel)
set_option maxRecDepth 65536 in
theorem w_c9 : (Jvm.Cond.code ({ cls := "java/lang/String", name := "charAt", desc := "(I)C" } : Jvm.MethodName) jdk_42_method_56_code (2 : Nat) (Option.some Jvm.ClassFile.FieldType.char)).before args0 about1 = true := code_word (m := ⟨8, 3⟩) (meth := k8m3) (c := k8c3) (by decide +kernel) rfl rfl rfl (by decide +kernel)
set_option maxRecDepth 65536 in
theorem w_c10 : (Jvm.Cond.code ({ cls := "java/lang/String", name := "isLatin1", desc := "()Z" } : Jvm.MethodName) jdk_42_method_154_code (1 : Nat) (Option.some Jvm.ClassFile.FieldType.boolean)).before args0 about1 = true := code_word (m := ⟨8, 7⟩) (meth := k8m7) (c := k8c7) (by decide +kernel) rfl rfl rfl (by decide +kernel)
set_option maxRecDepth 65536 in
theorem w_c11 : (Jvm.Cond.code ({ cls := "java/lang/StringLatin1", name := "charAt", desc := "([BI)C" } : Jvm.MethodName) jdk_43_method_2_code (2 : Nat) (Option.some Jvm.ClassFile.FieldType.char)).before args0 about1 = true := code_word (m := ⟨9, 1⟩) (meth := k9m1) (c := k9c1) (by decide +kernel) rfl rfl rfl (by decide +kernel)
set_option maxRecDepth 65536 in
theorem w_c12 : (Jvm.Cond.code ({ cls := "java/lang/String", name := "checkIndex", desc := "(II)V" } : Jvm.MethodName) jdk_42_method_155_code (2 : Nat) (Option.none : Option Jvm.ClassFile.FieldType)).before args0 about1 = true := code_word (m := ⟨8, 8⟩) (meth := k8m8) (c := k8c8) (by decide +kernel) rfl rfl rfl (by decide +kernel)
set_option maxRecDepth 65536 in
theorem w_c13 : (Jvm.Cond.code ({ cls := "jdk/internal/util/Preconditions", name := "checkIndex", desc := "(IILjava/util/function/BiFunction;)I" } : Jvm.MethodName) jdk_41_method_11_code (3 : Nat) (Option.some Jvm.ClassFile.FieldType.int)).before args0 about1 = true := code_word (m := ⟨10, 1⟩) (meth := k10m1) (c := k10c1) (by decide +kernel) rfl rfl rfl (by decide +kernel)
set_option maxRecDepth 65536 in
theorem w_c14 : (Jvm.Cond.code ({ cls := "com/example/ringd/ringd/core/Tags", name := "isPart", desc := "(C)Z" } : Jvm.MethodName) prog_115_method_3_code (1 : Nat) (Option.some Jvm.ClassFile.FieldType.boolean)).before args0 about1 = true := code_word (m := ⟨2, 2⟩) (meth := k2m2) (c := k2c2) (by decide +kernel) rfl rfl rfl (by decide +kernel)
set_option maxRecDepth 65536 in
theorem w_c15 : (Jvm.Cond.code ({ cls := "java/lang/String", name := "length", desc := "()I" } : Jvm.MethodName) jdk_42_method_54_code (1 : Nat) (Option.some Jvm.ClassFile.FieldType.int)).before args0 about1 = true := code_word (m := ⟨8, 1⟩) (meth := k8m1) (c := k8c1) (by decide +kernel) rfl rfl rfl (by decide +kernel)
set_option maxRecDepth 65536 in
theorem w_c16 : (Jvm.Cond.code ({ cls := "java/lang/String", name := "coder", desc := "()B" } : Jvm.MethodName) jdk_42_method_152_code (1 : Nat) (Option.some Jvm.ClassFile.FieldType.byte)).before args0 about1 = true := code_word (m := ⟨8, 6⟩) (meth := k8m6) (c := k8c6) (by decide +kernel) rfl rfl rfl (by decide +kernel)
set_option maxRecDepth 65536 in
theorem w_c17 : (Jvm.Cond.code ({ cls := "java/lang/StringUTF16", name := "toBytes", desc := "(C)[B" } : Jvm.MethodName) jdk_52_method_24_code (2 : Nat) (Option.some (Jvm.ClassFile.FieldType.array Jvm.ClassFile.FieldType.byte))).before args0 about1 = true := code_word (m := ⟨11, 4⟩) (meth := k11m4) (c := k11c4) (by decide +kernel) rfl rfl rfl (by decide +kernel)
set_option maxRecDepth 65536 in
theorem w_c18 : (Jvm.Cond.code ({ cls := "java/lang/StringUTF16", name := "putChar", desc := "([BII)V" } : Jvm.MethodName) jdk_52_method_4_code (3 : Nat) (Option.none : Option Jvm.ClassFile.FieldType)).before args0 about1 = true := code_word (m := ⟨11, 1⟩) (meth := k11m1) (c := k11c1) (by decide +kernel) rfl rfl rfl (by decide +kernel)
set_option maxRecDepth 65536 in
theorem w_c19 : (Jvm.Cond.code ({ cls := "java/lang/StringUTF16", name := "charAt", desc := "([BI)C" } : Jvm.MethodName) jdk_52_method_83_code (2 : Nat) (Option.some Jvm.ClassFile.FieldType.char)).before args0 about1 = true := code_word (m := ⟨11, 5⟩) (meth := k11m5) (c := k11c5) (by decide +kernel) rfl rfl rfl (by decide +kernel)
set_option maxRecDepth 65536 in
theorem w_c20 : (Jvm.Cond.code ({ cls := "java/lang/StringUTF16", name := "checkIndex", desc := "(I[B)V" } : Jvm.MethodName) jdk_52_method_91_code (2 : Nat) (Option.none : Option Jvm.ClassFile.FieldType)).before args0 about1 = true := code_word (m := ⟨11, 6⟩) (meth := k11m6) (c := k11c6) (by decide +kernel) rfl rfl rfl (by decide +kernel)
set_option maxRecDepth 65536 in
theorem w_c21 : (Jvm.Cond.code ({ cls := "java/lang/StringUTF16", name := "length", desc := "([B)I" } : Jvm.MethodName) jdk_52_method_6_code (1 : Nat) (Option.some Jvm.ClassFile.FieldType.int)).before args0 about1 = true := code_word (m := ⟨11, 3⟩) (meth := k11m3) (c := k11c3) (by decide +kernel) rfl rfl rfl (by decide +kernel)
set_option maxRecDepth 65536 in
theorem w_c22 : (Jvm.Cond.code ({ cls := "java/lang/StringUTF16", name := "getChar", desc := "([BI)C" } : Jvm.MethodName) jdk_52_method_5_code (2 : Nat) (Option.some Jvm.ClassFile.FieldType.char)).before args0 about1 = true := code_word (m := ⟨11, 2⟩) (meth := k11m2) (c := k11c2) (by decide +kernel) rfl rfl rfl (by decide +kernel)
def codes1 : List Jvm.Cond := [Jvm.Cond.code x code maxLocals ret, Jvm.Cond.code ({ cls := "com/example/ringd/ringd/core/Tags", name := "isStart", desc := "(C)Z" } : Jvm.MethodName) prog_115_method_2_code (1 : Nat) (Option.some Jvm.ClassFile.FieldType.boolean), Jvm.Cond.code ({ cls := "java/lang/String", name := "valueOf", desc := "(C)Ljava/lang/String;" } : Jvm.MethodName) jdk_42_method_139_code (1 : Nat) (Option.some (Jvm.ClassFile.FieldType.object "java/lang/String")), Jvm.Cond.code ({ cls := "java/lang/StringLatin1", name := "canEncode", desc := "(C)Z" } : Jvm.MethodName) jdk_43_method_3_code (1 : Nat) (Option.some Jvm.ClassFile.FieldType.boolean), Jvm.Cond.code ({ cls := "java/lang/StringLatin1", name := "toBytes", desc := "(C)[B" } : Jvm.MethodName) jdk_43_method_46_code (1 : Nat) (Option.some (Jvm.ClassFile.FieldType.array Jvm.ClassFile.FieldType.byte)), Jvm.Cond.code ({ cls := "java/lang/String", name := "<init>", desc := "([BB)V" } : Jvm.MethodName) jdk_42_method_151_code (3 : Nat) (Option.none : Option Jvm.ClassFile.FieldType), Jvm.Cond.code ({ cls := "java/lang/Object", name := "<init>", desc := "()V" } : Jvm.MethodName) object_method_1_code (1 : Nat) (Option.none : Option Jvm.ClassFile.FieldType), Jvm.Cond.code ({ cls := "com/example/ringd/ringd/core/Tags", name := "isTag", desc := "(Ljava/lang/String;)Z" } : Jvm.MethodName) prog_115_method_4_code (2 : Nat) (Option.some Jvm.ClassFile.FieldType.boolean), Jvm.Cond.code ({ cls := "java/lang/String", name := "isEmpty", desc := "()Z" } : Jvm.MethodName) jdk_42_method_55_code (1 : Nat) (Option.some Jvm.ClassFile.FieldType.boolean), Jvm.Cond.code ({ cls := "java/lang/String", name := "charAt", desc := "(I)C" } : Jvm.MethodName) jdk_42_method_56_code (2 : Nat) (Option.some Jvm.ClassFile.FieldType.char), Jvm.Cond.code ({ cls := "java/lang/String", name := "isLatin1", desc := "()Z" } : Jvm.MethodName) jdk_42_method_154_code (1 : Nat) (Option.some Jvm.ClassFile.FieldType.boolean), Jvm.Cond.code ({ cls := "java/lang/StringLatin1", name := "charAt", desc := "([BI)C" } : Jvm.MethodName) jdk_43_method_2_code (2 : Nat) (Option.some Jvm.ClassFile.FieldType.char), Jvm.Cond.code ({ cls := "java/lang/String", name := "checkIndex", desc := "(II)V" } : Jvm.MethodName) jdk_42_method_155_code (2 : Nat) (Option.none : Option Jvm.ClassFile.FieldType), Jvm.Cond.code ({ cls := "jdk/internal/util/Preconditions", name := "checkIndex", desc := "(IILjava/util/function/BiFunction;)I" } : Jvm.MethodName) jdk_41_method_11_code (3 : Nat) (Option.some Jvm.ClassFile.FieldType.int), Jvm.Cond.code ({ cls := "com/example/ringd/ringd/core/Tags", name := "isPart", desc := "(C)Z" } : Jvm.MethodName) prog_115_method_3_code (1 : Nat) (Option.some Jvm.ClassFile.FieldType.boolean), Jvm.Cond.code ({ cls := "java/lang/String", name := "length", desc := "()I" } : Jvm.MethodName) jdk_42_method_54_code (1 : Nat) (Option.some Jvm.ClassFile.FieldType.int), Jvm.Cond.code ({ cls := "java/lang/String", name := "coder", desc := "()B" } : Jvm.MethodName) jdk_42_method_152_code (1 : Nat) (Option.some Jvm.ClassFile.FieldType.byte), Jvm.Cond.code ({ cls := "java/lang/StringUTF16", name := "toBytes", desc := "(C)[B" } : Jvm.MethodName) jdk_52_method_24_code (2 : Nat) (Option.some (Jvm.ClassFile.FieldType.array Jvm.ClassFile.FieldType.byte)), Jvm.Cond.code ({ cls := "java/lang/StringUTF16", name := "putChar", desc := "([BII)V" } : Jvm.MethodName) jdk_52_method_4_code (3 : Nat) (Option.none : Option Jvm.ClassFile.FieldType), Jvm.Cond.code ({ cls := "java/lang/StringUTF16", name := "charAt", desc := "([BI)C" } : Jvm.MethodName) jdk_52_method_83_code (2 : Nat) (Option.some Jvm.ClassFile.FieldType.char), Jvm.Cond.code ({ cls := "java/lang/StringUTF16", name := "checkIndex", desc := "(I[B)V" } : Jvm.MethodName) jdk_52_method_91_code (2 : Nat) (Option.none : Option Jvm.ClassFile.FieldType), Jvm.Cond.code ({ cls := "java/lang/StringUTF16", name := "length", desc := "([B)I" } : Jvm.MethodName) jdk_52_method_6_code (1 : Nat) (Option.some Jvm.ClassFile.FieldType.int), Jvm.Cond.code ({ cls := "java/lang/StringUTF16", name := "getChar", desc := "([BI)C" } : Jvm.MethodName) jdk_52_method_5_code (2 : Nat) (Option.some Jvm.ClassFile.FieldType.char)]
set_option maxRecDepth 65536 in
theorem codes_eq : words1.filter isCode = codes1 := rfl
theorem w_codes : ∀ c ∈ words1.filter isCode, c.before args0 about1 = true := by
  rw [codes_eq]
  intro c hc
  simp only [codes1, List.mem_cons, List.not_mem_nil, or_false] at hc
  rcases hc with rfl | rfl | rfl | rfl | rfl | rfl | rfl | rfl | rfl | rfl | rfl | rfl | rfl | rfl | rfl | rfl | rfl | rfl | rfl | rfl | rfl | rfl | rfl
  · exact w_c0
  · exact w_c1
  · exact w_c2
  · exact w_c3
  · exact w_c4
  · exact w_c5
  · exact w_c6
  · exact w_c7
  · exact w_c8
  · exact w_c9
  · exact w_c10
  · exact w_c11
  · exact w_c12
  · exact w_c13
  · exact w_c14
  · exact w_c15
  · exact w_c16
  · exact w_c17
  · exact w_c18
  · exact w_c19
  · exact w_c20
  · exact w_c21
  · exact w_c22
set_option maxRecDepth 65536 in
theorem w_t1 : (words1.take 24).all (fun c => isCode c || c.before args0 about1) = true := by decide +kernel
set_option maxRecDepth 65536 in
theorem w_t2 : ((words1.drop 24).take 24).all (fun c => isCode c || c.before args0 about1) = true := by decide +kernel
set_option maxRecDepth 65536 in
theorem w_t3 : (((words1.drop 24).drop 24).take 24).all (fun c => isCode c || c.before args0 about1) = true := by decide +kernel
set_option maxRecDepth 65536 in
theorem w_t4 : ((((words1.drop 24).drop 24).drop 24).take 24).all (fun c => isCode c || c.before args0 about1) = true := by decide +kernel
set_option maxRecDepth 65536 in
theorem w_t5 : ((((words1.drop 24).drop 24).drop 24).drop 24).all (fun c => isCode c || c.before args0 about1) = true := by decide +kernel
theorem w_tables : (allAtoms (Jvm.Cond.code x code maxLocals ret :: tables_1)).before args0 about1 = true := by
  rw [allAtoms_all]
  show words1.all (fun c => c.before args0 about1) = true
  refine all_split ?_ w_codes
  rw [← List.take_append_drop 24 words1, List.all_append, w_t1, ← List.take_append_drop 24 (words1.drop 24), List.all_append, w_t2, ← List.take_append_drop 24 ((words1.drop 24).drop 24), List.all_append, w_t3, ← List.take_append_drop 24 (((words1.drop 24).drop 24).drop 24), List.all_append, w_t4, w_t5]
  rfl
set_option maxRecDepth 65536 in
theorem w_rest : rest_1_c.before args0 about1 = true := by decide +kernel
set_option maxRecDepth 65536 in
theorem w_case : (Jvm.Cond.and given_1 narrow_1).before args0 about1 = true := by decide +kernel
theorem w_applies : (headSpec (Jvm.Cond.code x code maxLocals ret :: tables_1) room_1).applies x e0.platform about1 = true :=
  (Spec.applies_iff w_frames).mpr ⟨w_running, w_runnable, w_alone, w_named, w_hears, w_ripe, w_room, w_tables⟩
theorem atStart : AtStart classFile x code maxLocals ret World_1 tables_1 room_1 Calls_1 rest_1 Pre_1 launch0 p0 e0 about1 theMethod args0 below0 :=
  ⟨lists_1, trivial, launch0.admits_env _ _ _, launch0.least_env, fairChoices_fair.cas, fairChoices_fair.clock, w_frames, w_args, w_heap, w_applies, trivial, w_rest, w_case⟩
end start1
theorem witness_1 : WitnessClaimed_1 := ⟨start1.p0, start1.e0, start1.about1, start1.theMethod, start1.args0, start1.below0, start1.atStart⟩
end Jvm.Pilot.@@N@@
