import JvmDerived
import JvmDerived.Pilot.@@N@@Statement
import JvmDerived.Pilot.@@N@@Code
set_option linter.unusedVariables false
set_option linter.unusedSimpArgs false
@@BLOCK:NumsL.lean.txt@@
namespace Jvm.RoadKit
open Sem ClassFile Op Lib Jvm.Stand Jvm.Free Jvm.LawKit
/-- from the state S the run comes to an end that P holds of -/
def own_Out (p : Program) (e : Env) (below : List Frame) (P : Outcome → State → Prop) (S : State) : Prop := ∃ s₂ o, Steps p.tables e below S s₂ ∧ s₂.status = .running ∧ Ended s₂ below o ∧ P o s₂
theorem own_of {p : Program} {e : Env} {below : List Frame} {P : Outcome → State → Prop} {S S' : State} (h : ∀ t, Steps p.tables e below S' t → Steps p.tables e below S t) (k : own_Out p e below P S') : own_Out p e below P S := by
  obtain ⟨a, b, c, d⟩ := k
  exact ⟨a, b, h a c, d⟩
section New
variable {p : Program} {l : Launch} {e : Env} {R : Room} {s : State} {m : MethodId} {args : Array Value} {below : List Frame} {meth : Method} {c : Code} {T : State} {locs : List Loc} {cells slots : Nat}
theorem own_retI (X : Stand p l e R s m args below meth c T locs cells slots) (hx : p.tables.exec = Jvm.exec) {pc : Nat} {Ls : Array Slot} {z : Int32} {rest : List Value} (hret : meth.sig.returnType = some .int) (hd : decode c.code pc = .ok (.ireturn, 1)) {fs : List Frame}
    (hl : ∀ (f : JFrame) (acts : List Action), f.method = m → f.locked = none → f.entered = [] → (doReturn e (T.setTop f) acts (some (.int z))).1 = T.setFrames fs) : Steps p.tables e below (T.setTop (mkF m pc Ls (.int z :: rest))) (T.setFrames fs) := retOut X hx hret rfl (Or.inl ⟨rfl, Or.inl rfl, z, rfl⟩) hd hl
theorem own_end (X : Stand p l e R s m args below meth c T locs cells slots) (hlk : meth.locks = false) {v : Option Value} (hv : meth.sig.returnType = none → v = none) {g : JFrame}
    (hs : ∀ fs, (∀ (f : JFrame) (acts : List Action), f.method = m → f.locked = none → f.entered = [] → (doReturn e (T.setTop f) acts v).1 = T.setFrames fs) → Steps p.tables e below (T.setTop g) (T.setFrames fs))
    {Q : Option Value → Heap → List Loc → Prop} (hQ : Q v T.heap locs) {C N : Nat} (hC : cells ≤ C) (hN : slots ≤ N) :
    own_Out p e below (fun o U' => ∃ v L, o = .returned v ∧ Q v U'.heap L ∧ FrameEnd s o U' L C N) (T.setTop g) := by
  obtain ⟨fs, hr, hrun, hended, hW, hsame⟩ := X.leave (v := v) hv hlk
  exact ⟨_, _, hs fs hr, hrun, hended, _, _, rfl, hQ, ⟨_, rfl⟩, hW, hsame.mono hC hN⟩
theorem own_outI (X : Stand p l e R s m args below meth c T locs cells slots) (hx : p.tables.exec = Jvm.exec) (hlk : meth.locks = false) {pc : Nat} {Ls : Array Slot} {z : Int32} {rest : List Value} (hret : meth.sig.returnType = some .int) (hd : decode c.code pc = .ok (.ireturn, 1))
    {Q : Option Value → Heap → List Loc → Prop} (hQ : Q (some (.int z)) T.heap locs) {C N : Nat} (hC : cells ≤ C) (hN : slots ≤ N) :
    own_Out p e below (fun o U' => ∃ v L, o = .returned v ∧ Q v U'.heap L ∧ FrameEnd s o U' L C N) (T.setTop (mkF m pc Ls (.int z :: rest))) :=
  own_end X hlk (fun h => by rw [hret] at h; cases h) (fun fs hr => own_retI X hx hret hd hr) hQ hC hN
theorem own_outN (X : Stand p l e R s m args below meth c T locs cells slots) (hx : p.tables.exec = Jvm.exec) (hlk : meth.locks = false) {pc : Nat} {Ls : Array Slot} {z z' : Int32} {t : FieldType} {rest : List Value} (hret : meth.sig.returnType = some t) (ht : t = .boolean ∨ t = .byte ∨ t = .char ∨ t = .short) (hd : decode c.code pc = .ok (.ireturn, 1)) (hz : nar t z = z')
    {Q : Option Value → Heap → List Loc → Prop} (hQ : Q (some (.int z')) T.heap locs) {C N : Nat} (hC : cells ≤ C) (hN : slots ≤ N) :
    own_Out p e below (fun o U' => ∃ v L, o = .returned v ∧ Q v U'.heap L ∧ FrameEnd s o U' L C N) (T.setTop (mkF m pc Ls (.int z :: rest))) :=
  own_end X hlk (fun h => by rw [hret] at h; cases h) (fun fs hr => retN X hx hret ht hd (by rw [hz]; exact hr)) hQ hC hN
theorem own_outL (X : Stand p l e R s m args below meth c T locs cells slots) (hx : p.tables.exec = Jvm.exec) (hlk : meth.locks = false) {pc : Nat} {Ls : Array Slot} {z : Int64} {rest : List Value} (hret : meth.sig.returnType = some .long) (hd : decode c.code pc = .ok (.lreturn, 1))
    {Q : Option Value → Heap → List Loc → Prop} (hQ : Q (some (.long z)) T.heap locs) {C N : Nat} (hC : cells ≤ C) (hN : slots ≤ N) :
    own_Out p e below (fun o U' => ∃ v L, o = .returned v ∧ Q v U'.heap L ∧ FrameEnd s o U' L C N) (T.setTop (mkF m pc Ls (.long z :: rest))) :=
  own_end X hlk (fun h => by rw [hret] at h; cases h) (fun fs hr => retOut X hx hret rfl (Or.inr (Or.inl ⟨rfl, rfl, z, rfl⟩)) hd hr) hQ hC hN
theorem own_outD (X : Stand p l e R s m args below meth c T locs cells slots) (hx : p.tables.exec = Jvm.exec) (hlk : meth.locks = false) {pc : Nat} {Ls : Array Slot} {z : UInt64} {rest : List Value} (hret : meth.sig.returnType = some .double) (hd : decode c.code pc = .ok (.dreturn, 1))
    {Q : Option Value → Heap → List Loc → Prop} (hQ : Q (some (.double z)) T.heap locs) {C N : Nat} (hC : cells ≤ C) (hN : slots ≤ N) :
    own_Out p e below (fun o U' => ∃ v L, o = .returned v ∧ Q v U'.heap L ∧ FrameEnd s o U' L C N) (T.setTop (mkF m pc Ls (.double z :: rest))) :=
  own_end X hlk (fun h => by rw [hret] at h; cases h) (fun fs hr => retOut X hx hret rfl (Or.inr (Or.inr (Or.inl ⟨rfl, rfl, z, rfl⟩))) hd hr) hQ hC hN
theorem own_outR (X : Stand p l e R s m args below meth c T locs cells slots) (hx : p.tables.exec = Jvm.exec) (hlk : meth.locks = false) {pc : Nat} {Ls : Array Slot} {w : Value} {t : FieldType} {rest : List Value} (hret : meth.sig.returnType = some t) (ht : t.isReference = true) (hw : w.isRef = true) (hn : narrow t w = w) (hd : decode c.code pc = .ok (.areturn, 1))
    {Q : Option Value → Heap → List Loc → Prop} (hQ : Q (some w) T.heap locs) {C N : Nat} (hC : cells ≤ C) (hN : slots ≤ N) :
    own_Out p e below (fun o U' => ∃ v L, o = .returned v ∧ Q v U'.heap L ∧ FrameEnd s o U' L C N) (T.setTop (mkF m pc Ls (w :: rest))) :=
  own_end X hlk (fun h => by rw [hret] at h; cases h) (fun fs hr => retOut X hx hret hn (Or.inr (Or.inr (Or.inr (Or.inr ⟨rfl, ht, hw⟩)))) hd hr) hQ hC hN
theorem own_outV (X : Stand p l e R s m args below meth c T locs cells slots) (hx : p.tables.exec = Jvm.exec) (hlk : meth.locks = false) {pc : Nat} {Ls : Array Slot} (hret : meth.sig.returnType = none) (hd : decode c.code pc = .ok (.return_, 1))
    {Q : Option Value → Heap → List Loc → Prop} (hQ : Q none T.heap locs) {C N : Nat} (hC : cells ≤ C) (hN : slots ≤ N) :
    own_Out p e below (fun o U' => ∃ v L, o = .returned v ∧ Q v U'.heap L ∧ FrameEnd s o U' L C N) (T.setTop (mkF m pc Ls [])) :=
  own_end X hlk (fun _ => rfl) (fun fs hr => X.returnOut hx hret hd hr) hQ hC hN
end New
theorem own_ltlt {x y : Int64} (h : x < y) : ifCond.holds .lt (lcmpW x y) = true ∧ ifCond.holds .ge (lcmpW x y) = false ∧ ifCond.holds .gt (lcmpW y x) = true ∧ ifCond.holds .le (lcmpW y x) = false := by
  have h1 : ¬ x > y := fun q => by rw [gt_iff_lt, Int64.lt_iff_toInt_lt] at q; rw [Int64.lt_iff_toInt_lt] at h; omega
  have h2 : ¬ x = y := fun q => by subst q; rw [Int64.lt_iff_toInt_lt] at h; omega
  have e1 : lcmpW x y = -1 := by simp only [lcmpW, if_neg h1, if_neg h2]
  have e2 : lcmpW y x = 1 := by simp only [lcmpW, if_pos (show y > x from h)]
  rw [e1, e2]; decide
theorem own_leq {x y : Int64} (h : x = y) : ifCond.holds .eq (lcmpW x y) = true ∧ ifCond.holds .ne (lcmpW x y) = false := by
  subst h
  have h1 : ¬ x > x := fun q => by rw [gt_iff_lt, Int64.lt_iff_toInt_lt] at q; omega
  have e1 : lcmpW x x = 0 := by simp only [lcmpW, if_neg h1, if_pos]
  rw [e1]; decide
theorem own_lfeq {x y : Int64} (h : ¬ x = y) : ifCond.holds .eq (lcmpW x y) = false ∧ ifCond.holds .ne (lcmpW x y) = true := by
  by_cases h1 : x > y
  · have e1 : lcmpW x y = 1 := by simp only [lcmpW, if_pos h1]
    rw [e1]; decide
  · have e1 : lcmpW x y = -1 := by simp only [lcmpW, if_neg h1, if_neg h]
    rw [e1]; decide
theorem own_lflt {x y : Int64} (h : ¬ x < y) : ifCond.holds .lt (lcmpW x y) = false ∧ ifCond.holds .ge (lcmpW x y) = true ∧ ifCond.holds .gt (lcmpW y x) = false ∧ ifCond.holds .le (lcmpW y x) = true := by
  by_cases h1 : x = y
  · subst h1
    have h1 : ¬ x > x := fun q => by rw [gt_iff_lt, Int64.lt_iff_toInt_lt] at q; omega
    have e1 : lcmpW x x = 0 := by simp only [lcmpW, if_neg h1, if_pos]
    rw [e1]; decide
  · have h2 : x > y := by
      rw [gt_iff_lt, Int64.lt_iff_toInt_lt]; rw [Int64.lt_iff_toInt_lt] at h
      have h3 : ¬ x.toInt = y.toInt := fun q => h1 (Int64.toInt_inj.mp q)
      omega
    have h3 : ¬ y > x := fun q => by rw [gt_iff_lt, Int64.lt_iff_toInt_lt] at q h2; omega
    have e1 : lcmpW x y = 1 := by simp only [lcmpW, if_pos h2]
    have e2 : lcmpW y x = -1 := by simp only [lcmpW, if_neg h3, if_neg (fun q => h1 (Eq.symm q))]
    rw [e1, e2]; decide
theorem own_staK0 {Z : State} {h h' : Heap} {C n d : String} {v : Value} (F : Sta Z h C n d v) (K : Keep h h' []) : Sta Z h' C n d v := by
  obtain ⟨cf, i, k, f, st, cell, h1, h2, h3, h4, h5, r⟩ := F
  exact ⟨cf, i, k, f, st, cell, h1, h2, h3, h4, K.2.1 st cell h5 nin0, r⟩
theorem own_staK1 {Z : State} {h h' : Heap} {C n d : String} {v : Value} {a : Addr} (F : Sta Z h C n d v) (K : Keep h h' [a]) (q : ∀ cell : Cell, h[a]? = some cell → cell.vm.isStatics = false) : Sta Z h' C n d v := by
  obtain ⟨cf, i, k, f, st, cell, h1, h2, h3, h4, h5, h6, h7⟩ := F
  have ne : st ≠ a := fun e => by subst e; rw [q _ h5] at h6; cases h6
  exact ⟨cf, i, k, f, st, cell, h1, h2, h3, h4, K.2.1 st cell h5 (ninS ne nin0), h6, h7⟩
theorem own_plainE {Z : State} {h : Heap} {a : Addr} {C : String} (E : Exa Z h a C) : ∀ cell : Cell, h[a]? = some cell → cell.vm.isStatics = false := fun cell hc => by
  obtain ⟨c, k, h1, -, -, h4, -⟩ := E; cases h1.symm.trans hc; exact h4
theorem own_plainV {Z : State} {h : Heap} {a : Addr} {k : ClassId} {ty : FieldType} {z : Int32} {vs : List Value} {dv : Value} (F : Arv Z h a k ty z vs dv) : ∀ cell : Cell, h[a]? = some cell → cell.vm.isStatics = false := fun cell hc => by
  obtain ⟨c, A, -⟩ := F; cases A.1.symm.trans hc; exact A.plain
section Bounds
variable {x a k : Int32} {u : Int}
theorem own_L1 (h : ¬ (x < a)) : a.toInt ≤ x.toInt := by rw [Int32.lt_iff_toInt_lt] at h; omega
theorem own_L2 (h : a < x) : a.toInt + 1 ≤ x.toInt := by rw [Int32.lt_iff_toInt_lt] at h; omega
theorem own_L3 (h : x = a) : a.toInt ≤ x.toInt := by subst h; omega
theorem own_U1 (h : x < a) : x.toInt ≤ a.toInt - 1 := by rw [Int32.lt_iff_toInt_lt] at h; omega
theorem own_U2 (h : ¬ (a < x)) : x.toInt ≤ a.toInt := by rw [Int32.lt_iff_toInt_lt] at h; omega
theorem own_U3 (h : x = a) : x.toInt ≤ a.toInt := by subst h; omega
theorem own_T1 (h : x.toInt ≤ u) (d : u < k.toInt) : x < k := by rw [Int32.lt_iff_toInt_lt]; omega
theorem own_T2 (h : u ≤ x.toInt) (d : k.toInt ≤ u) : ¬ (x < k) := by rw [Int32.lt_iff_toInt_lt]; omega
theorem own_T3 (h : u ≤ x.toInt) (d : k.toInt < u) : k < x := by rw [Int32.lt_iff_toInt_lt]; omega
theorem own_T4 (h : x.toInt ≤ u) (d : u ≤ k.toInt) : ¬ (k < x) := by rw [Int32.lt_iff_toInt_lt]; omega
theorem own_T5 (h : x.toInt ≤ u) (d : u < k.toInt) : ¬ (x = k) := fun q => by subst q; omega
theorem own_T6 (h : u ≤ x.toInt) (d : k.toInt < u) : ¬ (x = k) := fun q => by subst q; omega
theorem own_T7 {u' : Int} (h : u ≤ x.toInt) (h' : x.toInt ≤ u') (d : k.toInt ≤ u ∧ u' ≤ k.toInt) : x = k := Int32.toInt_inj.mp (by omega)
end Bounds
section Rel
theorem own_JR1 {a b : Int64} (h : a < b) : ¬ (b < a) := by rw [Int64.lt_iff_toInt_lt] at *; omega
theorem own_JR2 {a b : Int64} (h : a < b) : ¬ (a = b) := fun q => by subst q; rw [Int64.lt_iff_toInt_lt] at h; omega
theorem own_JR2' {a b : Int64} (h : a < b) : ¬ (b = a) := fun q => by subst q; rw [Int64.lt_iff_toInt_lt] at h; omega
theorem own_JR3 {a b : Int64} (h : a = b) : ¬ (a < b) := fun q => by subst h; rw [Int64.lt_iff_toInt_lt] at q; omega
theorem own_JR3' {a b : Int64} (h : a = b) : ¬ (b < a) := fun q => by subst h; rw [Int64.lt_iff_toInt_lt] at q; omega
theorem own_JR4 {a b : Int64} (h : ¬ (a < b)) (h' : ¬ (b < a)) : a = b := by rw [Int64.lt_iff_toInt_lt] at h h'; exact Int64.toInt_inj.mp (by omega)
theorem own_JR5 {a b : Int64} (h : ¬ (a < b)) (h' : ¬ (a = b)) : b < a := by rw [← Int64.toInt_inj] at h'; rw [Int64.lt_iff_toInt_lt] at *; omega
theorem own_JR5' {a b : Int64} (h : ¬ (a < b)) (h' : ¬ (b = a)) : b < a := by rw [← Int64.toInt_inj] at h'; rw [Int64.lt_iff_toInt_lt] at *; omega
theorem own_IR1 {a b : Int32} (h : a < b) : ¬ (b < a) := by rw [Int32.lt_iff_toInt_lt] at *; omega
theorem own_IR2 {a b : Int32} (h : a < b) : ¬ (a = b) := fun q => by subst q; rw [Int32.lt_iff_toInt_lt] at h; omega
theorem own_IR2' {a b : Int32} (h : a < b) : ¬ (b = a) := fun q => by subst q; rw [Int32.lt_iff_toInt_lt] at h; omega
theorem own_IR3 {a b : Int32} (h : a = b) : ¬ (a < b) := fun q => by subst h; rw [Int32.lt_iff_toInt_lt] at q; omega
theorem own_IR3' {a b : Int32} (h : a = b) : ¬ (b < a) := fun q => by subst h; rw [Int32.lt_iff_toInt_lt] at q; omega
theorem own_IR4 {a b : Int32} (h : ¬ (a < b)) (h' : ¬ (b < a)) : a = b := by rw [Int32.lt_iff_toInt_lt] at h h'; exact Int32.toInt_inj.mp (by omega)
theorem own_IR5 {a b : Int32} (h : ¬ (a < b)) (h' : ¬ (a = b)) : b < a := by rw [← Int32.toInt_inj] at h'; rw [Int32.lt_iff_toInt_lt] at *; omega
theorem own_IR5' {a b : Int32} (h : ¬ (a < b)) (h' : ¬ (b = a)) : b < a := by rw [← Int32.toInt_inj] at h'; rw [Int32.lt_iff_toInt_lt] at *; omega
end Rel
end Jvm.RoadKit
namespace Jvm.Pilot.@@N@@
open Jvm Jvm.ClassFile Sem Op Lib Jvm.Free Jvm.Stand Jvm.LawKit Jvm.RoadKit Bundle Jvm.Pilot.@@N@@.Jvm.D
theorem d1_0 : decode prog_65_method_2_code 0 = .ok (.iload_n 0, 1) := by decide +kernel
theorem d1_1 : decode prog_65_method_2_code 1 = .ok (.bipush 95, 2) := by decide +kernel
theorem d1_3 : decode prog_65_method_2_code 3 = .ok (.if_icmp .eq 27, 3) := by decide +kernel
theorem d1_6 : decode prog_65_method_2_code 6 = .ok (.iload_n 0, 1) := by decide +kernel
theorem d1_7 : decode prog_65_method_2_code 7 = .ok (.bipush 65, 2) := by decide +kernel
theorem d1_9 : decode prog_65_method_2_code 9 = .ok (.if_icmp .lt 9, 3) := by decide +kernel
theorem d1_12 : decode prog_65_method_2_code 12 = .ok (.iload_n 0, 1) := by decide +kernel
theorem d1_13 : decode prog_65_method_2_code 13 = .ok (.bipush 90, 2) := by decide +kernel
theorem d1_15 : decode prog_65_method_2_code 15 = .ok (.if_icmp .le 15, 3) := by decide +kernel
theorem d1_18 : decode prog_65_method_2_code 18 = .ok (.iload_n 0, 1) := by decide +kernel
theorem d1_19 : decode prog_65_method_2_code 19 = .ok (.bipush 97, 2) := by decide +kernel
theorem d1_21 : decode prog_65_method_2_code 21 = .ok (.if_icmp .lt 13, 3) := by decide +kernel
theorem d1_24 : decode prog_65_method_2_code 24 = .ok (.iload_n 0, 1) := by decide +kernel
theorem d1_25 : decode prog_65_method_2_code 25 = .ok (.bipush 122, 2) := by decide +kernel
theorem d1_27 : decode prog_65_method_2_code 27 = .ok (.if_icmp .gt 7, 3) := by decide +kernel
theorem d1_30 : decode prog_65_method_2_code 30 = .ok (.iconst 1, 1) := by decide +kernel
theorem d1_31 : decode prog_65_method_2_code 31 = .ok (.goto 4, 3) := by decide +kernel
theorem d1_34 : decode prog_65_method_2_code 34 = .ok (.iconst 0, 1) := by decide +kernel
theorem d1_35 : decode prog_65_method_2_code 35 = .ok (.ireturn, 1) := by decide +kernel
theorem pn_0 : plainName "com/example/slimc/slimc/game/Names" = true := by first | (simp [plainName, overriddenIn]; done) | decide +kernel
theorem ef_1 (m : MethodId) (x0 : Int32) : entryFrame m #[(.int x0)] 1 = mkF m 0 #[.val (.int x0)] [] := by first | (simp [entryFrame, mkF, argsToLocals, Value.category]; done) | rfl
def f1 (p0 : Int32) : Int32 := if p0 = (95 : Int32) then (1 : Int32)
  else if p0 < (65 : Int32) then (0 : Int32)
    else if (90 : Int32) < p0 then (if p0 < (97 : Int32) then (0 : Int32)
        else if (122 : Int32) < p0 then (0 : Int32)
          else (1 : Int32))
      else (1 : Int32)
def Q1 (Z : State) (p0 : Int32) (h0 : Heap) (n0 : Nat) (v : Option Value) (h : Heap) (L : List Loc) : Prop := v = some (.int (f1 p0)) ∧ Fr n0 L ∧ h = h0
set_option maxRecDepth 65536 in
set_option maxHeartbeats 40000000 in
theorem rm1 (l : Launch) (Z : State) (a0 : Array Value) (hw : ∀ d ∈ tables_1, d.before a0 Z = true) (ws : List Jvm.Cond) (p0 : Int32) (h0 : Heap) (n0 : Nat) (Z0 : n0 ≤ h0.size) :
    MetFree l (⟨"com/example/slimc/slimc/game/Names", "isStart", "(C)Z"⟩ : MethodName) (head1 (Jvm.Cond.code (⟨"com/example/slimc/slimc/game/Names", "isStart", "(C)Z"⟩ : MethodName) prog_65_method_2_code 1 (some .boolean) :: ws) ({ frames := 0, cells := 0, slots := 0, locals := 0 } : Room)) (fun a U => a = #[(.int p0)] ∧ Z.Warmed39 U.vm ∧ U.heap = h0) (fun _ _ _ _ _ => True) (fun _ U o U' => ∃ v L, o = .returned v ∧ Q1 Z p0 h0 n0 v U'.heap L ∧ FrameEnd U o U' L ({ frames := 0, cells := 0, slots := 0, locals := 0 } : Room).cells ({ frames := 0, cells := 0, slots := 0, locals := 0 } : Room).slots) := by
  refine MetFree.of_bodySF (plainFor_of_name pn_0) hisR ?_
  intro p e s m args below meth c s₁ Bd hml0 hP hK
  obtain ⟨rfl, hZ, hh⟩ := hP
  have hx := Bd.exec
  have hby := Bd.bytes
  have hml : c.maxLocals = 1 := hml0
  have hown : s.vm.findClass "com/example/slimc/slimc/game/Names" = some m.cls := findClass_of_methodNamed Bd.named
  have hnm := (name_of_methodNamed Bd.named Bd.method).1
  have X0 : Stand p l e ({ frames := 0, cells := 0, slots := 0, locals := 0 } : Room) s m #[(.int p0)] below meth c s₁ [] 0 0 := Stand.of_body Bd
  have e0 : s₁.heap = h0 := by rw [← hh, Bd.state]; rfl
  have N0 := Fr.nil n0
  have hret := Bd.returns
  have hlk := BodyLoose.notSynchronized Bd
  show own_Out p e below (fun o U' => ∃ v L, o = .returned v ∧ Q1 Z p0 h0 n0 v U'.heap L ∧ FrameEnd s o U' L ({ frames := 0, cells := 0, slots := 0, locals := 0 } : Room).cells ({ frames := 0, cells := 0, slots := 0, locals := 0 } : Room).slots) (s₁.setTop (entryFrame m #[(.int p0)] 1))
  refine own_of (fun t k => castTop (ef_1 m p0) k) ?_
  show own_Out p e below _ (s₁.setTop (mkF m 0 #[.val (.int p0)] []))
  refine own_of (fun _ k => XS.iloadN X0.here hx rfl (hb hby d1_0) rfl k) ?_
  show own_Out p e below _ (s₁.setTop (mkF m 1 #[.val (.int p0)] [(.int p0)]))
  refine own_of (fun _ k => XS.bipush X0.here hx rfl (hb hby d1_1) k) ?_
  show own_Out p e below _ (s₁.setTop (mkF m 3 #[.val (.int p0)] [(.int (95 : Int32)), (.int p0)]))
  by_cases hc3_1 : p0 = (95 : Int32)
  · skip
    refine own_of (fun _ k => XS.icmpYes X0.here hx rfl (pc0 := 3) (pc' := 30) rfl (hb hby d1_3) rfl (teq hc3_1).1 (by decide) (by decide) k) ?_
    show own_Out p e below _ (s₁.setTop (mkF m 30 #[.val (.int p0)] []))
    refine own_of (fun _ k => XS.iconst X0.here hx rfl (hb hby d1_30) k) ?_
    show own_Out p e below _ (s₁.setTop (mkF m 31 #[.val (.int p0)] [(.int (1 : Int32))]))
    refine own_of (fun _ k => XS.goto X0.here hx rfl (pc0 := 31) (pc' := 35) rfl (hb hby d1_31) (by decide) (by decide) k) ?_
    show own_Out p e below _ (s₁.setTop (mkF m 35 #[.val (.int p0)] [(.int (1 : Int32))]))
    exact own_outN X0 hx hlk (t := .boolean) hret (by simp) (hb hby d1_35) (z' := (1 : Int32)) rfl (Q := Q1 Z p0 h0 n0) ⟨by simp only [f1, if_pos hc3_1], N0, e0⟩ (by decide) (by decide)
  · skip
    refine own_of (fun _ k => XS.icmpNo X0.here hx rfl (hb hby d1_3) rfl (feq hc3_1).1 k) ?_
    show own_Out p e below _ (s₁.setTop (mkF m 6 #[.val (.int p0)] []))
    refine own_of (fun _ k => XS.iloadN X0.here hx rfl (hb hby d1_6) rfl k) ?_
    show own_Out p e below _ (s₁.setTop (mkF m 7 #[.val (.int p0)] [(.int p0)]))
    refine own_of (fun _ k => XS.bipush X0.here hx rfl (hb hby d1_7) k) ?_
    show own_Out p e below _ (s₁.setTop (mkF m 9 #[.val (.int p0)] [(.int (65 : Int32)), (.int p0)]))
    by_cases hc9_2 : p0 < (65 : Int32)
    · skip
      refine own_of (fun _ k => XS.icmpYes X0.here hx rfl (pc0 := 9) (pc' := 18) rfl (hb hby d1_9) rfl (tlt hc9_2).1 (by decide) (by decide) k) ?_
      show own_Out p e below _ (s₁.setTop (mkF m 18 #[.val (.int p0)] []))
      refine own_of (fun _ k => XS.iloadN X0.here hx rfl (hb hby d1_18) rfl k) ?_
      show own_Out p e below _ (s₁.setTop (mkF m 19 #[.val (.int p0)] [(.int p0)]))
      refine own_of (fun _ k => XS.bipush X0.here hx rfl (hb hby d1_19) k) ?_
      show own_Out p e below _ (s₁.setTop (mkF m 21 #[.val (.int p0)] [(.int (97 : Int32)), (.int p0)]))
      refine own_of (fun _ k => XS.icmpYes X0.here hx rfl (pc0 := 21) (pc' := 34) rfl (hb hby d1_21) rfl (tlt (own_T1 (own_U1 hc9_2) (by decide) : p0 < (97 : Int32))).1 (by decide) (by decide) k) ?_
      show own_Out p e below _ (s₁.setTop (mkF m 34 #[.val (.int p0)] []))
      refine own_of (fun _ k => XS.iconst X0.here hx rfl (hb hby d1_34) k) ?_
      show own_Out p e below _ (s₁.setTop (mkF m 35 #[.val (.int p0)] [(.int (0 : Int32))]))
      exact own_outN X0 hx hlk (t := .boolean) hret (by simp) (hb hby d1_35) (z' := (0 : Int32)) rfl (Q := Q1 Z p0 h0 n0) ⟨by simp only [f1, if_neg hc3_1, if_pos hc9_2], N0, e0⟩ (by decide) (by decide)
    · skip
      refine own_of (fun _ k => XS.icmpNo X0.here hx rfl (hb hby d1_9) rfl (flt hc9_2).1 k) ?_
      show own_Out p e below _ (s₁.setTop (mkF m 12 #[.val (.int p0)] []))
      refine own_of (fun _ k => XS.iloadN X0.here hx rfl (hb hby d1_12) rfl k) ?_
      show own_Out p e below _ (s₁.setTop (mkF m 13 #[.val (.int p0)] [(.int p0)]))
      refine own_of (fun _ k => XS.bipush X0.here hx rfl (hb hby d1_13) k) ?_
      show own_Out p e below _ (s₁.setTop (mkF m 15 #[.val (.int p0)] [(.int (90 : Int32)), (.int p0)]))
      by_cases hc15_3 : (90 : Int32) < p0
      · skip
        refine own_of (fun _ k => XS.icmpNo X0.here hx rfl (hb hby d1_15) rfl (tlt hc15_3).2.2.2 k) ?_
        show own_Out p e below _ (s₁.setTop (mkF m 18 #[.val (.int p0)] []))
        refine own_of (fun _ k => XS.iloadN X0.here hx rfl (hb hby d1_18) rfl k) ?_
        show own_Out p e below _ (s₁.setTop (mkF m 19 #[.val (.int p0)] [(.int p0)]))
        refine own_of (fun _ k => XS.bipush X0.here hx rfl (hb hby d1_19) k) ?_
        show own_Out p e below _ (s₁.setTop (mkF m 21 #[.val (.int p0)] [(.int (97 : Int32)), (.int p0)]))
        by_cases hc21_4 : p0 < (97 : Int32)
        · skip
          refine own_of (fun _ k => XS.icmpYes X0.here hx rfl (pc0 := 21) (pc' := 34) rfl (hb hby d1_21) rfl (tlt hc21_4).1 (by decide) (by decide) k) ?_
          show own_Out p e below _ (s₁.setTop (mkF m 34 #[.val (.int p0)] []))
          refine own_of (fun _ k => XS.iconst X0.here hx rfl (hb hby d1_34) k) ?_
          show own_Out p e below _ (s₁.setTop (mkF m 35 #[.val (.int p0)] [(.int (0 : Int32))]))
          exact own_outN X0 hx hlk (t := .boolean) hret (by simp) (hb hby d1_35) (z' := (0 : Int32)) rfl (Q := Q1 Z p0 h0 n0) ⟨by simp only [f1, if_neg hc3_1, if_neg hc9_2, if_pos hc15_3, if_pos hc21_4], N0, e0⟩ (by decide) (by decide)
        · skip
          refine own_of (fun _ k => XS.icmpNo X0.here hx rfl (hb hby d1_21) rfl (flt hc21_4).1 k) ?_
          show own_Out p e below _ (s₁.setTop (mkF m 24 #[.val (.int p0)] []))
          refine own_of (fun _ k => XS.iloadN X0.here hx rfl (hb hby d1_24) rfl k) ?_
          show own_Out p e below _ (s₁.setTop (mkF m 25 #[.val (.int p0)] [(.int p0)]))
          refine own_of (fun _ k => XS.bipush X0.here hx rfl (hb hby d1_25) k) ?_
          show own_Out p e below _ (s₁.setTop (mkF m 27 #[.val (.int p0)] [(.int (122 : Int32)), (.int p0)]))
          by_cases hc27_5 : (122 : Int32) < p0
          · skip
            refine own_of (fun _ k => XS.icmpYes X0.here hx rfl (pc0 := 27) (pc' := 34) rfl (hb hby d1_27) rfl (tlt hc27_5).2.2.1 (by decide) (by decide) k) ?_
            show own_Out p e below _ (s₁.setTop (mkF m 34 #[.val (.int p0)] []))
            refine own_of (fun _ k => XS.iconst X0.here hx rfl (hb hby d1_34) k) ?_
            show own_Out p e below _ (s₁.setTop (mkF m 35 #[.val (.int p0)] [(.int (0 : Int32))]))
            exact own_outN X0 hx hlk (t := .boolean) hret (by simp) (hb hby d1_35) (z' := (0 : Int32)) rfl (Q := Q1 Z p0 h0 n0) ⟨by simp only [f1, if_neg hc3_1, if_neg hc9_2, if_pos hc15_3, if_neg hc21_4, if_pos hc27_5], N0, e0⟩ (by decide) (by decide)
          · skip
            refine own_of (fun _ k => XS.icmpNo X0.here hx rfl (hb hby d1_27) rfl (flt hc27_5).2.2.1 k) ?_
            show own_Out p e below _ (s₁.setTop (mkF m 30 #[.val (.int p0)] []))
            refine own_of (fun _ k => XS.iconst X0.here hx rfl (hb hby d1_30) k) ?_
            show own_Out p e below _ (s₁.setTop (mkF m 31 #[.val (.int p0)] [(.int (1 : Int32))]))
            refine own_of (fun _ k => XS.goto X0.here hx rfl (pc0 := 31) (pc' := 35) rfl (hb hby d1_31) (by decide) (by decide) k) ?_
            show own_Out p e below _ (s₁.setTop (mkF m 35 #[.val (.int p0)] [(.int (1 : Int32))]))
            exact own_outN X0 hx hlk (t := .boolean) hret (by simp) (hb hby d1_35) (z' := (1 : Int32)) rfl (Q := Q1 Z p0 h0 n0) ⟨by simp only [f1, if_neg hc3_1, if_neg hc9_2, if_pos hc15_3, if_neg hc21_4, if_neg hc27_5], N0, e0⟩ (by decide) (by decide)
      · skip
        refine own_of (fun _ k => XS.icmpYes X0.here hx rfl (pc0 := 15) (pc' := 30) rfl (hb hby d1_15) rfl (flt hc15_3).2.2.2 (by decide) (by decide) k) ?_
        show own_Out p e below _ (s₁.setTop (mkF m 30 #[.val (.int p0)] []))
        refine own_of (fun _ k => XS.iconst X0.here hx rfl (hb hby d1_30) k) ?_
        show own_Out p e below _ (s₁.setTop (mkF m 31 #[.val (.int p0)] [(.int (1 : Int32))]))
        refine own_of (fun _ k => XS.goto X0.here hx rfl (pc0 := 31) (pc' := 35) rfl (hb hby d1_31) (by decide) (by decide) k) ?_
        show own_Out p e below _ (s₁.setTop (mkF m 35 #[.val (.int p0)] [(.int (1 : Int32))]))
        exact own_outN X0 hx hlk (t := .boolean) hret (by simp) (hb hby d1_35) (z' := (1 : Int32)) rfl (Q := Q1 Z p0 h0 n0) ⟨by simp only [f1, if_neg hc3_1, if_neg hc9_2, if_neg hc15_3], N0, e0⟩ (by decide) (by decide)
theorem pd_0 : parseMethodDescriptor "(C)Z" = some ⟨[.char], some .boolean⟩ := by decide +kernel
theorem pn_1 : plainName "com/example/slimc/slimc/game/NamesIsStartPinLaw" = true := by first | (simp [plainName, overriddenIn]; done) | decide +kernel
theorem ef_0 (m : MethodId) (x0 : Int32) (x1 : Int32) : entryFrame m #[(.int x0), (.int x1)] maxLocals = mkF m 0 #[.val (.int x0), .val (.int x1), .unset, .unset, .unset] [] := by first | (simp [entryFrame, mkF, argsToLocals, Value.category, maxLocals]; done) | rfl
def own_g (c : Int32) : Int32 := if c = (95 : Int32) then (1 : Int32) else if ((c ||| (32 : Int32)) - (97 : Int32)) < (0 : Int32) then (0 : Int32) else if ((c ||| (32 : Int32)) - (97 : Int32)) < (26 : Int32) then (1 : Int32) else (0 : Int32)
theorem own_i2c (x : Int32) : 0 ≤ (x.toUInt32.toUInt16.toUInt32.toInt32).toInt ∧ (x.toUInt32.toUInt16.toUInt32.toInt32).toInt < 65536 := by
  have h := c_i2c x
  exact ⟨h.2.1, h.2.2⟩
theorem own_small : ∀ n : Fin 128, f1 (Int32.ofNat n.val) = own_g (Int32.ofNat n.val) := by decide +kernel
theorem own_of_small {c : Int32} (h0 : 0 ≤ c.toInt) (h1 : c.toInt < 128) : f1 c = own_g c := by
  have h := own_small ⟨c.toInt.toNat, by omega⟩
  have e : Int32.ofNat c.toInt.toNat = c := by
    rw [← Int32.toInt_inj, Int32.toInt_ofNat_of_lt (by omega)]; omega
  simpa only [e] using h
theorem own_or_le {c : Int32} (h0 : 0 ≤ c.toInt) (h1 : c.toInt < 65536) : c.toInt ≤ (c ||| (32 : Int32)).toInt ∧ (c ||| (32 : Int32)).toInt < 65536 := by
  have hn : c.toBitVec.toNat = c.toInt.toNat := by
    have := Int32.toInt_toBitVec c
    rw [BitVec.toInt_eq_toNat_cond] at this
    have h2 := c.toBitVec.isLt
    split at this <;> omega
  have e : (c ||| (32 : Int32)).toBitVec.toNat = c.toInt.toNat ||| 32 := by
    rw [Int32.toBitVec_or, BitVec.toNat_or, hn]; rfl
  have h2 : c.toInt.toNat ||| 32 < 2 ^ 16 := Nat.or_lt_two_pow (by omega) (by decide)
  have h3 : c.toInt.toNat ≤ c.toInt.toNat ||| 32 := Nat.left_le_or
  have h4 : (c ||| (32 : Int32)).toInt = ((c.toInt.toNat ||| 32 : Nat) : Int) := by
    rw [← Int32.toInt_toBitVec, BitVec.toInt_eq_toNat_cond, e, if_pos (by omega)]
  omega
theorem own_main (c : Int32) (h0 : 0 ≤ c.toInt) (h1 : c.toInt < 65536) : f1 c = own_g c := by
  by_cases h : c.toInt < 128
  · exact own_of_small h0 h
  · have a := own_or_le h0 h1
    have e97 : (97 : Int32).toInt = 97 := rfl
    have es := Jvm.Kit.i32_sub (p := c ||| (32 : Int32)) (q := 97) (by omega) (by omega)
    have L : ∀ k : Int32, c < k ↔ c.toInt < k.toInt := fun k => Int32.lt_iff_toInt_lt
    have L' : ∀ k : Int32, k < c ↔ k.toInt < c.toInt := fun k => Int32.lt_iff_toInt_lt
    have M : ∀ k : Int32, ((c ||| (32 : Int32)) - (97 : Int32)) < k ↔ ((c ||| (32 : Int32)) - (97 : Int32)).toInt < k.toInt := fun k => Int32.lt_iff_toInt_lt
    have E : ∀ k : Int32, c = k ↔ c.toInt = k.toInt := fun k => Int32.toInt_inj.symm
    have n0 : (0 : Int32).toInt = 0 := rfl
    have n26 : (26 : Int32).toInt = 26 := rfl
    have n95 : (95 : Int32).toInt = 95 := rfl
    have n65 : (65 : Int32).toInt = 65 := rfl
    have n90 : (90 : Int32).toInt = 90 := rfl
    have n122 : (122 : Int32).toInt = 122 := rfl
    have c1 : ¬ c = (95 : Int32) := by rw [E]; omega
    have c2 : ¬ c < (65 : Int32) := by rw [L]; omega
    have c3 : (90 : Int32) < c := by rw [L']; omega
    have c4 : ¬ c < (97 : Int32) := by rw [L]; omega
    have c5 : (122 : Int32) < c := by rw [L']; omega
    have c6 : ¬ ((c ||| (32 : Int32)) - (97 : Int32)) < (0 : Int32) := by rw [M]; omega
    have c7 : ¬ ((c ||| (32 : Int32)) - (97 : Int32)) < (26 : Int32) := by rw [M]; omega
    simp only [f1, own_g, if_neg c1, if_neg c2, if_pos c3, if_neg c4, if_pos c5, if_neg c6, if_neg c7]
theorem dead0_0 (p0 : Int32) (p1 : Int32) (hc3_1 : (p1 &&& (1 : Int32)) = (0 : Int32)) (hc35_2 : ((p0 &&& (65535 : Int32)).toUInt32.toUInt16.toUInt32.toInt32) = (95 : Int32)) (hc61_4 : ¬ ((f1 ((p0 &&& (65535 : Int32)).toUInt32.toUInt16.toUInt32.toInt32)) = (1 : Int32))) : False := by
  have e := own_main ((p0 &&& (65535 : Int32)).toUInt32.toUInt16.toUInt32.toInt32) (own_i2c (p0 &&& (65535 : Int32))).1 (own_i2c (p0 &&& (65535 : Int32))).2
  simp only [own_g, if_pos hc3_1, if_pos hc35_2] at e
  exact hc61_4 e
theorem dead0_1 (p0 : Int32) (p1 : Int32) (hc3_1 : (p1 &&& (1 : Int32)) = (0 : Int32)) (hc35_2 : ¬ (((p0 &&& (65535 : Int32)).toUInt32.toUInt16.toUInt32.toInt32) = (95 : Int32))) (hc39_5 : ((((p0 &&& (65535 : Int32)).toUInt32.toUInt16.toUInt32.toInt32) ||| (32 : Int32)) - (97 : Int32)) < (0 : Int32)) (hc61_7 : ¬ ((f1 ((p0 &&& (65535 : Int32)).toUInt32.toUInt16.toUInt32.toInt32)) = (0 : Int32))) : False := by
  have e := own_main ((p0 &&& (65535 : Int32)).toUInt32.toUInt16.toUInt32.toInt32) (own_i2c (p0 &&& (65535 : Int32))).1 (own_i2c (p0 &&& (65535 : Int32))).2
  simp only [own_g, if_pos hc3_1, if_neg hc35_2, if_pos hc39_5] at e
  exact hc61_7 e
theorem dead0_2 (p0 : Int32) (p1 : Int32) (hc3_1 : (p1 &&& (1 : Int32)) = (0 : Int32)) (hc35_2 : ¬ (((p0 &&& (65535 : Int32)).toUInt32.toUInt16.toUInt32.toInt32) = (95 : Int32))) (hc39_5 : ¬ (((((p0 &&& (65535 : Int32)).toUInt32.toUInt16.toUInt32.toInt32) ||| (32 : Int32)) - (97 : Int32)) < (0 : Int32))) (hc45_8 : ((((p0 &&& (65535 : Int32)).toUInt32.toUInt16.toUInt32.toInt32) ||| (32 : Int32)) - (97 : Int32)) < (26 : Int32)) (hc61_10 : ¬ ((f1 ((p0 &&& (65535 : Int32)).toUInt32.toUInt16.toUInt32.toInt32)) = (1 : Int32))) : False := by
  have e := own_main ((p0 &&& (65535 : Int32)).toUInt32.toUInt16.toUInt32.toInt32) (own_i2c (p0 &&& (65535 : Int32))).1 (own_i2c (p0 &&& (65535 : Int32))).2
  simp only [own_g, if_pos hc3_1, if_neg hc35_2, if_neg hc39_5, if_pos hc45_8] at e
  exact hc61_10 e
theorem dead0_3 (p0 : Int32) (p1 : Int32) (hc3_1 : (p1 &&& (1 : Int32)) = (0 : Int32)) (hc35_2 : ¬ (((p0 &&& (65535 : Int32)).toUInt32.toUInt16.toUInt32.toInt32) = (95 : Int32))) (hc39_5 : ¬ (((((p0 &&& (65535 : Int32)).toUInt32.toUInt16.toUInt32.toInt32) ||| (32 : Int32)) - (97 : Int32)) < (0 : Int32))) (hc45_8 : ¬ (((((p0 &&& (65535 : Int32)).toUInt32.toUInt16.toUInt32.toInt32) ||| (32 : Int32)) - (97 : Int32)) < (26 : Int32))) (hc61_12 : ¬ ((f1 ((p0 &&& (65535 : Int32)).toUInt32.toUInt16.toUInt32.toInt32)) = (0 : Int32))) : False := by
  have e := own_main ((p0 &&& (65535 : Int32)).toUInt32.toUInt16.toUInt32.toInt32) (own_i2c (p0 &&& (65535 : Int32))).1 (own_i2c (p0 &&& (65535 : Int32))).2
  simp only [own_g, if_pos hc3_1, if_neg hc35_2, if_neg hc39_5, if_neg hc45_8] at e
  exact hc61_12 e
theorem dead0_4 (p0 : Int32) (p1 : Int32) (hc3_1 : ¬ ((p1 &&& (1 : Int32)) = (0 : Int32))) (hc35_13 : (((64 : Int32) + (p0 &&& (63 : Int32))).toUInt32.toUInt16.toUInt32.toInt32) = (95 : Int32)) (hc61_15 : ¬ ((f1 (((64 : Int32) + (p0 &&& (63 : Int32))).toUInt32.toUInt16.toUInt32.toInt32)) = (1 : Int32))) : False := by
  have e := own_main (((64 : Int32) + (p0 &&& (63 : Int32))).toUInt32.toUInt16.toUInt32.toInt32) (own_i2c ((64 : Int32) + (p0 &&& (63 : Int32)))).1 (own_i2c ((64 : Int32) + (p0 &&& (63 : Int32)))).2
  simp only [own_g, if_neg hc3_1, if_pos hc35_13] at e
  exact hc61_15 e
theorem dead0_5 (p0 : Int32) (p1 : Int32) (hc3_1 : ¬ ((p1 &&& (1 : Int32)) = (0 : Int32))) (hc35_13 : ¬ ((((64 : Int32) + (p0 &&& (63 : Int32))).toUInt32.toUInt16.toUInt32.toInt32) = (95 : Int32))) (hc39_16 : (((((64 : Int32) + (p0 &&& (63 : Int32))).toUInt32.toUInt16.toUInt32.toInt32) ||| (32 : Int32)) - (97 : Int32)) < (0 : Int32)) (hc61_18 : ¬ ((f1 (((64 : Int32) + (p0 &&& (63 : Int32))).toUInt32.toUInt16.toUInt32.toInt32)) = (0 : Int32))) : False := by
  have e := own_main (((64 : Int32) + (p0 &&& (63 : Int32))).toUInt32.toUInt16.toUInt32.toInt32) (own_i2c ((64 : Int32) + (p0 &&& (63 : Int32)))).1 (own_i2c ((64 : Int32) + (p0 &&& (63 : Int32)))).2
  simp only [own_g, if_neg hc3_1, if_neg hc35_13, if_pos hc39_16] at e
  exact hc61_18 e
theorem dead0_6 (p0 : Int32) (p1 : Int32) (hc3_1 : ¬ ((p1 &&& (1 : Int32)) = (0 : Int32))) (hc35_13 : ¬ ((((64 : Int32) + (p0 &&& (63 : Int32))).toUInt32.toUInt16.toUInt32.toInt32) = (95 : Int32))) (hc39_16 : ¬ ((((((64 : Int32) + (p0 &&& (63 : Int32))).toUInt32.toUInt16.toUInt32.toInt32) ||| (32 : Int32)) - (97 : Int32)) < (0 : Int32))) (hc45_19 : (((((64 : Int32) + (p0 &&& (63 : Int32))).toUInt32.toUInt16.toUInt32.toInt32) ||| (32 : Int32)) - (97 : Int32)) < (26 : Int32)) (hc61_21 : ¬ ((f1 (((64 : Int32) + (p0 &&& (63 : Int32))).toUInt32.toUInt16.toUInt32.toInt32)) = (1 : Int32))) : False := by
  have e := own_main (((64 : Int32) + (p0 &&& (63 : Int32))).toUInt32.toUInt16.toUInt32.toInt32) (own_i2c ((64 : Int32) + (p0 &&& (63 : Int32)))).1 (own_i2c ((64 : Int32) + (p0 &&& (63 : Int32)))).2
  simp only [own_g, if_neg hc3_1, if_neg hc35_13, if_neg hc39_16, if_pos hc45_19] at e
  exact hc61_21 e
theorem dead0_7 (p0 : Int32) (p1 : Int32) (hc3_1 : ¬ ((p1 &&& (1 : Int32)) = (0 : Int32))) (hc35_13 : ¬ ((((64 : Int32) + (p0 &&& (63 : Int32))).toUInt32.toUInt16.toUInt32.toInt32) = (95 : Int32))) (hc39_16 : ¬ ((((((64 : Int32) + (p0 &&& (63 : Int32))).toUInt32.toUInt16.toUInt32.toInt32) ||| (32 : Int32)) - (97 : Int32)) < (0 : Int32))) (hc45_19 : ¬ ((((((64 : Int32) + (p0 &&& (63 : Int32))).toUInt32.toUInt16.toUInt32.toInt32) ||| (32 : Int32)) - (97 : Int32)) < (26 : Int32))) (hc61_23 : ¬ ((f1 (((64 : Int32) + (p0 &&& (63 : Int32))).toUInt32.toUInt16.toUInt32.toInt32)) = (0 : Int32))) : False := by
  have e := own_main (((64 : Int32) + (p0 &&& (63 : Int32))).toUInt32.toUInt16.toUInt32.toInt32) (own_i2c ((64 : Int32) + (p0 &&& (63 : Int32)))).1 (own_i2c ((64 : Int32) + (p0 &&& (63 : Int32)))).2
  simp only [own_g, if_neg hc3_1, if_neg hc35_13, if_neg hc39_16, if_neg hc45_19] at e
  exact hc61_23 e
def Q0 (Z : State) (p0 : Int32) (p1 : Int32) (h0 : Heap) (n0 : Nat) (v : Option Value) (h : Heap) (L : List Loc) : Prop := v = some (.int 1) ∧ Fr n0 L
set_option maxRecDepth 65536 in
set_option maxHeartbeats 40000000 in
theorem rm0 (l : Launch) (Z : State) (a0 : Array Value) (hw : ∀ d ∈ tables_1, d.before a0 Z = true) (ws : List Jvm.Cond) (p0 : Int32) (p1 : Int32) (h0 : Heap) (n0 : Nat) (Z0 : n0 ≤ h0.size) :
    MetFree l x (head1 (Jvm.Cond.code x code maxLocals ret :: ws) room_1) (fun a U => a = #[(.int p0), (.int p1)] ∧ Z.Warmed39 U.vm ∧ U.heap = h0) (fun _ _ _ _ _ => True) (fun _ U o U' => ∃ v L, o = .returned v ∧ Q0 Z p0 p1 h0 n0 v U'.heap L ∧ FrameEnd U o U' L 0 0) := by
  refine MetFree.of_bodySF (plainFor_of_name pn_1) hisR ?_
  intro p e s m args below meth c s₁ Bd hml0 hP hK
  obtain ⟨rfl, hZ, hh⟩ := hP
  have hx := Bd.exec
  have hby := Bd.bytes
  have hml : c.maxLocals = 5 := hml0
  have hown : s.vm.findClass "com/example/slimc/slimc/game/NamesIsStartPinLaw" = some m.cls := findClass_of_methodNamed Bd.named
  have hnm := (name_of_methodNamed Bd.named Bd.method).1
  have X0 : Stand p l e room_1 s m #[(.int p0), (.int p1)] below meth c s₁ [] 0 0 := Stand.of_body Bd
  have e0 : s₁.heap = h0 := by rw [← hh, Bd.state]; rfl
  have N0 := Fr.nil n0
  have hret := Bd.returns
  have hlk := BodyLoose.notSynchronized Bd
  show own_Out p e below (fun o U' => ∃ v L, o = .returned v ∧ Q0 Z p0 p1 h0 n0 v U'.heap L ∧ FrameEnd s o U' L 0 0) (s₁.setTop (entryFrame m #[(.int p0), (.int p1)] maxLocals))
  refine own_of (fun t k => castTop (ef_0 m p0 p1) k) ?_
  show own_Out p e below _ (s₁.setTop (mkF m 0 #[.val (.int p0), .val (.int p1), .unset, .unset, .unset] []))
  refine own_of (fun _ k => XS.iloadN X0.here hx rfl (hb hby at_0) rfl k) ?_
  show own_Out p e below _ (s₁.setTop (mkF m 1 #[.val (.int p0), .val (.int p1), .unset, .unset, .unset] [(.int p1)]))
  refine own_of (fun _ k => XS.iconst X0.here hx rfl (hb hby at_1) k) ?_
  show own_Out p e below _ (s₁.setTop (mkF m 2 #[.val (.int p0), .val (.int p1), .unset, .unset, .unset] [(.int (1 : Int32)), (.int p1)]))
  refine own_of (fun _ k => XS.iand X0.here hx rfl (hb hby at_2) rfl k) ?_
  show own_Out p e below _ (s₁.setTop (mkF m 3 #[.val (.int p0), .val (.int p1), .unset, .unset, .unset] [(.int (p1 &&& (1 : Int32)))]))
  by_cases hc3_1 : (p1 &&& (1 : Int32)) = (0 : Int32)
  · skip
    refine own_of (fun _ k => XS.ifYes X0.here hx rfl (pc0 := 3) (pc' := 18) rfl (hb hby at_3) rfl ((if0 _ _).trans (teq hc3_1).1) (by decide) (by decide) k) ?_
    show own_Out p e below _ (s₁.setTop (mkF m 18 #[.val (.int p0), .val (.int p1), .unset, .unset, .unset] []))
    refine own_of (fun _ k => XS.iloadN X0.here hx rfl (hb hby at_18) rfl k) ?_
    show own_Out p e below _ (s₁.setTop (mkF m 19 #[.val (.int p0), .val (.int p1), .unset, .unset, .unset] [(.int p0)]))
    refine own_of (X0.ldcInt hx hown (mvT hZ (hw _ (List.mem_of_getElem? (i := 4) rfl))) (g := (mkF m 19 #[.val (.int p0), .val (.int p1), .unset, .unset, .unset] [(.int p0)])) rfl (hb hby at_19)) ?_
    show own_Out p e below _ (s₁.setTop (mkF m 21 #[.val (.int p0), .val (.int p1), .unset, .unset, .unset] [(.int (65535 : Int32)), (.int p0)]))
    refine own_of (fun _ k => XS.iand X0.here hx rfl (hb hby at_21) rfl k) ?_
    show own_Out p e below _ (s₁.setTop (mkF m 22 #[.val (.int p0), .val (.int p1), .unset, .unset, .unset] [(.int (p0 &&& (65535 : Int32)))]))
    refine own_of (fun _ k => XS.i2c X0.here hx rfl (hb hby at_22) rfl k) ?_
    show own_Out p e below _ (s₁.setTop (mkF m 23 #[.val (.int p0), .val (.int p1), .unset, .unset, .unset] [(.int ((p0 &&& (65535 : Int32)).toUInt32.toUInt16.toUInt32.toInt32))]))
    refine own_of (fun _ k => XS.istoreN X0.here hx rfl (hb hby at_23) rfl (l' := #[.val (.int p0), .val (.int p1), .val (.int ((p0 &&& (65535 : Int32)).toUInt32.toUInt16.toUInt32.toInt32)), .unset, .unset]) rfl k) ?_
    show own_Out p e below _ (s₁.setTop (mkF m 24 #[.val (.int p0), .val (.int p1), .val (.int ((p0 &&& (65535 : Int32)).toUInt32.toUInt16.toUInt32.toInt32)), .unset, .unset] []))
    refine own_of (fun _ k => XS.iloadN X0.here hx rfl (hb hby at_24) rfl k) ?_
    show own_Out p e below _ (s₁.setTop (mkF m 25 #[.val (.int p0), .val (.int p1), .val (.int ((p0 &&& (65535 : Int32)).toUInt32.toUInt16.toUInt32.toInt32)), .unset, .unset] [(.int ((p0 &&& (65535 : Int32)).toUInt32.toUInt16.toUInt32.toInt32))]))
    refine own_of (fun _ k => XS.bipush X0.here hx rfl (hb hby at_25) k) ?_
    show own_Out p e below _ (s₁.setTop (mkF m 27 #[.val (.int p0), .val (.int p1), .val (.int ((p0 &&& (65535 : Int32)).toUInt32.toUInt16.toUInt32.toInt32)), .unset, .unset] [(.int (32 : Int32)), (.int ((p0 &&& (65535 : Int32)).toUInt32.toUInt16.toUInt32.toInt32))]))
    refine own_of (fun _ k => XS.ior X0.here hx rfl (hb hby at_27) rfl k) ?_
    show own_Out p e below _ (s₁.setTop (mkF m 28 #[.val (.int p0), .val (.int p1), .val (.int ((p0 &&& (65535 : Int32)).toUInt32.toUInt16.toUInt32.toInt32)), .unset, .unset] [(.int (((p0 &&& (65535 : Int32)).toUInt32.toUInt16.toUInt32.toInt32) ||| (32 : Int32)))]))
    refine own_of (fun _ k => XS.bipush X0.here hx rfl (hb hby at_28) k) ?_
    show own_Out p e below _ (s₁.setTop (mkF m 30 #[.val (.int p0), .val (.int p1), .val (.int ((p0 &&& (65535 : Int32)).toUInt32.toUInt16.toUInt32.toInt32)), .unset, .unset] [(.int (97 : Int32)), (.int (((p0 &&& (65535 : Int32)).toUInt32.toUInt16.toUInt32.toInt32) ||| (32 : Int32)))]))
    refine own_of (fun _ k => XS.isub X0.here hx rfl (hb hby at_30) rfl k) ?_
    show own_Out p e below _ (s₁.setTop (mkF m 31 #[.val (.int p0), .val (.int p1), .val (.int ((p0 &&& (65535 : Int32)).toUInt32.toUInt16.toUInt32.toInt32)), .unset, .unset] [(.int ((((p0 &&& (65535 : Int32)).toUInt32.toUInt16.toUInt32.toInt32) ||| (32 : Int32)) - (97 : Int32)))]))
    refine own_of (fun _ k => XS.istoreN X0.here hx rfl (hb hby at_31) rfl (l' := #[.val (.int p0), .val (.int p1), .val (.int ((p0 &&& (65535 : Int32)).toUInt32.toUInt16.toUInt32.toInt32)), .val (.int ((((p0 &&& (65535 : Int32)).toUInt32.toUInt16.toUInt32.toInt32) ||| (32 : Int32)) - (97 : Int32))), .unset]) rfl k) ?_
    show own_Out p e below _ (s₁.setTop (mkF m 32 #[.val (.int p0), .val (.int p1), .val (.int ((p0 &&& (65535 : Int32)).toUInt32.toUInt16.toUInt32.toInt32)), .val (.int ((((p0 &&& (65535 : Int32)).toUInt32.toUInt16.toUInt32.toInt32) ||| (32 : Int32)) - (97 : Int32))), .unset] []))
    refine own_of (fun _ k => XS.iloadN X0.here hx rfl (hb hby at_32) rfl k) ?_
    show own_Out p e below _ (s₁.setTop (mkF m 33 #[.val (.int p0), .val (.int p1), .val (.int ((p0 &&& (65535 : Int32)).toUInt32.toUInt16.toUInt32.toInt32)), .val (.int ((((p0 &&& (65535 : Int32)).toUInt32.toUInt16.toUInt32.toInt32) ||| (32 : Int32)) - (97 : Int32))), .unset] [(.int ((p0 &&& (65535 : Int32)).toUInt32.toUInt16.toUInt32.toInt32))]))
    refine own_of (fun _ k => XS.bipush X0.here hx rfl (hb hby at_33) k) ?_
    show own_Out p e below _ (s₁.setTop (mkF m 35 #[.val (.int p0), .val (.int p1), .val (.int ((p0 &&& (65535 : Int32)).toUInt32.toUInt16.toUInt32.toInt32)), .val (.int ((((p0 &&& (65535 : Int32)).toUInt32.toUInt16.toUInt32.toInt32) ||| (32 : Int32)) - (97 : Int32))), .unset] [(.int (95 : Int32)), (.int ((p0 &&& (65535 : Int32)).toUInt32.toUInt16.toUInt32.toInt32))]))
    by_cases hc35_2 : ((p0 &&& (65535 : Int32)).toUInt32.toUInt16.toUInt32.toInt32) = (95 : Int32)
    · skip
      refine own_of (fun _ k => XS.icmpYes X0.here hx rfl (pc0 := 35) (pc' := 48) rfl (hb hby at_35) rfl (teq hc35_2).1 (by decide) (by decide) k) ?_
      show own_Out p e below _ (s₁.setTop (mkF m 48 #[.val (.int p0), .val (.int p1), .val (.int ((p0 &&& (65535 : Int32)).toUInt32.toUInt16.toUInt32.toInt32)), .val (.int ((((p0 &&& (65535 : Int32)).toUInt32.toUInt16.toUInt32.toInt32) ||| (32 : Int32)) - (97 : Int32))), .unset] []))
      refine own_of (fun _ k => XS.iconst X0.here hx rfl (hb hby at_48) k) ?_
      show own_Out p e below _ (s₁.setTop (mkF m 49 #[.val (.int p0), .val (.int p1), .val (.int ((p0 &&& (65535 : Int32)).toUInt32.toUInt16.toUInt32.toInt32)), .val (.int ((((p0 &&& (65535 : Int32)).toUInt32.toUInt16.toUInt32.toInt32) ||| (32 : Int32)) - (97 : Int32))), .unset] [(.int (1 : Int32))]))
      refine own_of (fun _ k => XS.goto X0.here hx rfl (pc0 := 49) (pc' := 53) rfl (hb hby at_49) (by decide) (by decide) k) ?_
      show own_Out p e below _ (s₁.setTop (mkF m 53 #[.val (.int p0), .val (.int p1), .val (.int ((p0 &&& (65535 : Int32)).toUInt32.toUInt16.toUInt32.toInt32)), .val (.int ((((p0 &&& (65535 : Int32)).toUInt32.toUInt16.toUInt32.toInt32) ||| (32 : Int32)) - (97 : Int32))), .unset] [(.int (1 : Int32))]))
      refine own_of (fun _ k => XS.istore X0.here hx rfl (hb hby at_53) rfl (l' := #[.val (.int p0), .val (.int p1), .val (.int ((p0 &&& (65535 : Int32)).toUInt32.toUInt16.toUInt32.toInt32)), .val (.int ((((p0 &&& (65535 : Int32)).toUInt32.toUInt16.toUInt32.toInt32) ||| (32 : Int32)) - (97 : Int32))), .val (.int (1 : Int32))]) rfl k) ?_
      show own_Out p e below _ (s₁.setTop (mkF m 55 #[.val (.int p0), .val (.int p1), .val (.int ((p0 &&& (65535 : Int32)).toUInt32.toUInt16.toUInt32.toInt32)), .val (.int ((((p0 &&& (65535 : Int32)).toUInt32.toUInt16.toUInt32.toInt32) ||| (32 : Int32)) - (97 : Int32))), .val (.int (1 : Int32))] []))
      refine own_of (fun _ k => XS.iloadN X0.here hx rfl (hb hby at_55) rfl k) ?_
      show own_Out p e below _ (s₁.setTop (mkF m 56 #[.val (.int p0), .val (.int p1), .val (.int ((p0 &&& (65535 : Int32)).toUInt32.toUInt16.toUInt32.toInt32)), .val (.int ((((p0 &&& (65535 : Int32)).toUInt32.toUInt16.toUInt32.toInt32) ||| (32 : Int32)) - (97 : Int32))), .val (.int (1 : Int32))] [(.int ((p0 &&& (65535 : Int32)).toUInt32.toUInt16.toUInt32.toInt32))]))
      obtain ⟨_, _, ⟨T3, L3, k3, n3⟩, -, X3, ⟨Lc3, hQ3, l3, y3, z3⟩, st3⟩ := Jvm.LawKit.callS X0 hx (y := (⟨"com/example/slimc/slimc/game/Names", "isStart", "(C)Z"⟩ : MethodName)) hown (mvT hZ (hw _ (List.mem_of_getElem? (i := 0) rfl))) (mvT hZ (hw _ (List.mem_of_getElem? (i := 1) rfl))) (mvT hZ (hw _ (List.mem_of_getElem? (i := 2) rfl))) (mvT hZ (hw _ (List.mem_of_getElem? (i := 3) rfl))) (by decide) (backOf (W := 0) (rm1 l Z a0 hw [] ((p0 &&& (65535 : Int32)).toUInt32.toUInt16.toUInt32.toInt32) h0 n0 Z0 ) hZ (hw _ (List.mem_of_getElem? (i := 3) rfl)) (hw _ (List.mem_of_getElem? (i := 2) rfl)) (by decide) (by decide)) (g := (mkF m 56 #[.val (.int p0), .val (.int p1), .val (.int ((p0 &&& (65535 : Int32)).toUInt32.toUInt16.toUInt32.toInt32)), .val (.int ((((p0 &&& (65535 : Int32)).toUInt32.toUInt16.toUInt32.toInt32) ||| (32 : Int32)) - (97 : Int32))), .val (.int (1 : Int32))] [(.int ((p0 &&& (65535 : Int32)).toUInt32.toUInt16.toUInt32.toInt32))])) rfl (by rw [hml]; rfl) (argsL := [(.int ((p0 &&& (65535 : Int32)).toUInt32.toUInt16.toUInt32.toInt32))]) (rest := []) (lenOf pd_0 rfl) rfl (by show 2 * 0 + _ ≤ _; exact Nat.le_of_eq rfl) (hb hby at_56) (fun _ _ => ⟨rfl, e0, (by decide : 0 + 0 ≤ _), (by decide : 0 + 0 ≤ _)⟩)
      dsimp only [Pt.U, Pt.locs, Pt.cells, Pt.slots] at X3 l3 y3 z3 st3 hQ3
      subst l3 y3 z3
      obtain ⟨rfl, N3q, hh3⟩ := hQ3
      have N3 := Fr.app N0 N3q
      refine own_of st3 ?_
      show own_Out p e below _ (T3.setTop (mkF m 59 #[.val (.int p0), .val (.int p1), .val (.int ((p0 &&& (65535 : Int32)).toUInt32.toUInt16.toUInt32.toInt32)), .val (.int ((((p0 &&& (65535 : Int32)).toUInt32.toUInt16.toUInt32.toInt32) ||| (32 : Int32)) - (97 : Int32))), .val (.int (1 : Int32))] [(.int (f1 ((p0 &&& (65535 : Int32)).toUInt32.toUInt16.toUInt32.toInt32)))]))
      refine own_of (fun _ k => XS.iload X3.here hx rfl (hb hby at_59) rfl k) ?_
      show own_Out p e below _ (T3.setTop (mkF m 61 #[.val (.int p0), .val (.int p1), .val (.int ((p0 &&& (65535 : Int32)).toUInt32.toUInt16.toUInt32.toInt32)), .val (.int ((((p0 &&& (65535 : Int32)).toUInt32.toUInt16.toUInt32.toInt32) ||| (32 : Int32)) - (97 : Int32))), .val (.int (1 : Int32))] [(.int (1 : Int32)), (.int (f1 ((p0 &&& (65535 : Int32)).toUInt32.toUInt16.toUInt32.toInt32)))]))
      by_cases hc61_4 : (f1 ((p0 &&& (65535 : Int32)).toUInt32.toUInt16.toUInt32.toInt32)) = (1 : Int32)
      · skip
        refine own_of (fun _ k => XS.icmpNo X3.here hx rfl (hb hby at_61) rfl (teq hc61_4).2 k) ?_
        show own_Out p e below _ (T3.setTop (mkF m 64 #[.val (.int p0), .val (.int p1), .val (.int ((p0 &&& (65535 : Int32)).toUInt32.toUInt16.toUInt32.toInt32)), .val (.int ((((p0 &&& (65535 : Int32)).toUInt32.toUInt16.toUInt32.toInt32) ||| (32 : Int32)) - (97 : Int32))), .val (.int (1 : Int32))] []))
        refine own_of (fun _ k => XS.iconst X3.here hx rfl (hb hby at_64) k) ?_
        show own_Out p e below _ (T3.setTop (mkF m 65 #[.val (.int p0), .val (.int p1), .val (.int ((p0 &&& (65535 : Int32)).toUInt32.toUInt16.toUInt32.toInt32)), .val (.int ((((p0 &&& (65535 : Int32)).toUInt32.toUInt16.toUInt32.toInt32) ||| (32 : Int32)) - (97 : Int32))), .val (.int (1 : Int32))] [(.int (1 : Int32))]))
        refine own_of (fun _ k => XS.goto X3.here hx rfl (pc0 := 65) (pc' := 69) rfl (hb hby at_65) (by decide) (by decide) k) ?_
        show own_Out p e below _ (T3.setTop (mkF m 69 #[.val (.int p0), .val (.int p1), .val (.int ((p0 &&& (65535 : Int32)).toUInt32.toUInt16.toUInt32.toInt32)), .val (.int ((((p0 &&& (65535 : Int32)).toUInt32.toUInt16.toUInt32.toInt32) ||| (32 : Int32)) - (97 : Int32))), .val (.int (1 : Int32))] [(.int (1 : Int32))]))
        exact own_outN X3 hx hlk (t := .boolean) hret (by simp) (hb hby at_69) (z' := (1 : Int32)) rfl (Q := Q0 Z p0 p1 h0 n0) ⟨rfl, N3⟩ (by decide) (by decide)
      · skip
        refine own_of (fun _ k => XS.icmpYes X3.here hx rfl (pc0 := 61) (pc' := 68) rfl (hb hby at_61) rfl (feq hc61_4).2 (by decide) (by decide) k) ?_
        show own_Out p e below _ (T3.setTop (mkF m 68 #[.val (.int p0), .val (.int p1), .val (.int ((p0 &&& (65535 : Int32)).toUInt32.toUInt16.toUInt32.toInt32)), .val (.int ((((p0 &&& (65535 : Int32)).toUInt32.toUInt16.toUInt32.toInt32) ||| (32 : Int32)) - (97 : Int32))), .val (.int (1 : Int32))] []))
        refine own_of (fun _ k => XS.iconst X3.here hx rfl (hb hby at_68) k) ?_
        show own_Out p e below _ (T3.setTop (mkF m 69 #[.val (.int p0), .val (.int p1), .val (.int ((p0 &&& (65535 : Int32)).toUInt32.toUInt16.toUInt32.toInt32)), .val (.int ((((p0 &&& (65535 : Int32)).toUInt32.toUInt16.toUInt32.toInt32) ||| (32 : Int32)) - (97 : Int32))), .val (.int (1 : Int32))] [(.int (0 : Int32))]))
        exact (dead0_0 p0 p1 hc3_1 hc35_2 hc61_4).elim
    · skip
      refine own_of (fun _ k => XS.icmpNo X0.here hx rfl (hb hby at_35) rfl (feq hc35_2).1 k) ?_
      show own_Out p e below _ (s₁.setTop (mkF m 38 #[.val (.int p0), .val (.int p1), .val (.int ((p0 &&& (65535 : Int32)).toUInt32.toUInt16.toUInt32.toInt32)), .val (.int ((((p0 &&& (65535 : Int32)).toUInt32.toUInt16.toUInt32.toInt32) ||| (32 : Int32)) - (97 : Int32))), .unset] []))
      refine own_of (fun _ k => XS.iloadN X0.here hx rfl (hb hby at_38) rfl k) ?_
      show own_Out p e below _ (s₁.setTop (mkF m 39 #[.val (.int p0), .val (.int p1), .val (.int ((p0 &&& (65535 : Int32)).toUInt32.toUInt16.toUInt32.toInt32)), .val (.int ((((p0 &&& (65535 : Int32)).toUInt32.toUInt16.toUInt32.toInt32) ||| (32 : Int32)) - (97 : Int32))), .unset] [(.int ((((p0 &&& (65535 : Int32)).toUInt32.toUInt16.toUInt32.toInt32) ||| (32 : Int32)) - (97 : Int32)))]))
      by_cases hc39_5 : ((((p0 &&& (65535 : Int32)).toUInt32.toUInt16.toUInt32.toInt32) ||| (32 : Int32)) - (97 : Int32)) < (0 : Int32)
      · skip
        refine own_of (fun _ k => XS.ifYes X0.here hx rfl (pc0 := 39) (pc' := 52) rfl (hb hby at_39) rfl ((if0 _ _).trans (tlt hc39_5).1) (by decide) (by decide) k) ?_
        show own_Out p e below _ (s₁.setTop (mkF m 52 #[.val (.int p0), .val (.int p1), .val (.int ((p0 &&& (65535 : Int32)).toUInt32.toUInt16.toUInt32.toInt32)), .val (.int ((((p0 &&& (65535 : Int32)).toUInt32.toUInt16.toUInt32.toInt32) ||| (32 : Int32)) - (97 : Int32))), .unset] []))
        refine own_of (fun _ k => XS.iconst X0.here hx rfl (hb hby at_52) k) ?_
        show own_Out p e below _ (s₁.setTop (mkF m 53 #[.val (.int p0), .val (.int p1), .val (.int ((p0 &&& (65535 : Int32)).toUInt32.toUInt16.toUInt32.toInt32)), .val (.int ((((p0 &&& (65535 : Int32)).toUInt32.toUInt16.toUInt32.toInt32) ||| (32 : Int32)) - (97 : Int32))), .unset] [(.int (0 : Int32))]))
        refine own_of (fun _ k => XS.istore X0.here hx rfl (hb hby at_53) rfl (l' := #[.val (.int p0), .val (.int p1), .val (.int ((p0 &&& (65535 : Int32)).toUInt32.toUInt16.toUInt32.toInt32)), .val (.int ((((p0 &&& (65535 : Int32)).toUInt32.toUInt16.toUInt32.toInt32) ||| (32 : Int32)) - (97 : Int32))), .val (.int (0 : Int32))]) rfl k) ?_
        show own_Out p e below _ (s₁.setTop (mkF m 55 #[.val (.int p0), .val (.int p1), .val (.int ((p0 &&& (65535 : Int32)).toUInt32.toUInt16.toUInt32.toInt32)), .val (.int ((((p0 &&& (65535 : Int32)).toUInt32.toUInt16.toUInt32.toInt32) ||| (32 : Int32)) - (97 : Int32))), .val (.int (0 : Int32))] []))
        refine own_of (fun _ k => XS.iloadN X0.here hx rfl (hb hby at_55) rfl k) ?_
        show own_Out p e below _ (s₁.setTop (mkF m 56 #[.val (.int p0), .val (.int p1), .val (.int ((p0 &&& (65535 : Int32)).toUInt32.toUInt16.toUInt32.toInt32)), .val (.int ((((p0 &&& (65535 : Int32)).toUInt32.toUInt16.toUInt32.toInt32) ||| (32 : Int32)) - (97 : Int32))), .val (.int (0 : Int32))] [(.int ((p0 &&& (65535 : Int32)).toUInt32.toUInt16.toUInt32.toInt32))]))
        obtain ⟨_, _, ⟨T6, L6, k6, n6⟩, -, X6, ⟨Lc6, hQ6, l6, y6, z6⟩, st6⟩ := Jvm.LawKit.callS X0 hx (y := (⟨"com/example/slimc/slimc/game/Names", "isStart", "(C)Z"⟩ : MethodName)) hown (mvT hZ (hw _ (List.mem_of_getElem? (i := 0) rfl))) (mvT hZ (hw _ (List.mem_of_getElem? (i := 1) rfl))) (mvT hZ (hw _ (List.mem_of_getElem? (i := 2) rfl))) (mvT hZ (hw _ (List.mem_of_getElem? (i := 3) rfl))) (by decide) (backOf (W := 0) (rm1 l Z a0 hw [] ((p0 &&& (65535 : Int32)).toUInt32.toUInt16.toUInt32.toInt32) h0 n0 Z0 ) hZ (hw _ (List.mem_of_getElem? (i := 3) rfl)) (hw _ (List.mem_of_getElem? (i := 2) rfl)) (by decide) (by decide)) (g := (mkF m 56 #[.val (.int p0), .val (.int p1), .val (.int ((p0 &&& (65535 : Int32)).toUInt32.toUInt16.toUInt32.toInt32)), .val (.int ((((p0 &&& (65535 : Int32)).toUInt32.toUInt16.toUInt32.toInt32) ||| (32 : Int32)) - (97 : Int32))), .val (.int (0 : Int32))] [(.int ((p0 &&& (65535 : Int32)).toUInt32.toUInt16.toUInt32.toInt32))])) rfl (by rw [hml]; rfl) (argsL := [(.int ((p0 &&& (65535 : Int32)).toUInt32.toUInt16.toUInt32.toInt32))]) (rest := []) (lenOf pd_0 rfl) rfl (by show 2 * 0 + _ ≤ _; exact Nat.le_of_eq rfl) (hb hby at_56) (fun _ _ => ⟨rfl, e0, (by decide : 0 + 0 ≤ _), (by decide : 0 + 0 ≤ _)⟩)
        dsimp only [Pt.U, Pt.locs, Pt.cells, Pt.slots] at X6 l6 y6 z6 st6 hQ6
        subst l6 y6 z6
        obtain ⟨rfl, N6q, hh6⟩ := hQ6
        have N6 := Fr.app N0 N6q
        refine own_of st6 ?_
        show own_Out p e below _ (T6.setTop (mkF m 59 #[.val (.int p0), .val (.int p1), .val (.int ((p0 &&& (65535 : Int32)).toUInt32.toUInt16.toUInt32.toInt32)), .val (.int ((((p0 &&& (65535 : Int32)).toUInt32.toUInt16.toUInt32.toInt32) ||| (32 : Int32)) - (97 : Int32))), .val (.int (0 : Int32))] [(.int (f1 ((p0 &&& (65535 : Int32)).toUInt32.toUInt16.toUInt32.toInt32)))]))
        refine own_of (fun _ k => XS.iload X6.here hx rfl (hb hby at_59) rfl k) ?_
        show own_Out p e below _ (T6.setTop (mkF m 61 #[.val (.int p0), .val (.int p1), .val (.int ((p0 &&& (65535 : Int32)).toUInt32.toUInt16.toUInt32.toInt32)), .val (.int ((((p0 &&& (65535 : Int32)).toUInt32.toUInt16.toUInt32.toInt32) ||| (32 : Int32)) - (97 : Int32))), .val (.int (0 : Int32))] [(.int (0 : Int32)), (.int (f1 ((p0 &&& (65535 : Int32)).toUInt32.toUInt16.toUInt32.toInt32)))]))
        by_cases hc61_7 : (f1 ((p0 &&& (65535 : Int32)).toUInt32.toUInt16.toUInt32.toInt32)) = (0 : Int32)
        · skip
          refine own_of (fun _ k => XS.icmpNo X6.here hx rfl (hb hby at_61) rfl (teq hc61_7).2 k) ?_
          show own_Out p e below _ (T6.setTop (mkF m 64 #[.val (.int p0), .val (.int p1), .val (.int ((p0 &&& (65535 : Int32)).toUInt32.toUInt16.toUInt32.toInt32)), .val (.int ((((p0 &&& (65535 : Int32)).toUInt32.toUInt16.toUInt32.toInt32) ||| (32 : Int32)) - (97 : Int32))), .val (.int (0 : Int32))] []))
          refine own_of (fun _ k => XS.iconst X6.here hx rfl (hb hby at_64) k) ?_
          show own_Out p e below _ (T6.setTop (mkF m 65 #[.val (.int p0), .val (.int p1), .val (.int ((p0 &&& (65535 : Int32)).toUInt32.toUInt16.toUInt32.toInt32)), .val (.int ((((p0 &&& (65535 : Int32)).toUInt32.toUInt16.toUInt32.toInt32) ||| (32 : Int32)) - (97 : Int32))), .val (.int (0 : Int32))] [(.int (1 : Int32))]))
          refine own_of (fun _ k => XS.goto X6.here hx rfl (pc0 := 65) (pc' := 69) rfl (hb hby at_65) (by decide) (by decide) k) ?_
          show own_Out p e below _ (T6.setTop (mkF m 69 #[.val (.int p0), .val (.int p1), .val (.int ((p0 &&& (65535 : Int32)).toUInt32.toUInt16.toUInt32.toInt32)), .val (.int ((((p0 &&& (65535 : Int32)).toUInt32.toUInt16.toUInt32.toInt32) ||| (32 : Int32)) - (97 : Int32))), .val (.int (0 : Int32))] [(.int (1 : Int32))]))
          exact own_outN X6 hx hlk (t := .boolean) hret (by simp) (hb hby at_69) (z' := (1 : Int32)) rfl (Q := Q0 Z p0 p1 h0 n0) ⟨rfl, N6⟩ (by decide) (by decide)
        · skip
          refine own_of (fun _ k => XS.icmpYes X6.here hx rfl (pc0 := 61) (pc' := 68) rfl (hb hby at_61) rfl (feq hc61_7).2 (by decide) (by decide) k) ?_
          show own_Out p e below _ (T6.setTop (mkF m 68 #[.val (.int p0), .val (.int p1), .val (.int ((p0 &&& (65535 : Int32)).toUInt32.toUInt16.toUInt32.toInt32)), .val (.int ((((p0 &&& (65535 : Int32)).toUInt32.toUInt16.toUInt32.toInt32) ||| (32 : Int32)) - (97 : Int32))), .val (.int (0 : Int32))] []))
          refine own_of (fun _ k => XS.iconst X6.here hx rfl (hb hby at_68) k) ?_
          show own_Out p e below _ (T6.setTop (mkF m 69 #[.val (.int p0), .val (.int p1), .val (.int ((p0 &&& (65535 : Int32)).toUInt32.toUInt16.toUInt32.toInt32)), .val (.int ((((p0 &&& (65535 : Int32)).toUInt32.toUInt16.toUInt32.toInt32) ||| (32 : Int32)) - (97 : Int32))), .val (.int (0 : Int32))] [(.int (0 : Int32))]))
          exact (dead0_1 p0 p1 hc3_1 hc35_2 hc39_5 hc61_7).elim
      · skip
        refine own_of (fun _ k => XS.ifNo X0.here hx rfl (hb hby at_39) rfl ((if0 _ _).trans (flt hc39_5).1) k) ?_
        show own_Out p e below _ (s₁.setTop (mkF m 42 #[.val (.int p0), .val (.int p1), .val (.int ((p0 &&& (65535 : Int32)).toUInt32.toUInt16.toUInt32.toInt32)), .val (.int ((((p0 &&& (65535 : Int32)).toUInt32.toUInt16.toUInt32.toInt32) ||| (32 : Int32)) - (97 : Int32))), .unset] []))
        refine own_of (fun _ k => XS.iloadN X0.here hx rfl (hb hby at_42) rfl k) ?_
        show own_Out p e below _ (s₁.setTop (mkF m 43 #[.val (.int p0), .val (.int p1), .val (.int ((p0 &&& (65535 : Int32)).toUInt32.toUInt16.toUInt32.toInt32)), .val (.int ((((p0 &&& (65535 : Int32)).toUInt32.toUInt16.toUInt32.toInt32) ||| (32 : Int32)) - (97 : Int32))), .unset] [(.int ((((p0 &&& (65535 : Int32)).toUInt32.toUInt16.toUInt32.toInt32) ||| (32 : Int32)) - (97 : Int32)))]))
        refine own_of (fun _ k => XS.bipush X0.here hx rfl (hb hby at_43) k) ?_
        show own_Out p e below _ (s₁.setTop (mkF m 45 #[.val (.int p0), .val (.int p1), .val (.int ((p0 &&& (65535 : Int32)).toUInt32.toUInt16.toUInt32.toInt32)), .val (.int ((((p0 &&& (65535 : Int32)).toUInt32.toUInt16.toUInt32.toInt32) ||| (32 : Int32)) - (97 : Int32))), .unset] [(.int (26 : Int32)), (.int ((((p0 &&& (65535 : Int32)).toUInt32.toUInt16.toUInt32.toInt32) ||| (32 : Int32)) - (97 : Int32)))]))
        by_cases hc45_8 : ((((p0 &&& (65535 : Int32)).toUInt32.toUInt16.toUInt32.toInt32) ||| (32 : Int32)) - (97 : Int32)) < (26 : Int32)
        · skip
          refine own_of (fun _ k => XS.icmpNo X0.here hx rfl (hb hby at_45) rfl (tlt hc45_8).2.1 k) ?_
          show own_Out p e below _ (s₁.setTop (mkF m 48 #[.val (.int p0), .val (.int p1), .val (.int ((p0 &&& (65535 : Int32)).toUInt32.toUInt16.toUInt32.toInt32)), .val (.int ((((p0 &&& (65535 : Int32)).toUInt32.toUInt16.toUInt32.toInt32) ||| (32 : Int32)) - (97 : Int32))), .unset] []))
          refine own_of (fun _ k => XS.iconst X0.here hx rfl (hb hby at_48) k) ?_
          show own_Out p e below _ (s₁.setTop (mkF m 49 #[.val (.int p0), .val (.int p1), .val (.int ((p0 &&& (65535 : Int32)).toUInt32.toUInt16.toUInt32.toInt32)), .val (.int ((((p0 &&& (65535 : Int32)).toUInt32.toUInt16.toUInt32.toInt32) ||| (32 : Int32)) - (97 : Int32))), .unset] [(.int (1 : Int32))]))
          refine own_of (fun _ k => XS.goto X0.here hx rfl (pc0 := 49) (pc' := 53) rfl (hb hby at_49) (by decide) (by decide) k) ?_
          show own_Out p e below _ (s₁.setTop (mkF m 53 #[.val (.int p0), .val (.int p1), .val (.int ((p0 &&& (65535 : Int32)).toUInt32.toUInt16.toUInt32.toInt32)), .val (.int ((((p0 &&& (65535 : Int32)).toUInt32.toUInt16.toUInt32.toInt32) ||| (32 : Int32)) - (97 : Int32))), .unset] [(.int (1 : Int32))]))
          refine own_of (fun _ k => XS.istore X0.here hx rfl (hb hby at_53) rfl (l' := #[.val (.int p0), .val (.int p1), .val (.int ((p0 &&& (65535 : Int32)).toUInt32.toUInt16.toUInt32.toInt32)), .val (.int ((((p0 &&& (65535 : Int32)).toUInt32.toUInt16.toUInt32.toInt32) ||| (32 : Int32)) - (97 : Int32))), .val (.int (1 : Int32))]) rfl k) ?_
          show own_Out p e below _ (s₁.setTop (mkF m 55 #[.val (.int p0), .val (.int p1), .val (.int ((p0 &&& (65535 : Int32)).toUInt32.toUInt16.toUInt32.toInt32)), .val (.int ((((p0 &&& (65535 : Int32)).toUInt32.toUInt16.toUInt32.toInt32) ||| (32 : Int32)) - (97 : Int32))), .val (.int (1 : Int32))] []))
          refine own_of (fun _ k => XS.iloadN X0.here hx rfl (hb hby at_55) rfl k) ?_
          show own_Out p e below _ (s₁.setTop (mkF m 56 #[.val (.int p0), .val (.int p1), .val (.int ((p0 &&& (65535 : Int32)).toUInt32.toUInt16.toUInt32.toInt32)), .val (.int ((((p0 &&& (65535 : Int32)).toUInt32.toUInt16.toUInt32.toInt32) ||| (32 : Int32)) - (97 : Int32))), .val (.int (1 : Int32))] [(.int ((p0 &&& (65535 : Int32)).toUInt32.toUInt16.toUInt32.toInt32))]))
          obtain ⟨_, _, ⟨T9, L9, k9, n9⟩, -, X9, ⟨Lc9, hQ9, l9, y9, z9⟩, st9⟩ := Jvm.LawKit.callS X0 hx (y := (⟨"com/example/slimc/slimc/game/Names", "isStart", "(C)Z"⟩ : MethodName)) hown (mvT hZ (hw _ (List.mem_of_getElem? (i := 0) rfl))) (mvT hZ (hw _ (List.mem_of_getElem? (i := 1) rfl))) (mvT hZ (hw _ (List.mem_of_getElem? (i := 2) rfl))) (mvT hZ (hw _ (List.mem_of_getElem? (i := 3) rfl))) (by decide) (backOf (W := 0) (rm1 l Z a0 hw [] ((p0 &&& (65535 : Int32)).toUInt32.toUInt16.toUInt32.toInt32) h0 n0 Z0 ) hZ (hw _ (List.mem_of_getElem? (i := 3) rfl)) (hw _ (List.mem_of_getElem? (i := 2) rfl)) (by decide) (by decide)) (g := (mkF m 56 #[.val (.int p0), .val (.int p1), .val (.int ((p0 &&& (65535 : Int32)).toUInt32.toUInt16.toUInt32.toInt32)), .val (.int ((((p0 &&& (65535 : Int32)).toUInt32.toUInt16.toUInt32.toInt32) ||| (32 : Int32)) - (97 : Int32))), .val (.int (1 : Int32))] [(.int ((p0 &&& (65535 : Int32)).toUInt32.toUInt16.toUInt32.toInt32))])) rfl (by rw [hml]; rfl) (argsL := [(.int ((p0 &&& (65535 : Int32)).toUInt32.toUInt16.toUInt32.toInt32))]) (rest := []) (lenOf pd_0 rfl) rfl (by show 2 * 0 + _ ≤ _; exact Nat.le_of_eq rfl) (hb hby at_56) (fun _ _ => ⟨rfl, e0, (by decide : 0 + 0 ≤ _), (by decide : 0 + 0 ≤ _)⟩)
          dsimp only [Pt.U, Pt.locs, Pt.cells, Pt.slots] at X9 l9 y9 z9 st9 hQ9
          subst l9 y9 z9
          obtain ⟨rfl, N9q, hh9⟩ := hQ9
          have N9 := Fr.app N0 N9q
          refine own_of st9 ?_
          show own_Out p e below _ (T9.setTop (mkF m 59 #[.val (.int p0), .val (.int p1), .val (.int ((p0 &&& (65535 : Int32)).toUInt32.toUInt16.toUInt32.toInt32)), .val (.int ((((p0 &&& (65535 : Int32)).toUInt32.toUInt16.toUInt32.toInt32) ||| (32 : Int32)) - (97 : Int32))), .val (.int (1 : Int32))] [(.int (f1 ((p0 &&& (65535 : Int32)).toUInt32.toUInt16.toUInt32.toInt32)))]))
          refine own_of (fun _ k => XS.iload X9.here hx rfl (hb hby at_59) rfl k) ?_
          show own_Out p e below _ (T9.setTop (mkF m 61 #[.val (.int p0), .val (.int p1), .val (.int ((p0 &&& (65535 : Int32)).toUInt32.toUInt16.toUInt32.toInt32)), .val (.int ((((p0 &&& (65535 : Int32)).toUInt32.toUInt16.toUInt32.toInt32) ||| (32 : Int32)) - (97 : Int32))), .val (.int (1 : Int32))] [(.int (1 : Int32)), (.int (f1 ((p0 &&& (65535 : Int32)).toUInt32.toUInt16.toUInt32.toInt32)))]))
          by_cases hc61_10 : (f1 ((p0 &&& (65535 : Int32)).toUInt32.toUInt16.toUInt32.toInt32)) = (1 : Int32)
          · skip
            refine own_of (fun _ k => XS.icmpNo X9.here hx rfl (hb hby at_61) rfl (teq hc61_10).2 k) ?_
            show own_Out p e below _ (T9.setTop (mkF m 64 #[.val (.int p0), .val (.int p1), .val (.int ((p0 &&& (65535 : Int32)).toUInt32.toUInt16.toUInt32.toInt32)), .val (.int ((((p0 &&& (65535 : Int32)).toUInt32.toUInt16.toUInt32.toInt32) ||| (32 : Int32)) - (97 : Int32))), .val (.int (1 : Int32))] []))
            refine own_of (fun _ k => XS.iconst X9.here hx rfl (hb hby at_64) k) ?_
            show own_Out p e below _ (T9.setTop (mkF m 65 #[.val (.int p0), .val (.int p1), .val (.int ((p0 &&& (65535 : Int32)).toUInt32.toUInt16.toUInt32.toInt32)), .val (.int ((((p0 &&& (65535 : Int32)).toUInt32.toUInt16.toUInt32.toInt32) ||| (32 : Int32)) - (97 : Int32))), .val (.int (1 : Int32))] [(.int (1 : Int32))]))
            refine own_of (fun _ k => XS.goto X9.here hx rfl (pc0 := 65) (pc' := 69) rfl (hb hby at_65) (by decide) (by decide) k) ?_
            show own_Out p e below _ (T9.setTop (mkF m 69 #[.val (.int p0), .val (.int p1), .val (.int ((p0 &&& (65535 : Int32)).toUInt32.toUInt16.toUInt32.toInt32)), .val (.int ((((p0 &&& (65535 : Int32)).toUInt32.toUInt16.toUInt32.toInt32) ||| (32 : Int32)) - (97 : Int32))), .val (.int (1 : Int32))] [(.int (1 : Int32))]))
            exact own_outN X9 hx hlk (t := .boolean) hret (by simp) (hb hby at_69) (z' := (1 : Int32)) rfl (Q := Q0 Z p0 p1 h0 n0) ⟨rfl, N9⟩ (by decide) (by decide)
          · skip
            refine own_of (fun _ k => XS.icmpYes X9.here hx rfl (pc0 := 61) (pc' := 68) rfl (hb hby at_61) rfl (feq hc61_10).2 (by decide) (by decide) k) ?_
            show own_Out p e below _ (T9.setTop (mkF m 68 #[.val (.int p0), .val (.int p1), .val (.int ((p0 &&& (65535 : Int32)).toUInt32.toUInt16.toUInt32.toInt32)), .val (.int ((((p0 &&& (65535 : Int32)).toUInt32.toUInt16.toUInt32.toInt32) ||| (32 : Int32)) - (97 : Int32))), .val (.int (1 : Int32))] []))
            refine own_of (fun _ k => XS.iconst X9.here hx rfl (hb hby at_68) k) ?_
            show own_Out p e below _ (T9.setTop (mkF m 69 #[.val (.int p0), .val (.int p1), .val (.int ((p0 &&& (65535 : Int32)).toUInt32.toUInt16.toUInt32.toInt32)), .val (.int ((((p0 &&& (65535 : Int32)).toUInt32.toUInt16.toUInt32.toInt32) ||| (32 : Int32)) - (97 : Int32))), .val (.int (1 : Int32))] [(.int (0 : Int32))]))
            exact (dead0_2 p0 p1 hc3_1 hc35_2 hc39_5 hc45_8 hc61_10).elim
        · skip
          refine own_of (fun _ k => XS.icmpYes X0.here hx rfl (pc0 := 45) (pc' := 52) rfl (hb hby at_45) rfl (flt hc45_8).2.1 (by decide) (by decide) k) ?_
          show own_Out p e below _ (s₁.setTop (mkF m 52 #[.val (.int p0), .val (.int p1), .val (.int ((p0 &&& (65535 : Int32)).toUInt32.toUInt16.toUInt32.toInt32)), .val (.int ((((p0 &&& (65535 : Int32)).toUInt32.toUInt16.toUInt32.toInt32) ||| (32 : Int32)) - (97 : Int32))), .unset] []))
          refine own_of (fun _ k => XS.iconst X0.here hx rfl (hb hby at_52) k) ?_
          show own_Out p e below _ (s₁.setTop (mkF m 53 #[.val (.int p0), .val (.int p1), .val (.int ((p0 &&& (65535 : Int32)).toUInt32.toUInt16.toUInt32.toInt32)), .val (.int ((((p0 &&& (65535 : Int32)).toUInt32.toUInt16.toUInt32.toInt32) ||| (32 : Int32)) - (97 : Int32))), .unset] [(.int (0 : Int32))]))
          refine own_of (fun _ k => XS.istore X0.here hx rfl (hb hby at_53) rfl (l' := #[.val (.int p0), .val (.int p1), .val (.int ((p0 &&& (65535 : Int32)).toUInt32.toUInt16.toUInt32.toInt32)), .val (.int ((((p0 &&& (65535 : Int32)).toUInt32.toUInt16.toUInt32.toInt32) ||| (32 : Int32)) - (97 : Int32))), .val (.int (0 : Int32))]) rfl k) ?_
          show own_Out p e below _ (s₁.setTop (mkF m 55 #[.val (.int p0), .val (.int p1), .val (.int ((p0 &&& (65535 : Int32)).toUInt32.toUInt16.toUInt32.toInt32)), .val (.int ((((p0 &&& (65535 : Int32)).toUInt32.toUInt16.toUInt32.toInt32) ||| (32 : Int32)) - (97 : Int32))), .val (.int (0 : Int32))] []))
          refine own_of (fun _ k => XS.iloadN X0.here hx rfl (hb hby at_55) rfl k) ?_
          show own_Out p e below _ (s₁.setTop (mkF m 56 #[.val (.int p0), .val (.int p1), .val (.int ((p0 &&& (65535 : Int32)).toUInt32.toUInt16.toUInt32.toInt32)), .val (.int ((((p0 &&& (65535 : Int32)).toUInt32.toUInt16.toUInt32.toInt32) ||| (32 : Int32)) - (97 : Int32))), .val (.int (0 : Int32))] [(.int ((p0 &&& (65535 : Int32)).toUInt32.toUInt16.toUInt32.toInt32))]))
          obtain ⟨_, _, ⟨T11, L11, k11, n11⟩, -, X11, ⟨Lc11, hQ11, l11, y11, z11⟩, st11⟩ := Jvm.LawKit.callS X0 hx (y := (⟨"com/example/slimc/slimc/game/Names", "isStart", "(C)Z"⟩ : MethodName)) hown (mvT hZ (hw _ (List.mem_of_getElem? (i := 0) rfl))) (mvT hZ (hw _ (List.mem_of_getElem? (i := 1) rfl))) (mvT hZ (hw _ (List.mem_of_getElem? (i := 2) rfl))) (mvT hZ (hw _ (List.mem_of_getElem? (i := 3) rfl))) (by decide) (backOf (W := 0) (rm1 l Z a0 hw [] ((p0 &&& (65535 : Int32)).toUInt32.toUInt16.toUInt32.toInt32) h0 n0 Z0 ) hZ (hw _ (List.mem_of_getElem? (i := 3) rfl)) (hw _ (List.mem_of_getElem? (i := 2) rfl)) (by decide) (by decide)) (g := (mkF m 56 #[.val (.int p0), .val (.int p1), .val (.int ((p0 &&& (65535 : Int32)).toUInt32.toUInt16.toUInt32.toInt32)), .val (.int ((((p0 &&& (65535 : Int32)).toUInt32.toUInt16.toUInt32.toInt32) ||| (32 : Int32)) - (97 : Int32))), .val (.int (0 : Int32))] [(.int ((p0 &&& (65535 : Int32)).toUInt32.toUInt16.toUInt32.toInt32))])) rfl (by rw [hml]; rfl) (argsL := [(.int ((p0 &&& (65535 : Int32)).toUInt32.toUInt16.toUInt32.toInt32))]) (rest := []) (lenOf pd_0 rfl) rfl (by show 2 * 0 + _ ≤ _; exact Nat.le_of_eq rfl) (hb hby at_56) (fun _ _ => ⟨rfl, e0, (by decide : 0 + 0 ≤ _), (by decide : 0 + 0 ≤ _)⟩)
          dsimp only [Pt.U, Pt.locs, Pt.cells, Pt.slots] at X11 l11 y11 z11 st11 hQ11
          subst l11 y11 z11
          obtain ⟨rfl, N11q, hh11⟩ := hQ11
          have N11 := Fr.app N0 N11q
          refine own_of st11 ?_
          show own_Out p e below _ (T11.setTop (mkF m 59 #[.val (.int p0), .val (.int p1), .val (.int ((p0 &&& (65535 : Int32)).toUInt32.toUInt16.toUInt32.toInt32)), .val (.int ((((p0 &&& (65535 : Int32)).toUInt32.toUInt16.toUInt32.toInt32) ||| (32 : Int32)) - (97 : Int32))), .val (.int (0 : Int32))] [(.int (f1 ((p0 &&& (65535 : Int32)).toUInt32.toUInt16.toUInt32.toInt32)))]))
          refine own_of (fun _ k => XS.iload X11.here hx rfl (hb hby at_59) rfl k) ?_
          show own_Out p e below _ (T11.setTop (mkF m 61 #[.val (.int p0), .val (.int p1), .val (.int ((p0 &&& (65535 : Int32)).toUInt32.toUInt16.toUInt32.toInt32)), .val (.int ((((p0 &&& (65535 : Int32)).toUInt32.toUInt16.toUInt32.toInt32) ||| (32 : Int32)) - (97 : Int32))), .val (.int (0 : Int32))] [(.int (0 : Int32)), (.int (f1 ((p0 &&& (65535 : Int32)).toUInt32.toUInt16.toUInt32.toInt32)))]))
          by_cases hc61_12 : (f1 ((p0 &&& (65535 : Int32)).toUInt32.toUInt16.toUInt32.toInt32)) = (0 : Int32)
          · skip
            refine own_of (fun _ k => XS.icmpNo X11.here hx rfl (hb hby at_61) rfl (teq hc61_12).2 k) ?_
            show own_Out p e below _ (T11.setTop (mkF m 64 #[.val (.int p0), .val (.int p1), .val (.int ((p0 &&& (65535 : Int32)).toUInt32.toUInt16.toUInt32.toInt32)), .val (.int ((((p0 &&& (65535 : Int32)).toUInt32.toUInt16.toUInt32.toInt32) ||| (32 : Int32)) - (97 : Int32))), .val (.int (0 : Int32))] []))
            refine own_of (fun _ k => XS.iconst X11.here hx rfl (hb hby at_64) k) ?_
            show own_Out p e below _ (T11.setTop (mkF m 65 #[.val (.int p0), .val (.int p1), .val (.int ((p0 &&& (65535 : Int32)).toUInt32.toUInt16.toUInt32.toInt32)), .val (.int ((((p0 &&& (65535 : Int32)).toUInt32.toUInt16.toUInt32.toInt32) ||| (32 : Int32)) - (97 : Int32))), .val (.int (0 : Int32))] [(.int (1 : Int32))]))
            refine own_of (fun _ k => XS.goto X11.here hx rfl (pc0 := 65) (pc' := 69) rfl (hb hby at_65) (by decide) (by decide) k) ?_
            show own_Out p e below _ (T11.setTop (mkF m 69 #[.val (.int p0), .val (.int p1), .val (.int ((p0 &&& (65535 : Int32)).toUInt32.toUInt16.toUInt32.toInt32)), .val (.int ((((p0 &&& (65535 : Int32)).toUInt32.toUInt16.toUInt32.toInt32) ||| (32 : Int32)) - (97 : Int32))), .val (.int (0 : Int32))] [(.int (1 : Int32))]))
            exact own_outN X11 hx hlk (t := .boolean) hret (by simp) (hb hby at_69) (z' := (1 : Int32)) rfl (Q := Q0 Z p0 p1 h0 n0) ⟨rfl, N11⟩ (by decide) (by decide)
          · skip
            refine own_of (fun _ k => XS.icmpYes X11.here hx rfl (pc0 := 61) (pc' := 68) rfl (hb hby at_61) rfl (feq hc61_12).2 (by decide) (by decide) k) ?_
            show own_Out p e below _ (T11.setTop (mkF m 68 #[.val (.int p0), .val (.int p1), .val (.int ((p0 &&& (65535 : Int32)).toUInt32.toUInt16.toUInt32.toInt32)), .val (.int ((((p0 &&& (65535 : Int32)).toUInt32.toUInt16.toUInt32.toInt32) ||| (32 : Int32)) - (97 : Int32))), .val (.int (0 : Int32))] []))
            refine own_of (fun _ k => XS.iconst X11.here hx rfl (hb hby at_68) k) ?_
            show own_Out p e below _ (T11.setTop (mkF m 69 #[.val (.int p0), .val (.int p1), .val (.int ((p0 &&& (65535 : Int32)).toUInt32.toUInt16.toUInt32.toInt32)), .val (.int ((((p0 &&& (65535 : Int32)).toUInt32.toUInt16.toUInt32.toInt32) ||| (32 : Int32)) - (97 : Int32))), .val (.int (0 : Int32))] [(.int (0 : Int32))]))
            exact (dead0_3 p0 p1 hc3_1 hc35_2 hc39_5 hc45_8 hc61_12).elim
  · skip
    refine own_of (fun _ k => XS.ifNo X0.here hx rfl (hb hby at_3) rfl ((if0 _ _).trans (feq hc3_1).1) k) ?_
    show own_Out p e below _ (s₁.setTop (mkF m 6 #[.val (.int p0), .val (.int p1), .unset, .unset, .unset] []))
    refine own_of (fun _ k => XS.bipush X0.here hx rfl (hb hby at_6) k) ?_
    show own_Out p e below _ (s₁.setTop (mkF m 8 #[.val (.int p0), .val (.int p1), .unset, .unset, .unset] [(.int (64 : Int32))]))
    refine own_of (fun _ k => XS.iloadN X0.here hx rfl (hb hby at_8) rfl k) ?_
    show own_Out p e below _ (s₁.setTop (mkF m 9 #[.val (.int p0), .val (.int p1), .unset, .unset, .unset] [(.int p0), (.int (64 : Int32))]))
    refine own_of (fun _ k => XS.bipush X0.here hx rfl (hb hby at_9) k) ?_
    show own_Out p e below _ (s₁.setTop (mkF m 11 #[.val (.int p0), .val (.int p1), .unset, .unset, .unset] [(.int (63 : Int32)), (.int p0), (.int (64 : Int32))]))
    refine own_of (fun _ k => XS.iand X0.here hx rfl (hb hby at_11) rfl k) ?_
    show own_Out p e below _ (s₁.setTop (mkF m 12 #[.val (.int p0), .val (.int p1), .unset, .unset, .unset] [(.int (p0 &&& (63 : Int32))), (.int (64 : Int32))]))
    refine own_of (fun _ k => XS.iadd X0.here hx rfl (hb hby at_12) rfl k) ?_
    show own_Out p e below _ (s₁.setTop (mkF m 13 #[.val (.int p0), .val (.int p1), .unset, .unset, .unset] [(.int ((64 : Int32) + (p0 &&& (63 : Int32))))]))
    refine own_of (fun _ k => XS.i2c X0.here hx rfl (hb hby at_13) rfl k) ?_
    show own_Out p e below _ (s₁.setTop (mkF m 14 #[.val (.int p0), .val (.int p1), .unset, .unset, .unset] [(.int (((64 : Int32) + (p0 &&& (63 : Int32))).toUInt32.toUInt16.toUInt32.toInt32))]))
    refine own_of (fun _ k => XS.istoreN X0.here hx rfl (hb hby at_14) rfl (l' := #[.val (.int p0), .val (.int p1), .val (.int (((64 : Int32) + (p0 &&& (63 : Int32))).toUInt32.toUInt16.toUInt32.toInt32)), .unset, .unset]) rfl k) ?_
    show own_Out p e below _ (s₁.setTop (mkF m 15 #[.val (.int p0), .val (.int p1), .val (.int (((64 : Int32) + (p0 &&& (63 : Int32))).toUInt32.toUInt16.toUInt32.toInt32)), .unset, .unset] []))
    refine own_of (fun _ k => XS.goto X0.here hx rfl (pc0 := 15) (pc' := 24) rfl (hb hby at_15) (by decide) (by decide) k) ?_
    show own_Out p e below _ (s₁.setTop (mkF m 24 #[.val (.int p0), .val (.int p1), .val (.int (((64 : Int32) + (p0 &&& (63 : Int32))).toUInt32.toUInt16.toUInt32.toInt32)), .unset, .unset] []))
    refine own_of (fun _ k => XS.iloadN X0.here hx rfl (hb hby at_24) rfl k) ?_
    show own_Out p e below _ (s₁.setTop (mkF m 25 #[.val (.int p0), .val (.int p1), .val (.int (((64 : Int32) + (p0 &&& (63 : Int32))).toUInt32.toUInt16.toUInt32.toInt32)), .unset, .unset] [(.int (((64 : Int32) + (p0 &&& (63 : Int32))).toUInt32.toUInt16.toUInt32.toInt32))]))
    refine own_of (fun _ k => XS.bipush X0.here hx rfl (hb hby at_25) k) ?_
    show own_Out p e below _ (s₁.setTop (mkF m 27 #[.val (.int p0), .val (.int p1), .val (.int (((64 : Int32) + (p0 &&& (63 : Int32))).toUInt32.toUInt16.toUInt32.toInt32)), .unset, .unset] [(.int (32 : Int32)), (.int (((64 : Int32) + (p0 &&& (63 : Int32))).toUInt32.toUInt16.toUInt32.toInt32))]))
    refine own_of (fun _ k => XS.ior X0.here hx rfl (hb hby at_27) rfl k) ?_
    show own_Out p e below _ (s₁.setTop (mkF m 28 #[.val (.int p0), .val (.int p1), .val (.int (((64 : Int32) + (p0 &&& (63 : Int32))).toUInt32.toUInt16.toUInt32.toInt32)), .unset, .unset] [(.int ((((64 : Int32) + (p0 &&& (63 : Int32))).toUInt32.toUInt16.toUInt32.toInt32) ||| (32 : Int32)))]))
    refine own_of (fun _ k => XS.bipush X0.here hx rfl (hb hby at_28) k) ?_
    show own_Out p e below _ (s₁.setTop (mkF m 30 #[.val (.int p0), .val (.int p1), .val (.int (((64 : Int32) + (p0 &&& (63 : Int32))).toUInt32.toUInt16.toUInt32.toInt32)), .unset, .unset] [(.int (97 : Int32)), (.int ((((64 : Int32) + (p0 &&& (63 : Int32))).toUInt32.toUInt16.toUInt32.toInt32) ||| (32 : Int32)))]))
    refine own_of (fun _ k => XS.isub X0.here hx rfl (hb hby at_30) rfl k) ?_
    show own_Out p e below _ (s₁.setTop (mkF m 31 #[.val (.int p0), .val (.int p1), .val (.int (((64 : Int32) + (p0 &&& (63 : Int32))).toUInt32.toUInt16.toUInt32.toInt32)), .unset, .unset] [(.int (((((64 : Int32) + (p0 &&& (63 : Int32))).toUInt32.toUInt16.toUInt32.toInt32) ||| (32 : Int32)) - (97 : Int32)))]))
    refine own_of (fun _ k => XS.istoreN X0.here hx rfl (hb hby at_31) rfl (l' := #[.val (.int p0), .val (.int p1), .val (.int (((64 : Int32) + (p0 &&& (63 : Int32))).toUInt32.toUInt16.toUInt32.toInt32)), .val (.int (((((64 : Int32) + (p0 &&& (63 : Int32))).toUInt32.toUInt16.toUInt32.toInt32) ||| (32 : Int32)) - (97 : Int32))), .unset]) rfl k) ?_
    show own_Out p e below _ (s₁.setTop (mkF m 32 #[.val (.int p0), .val (.int p1), .val (.int (((64 : Int32) + (p0 &&& (63 : Int32))).toUInt32.toUInt16.toUInt32.toInt32)), .val (.int (((((64 : Int32) + (p0 &&& (63 : Int32))).toUInt32.toUInt16.toUInt32.toInt32) ||| (32 : Int32)) - (97 : Int32))), .unset] []))
    refine own_of (fun _ k => XS.iloadN X0.here hx rfl (hb hby at_32) rfl k) ?_
    show own_Out p e below _ (s₁.setTop (mkF m 33 #[.val (.int p0), .val (.int p1), .val (.int (((64 : Int32) + (p0 &&& (63 : Int32))).toUInt32.toUInt16.toUInt32.toInt32)), .val (.int (((((64 : Int32) + (p0 &&& (63 : Int32))).toUInt32.toUInt16.toUInt32.toInt32) ||| (32 : Int32)) - (97 : Int32))), .unset] [(.int (((64 : Int32) + (p0 &&& (63 : Int32))).toUInt32.toUInt16.toUInt32.toInt32))]))
    refine own_of (fun _ k => XS.bipush X0.here hx rfl (hb hby at_33) k) ?_
    show own_Out p e below _ (s₁.setTop (mkF m 35 #[.val (.int p0), .val (.int p1), .val (.int (((64 : Int32) + (p0 &&& (63 : Int32))).toUInt32.toUInt16.toUInt32.toInt32)), .val (.int (((((64 : Int32) + (p0 &&& (63 : Int32))).toUInt32.toUInt16.toUInt32.toInt32) ||| (32 : Int32)) - (97 : Int32))), .unset] [(.int (95 : Int32)), (.int (((64 : Int32) + (p0 &&& (63 : Int32))).toUInt32.toUInt16.toUInt32.toInt32))]))
    by_cases hc35_13 : (((64 : Int32) + (p0 &&& (63 : Int32))).toUInt32.toUInt16.toUInt32.toInt32) = (95 : Int32)
    · skip
      refine own_of (fun _ k => XS.icmpYes X0.here hx rfl (pc0 := 35) (pc' := 48) rfl (hb hby at_35) rfl (teq hc35_13).1 (by decide) (by decide) k) ?_
      show own_Out p e below _ (s₁.setTop (mkF m 48 #[.val (.int p0), .val (.int p1), .val (.int (((64 : Int32) + (p0 &&& (63 : Int32))).toUInt32.toUInt16.toUInt32.toInt32)), .val (.int (((((64 : Int32) + (p0 &&& (63 : Int32))).toUInt32.toUInt16.toUInt32.toInt32) ||| (32 : Int32)) - (97 : Int32))), .unset] []))
      refine own_of (fun _ k => XS.iconst X0.here hx rfl (hb hby at_48) k) ?_
      show own_Out p e below _ (s₁.setTop (mkF m 49 #[.val (.int p0), .val (.int p1), .val (.int (((64 : Int32) + (p0 &&& (63 : Int32))).toUInt32.toUInt16.toUInt32.toInt32)), .val (.int (((((64 : Int32) + (p0 &&& (63 : Int32))).toUInt32.toUInt16.toUInt32.toInt32) ||| (32 : Int32)) - (97 : Int32))), .unset] [(.int (1 : Int32))]))
      refine own_of (fun _ k => XS.goto X0.here hx rfl (pc0 := 49) (pc' := 53) rfl (hb hby at_49) (by decide) (by decide) k) ?_
      show own_Out p e below _ (s₁.setTop (mkF m 53 #[.val (.int p0), .val (.int p1), .val (.int (((64 : Int32) + (p0 &&& (63 : Int32))).toUInt32.toUInt16.toUInt32.toInt32)), .val (.int (((((64 : Int32) + (p0 &&& (63 : Int32))).toUInt32.toUInt16.toUInt32.toInt32) ||| (32 : Int32)) - (97 : Int32))), .unset] [(.int (1 : Int32))]))
      refine own_of (fun _ k => XS.istore X0.here hx rfl (hb hby at_53) rfl (l' := #[.val (.int p0), .val (.int p1), .val (.int (((64 : Int32) + (p0 &&& (63 : Int32))).toUInt32.toUInt16.toUInt32.toInt32)), .val (.int (((((64 : Int32) + (p0 &&& (63 : Int32))).toUInt32.toUInt16.toUInt32.toInt32) ||| (32 : Int32)) - (97 : Int32))), .val (.int (1 : Int32))]) rfl k) ?_
      show own_Out p e below _ (s₁.setTop (mkF m 55 #[.val (.int p0), .val (.int p1), .val (.int (((64 : Int32) + (p0 &&& (63 : Int32))).toUInt32.toUInt16.toUInt32.toInt32)), .val (.int (((((64 : Int32) + (p0 &&& (63 : Int32))).toUInt32.toUInt16.toUInt32.toInt32) ||| (32 : Int32)) - (97 : Int32))), .val (.int (1 : Int32))] []))
      refine own_of (fun _ k => XS.iloadN X0.here hx rfl (hb hby at_55) rfl k) ?_
      show own_Out p e below _ (s₁.setTop (mkF m 56 #[.val (.int p0), .val (.int p1), .val (.int (((64 : Int32) + (p0 &&& (63 : Int32))).toUInt32.toUInt16.toUInt32.toInt32)), .val (.int (((((64 : Int32) + (p0 &&& (63 : Int32))).toUInt32.toUInt16.toUInt32.toInt32) ||| (32 : Int32)) - (97 : Int32))), .val (.int (1 : Int32))] [(.int (((64 : Int32) + (p0 &&& (63 : Int32))).toUInt32.toUInt16.toUInt32.toInt32))]))
      obtain ⟨_, _, ⟨T14, L14, k14, n14⟩, -, X14, ⟨Lc14, hQ14, l14, y14, z14⟩, st14⟩ := Jvm.LawKit.callS X0 hx (y := (⟨"com/example/slimc/slimc/game/Names", "isStart", "(C)Z"⟩ : MethodName)) hown (mvT hZ (hw _ (List.mem_of_getElem? (i := 0) rfl))) (mvT hZ (hw _ (List.mem_of_getElem? (i := 1) rfl))) (mvT hZ (hw _ (List.mem_of_getElem? (i := 2) rfl))) (mvT hZ (hw _ (List.mem_of_getElem? (i := 3) rfl))) (by decide) (backOf (W := 0) (rm1 l Z a0 hw [] (((64 : Int32) + (p0 &&& (63 : Int32))).toUInt32.toUInt16.toUInt32.toInt32) h0 n0 Z0 ) hZ (hw _ (List.mem_of_getElem? (i := 3) rfl)) (hw _ (List.mem_of_getElem? (i := 2) rfl)) (by decide) (by decide)) (g := (mkF m 56 #[.val (.int p0), .val (.int p1), .val (.int (((64 : Int32) + (p0 &&& (63 : Int32))).toUInt32.toUInt16.toUInt32.toInt32)), .val (.int (((((64 : Int32) + (p0 &&& (63 : Int32))).toUInt32.toUInt16.toUInt32.toInt32) ||| (32 : Int32)) - (97 : Int32))), .val (.int (1 : Int32))] [(.int (((64 : Int32) + (p0 &&& (63 : Int32))).toUInt32.toUInt16.toUInt32.toInt32))])) rfl (by rw [hml]; rfl) (argsL := [(.int (((64 : Int32) + (p0 &&& (63 : Int32))).toUInt32.toUInt16.toUInt32.toInt32))]) (rest := []) (lenOf pd_0 rfl) rfl (by show 2 * 0 + _ ≤ _; exact Nat.le_of_eq rfl) (hb hby at_56) (fun _ _ => ⟨rfl, e0, (by decide : 0 + 0 ≤ _), (by decide : 0 + 0 ≤ _)⟩)
      dsimp only [Pt.U, Pt.locs, Pt.cells, Pt.slots] at X14 l14 y14 z14 st14 hQ14
      subst l14 y14 z14
      obtain ⟨rfl, N14q, hh14⟩ := hQ14
      have N14 := Fr.app N0 N14q
      refine own_of st14 ?_
      show own_Out p e below _ (T14.setTop (mkF m 59 #[.val (.int p0), .val (.int p1), .val (.int (((64 : Int32) + (p0 &&& (63 : Int32))).toUInt32.toUInt16.toUInt32.toInt32)), .val (.int (((((64 : Int32) + (p0 &&& (63 : Int32))).toUInt32.toUInt16.toUInt32.toInt32) ||| (32 : Int32)) - (97 : Int32))), .val (.int (1 : Int32))] [(.int (f1 (((64 : Int32) + (p0 &&& (63 : Int32))).toUInt32.toUInt16.toUInt32.toInt32)))]))
      refine own_of (fun _ k => XS.iload X14.here hx rfl (hb hby at_59) rfl k) ?_
      show own_Out p e below _ (T14.setTop (mkF m 61 #[.val (.int p0), .val (.int p1), .val (.int (((64 : Int32) + (p0 &&& (63 : Int32))).toUInt32.toUInt16.toUInt32.toInt32)), .val (.int (((((64 : Int32) + (p0 &&& (63 : Int32))).toUInt32.toUInt16.toUInt32.toInt32) ||| (32 : Int32)) - (97 : Int32))), .val (.int (1 : Int32))] [(.int (1 : Int32)), (.int (f1 (((64 : Int32) + (p0 &&& (63 : Int32))).toUInt32.toUInt16.toUInt32.toInt32)))]))
      by_cases hc61_15 : (f1 (((64 : Int32) + (p0 &&& (63 : Int32))).toUInt32.toUInt16.toUInt32.toInt32)) = (1 : Int32)
      · skip
        refine own_of (fun _ k => XS.icmpNo X14.here hx rfl (hb hby at_61) rfl (teq hc61_15).2 k) ?_
        show own_Out p e below _ (T14.setTop (mkF m 64 #[.val (.int p0), .val (.int p1), .val (.int (((64 : Int32) + (p0 &&& (63 : Int32))).toUInt32.toUInt16.toUInt32.toInt32)), .val (.int (((((64 : Int32) + (p0 &&& (63 : Int32))).toUInt32.toUInt16.toUInt32.toInt32) ||| (32 : Int32)) - (97 : Int32))), .val (.int (1 : Int32))] []))
        refine own_of (fun _ k => XS.iconst X14.here hx rfl (hb hby at_64) k) ?_
        show own_Out p e below _ (T14.setTop (mkF m 65 #[.val (.int p0), .val (.int p1), .val (.int (((64 : Int32) + (p0 &&& (63 : Int32))).toUInt32.toUInt16.toUInt32.toInt32)), .val (.int (((((64 : Int32) + (p0 &&& (63 : Int32))).toUInt32.toUInt16.toUInt32.toInt32) ||| (32 : Int32)) - (97 : Int32))), .val (.int (1 : Int32))] [(.int (1 : Int32))]))
        refine own_of (fun _ k => XS.goto X14.here hx rfl (pc0 := 65) (pc' := 69) rfl (hb hby at_65) (by decide) (by decide) k) ?_
        show own_Out p e below _ (T14.setTop (mkF m 69 #[.val (.int p0), .val (.int p1), .val (.int (((64 : Int32) + (p0 &&& (63 : Int32))).toUInt32.toUInt16.toUInt32.toInt32)), .val (.int (((((64 : Int32) + (p0 &&& (63 : Int32))).toUInt32.toUInt16.toUInt32.toInt32) ||| (32 : Int32)) - (97 : Int32))), .val (.int (1 : Int32))] [(.int (1 : Int32))]))
        exact own_outN X14 hx hlk (t := .boolean) hret (by simp) (hb hby at_69) (z' := (1 : Int32)) rfl (Q := Q0 Z p0 p1 h0 n0) ⟨rfl, N14⟩ (by decide) (by decide)
      · skip
        refine own_of (fun _ k => XS.icmpYes X14.here hx rfl (pc0 := 61) (pc' := 68) rfl (hb hby at_61) rfl (feq hc61_15).2 (by decide) (by decide) k) ?_
        show own_Out p e below _ (T14.setTop (mkF m 68 #[.val (.int p0), .val (.int p1), .val (.int (((64 : Int32) + (p0 &&& (63 : Int32))).toUInt32.toUInt16.toUInt32.toInt32)), .val (.int (((((64 : Int32) + (p0 &&& (63 : Int32))).toUInt32.toUInt16.toUInt32.toInt32) ||| (32 : Int32)) - (97 : Int32))), .val (.int (1 : Int32))] []))
        refine own_of (fun _ k => XS.iconst X14.here hx rfl (hb hby at_68) k) ?_
        show own_Out p e below _ (T14.setTop (mkF m 69 #[.val (.int p0), .val (.int p1), .val (.int (((64 : Int32) + (p0 &&& (63 : Int32))).toUInt32.toUInt16.toUInt32.toInt32)), .val (.int (((((64 : Int32) + (p0 &&& (63 : Int32))).toUInt32.toUInt16.toUInt32.toInt32) ||| (32 : Int32)) - (97 : Int32))), .val (.int (1 : Int32))] [(.int (0 : Int32))]))
        exact (dead0_4 p0 p1 hc3_1 hc35_13 hc61_15).elim
    · skip
      refine own_of (fun _ k => XS.icmpNo X0.here hx rfl (hb hby at_35) rfl (feq hc35_13).1 k) ?_
      show own_Out p e below _ (s₁.setTop (mkF m 38 #[.val (.int p0), .val (.int p1), .val (.int (((64 : Int32) + (p0 &&& (63 : Int32))).toUInt32.toUInt16.toUInt32.toInt32)), .val (.int (((((64 : Int32) + (p0 &&& (63 : Int32))).toUInt32.toUInt16.toUInt32.toInt32) ||| (32 : Int32)) - (97 : Int32))), .unset] []))
      refine own_of (fun _ k => XS.iloadN X0.here hx rfl (hb hby at_38) rfl k) ?_
      show own_Out p e below _ (s₁.setTop (mkF m 39 #[.val (.int p0), .val (.int p1), .val (.int (((64 : Int32) + (p0 &&& (63 : Int32))).toUInt32.toUInt16.toUInt32.toInt32)), .val (.int (((((64 : Int32) + (p0 &&& (63 : Int32))).toUInt32.toUInt16.toUInt32.toInt32) ||| (32 : Int32)) - (97 : Int32))), .unset] [(.int (((((64 : Int32) + (p0 &&& (63 : Int32))).toUInt32.toUInt16.toUInt32.toInt32) ||| (32 : Int32)) - (97 : Int32)))]))
      by_cases hc39_16 : (((((64 : Int32) + (p0 &&& (63 : Int32))).toUInt32.toUInt16.toUInt32.toInt32) ||| (32 : Int32)) - (97 : Int32)) < (0 : Int32)
      · skip
        refine own_of (fun _ k => XS.ifYes X0.here hx rfl (pc0 := 39) (pc' := 52) rfl (hb hby at_39) rfl ((if0 _ _).trans (tlt hc39_16).1) (by decide) (by decide) k) ?_
        show own_Out p e below _ (s₁.setTop (mkF m 52 #[.val (.int p0), .val (.int p1), .val (.int (((64 : Int32) + (p0 &&& (63 : Int32))).toUInt32.toUInt16.toUInt32.toInt32)), .val (.int (((((64 : Int32) + (p0 &&& (63 : Int32))).toUInt32.toUInt16.toUInt32.toInt32) ||| (32 : Int32)) - (97 : Int32))), .unset] []))
        refine own_of (fun _ k => XS.iconst X0.here hx rfl (hb hby at_52) k) ?_
        show own_Out p e below _ (s₁.setTop (mkF m 53 #[.val (.int p0), .val (.int p1), .val (.int (((64 : Int32) + (p0 &&& (63 : Int32))).toUInt32.toUInt16.toUInt32.toInt32)), .val (.int (((((64 : Int32) + (p0 &&& (63 : Int32))).toUInt32.toUInt16.toUInt32.toInt32) ||| (32 : Int32)) - (97 : Int32))), .unset] [(.int (0 : Int32))]))
        refine own_of (fun _ k => XS.istore X0.here hx rfl (hb hby at_53) rfl (l' := #[.val (.int p0), .val (.int p1), .val (.int (((64 : Int32) + (p0 &&& (63 : Int32))).toUInt32.toUInt16.toUInt32.toInt32)), .val (.int (((((64 : Int32) + (p0 &&& (63 : Int32))).toUInt32.toUInt16.toUInt32.toInt32) ||| (32 : Int32)) - (97 : Int32))), .val (.int (0 : Int32))]) rfl k) ?_
        show own_Out p e below _ (s₁.setTop (mkF m 55 #[.val (.int p0), .val (.int p1), .val (.int (((64 : Int32) + (p0 &&& (63 : Int32))).toUInt32.toUInt16.toUInt32.toInt32)), .val (.int (((((64 : Int32) + (p0 &&& (63 : Int32))).toUInt32.toUInt16.toUInt32.toInt32) ||| (32 : Int32)) - (97 : Int32))), .val (.int (0 : Int32))] []))
        refine own_of (fun _ k => XS.iloadN X0.here hx rfl (hb hby at_55) rfl k) ?_
        show own_Out p e below _ (s₁.setTop (mkF m 56 #[.val (.int p0), .val (.int p1), .val (.int (((64 : Int32) + (p0 &&& (63 : Int32))).toUInt32.toUInt16.toUInt32.toInt32)), .val (.int (((((64 : Int32) + (p0 &&& (63 : Int32))).toUInt32.toUInt16.toUInt32.toInt32) ||| (32 : Int32)) - (97 : Int32))), .val (.int (0 : Int32))] [(.int (((64 : Int32) + (p0 &&& (63 : Int32))).toUInt32.toUInt16.toUInt32.toInt32))]))
        obtain ⟨_, _, ⟨T17, L17, k17, n17⟩, -, X17, ⟨Lc17, hQ17, l17, y17, z17⟩, st17⟩ := Jvm.LawKit.callS X0 hx (y := (⟨"com/example/slimc/slimc/game/Names", "isStart", "(C)Z"⟩ : MethodName)) hown (mvT hZ (hw _ (List.mem_of_getElem? (i := 0) rfl))) (mvT hZ (hw _ (List.mem_of_getElem? (i := 1) rfl))) (mvT hZ (hw _ (List.mem_of_getElem? (i := 2) rfl))) (mvT hZ (hw _ (List.mem_of_getElem? (i := 3) rfl))) (by decide) (backOf (W := 0) (rm1 l Z a0 hw [] (((64 : Int32) + (p0 &&& (63 : Int32))).toUInt32.toUInt16.toUInt32.toInt32) h0 n0 Z0 ) hZ (hw _ (List.mem_of_getElem? (i := 3) rfl)) (hw _ (List.mem_of_getElem? (i := 2) rfl)) (by decide) (by decide)) (g := (mkF m 56 #[.val (.int p0), .val (.int p1), .val (.int (((64 : Int32) + (p0 &&& (63 : Int32))).toUInt32.toUInt16.toUInt32.toInt32)), .val (.int (((((64 : Int32) + (p0 &&& (63 : Int32))).toUInt32.toUInt16.toUInt32.toInt32) ||| (32 : Int32)) - (97 : Int32))), .val (.int (0 : Int32))] [(.int (((64 : Int32) + (p0 &&& (63 : Int32))).toUInt32.toUInt16.toUInt32.toInt32))])) rfl (by rw [hml]; rfl) (argsL := [(.int (((64 : Int32) + (p0 &&& (63 : Int32))).toUInt32.toUInt16.toUInt32.toInt32))]) (rest := []) (lenOf pd_0 rfl) rfl (by show 2 * 0 + _ ≤ _; exact Nat.le_of_eq rfl) (hb hby at_56) (fun _ _ => ⟨rfl, e0, (by decide : 0 + 0 ≤ _), (by decide : 0 + 0 ≤ _)⟩)
        dsimp only [Pt.U, Pt.locs, Pt.cells, Pt.slots] at X17 l17 y17 z17 st17 hQ17
        subst l17 y17 z17
        obtain ⟨rfl, N17q, hh17⟩ := hQ17
        have N17 := Fr.app N0 N17q
        refine own_of st17 ?_
        show own_Out p e below _ (T17.setTop (mkF m 59 #[.val (.int p0), .val (.int p1), .val (.int (((64 : Int32) + (p0 &&& (63 : Int32))).toUInt32.toUInt16.toUInt32.toInt32)), .val (.int (((((64 : Int32) + (p0 &&& (63 : Int32))).toUInt32.toUInt16.toUInt32.toInt32) ||| (32 : Int32)) - (97 : Int32))), .val (.int (0 : Int32))] [(.int (f1 (((64 : Int32) + (p0 &&& (63 : Int32))).toUInt32.toUInt16.toUInt32.toInt32)))]))
        refine own_of (fun _ k => XS.iload X17.here hx rfl (hb hby at_59) rfl k) ?_
        show own_Out p e below _ (T17.setTop (mkF m 61 #[.val (.int p0), .val (.int p1), .val (.int (((64 : Int32) + (p0 &&& (63 : Int32))).toUInt32.toUInt16.toUInt32.toInt32)), .val (.int (((((64 : Int32) + (p0 &&& (63 : Int32))).toUInt32.toUInt16.toUInt32.toInt32) ||| (32 : Int32)) - (97 : Int32))), .val (.int (0 : Int32))] [(.int (0 : Int32)), (.int (f1 (((64 : Int32) + (p0 &&& (63 : Int32))).toUInt32.toUInt16.toUInt32.toInt32)))]))
        by_cases hc61_18 : (f1 (((64 : Int32) + (p0 &&& (63 : Int32))).toUInt32.toUInt16.toUInt32.toInt32)) = (0 : Int32)
        · skip
          refine own_of (fun _ k => XS.icmpNo X17.here hx rfl (hb hby at_61) rfl (teq hc61_18).2 k) ?_
          show own_Out p e below _ (T17.setTop (mkF m 64 #[.val (.int p0), .val (.int p1), .val (.int (((64 : Int32) + (p0 &&& (63 : Int32))).toUInt32.toUInt16.toUInt32.toInt32)), .val (.int (((((64 : Int32) + (p0 &&& (63 : Int32))).toUInt32.toUInt16.toUInt32.toInt32) ||| (32 : Int32)) - (97 : Int32))), .val (.int (0 : Int32))] []))
          refine own_of (fun _ k => XS.iconst X17.here hx rfl (hb hby at_64) k) ?_
          show own_Out p e below _ (T17.setTop (mkF m 65 #[.val (.int p0), .val (.int p1), .val (.int (((64 : Int32) + (p0 &&& (63 : Int32))).toUInt32.toUInt16.toUInt32.toInt32)), .val (.int (((((64 : Int32) + (p0 &&& (63 : Int32))).toUInt32.toUInt16.toUInt32.toInt32) ||| (32 : Int32)) - (97 : Int32))), .val (.int (0 : Int32))] [(.int (1 : Int32))]))
          refine own_of (fun _ k => XS.goto X17.here hx rfl (pc0 := 65) (pc' := 69) rfl (hb hby at_65) (by decide) (by decide) k) ?_
          show own_Out p e below _ (T17.setTop (mkF m 69 #[.val (.int p0), .val (.int p1), .val (.int (((64 : Int32) + (p0 &&& (63 : Int32))).toUInt32.toUInt16.toUInt32.toInt32)), .val (.int (((((64 : Int32) + (p0 &&& (63 : Int32))).toUInt32.toUInt16.toUInt32.toInt32) ||| (32 : Int32)) - (97 : Int32))), .val (.int (0 : Int32))] [(.int (1 : Int32))]))
          exact own_outN X17 hx hlk (t := .boolean) hret (by simp) (hb hby at_69) (z' := (1 : Int32)) rfl (Q := Q0 Z p0 p1 h0 n0) ⟨rfl, N17⟩ (by decide) (by decide)
        · skip
          refine own_of (fun _ k => XS.icmpYes X17.here hx rfl (pc0 := 61) (pc' := 68) rfl (hb hby at_61) rfl (feq hc61_18).2 (by decide) (by decide) k) ?_
          show own_Out p e below _ (T17.setTop (mkF m 68 #[.val (.int p0), .val (.int p1), .val (.int (((64 : Int32) + (p0 &&& (63 : Int32))).toUInt32.toUInt16.toUInt32.toInt32)), .val (.int (((((64 : Int32) + (p0 &&& (63 : Int32))).toUInt32.toUInt16.toUInt32.toInt32) ||| (32 : Int32)) - (97 : Int32))), .val (.int (0 : Int32))] []))
          refine own_of (fun _ k => XS.iconst X17.here hx rfl (hb hby at_68) k) ?_
          show own_Out p e below _ (T17.setTop (mkF m 69 #[.val (.int p0), .val (.int p1), .val (.int (((64 : Int32) + (p0 &&& (63 : Int32))).toUInt32.toUInt16.toUInt32.toInt32)), .val (.int (((((64 : Int32) + (p0 &&& (63 : Int32))).toUInt32.toUInt16.toUInt32.toInt32) ||| (32 : Int32)) - (97 : Int32))), .val (.int (0 : Int32))] [(.int (0 : Int32))]))
          exact (dead0_5 p0 p1 hc3_1 hc35_13 hc39_16 hc61_18).elim
      · skip
        refine own_of (fun _ k => XS.ifNo X0.here hx rfl (hb hby at_39) rfl ((if0 _ _).trans (flt hc39_16).1) k) ?_
        show own_Out p e below _ (s₁.setTop (mkF m 42 #[.val (.int p0), .val (.int p1), .val (.int (((64 : Int32) + (p0 &&& (63 : Int32))).toUInt32.toUInt16.toUInt32.toInt32)), .val (.int (((((64 : Int32) + (p0 &&& (63 : Int32))).toUInt32.toUInt16.toUInt32.toInt32) ||| (32 : Int32)) - (97 : Int32))), .unset] []))
        refine own_of (fun _ k => XS.iloadN X0.here hx rfl (hb hby at_42) rfl k) ?_
        show own_Out p e below _ (s₁.setTop (mkF m 43 #[.val (.int p0), .val (.int p1), .val (.int (((64 : Int32) + (p0 &&& (63 : Int32))).toUInt32.toUInt16.toUInt32.toInt32)), .val (.int (((((64 : Int32) + (p0 &&& (63 : Int32))).toUInt32.toUInt16.toUInt32.toInt32) ||| (32 : Int32)) - (97 : Int32))), .unset] [(.int (((((64 : Int32) + (p0 &&& (63 : Int32))).toUInt32.toUInt16.toUInt32.toInt32) ||| (32 : Int32)) - (97 : Int32)))]))
        refine own_of (fun _ k => XS.bipush X0.here hx rfl (hb hby at_43) k) ?_
        show own_Out p e below _ (s₁.setTop (mkF m 45 #[.val (.int p0), .val (.int p1), .val (.int (((64 : Int32) + (p0 &&& (63 : Int32))).toUInt32.toUInt16.toUInt32.toInt32)), .val (.int (((((64 : Int32) + (p0 &&& (63 : Int32))).toUInt32.toUInt16.toUInt32.toInt32) ||| (32 : Int32)) - (97 : Int32))), .unset] [(.int (26 : Int32)), (.int (((((64 : Int32) + (p0 &&& (63 : Int32))).toUInt32.toUInt16.toUInt32.toInt32) ||| (32 : Int32)) - (97 : Int32)))]))
        by_cases hc45_19 : (((((64 : Int32) + (p0 &&& (63 : Int32))).toUInt32.toUInt16.toUInt32.toInt32) ||| (32 : Int32)) - (97 : Int32)) < (26 : Int32)
        · skip
          refine own_of (fun _ k => XS.icmpNo X0.here hx rfl (hb hby at_45) rfl (tlt hc45_19).2.1 k) ?_
          show own_Out p e below _ (s₁.setTop (mkF m 48 #[.val (.int p0), .val (.int p1), .val (.int (((64 : Int32) + (p0 &&& (63 : Int32))).toUInt32.toUInt16.toUInt32.toInt32)), .val (.int (((((64 : Int32) + (p0 &&& (63 : Int32))).toUInt32.toUInt16.toUInt32.toInt32) ||| (32 : Int32)) - (97 : Int32))), .unset] []))
          refine own_of (fun _ k => XS.iconst X0.here hx rfl (hb hby at_48) k) ?_
          show own_Out p e below _ (s₁.setTop (mkF m 49 #[.val (.int p0), .val (.int p1), .val (.int (((64 : Int32) + (p0 &&& (63 : Int32))).toUInt32.toUInt16.toUInt32.toInt32)), .val (.int (((((64 : Int32) + (p0 &&& (63 : Int32))).toUInt32.toUInt16.toUInt32.toInt32) ||| (32 : Int32)) - (97 : Int32))), .unset] [(.int (1 : Int32))]))
          refine own_of (fun _ k => XS.goto X0.here hx rfl (pc0 := 49) (pc' := 53) rfl (hb hby at_49) (by decide) (by decide) k) ?_
          show own_Out p e below _ (s₁.setTop (mkF m 53 #[.val (.int p0), .val (.int p1), .val (.int (((64 : Int32) + (p0 &&& (63 : Int32))).toUInt32.toUInt16.toUInt32.toInt32)), .val (.int (((((64 : Int32) + (p0 &&& (63 : Int32))).toUInt32.toUInt16.toUInt32.toInt32) ||| (32 : Int32)) - (97 : Int32))), .unset] [(.int (1 : Int32))]))
          refine own_of (fun _ k => XS.istore X0.here hx rfl (hb hby at_53) rfl (l' := #[.val (.int p0), .val (.int p1), .val (.int (((64 : Int32) + (p0 &&& (63 : Int32))).toUInt32.toUInt16.toUInt32.toInt32)), .val (.int (((((64 : Int32) + (p0 &&& (63 : Int32))).toUInt32.toUInt16.toUInt32.toInt32) ||| (32 : Int32)) - (97 : Int32))), .val (.int (1 : Int32))]) rfl k) ?_
          show own_Out p e below _ (s₁.setTop (mkF m 55 #[.val (.int p0), .val (.int p1), .val (.int (((64 : Int32) + (p0 &&& (63 : Int32))).toUInt32.toUInt16.toUInt32.toInt32)), .val (.int (((((64 : Int32) + (p0 &&& (63 : Int32))).toUInt32.toUInt16.toUInt32.toInt32) ||| (32 : Int32)) - (97 : Int32))), .val (.int (1 : Int32))] []))
          refine own_of (fun _ k => XS.iloadN X0.here hx rfl (hb hby at_55) rfl k) ?_
          show own_Out p e below _ (s₁.setTop (mkF m 56 #[.val (.int p0), .val (.int p1), .val (.int (((64 : Int32) + (p0 &&& (63 : Int32))).toUInt32.toUInt16.toUInt32.toInt32)), .val (.int (((((64 : Int32) + (p0 &&& (63 : Int32))).toUInt32.toUInt16.toUInt32.toInt32) ||| (32 : Int32)) - (97 : Int32))), .val (.int (1 : Int32))] [(.int (((64 : Int32) + (p0 &&& (63 : Int32))).toUInt32.toUInt16.toUInt32.toInt32))]))
          obtain ⟨_, _, ⟨T20, L20, k20, n20⟩, -, X20, ⟨Lc20, hQ20, l20, y20, z20⟩, st20⟩ := Jvm.LawKit.callS X0 hx (y := (⟨"com/example/slimc/slimc/game/Names", "isStart", "(C)Z"⟩ : MethodName)) hown (mvT hZ (hw _ (List.mem_of_getElem? (i := 0) rfl))) (mvT hZ (hw _ (List.mem_of_getElem? (i := 1) rfl))) (mvT hZ (hw _ (List.mem_of_getElem? (i := 2) rfl))) (mvT hZ (hw _ (List.mem_of_getElem? (i := 3) rfl))) (by decide) (backOf (W := 0) (rm1 l Z a0 hw [] (((64 : Int32) + (p0 &&& (63 : Int32))).toUInt32.toUInt16.toUInt32.toInt32) h0 n0 Z0 ) hZ (hw _ (List.mem_of_getElem? (i := 3) rfl)) (hw _ (List.mem_of_getElem? (i := 2) rfl)) (by decide) (by decide)) (g := (mkF m 56 #[.val (.int p0), .val (.int p1), .val (.int (((64 : Int32) + (p0 &&& (63 : Int32))).toUInt32.toUInt16.toUInt32.toInt32)), .val (.int (((((64 : Int32) + (p0 &&& (63 : Int32))).toUInt32.toUInt16.toUInt32.toInt32) ||| (32 : Int32)) - (97 : Int32))), .val (.int (1 : Int32))] [(.int (((64 : Int32) + (p0 &&& (63 : Int32))).toUInt32.toUInt16.toUInt32.toInt32))])) rfl (by rw [hml]; rfl) (argsL := [(.int (((64 : Int32) + (p0 &&& (63 : Int32))).toUInt32.toUInt16.toUInt32.toInt32))]) (rest := []) (lenOf pd_0 rfl) rfl (by show 2 * 0 + _ ≤ _; exact Nat.le_of_eq rfl) (hb hby at_56) (fun _ _ => ⟨rfl, e0, (by decide : 0 + 0 ≤ _), (by decide : 0 + 0 ≤ _)⟩)
          dsimp only [Pt.U, Pt.locs, Pt.cells, Pt.slots] at X20 l20 y20 z20 st20 hQ20
          subst l20 y20 z20
          obtain ⟨rfl, N20q, hh20⟩ := hQ20
          have N20 := Fr.app N0 N20q
          refine own_of st20 ?_
          show own_Out p e below _ (T20.setTop (mkF m 59 #[.val (.int p0), .val (.int p1), .val (.int (((64 : Int32) + (p0 &&& (63 : Int32))).toUInt32.toUInt16.toUInt32.toInt32)), .val (.int (((((64 : Int32) + (p0 &&& (63 : Int32))).toUInt32.toUInt16.toUInt32.toInt32) ||| (32 : Int32)) - (97 : Int32))), .val (.int (1 : Int32))] [(.int (f1 (((64 : Int32) + (p0 &&& (63 : Int32))).toUInt32.toUInt16.toUInt32.toInt32)))]))
          refine own_of (fun _ k => XS.iload X20.here hx rfl (hb hby at_59) rfl k) ?_
          show own_Out p e below _ (T20.setTop (mkF m 61 #[.val (.int p0), .val (.int p1), .val (.int (((64 : Int32) + (p0 &&& (63 : Int32))).toUInt32.toUInt16.toUInt32.toInt32)), .val (.int (((((64 : Int32) + (p0 &&& (63 : Int32))).toUInt32.toUInt16.toUInt32.toInt32) ||| (32 : Int32)) - (97 : Int32))), .val (.int (1 : Int32))] [(.int (1 : Int32)), (.int (f1 (((64 : Int32) + (p0 &&& (63 : Int32))).toUInt32.toUInt16.toUInt32.toInt32)))]))
          by_cases hc61_21 : (f1 (((64 : Int32) + (p0 &&& (63 : Int32))).toUInt32.toUInt16.toUInt32.toInt32)) = (1 : Int32)
          · skip
            refine own_of (fun _ k => XS.icmpNo X20.here hx rfl (hb hby at_61) rfl (teq hc61_21).2 k) ?_
            show own_Out p e below _ (T20.setTop (mkF m 64 #[.val (.int p0), .val (.int p1), .val (.int (((64 : Int32) + (p0 &&& (63 : Int32))).toUInt32.toUInt16.toUInt32.toInt32)), .val (.int (((((64 : Int32) + (p0 &&& (63 : Int32))).toUInt32.toUInt16.toUInt32.toInt32) ||| (32 : Int32)) - (97 : Int32))), .val (.int (1 : Int32))] []))
            refine own_of (fun _ k => XS.iconst X20.here hx rfl (hb hby at_64) k) ?_
            show own_Out p e below _ (T20.setTop (mkF m 65 #[.val (.int p0), .val (.int p1), .val (.int (((64 : Int32) + (p0 &&& (63 : Int32))).toUInt32.toUInt16.toUInt32.toInt32)), .val (.int (((((64 : Int32) + (p0 &&& (63 : Int32))).toUInt32.toUInt16.toUInt32.toInt32) ||| (32 : Int32)) - (97 : Int32))), .val (.int (1 : Int32))] [(.int (1 : Int32))]))
            refine own_of (fun _ k => XS.goto X20.here hx rfl (pc0 := 65) (pc' := 69) rfl (hb hby at_65) (by decide) (by decide) k) ?_
            show own_Out p e below _ (T20.setTop (mkF m 69 #[.val (.int p0), .val (.int p1), .val (.int (((64 : Int32) + (p0 &&& (63 : Int32))).toUInt32.toUInt16.toUInt32.toInt32)), .val (.int (((((64 : Int32) + (p0 &&& (63 : Int32))).toUInt32.toUInt16.toUInt32.toInt32) ||| (32 : Int32)) - (97 : Int32))), .val (.int (1 : Int32))] [(.int (1 : Int32))]))
            exact own_outN X20 hx hlk (t := .boolean) hret (by simp) (hb hby at_69) (z' := (1 : Int32)) rfl (Q := Q0 Z p0 p1 h0 n0) ⟨rfl, N20⟩ (by decide) (by decide)
          · skip
            refine own_of (fun _ k => XS.icmpYes X20.here hx rfl (pc0 := 61) (pc' := 68) rfl (hb hby at_61) rfl (feq hc61_21).2 (by decide) (by decide) k) ?_
            show own_Out p e below _ (T20.setTop (mkF m 68 #[.val (.int p0), .val (.int p1), .val (.int (((64 : Int32) + (p0 &&& (63 : Int32))).toUInt32.toUInt16.toUInt32.toInt32)), .val (.int (((((64 : Int32) + (p0 &&& (63 : Int32))).toUInt32.toUInt16.toUInt32.toInt32) ||| (32 : Int32)) - (97 : Int32))), .val (.int (1 : Int32))] []))
            refine own_of (fun _ k => XS.iconst X20.here hx rfl (hb hby at_68) k) ?_
            show own_Out p e below _ (T20.setTop (mkF m 69 #[.val (.int p0), .val (.int p1), .val (.int (((64 : Int32) + (p0 &&& (63 : Int32))).toUInt32.toUInt16.toUInt32.toInt32)), .val (.int (((((64 : Int32) + (p0 &&& (63 : Int32))).toUInt32.toUInt16.toUInt32.toInt32) ||| (32 : Int32)) - (97 : Int32))), .val (.int (1 : Int32))] [(.int (0 : Int32))]))
            exact (dead0_6 p0 p1 hc3_1 hc35_13 hc39_16 hc45_19 hc61_21).elim
        · skip
          refine own_of (fun _ k => XS.icmpYes X0.here hx rfl (pc0 := 45) (pc' := 52) rfl (hb hby at_45) rfl (flt hc45_19).2.1 (by decide) (by decide) k) ?_
          show own_Out p e below _ (s₁.setTop (mkF m 52 #[.val (.int p0), .val (.int p1), .val (.int (((64 : Int32) + (p0 &&& (63 : Int32))).toUInt32.toUInt16.toUInt32.toInt32)), .val (.int (((((64 : Int32) + (p0 &&& (63 : Int32))).toUInt32.toUInt16.toUInt32.toInt32) ||| (32 : Int32)) - (97 : Int32))), .unset] []))
          refine own_of (fun _ k => XS.iconst X0.here hx rfl (hb hby at_52) k) ?_
          show own_Out p e below _ (s₁.setTop (mkF m 53 #[.val (.int p0), .val (.int p1), .val (.int (((64 : Int32) + (p0 &&& (63 : Int32))).toUInt32.toUInt16.toUInt32.toInt32)), .val (.int (((((64 : Int32) + (p0 &&& (63 : Int32))).toUInt32.toUInt16.toUInt32.toInt32) ||| (32 : Int32)) - (97 : Int32))), .unset] [(.int (0 : Int32))]))
          refine own_of (fun _ k => XS.istore X0.here hx rfl (hb hby at_53) rfl (l' := #[.val (.int p0), .val (.int p1), .val (.int (((64 : Int32) + (p0 &&& (63 : Int32))).toUInt32.toUInt16.toUInt32.toInt32)), .val (.int (((((64 : Int32) + (p0 &&& (63 : Int32))).toUInt32.toUInt16.toUInt32.toInt32) ||| (32 : Int32)) - (97 : Int32))), .val (.int (0 : Int32))]) rfl k) ?_
          show own_Out p e below _ (s₁.setTop (mkF m 55 #[.val (.int p0), .val (.int p1), .val (.int (((64 : Int32) + (p0 &&& (63 : Int32))).toUInt32.toUInt16.toUInt32.toInt32)), .val (.int (((((64 : Int32) + (p0 &&& (63 : Int32))).toUInt32.toUInt16.toUInt32.toInt32) ||| (32 : Int32)) - (97 : Int32))), .val (.int (0 : Int32))] []))
          refine own_of (fun _ k => XS.iloadN X0.here hx rfl (hb hby at_55) rfl k) ?_
          show own_Out p e below _ (s₁.setTop (mkF m 56 #[.val (.int p0), .val (.int p1), .val (.int (((64 : Int32) + (p0 &&& (63 : Int32))).toUInt32.toUInt16.toUInt32.toInt32)), .val (.int (((((64 : Int32) + (p0 &&& (63 : Int32))).toUInt32.toUInt16.toUInt32.toInt32) ||| (32 : Int32)) - (97 : Int32))), .val (.int (0 : Int32))] [(.int (((64 : Int32) + (p0 &&& (63 : Int32))).toUInt32.toUInt16.toUInt32.toInt32))]))
          obtain ⟨_, _, ⟨T22, L22, k22, n22⟩, -, X22, ⟨Lc22, hQ22, l22, y22, z22⟩, st22⟩ := Jvm.LawKit.callS X0 hx (y := (⟨"com/example/slimc/slimc/game/Names", "isStart", "(C)Z"⟩ : MethodName)) hown (mvT hZ (hw _ (List.mem_of_getElem? (i := 0) rfl))) (mvT hZ (hw _ (List.mem_of_getElem? (i := 1) rfl))) (mvT hZ (hw _ (List.mem_of_getElem? (i := 2) rfl))) (mvT hZ (hw _ (List.mem_of_getElem? (i := 3) rfl))) (by decide) (backOf (W := 0) (rm1 l Z a0 hw [] (((64 : Int32) + (p0 &&& (63 : Int32))).toUInt32.toUInt16.toUInt32.toInt32) h0 n0 Z0 ) hZ (hw _ (List.mem_of_getElem? (i := 3) rfl)) (hw _ (List.mem_of_getElem? (i := 2) rfl)) (by decide) (by decide)) (g := (mkF m 56 #[.val (.int p0), .val (.int p1), .val (.int (((64 : Int32) + (p0 &&& (63 : Int32))).toUInt32.toUInt16.toUInt32.toInt32)), .val (.int (((((64 : Int32) + (p0 &&& (63 : Int32))).toUInt32.toUInt16.toUInt32.toInt32) ||| (32 : Int32)) - (97 : Int32))), .val (.int (0 : Int32))] [(.int (((64 : Int32) + (p0 &&& (63 : Int32))).toUInt32.toUInt16.toUInt32.toInt32))])) rfl (by rw [hml]; rfl) (argsL := [(.int (((64 : Int32) + (p0 &&& (63 : Int32))).toUInt32.toUInt16.toUInt32.toInt32))]) (rest := []) (lenOf pd_0 rfl) rfl (by show 2 * 0 + _ ≤ _; exact Nat.le_of_eq rfl) (hb hby at_56) (fun _ _ => ⟨rfl, e0, (by decide : 0 + 0 ≤ _), (by decide : 0 + 0 ≤ _)⟩)
          dsimp only [Pt.U, Pt.locs, Pt.cells, Pt.slots] at X22 l22 y22 z22 st22 hQ22
          subst l22 y22 z22
          obtain ⟨rfl, N22q, hh22⟩ := hQ22
          have N22 := Fr.app N0 N22q
          refine own_of st22 ?_
          show own_Out p e below _ (T22.setTop (mkF m 59 #[.val (.int p0), .val (.int p1), .val (.int (((64 : Int32) + (p0 &&& (63 : Int32))).toUInt32.toUInt16.toUInt32.toInt32)), .val (.int (((((64 : Int32) + (p0 &&& (63 : Int32))).toUInt32.toUInt16.toUInt32.toInt32) ||| (32 : Int32)) - (97 : Int32))), .val (.int (0 : Int32))] [(.int (f1 (((64 : Int32) + (p0 &&& (63 : Int32))).toUInt32.toUInt16.toUInt32.toInt32)))]))
          refine own_of (fun _ k => XS.iload X22.here hx rfl (hb hby at_59) rfl k) ?_
          show own_Out p e below _ (T22.setTop (mkF m 61 #[.val (.int p0), .val (.int p1), .val (.int (((64 : Int32) + (p0 &&& (63 : Int32))).toUInt32.toUInt16.toUInt32.toInt32)), .val (.int (((((64 : Int32) + (p0 &&& (63 : Int32))).toUInt32.toUInt16.toUInt32.toInt32) ||| (32 : Int32)) - (97 : Int32))), .val (.int (0 : Int32))] [(.int (0 : Int32)), (.int (f1 (((64 : Int32) + (p0 &&& (63 : Int32))).toUInt32.toUInt16.toUInt32.toInt32)))]))
          by_cases hc61_23 : (f1 (((64 : Int32) + (p0 &&& (63 : Int32))).toUInt32.toUInt16.toUInt32.toInt32)) = (0 : Int32)
          · skip
            refine own_of (fun _ k => XS.icmpNo X22.here hx rfl (hb hby at_61) rfl (teq hc61_23).2 k) ?_
            show own_Out p e below _ (T22.setTop (mkF m 64 #[.val (.int p0), .val (.int p1), .val (.int (((64 : Int32) + (p0 &&& (63 : Int32))).toUInt32.toUInt16.toUInt32.toInt32)), .val (.int (((((64 : Int32) + (p0 &&& (63 : Int32))).toUInt32.toUInt16.toUInt32.toInt32) ||| (32 : Int32)) - (97 : Int32))), .val (.int (0 : Int32))] []))
            refine own_of (fun _ k => XS.iconst X22.here hx rfl (hb hby at_64) k) ?_
            show own_Out p e below _ (T22.setTop (mkF m 65 #[.val (.int p0), .val (.int p1), .val (.int (((64 : Int32) + (p0 &&& (63 : Int32))).toUInt32.toUInt16.toUInt32.toInt32)), .val (.int (((((64 : Int32) + (p0 &&& (63 : Int32))).toUInt32.toUInt16.toUInt32.toInt32) ||| (32 : Int32)) - (97 : Int32))), .val (.int (0 : Int32))] [(.int (1 : Int32))]))
            refine own_of (fun _ k => XS.goto X22.here hx rfl (pc0 := 65) (pc' := 69) rfl (hb hby at_65) (by decide) (by decide) k) ?_
            show own_Out p e below _ (T22.setTop (mkF m 69 #[.val (.int p0), .val (.int p1), .val (.int (((64 : Int32) + (p0 &&& (63 : Int32))).toUInt32.toUInt16.toUInt32.toInt32)), .val (.int (((((64 : Int32) + (p0 &&& (63 : Int32))).toUInt32.toUInt16.toUInt32.toInt32) ||| (32 : Int32)) - (97 : Int32))), .val (.int (0 : Int32))] [(.int (1 : Int32))]))
            exact own_outN X22 hx hlk (t := .boolean) hret (by simp) (hb hby at_69) (z' := (1 : Int32)) rfl (Q := Q0 Z p0 p1 h0 n0) ⟨rfl, N22⟩ (by decide) (by decide)
          · skip
            refine own_of (fun _ k => XS.icmpYes X22.here hx rfl (pc0 := 61) (pc' := 68) rfl (hb hby at_61) rfl (feq hc61_23).2 (by decide) (by decide) k) ?_
            show own_Out p e below _ (T22.setTop (mkF m 68 #[.val (.int p0), .val (.int p1), .val (.int (((64 : Int32) + (p0 &&& (63 : Int32))).toUInt32.toUInt16.toUInt32.toInt32)), .val (.int (((((64 : Int32) + (p0 &&& (63 : Int32))).toUInt32.toUInt16.toUInt32.toInt32) ||| (32 : Int32)) - (97 : Int32))), .val (.int (0 : Int32))] []))
            refine own_of (fun _ k => XS.iconst X22.here hx rfl (hb hby at_68) k) ?_
            show own_Out p e below _ (T22.setTop (mkF m 69 #[.val (.int p0), .val (.int p1), .val (.int (((64 : Int32) + (p0 &&& (63 : Int32))).toUInt32.toUInt16.toUInt32.toInt32)), .val (.int (((((64 : Int32) + (p0 &&& (63 : Int32))).toUInt32.toUInt16.toUInt32.toInt32) ||| (32 : Int32)) - (97 : Int32))), .val (.int (0 : Int32))] [(.int (0 : Int32))]))
            exact (dead0_7 p0 p1 hc3_1 hc35_13 hc39_16 hc45_19 hc61_23).elim
set_option maxRecDepth 65536 in
set_option maxHeartbeats 40000000 in
theorem comes_1 {Post : Tables → Env → Array Value → State → Outcome → State → Prop} (hpost : ∀ tb e args s v u, (limb_1_1.after args s (.returned v) u = true ∧ limb_1_2.after args s (.returned v) u = true ∧ True) → FrameEnd s (.returned v) u (Jvm.fieldLocs frame_1_writes args s ++ Jvm.arrayLocs frame_1_arrays args s ++ Jvm.staticLocs frame_1_statics s) 0 0 → Post tb e args s (.returned v) u) :
    ArmFor flags0 classFile x code maxLocals ret World_1 tables_1 room_1 Calls_1 rest_1 Pre_1 Post := by
  intro l hfl _ _ p e ha hc hk s m args below hf hA hF happ hP
  obtain ⟨hcalls, hrest, hpre⟩ := hP
  obtain ⟨-, -, -, hnamed, -, -, -, hat⟩ := (Spec.applies_iff hf).mp happ
  obtain ⟨hg, hn⟩ := and_e (Cond.before_iff.mp (show (Jvm.Cond.and given_1 narrow_1).before args s = true from hpre))
  obtain ⟨g1, g2⟩ := and_e hg
  obtain ⟨g3, g4⟩ := and_e g2
  obtain ⟨w0, w1, rfl⟩ : ∃ w0 w1 : Value, args = #[w0, w1] := by
    have hs : args.size = 2 := by simpa [Cond.value, given_1] using g1
    obtain ⟨L⟩ := args
    match L, hs with
    | [w0, w1], _ => exact ⟨w0, w1, rfl⟩
  have hw := fun d (hd : d ∈ tables_1) => atoms_spec (ws := Jvm.Cond.code x code maxLocals ret :: tables_1) hat d (List.mem_cons_of_mem _ hd)
  have hfit : Fit s := fun {y c} hc i hi => by
    obtain ⟨ha, rfl⟩ := Array.getElem?_eq_some_iff.mp hc
    have q := List.all_eq_true.mp ((Array.all_eq_true_iff_forall_mem.mp hF) _ (Array.getElem_mem ha)) i (List.mem_range.mpr hi)
    simpa [Array.getElem?_eq_getElem hi] using q
  obtain ⟨i0, ei0⟩ := is_v g3
  obtain rfl : w0 = (.int i0) := Option.some.inj ei0
  obtain ⟨i1, ei1⟩ := is_v g4
  obtain rfl : w1 = (.int i1) := Option.some.inj ei1
  obtain ⟨n, o, h1, h2, h3, _, L, rfl, ⟨rfl, N⟩, hq⟩ := rm0 l s _ hw tables_1 i0 i1 s.heap s.heap.size (Nat.le_refl _)  p e ha hc hk s m _ below hf ((Spec.applies_iff_loose hf).mp happ).1 ⟨rfl, State.Warmed39.refl s, rfl⟩ trivial
  refine ⟨n, _, h1, h2, h3, hpost _ _ _ _ _ _ ⟨Cond.after_iff.mpr rfl, Cond.after_iff.mpr (eq_i res_at (Term.int_eval (1)) rfl), trivial⟩ ⟨hq.1, hq.2.1, (hq.2.2.sift fun y hy => Or.inr (N y hy)).mono (by decide) (by decide)⟩⟩
theorem main_1_1 : Claimed_1_1 := comes_1 fun _ _ _ _ _ _ h hF => ⟨h.1, hF⟩
theorem main_1_2 : Claimed_1_2 := comes_1 fun _ _ _ _ _ _ h hF => ⟨h.2.1, hF⟩
end Jvm.Pilot.@@N@@
namespace Jvm.Pilot.@@N@@
open Jvm Jvm.ClassFile Sem Op Lib Jvm.Free Jvm.Stand Jvm.Pilot.@@N@@.Jvm.D
/-! MADE BY PROGRAM (witnessworld.py) out of the Statement's table words and the real class files: 9 classes; the members and pool entries that the words name. The judged class is class 1, her method 1. -/
namespace start1
open Jvm.ClassFile
def u (s : String) : CpInfo := .utf8 (stringToUtf16 s)
/-- a pool by its gaps: so many unusable entries, then the entry; so many at the end -/
def gap : Nat → List CpInfo → List CpInfo
  | 0, r => r
  | n + 1, r => .unusable :: gap n r
def poolList (es : List (Nat × CpInfo)) (last : Nat) : List CpInfo := es.foldr (fun e r => gap e.1 (e.2 :: r)) (gap last [])
def pool (es : List (Nat × CpInfo)) (last : Nat) : Array CpInfo := ⟨poolList es last⟩
def fileOf (pool : Array CpInfo) (this : Nat) (attrs : Array Attribute := #[]) (ms : Array MethodInfo := #[]) (fl : Nat := 33) (sup : Nat := 0) (ifs : Array Nat := #[]) (fds : Array FieldInfo := #[]) : ClassFile where
  minorVersion := 0
  majorVersion := 65
  constantPool := pool
  accessFlags := fl
  thisClass := this
  superClass := sup
  interfaces := ifs
  fields := fds
  methods := ms
  attributes := attrs
def plain (name : String) (sup : Option ClassId) : Class where
  name := name
  kind := .ordinary
  loader := none
  accessFlags := 33
  super := sup
  interfaces := #[]
  cf := none
  fields := #[]
  methods := #[]
  instanceTypes := #[]
  staticTypes := #[]
  resolved := #[]
  callSites := []
  init := .initialized
  statics := none
  mirror := none

def pool0 : Array CpInfo := pool [(5, u "<init>"), (0, u "()V"), (1, .class_ 10), (1, u "java/lang/Object")] 113

def k0m0 : Method := { name := "<init>", desc := "()V", sig := { parameters := [], returnType := none }, accessFlags := 1, code := none }
/-- java/lang/Object -/
def k0 : Class := { plain "java/lang/Object" none with
  accessFlags := 33
  interfaces := #[]
  cf := some (fileOf pool0 8 #[] #[{ accessFlags := 1, nameIndex := 5, descriptorIndex := 6, attributes := #[] }] 33 0 #[] #[])
  fields := #[]
  methods := #[k0m0]
  instanceTypes := #[]
  staticTypes := #[]
  resolved := Array.replicate 124 none
  statics := none }

def pool1 : Array CpInfo := pool [(2, .class_ 4), (1, u "java/lang/Object"), (0, u "<init>"), (0, u "()V"), (0, .integer 65535), (0, .methodref 9 10), (0, .class_ 11), (0, .nameAndType 12 13), (0, u "com/example/slimc/slimc/game/Names"), (0, u "isStart"), (0, u "(C)Z"), (0, .class_ 15), (0, u "com/example/slimc/slimc/game/NamesIsStartPinLaw"), (2, u "law"), (0, u "(II)Z")] 3

def k1m0 : Method := { name := "<init>", desc := "()V", sig := { parameters := [], returnType := none }, accessFlags := 2, code := none }
def k1c1 : Code := { maxStack := 3, maxLocals := 5, code := code, exceptionTable := #[], attributes := #[] }
def k1m1 : Method := { name := "law", desc := "(II)Z", sig := { parameters := [.int, .int], returnType := some .boolean }, accessFlags := 9, code := some k1c1 }
/-- com/example/slimc/slimc/game/NamesIsStartPinLaw -/
def k1 : Class := { plain "com/example/slimc/slimc/game/NamesIsStartPinLaw" (some 0) with
  accessFlags := 49
  interfaces := #[]
  cf := some (fileOf pool1 14 #[] #[{ accessFlags := 2, nameIndex := 5, descriptorIndex := 6, attributes := #[] }, { accessFlags := 9, nameIndex := 18, descriptorIndex := 19, attributes := #[] }] 49 2 #[] #[])
  fields := #[]
  methods := #[k1m0, k1m1]
  instanceTypes := #[]
  staticTypes := #[]
  resolved := Array.replicate 23 none
  statics := none }

def pool2 : Array CpInfo := pool [(2, .class_ 4), (1, u "java/lang/Object"), (0, u "<init>"), (0, u "()V"), (1, .class_ 10), (1, u "com/example/slimc/slimc/game/Names"), (0, u "isStart"), (0, u "(C)Z")] 24

def k2m0 : Method := { name := "<init>", desc := "()V", sig := { parameters := [], returnType := none }, accessFlags := 2, code := none }
def k2c1 : Code := { maxStack := 2, maxLocals := 1, code := prog_65_method_2_code, exceptionTable := #[], attributes := #[] }
def k2m1 : Method := { name := "isStart", desc := "(C)Z", sig := { parameters := [.char], returnType := some .boolean }, accessFlags := 9, code := some k2c1 }
/-- com/example/slimc/slimc/game/Names -/
def k2 : Class := { plain "com/example/slimc/slimc/game/Names" (some 0) with
  accessFlags := 49
  interfaces := #[]
  cf := some (fileOf pool2 8 #[] #[{ accessFlags := 2, nameIndex := 5, descriptorIndex := 6, attributes := #[] }, { accessFlags := 9, nameIndex := 11, descriptorIndex := 12, attributes := #[] }] 49 2 #[] #[])
  fields := #[]
  methods := #[k2m0, k2m1]
  instanceTypes := #[]
  staticTypes := #[]
  resolved := Array.replicate 37 none
  statics := none }

def pool3 : Array CpInfo := pool [(1, u "java/lang/Cloneable"), (0, .class_ 1), (0, u "java/lang/Object"), (0, .class_ 3)] 3

/-- java/lang/Cloneable -/
def k3 : Class := { plain "java/lang/Cloneable" (some 0) with
  accessFlags := 1537
  interfaces := #[]
  cf := some (fileOf pool3 2 #[] #[] 1537 4 #[] #[])
  fields := #[]
  methods := #[]
  instanceTypes := #[]
  staticTypes := #[]
  resolved := Array.replicate 8 none
  statics := none }

def pool4 : Array CpInfo := pool [(1, u "java/io/Serializable"), (0, .class_ 1), (0, u "java/lang/Object"), (0, .class_ 3)] 3

/-- java/io/Serializable -/
def k4 : Class := { plain "java/io/Serializable" (some 0) with
  accessFlags := 1537
  interfaces := #[]
  cf := some (fileOf pool4 2 #[] #[] 1537 4 #[] #[])
  fields := #[]
  methods := #[]
  instanceTypes := #[]
  staticTypes := #[]
  resolved := Array.replicate 8 none
  statics := none }

/-- the primitive byte -/
def k5 : Class := { plain "byte" none with kind := .primitive 'B', accessFlags := 0x411 }
/-- [B -/
def k6 : Class := { plain "[B" (some 0) with kind := .array 5 .byte, interfaces := #[3, 4], accessFlags := 1041 }

/-- the primitive int -/
def k7 : Class := { plain "int" none with kind := .primitive 'I', accessFlags := 0x411 }
/-- [I -/
def k8 : Class := { plain "[I" (some 0) with kind := .array 7 .int, interfaces := #[3, 4], accessFlags := 1041 }

def heap : Heap := #[]
def classes : Array Class := #[k0, k1, k2, k3, k4, k5, k6, k7, k8]
def interned : List (Array UInt16 × Addr) := []
def slotsUsed : Nat := 0
def theMethod : MethodId := ⟨1, 1⟩
def args0 : Array Value := #[.int 5, .int 1]
def aboutOver (below : List Frame) : State where
  vm := { classes := classes, interned := interned.toArray }
  heap := heap
  slotsUsed := slotsUsed
  threads := #[{ frames := .invoking theMethod args0 :: below }]
def below0 : List Frame := [.native { method := ⟨0, 0⟩, args := #[] }]
def about1 : State := aboutOver below0
def p0 : Program := .bare "" "" ""
def e0 : Env := launch0.env 0 0 0
theorem w_frames : about1.frames = Frame.invoking theMethod args0 :: below0 := rfl
set_option maxRecDepth 65536 in
theorem w_args : argsFit about1.vm theMethod args0 = true := by decide +kernel
set_option maxRecDepth 65536 in
theorem w_heap : heapFits about1 = true := by decide +kernel
set_option maxRecDepth 65536 in
theorem w_runnable : about1.curStatus? = some .runnable := by decide +kernel
set_option maxRecDepth 65536 in
theorem w_alone : about1.alone = true := by decide +kernel
set_option maxRecDepth 65536 in
theorem w_named : about1.methodNamed? x = some theMethod := by decide +kernel
set_option maxRecDepth 65536 in
theorem w_hears : about1.hears theMethod below0 = true := by decide +kernel
set_option maxRecDepth 65536 in
theorem w_ripe : about1.ripe theMethod args0 below0 = true := by decide +kernel
theorem w_running : about1.status = .running := rfl
set_option maxRecDepth 65536 in
theorem w_room : about1.hasRoom e0.platform room_1 = true :=
  launch0.hasRoom_least _ room_1 (by decide +kernel) (by decide +kernel) (by decide +kernel) (by decide +kernel) (by decide +kernel) (by decide +kernel)
theorem allAtoms_all (ts : List Jvm.Cond) (a : Array Jvm.Value) (st : Jvm.State) : (allAtoms ts).before a st = ts.all (fun c => c.before a st) := by
  induction ts with
  | nil => rfl
  | cons c t ih =>
    show (Jvm.Cond.and c (allAtoms t)).before a st = _
    rw [Jvm.Cond.before_and, ih, List.all_cons]
def words1 : List Jvm.Cond := Jvm.Cond.code x code maxLocals ret :: tables_1
/-- a 'code' word, met by the world's own term for the bytes: nothing is compared byte by byte -/
theorem code_word {y : MethodName} {bytes : ByteArray} {mx : Nat} {rt : Option FieldType} {a : Array Value} {s : State} {m : MethodId} {meth : Method} {c : Code} (h1 : s.methodNamed? y = some m) (h2 : s.vm.method? m = some meth) (h3 : meth.code = some c) (h4 : c.code = bytes)
    (h5 : (c.maxLocals == mx && c.exceptionTable.isEmpty && decide (c.maxStack ≤ mostOperands) && decide (meth.sig.returnType = rt) && !meth.locks && decide (parseMethodDescriptor y.desc = some meth.sig)) = true) : (Jvm.Cond.code y bytes mx rt).before a s = true := by
  simp only [Bool.and_eq_true, beq_iff_eq, Bool.not_eq_true', decide_eq_true_eq] at h5
  obtain ⟨⟨⟨⟨⟨g1, g2⟩, g3⟩, g4⟩, g5⟩, g6⟩ := h5
  simp [Cond.before, Cond.holds, Cond.value, h1, h2, h3, h4, g1, g2, g3, g4, g5, g6]
def isCode : Jvm.Cond → Bool
  | .code _ _ _ _ => true
  | _ => false
theorem all_split {L : List Jvm.Cond} {P : Jvm.Cond → Bool} (h1 : L.all (fun c => isCode c || P c) = true) (h2 : ∀ c ∈ L.filter isCode, P c = true) : L.all P = true := by
  refine List.all_eq_true.mpr fun c hc => ?_
  have h := List.all_eq_true.mp h1 c hc
  rcases Bool.eq_false_or_eq_true (isCode c) with hi | hi
  · exact h2 c (List.mem_filter.mpr ⟨hc, hi⟩)
  · simpa [hi] using h
set_option maxRecDepth 65536 in
theorem w_c0 : (Jvm.Cond.code x code maxLocals ret).before args0 about1 = true := code_word (m := ⟨1, 1⟩) (meth := k1m1) (c := k1c1) (by decide +kernel) rfl rfl rfl (by decide +kernel)
set_option maxRecDepth 65536 in
theorem w_c1 : (Jvm.Cond.code ({ cls := "com/example/slimc/slimc/game/Names", name := "isStart", desc := "(C)Z" } : Jvm.MethodName) prog_65_method_2_code (1 : Nat) (Option.some Jvm.ClassFile.FieldType.boolean)).before args0 about1 = true := code_word (m := ⟨2, 1⟩) (meth := k2m1) (c := k2c1) (by decide +kernel) rfl rfl rfl (by decide +kernel)
def codes1 : List Jvm.Cond := [Jvm.Cond.code x code maxLocals ret, Jvm.Cond.code ({ cls := "com/example/slimc/slimc/game/Names", name := "isStart", desc := "(C)Z" } : Jvm.MethodName) prog_65_method_2_code (1 : Nat) (Option.some Jvm.ClassFile.FieldType.boolean)]
set_option maxRecDepth 65536 in
theorem codes_eq : words1.filter isCode = codes1 := rfl
theorem w_codes : ∀ c ∈ words1.filter isCode, c.before args0 about1 = true := by
  rw [codes_eq]
  intro c hc
  simp only [codes1, List.mem_cons, List.not_mem_nil, or_false] at hc
  rcases hc with rfl | rfl
  · exact w_c0
  · exact w_c1
set_option maxRecDepth 65536 in
theorem w_t1 : words1.all (fun c => isCode c || c.before args0 about1) = true := by decide +kernel
theorem w_tables : (allAtoms (Jvm.Cond.code x code maxLocals ret :: tables_1)).before args0 about1 = true := by
  rw [allAtoms_all]
  show words1.all (fun c => c.before args0 about1) = true
  refine all_split ?_ w_codes
  rw [w_t1]
set_option maxRecDepth 65536 in
theorem w_case : (Jvm.Cond.and given_1 narrow_1).before args0 about1 = true := by decide +kernel
theorem w_applies : (headSpec (Jvm.Cond.code x code maxLocals ret :: tables_1) room_1).applies x e0.platform about1 = true :=
  (Spec.applies_iff w_frames).mpr ⟨w_running, w_runnable, w_alone, w_named, w_hears, w_ripe, w_room, w_tables⟩
theorem atStart : AtStart classFile x code maxLocals ret World_1 tables_1 room_1 Calls_1 rest_1 Pre_1 launch0 p0 e0 about1 theMethod args0 below0 :=
  ⟨lists_1, trivial, launch0.admits_env _ _ _, launch0.least_env, fairChoices_fair.cas, fairChoices_fair.clock, w_frames, w_args, w_heap, w_applies, trivial, trivial, w_case⟩
end start1
theorem witness_1 : WitnessClaimed_1 := ⟨start1.p0, start1.e0, start1.about1, start1.theMethod, start1.args0, start1.below0, start1.atStart⟩
end Jvm.Pilot.@@N@@
