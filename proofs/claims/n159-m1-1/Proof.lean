import JvmDerived
import JvmDerived.Pilot.@@N@@Statement
import JvmDerived.Pilot.@@N@@Code
set_option linter.unusedVariables false
set_option linter.unusedSimpArgs false
@@BLOCK:NumsL.lean.txt@@
namespace Jvm.RoadKit
open Sem ClassFile Op Lib Jvm.Stand Jvm.Free Jvm.LawKit
/-- from the state S the run comes to an end that P holds of -/
def own_Out (p : Program) (e : Env) (below : List Frame) (P : Outcome → State → Prop) (S : State) : Prop := ∃ s₂ o, Steps p.tables e below S s₂ ∧ s₂.status = .running ∧ Ended s₂ below o ∧ P o s₂
theorem own_of {p : Program} {e : Env} {below : List Frame} {P : Outcome → State → Prop} {S S' : State} (h : ∀ t, Steps p.tables e below S' t → Steps p.tables e below S t) (k : own_Out p e below P S') : own_Out p e below P S := by
  obtain ⟨a, b, c, d⟩ := k
  exact ⟨a, b, h a c, d⟩
section New
variable {p : Program} {l : Launch} {e : Env} {R : Room} {s : State} {m : MethodId} {args : Array Value} {below : List Frame} {meth : Method} {c : Code} {T : State} {locs : List Loc} {cells slots : Nat}
theorem own_retI (X : Stand p l e R s m args below meth c T locs cells slots) (hx : p.tables.exec = Jvm.exec) {pc : Nat} {Ls : Array Slot} {z : Int32} {rest : List Value} (hret : meth.sig.returnType = some .int) (hd : decode c.code pc = .ok (.ireturn, 1)) {fs : List Frame}
    (hl : ∀ (f : JFrame) (acts : List Action), f.method = m → f.locked = none → f.entered = [] → (doReturn e (T.setTop f) acts (some (.int z))).1 = T.setFrames fs) : Steps p.tables e below (T.setTop (mkF m pc Ls (.int z :: rest))) (T.setFrames fs) := retOut X hx hret rfl (Or.inl ⟨rfl, Or.inl rfl, z, rfl⟩) hd hl
theorem own_end (X : Stand p l e R s m args below meth c T locs cells slots) (hlk : meth.locks = false) {v : Option Value} (hv : meth.sig.returnType = none → v = none) {g : JFrame}
    (hs : ∀ fs, (∀ (f : JFrame) (acts : List Action), f.method = m → f.locked = none → f.entered = [] → (doReturn e (T.setTop f) acts v).1 = T.setFrames fs) → Steps p.tables e below (T.setTop g) (T.setFrames fs))
    {Q : Option Value → Heap → List Loc → Prop} (hQ : Q v T.heap locs) {C N : Nat} (hC : cells ≤ C) (hN : slots ≤ N) :
    own_Out p e below (fun o U' => ∃ v L, o = .returned v ∧ Q v U'.heap L ∧ FrameEnd s o U' L C N) (T.setTop g) := by
  obtain ⟨fs, hr, hrun, hended, hW, hsame⟩ := X.leave (v := v) hv hlk
  exact ⟨_, _, hs fs hr, hrun, hended, _, _, rfl, hQ, ⟨_, rfl⟩, hW, hsame.mono hC hN⟩
theorem own_outI (X : Stand p l e R s m args below meth c T locs cells slots) (hx : p.tables.exec = Jvm.exec) (hlk : meth.locks = false) {pc : Nat} {Ls : Array Slot} {z : Int32} {rest : List Value} (hret : meth.sig.returnType = some .int) (hd : decode c.code pc = .ok (.ireturn, 1))
    {Q : Option Value → Heap → List Loc → Prop} (hQ : Q (some (.int z)) T.heap locs) {C N : Nat} (hC : cells ≤ C) (hN : slots ≤ N) :
    own_Out p e below (fun o U' => ∃ v L, o = .returned v ∧ Q v U'.heap L ∧ FrameEnd s o U' L C N) (T.setTop (mkF m pc Ls (.int z :: rest))) :=
  own_end X hlk (fun h => by rw [hret] at h; cases h) (fun fs hr => own_retI X hx hret hd hr) hQ hC hN
theorem own_outN (X : Stand p l e R s m args below meth c T locs cells slots) (hx : p.tables.exec = Jvm.exec) (hlk : meth.locks = false) {pc : Nat} {Ls : Array Slot} {z z' : Int32} {t : FieldType} {rest : List Value} (hret : meth.sig.returnType = some t) (ht : t = .boolean ∨ t = .byte ∨ t = .char ∨ t = .short) (hd : decode c.code pc = .ok (.ireturn, 1)) (hz : nar t z = z')
    {Q : Option Value → Heap → List Loc → Prop} (hQ : Q (some (.int z')) T.heap locs) {C N : Nat} (hC : cells ≤ C) (hN : slots ≤ N) :
    own_Out p e below (fun o U' => ∃ v L, o = .returned v ∧ Q v U'.heap L ∧ FrameEnd s o U' L C N) (T.setTop (mkF m pc Ls (.int z :: rest))) :=
  own_end X hlk (fun h => by rw [hret] at h; cases h) (fun fs hr => retN X hx hret ht hd (by rw [hz]; exact hr)) hQ hC hN
theorem own_outL (X : Stand p l e R s m args below meth c T locs cells slots) (hx : p.tables.exec = Jvm.exec) (hlk : meth.locks = false) {pc : Nat} {Ls : Array Slot} {z : Int64} {rest : List Value} (hret : meth.sig.returnType = some .long) (hd : decode c.code pc = .ok (.lreturn, 1))
    {Q : Option Value → Heap → List Loc → Prop} (hQ : Q (some (.long z)) T.heap locs) {C N : Nat} (hC : cells ≤ C) (hN : slots ≤ N) :
    own_Out p e below (fun o U' => ∃ v L, o = .returned v ∧ Q v U'.heap L ∧ FrameEnd s o U' L C N) (T.setTop (mkF m pc Ls (.long z :: rest))) :=
  own_end X hlk (fun h => by rw [hret] at h; cases h) (fun fs hr => retOut X hx hret rfl (Or.inr (Or.inl ⟨rfl, rfl, z, rfl⟩)) hd hr) hQ hC hN
theorem own_outD (X : Stand p l e R s m args below meth c T locs cells slots) (hx : p.tables.exec = Jvm.exec) (hlk : meth.locks = false) {pc : Nat} {Ls : Array Slot} {z : UInt64} {rest : List Value} (hret : meth.sig.returnType = some .double) (hd : decode c.code pc = .ok (.dreturn, 1))
    {Q : Option Value → Heap → List Loc → Prop} (hQ : Q (some (.double z)) T.heap locs) {C N : Nat} (hC : cells ≤ C) (hN : slots ≤ N) :
    own_Out p e below (fun o U' => ∃ v L, o = .returned v ∧ Q v U'.heap L ∧ FrameEnd s o U' L C N) (T.setTop (mkF m pc Ls (.double z :: rest))) :=
  own_end X hlk (fun h => by rw [hret] at h; cases h) (fun fs hr => retOut X hx hret rfl (Or.inr (Or.inr (Or.inl ⟨rfl, rfl, z, rfl⟩))) hd hr) hQ hC hN
theorem own_outR (X : Stand p l e R s m args below meth c T locs cells slots) (hx : p.tables.exec = Jvm.exec) (hlk : meth.locks = false) {pc : Nat} {Ls : Array Slot} {w : Value} {t : FieldType} {rest : List Value} (hret : meth.sig.returnType = some t) (ht : t.isReference = true) (hw : w.isRef = true) (hn : narrow t w = w) (hd : decode c.code pc = .ok (.areturn, 1))
    {Q : Option Value → Heap → List Loc → Prop} (hQ : Q (some w) T.heap locs) {C N : Nat} (hC : cells ≤ C) (hN : slots ≤ N) :
    own_Out p e below (fun o U' => ∃ v L, o = .returned v ∧ Q v U'.heap L ∧ FrameEnd s o U' L C N) (T.setTop (mkF m pc Ls (w :: rest))) :=
  own_end X hlk (fun h => by rw [hret] at h; cases h) (fun fs hr => retOut X hx hret hn (Or.inr (Or.inr (Or.inr (Or.inr ⟨rfl, ht, hw⟩)))) hd hr) hQ hC hN
theorem own_outV (X : Stand p l e R s m args below meth c T locs cells slots) (hx : p.tables.exec = Jvm.exec) (hlk : meth.locks = false) {pc : Nat} {Ls : Array Slot} (hret : meth.sig.returnType = none) (hd : decode c.code pc = .ok (.return_, 1))
    {Q : Option Value → Heap → List Loc → Prop} (hQ : Q none T.heap locs) {C N : Nat} (hC : cells ≤ C) (hN : slots ≤ N) :
    own_Out p e below (fun o U' => ∃ v L, o = .returned v ∧ Q v U'.heap L ∧ FrameEnd s o U' L C N) (T.setTop (mkF m pc Ls [])) :=
  own_end X hlk (fun _ => rfl) (fun fs hr => X.returnOut hx hret hd hr) hQ hC hN
end New
theorem own_ltlt {x y : Int64} (h : x < y) : ifCond.holds .lt (lcmpW x y) = true ∧ ifCond.holds .ge (lcmpW x y) = false ∧ ifCond.holds .gt (lcmpW y x) = true ∧ ifCond.holds .le (lcmpW y x) = false := by
  have h1 : ¬ x > y := fun q => by rw [gt_iff_lt, Int64.lt_iff_toInt_lt] at q; rw [Int64.lt_iff_toInt_lt] at h; omega
  have h2 : ¬ x = y := fun q => by subst q; rw [Int64.lt_iff_toInt_lt] at h; omega
  have e1 : lcmpW x y = -1 := by simp only [lcmpW, if_neg h1, if_neg h2]
  have e2 : lcmpW y x = 1 := by simp only [lcmpW, if_pos (show y > x from h)]
  rw [e1, e2]; decide
theorem own_leq {x y : Int64} (h : x = y) : ifCond.holds .eq (lcmpW x y) = true ∧ ifCond.holds .ne (lcmpW x y) = false := by
  subst h
  have h1 : ¬ x > x := fun q => by rw [gt_iff_lt, Int64.lt_iff_toInt_lt] at q; omega
  have e1 : lcmpW x x = 0 := by simp only [lcmpW, if_neg h1, if_pos]
  rw [e1]; decide
theorem own_lfeq {x y : Int64} (h : ¬ x = y) : ifCond.holds .eq (lcmpW x y) = false ∧ ifCond.holds .ne (lcmpW x y) = true := by
  by_cases h1 : x > y
  · have e1 : lcmpW x y = 1 := by simp only [lcmpW, if_pos h1]
    rw [e1]; decide
  · have e1 : lcmpW x y = -1 := by simp only [lcmpW, if_neg h1, if_neg h]
    rw [e1]; decide
theorem own_lflt {x y : Int64} (h : ¬ x < y) : ifCond.holds .lt (lcmpW x y) = false ∧ ifCond.holds .ge (lcmpW x y) = true ∧ ifCond.holds .gt (lcmpW y x) = false ∧ ifCond.holds .le (lcmpW y x) = true := by
  by_cases h1 : x = y
  · subst h1
    have h1 : ¬ x > x := fun q => by rw [gt_iff_lt, Int64.lt_iff_toInt_lt] at q; omega
    have e1 : lcmpW x x = 0 := by simp only [lcmpW, if_neg h1, if_pos]
    rw [e1]; decide
  · have h2 : x > y := by
      rw [gt_iff_lt, Int64.lt_iff_toInt_lt]; rw [Int64.lt_iff_toInt_lt] at h
      have h3 : ¬ x.toInt = y.toInt := fun q => h1 (Int64.toInt_inj.mp q)
      omega
    have h3 : ¬ y > x := fun q => by rw [gt_iff_lt, Int64.lt_iff_toInt_lt] at q h2; omega
    have e1 : lcmpW x y = 1 := by simp only [lcmpW, if_pos h2]
    have e2 : lcmpW y x = -1 := by simp only [lcmpW, if_neg h3, if_neg (fun q => h1 (Eq.symm q))]
    rw [e1, e2]; decide
theorem own_staK0 {Z : State} {h h' : Heap} {C n d : String} {v : Value} (F : Sta Z h C n d v) (K : Keep h h' []) : Sta Z h' C n d v := by
  obtain ⟨cf, i, k, f, st, cell, h1, h2, h3, h4, h5, r⟩ := F
  exact ⟨cf, i, k, f, st, cell, h1, h2, h3, h4, K.2.1 st cell h5 nin0, r⟩
theorem own_staK1 {Z : State} {h h' : Heap} {C n d : String} {v : Value} {a : Addr} (F : Sta Z h C n d v) (K : Keep h h' [a]) (q : ∀ cell : Cell, h[a]? = some cell → cell.vm.isStatics = false) : Sta Z h' C n d v := by
  obtain ⟨cf, i, k, f, st, cell, h1, h2, h3, h4, h5, h6, h7⟩ := F
  have ne : st ≠ a := fun e => by subst e; rw [q _ h5] at h6; cases h6
  exact ⟨cf, i, k, f, st, cell, h1, h2, h3, h4, K.2.1 st cell h5 (ninS ne nin0), h6, h7⟩
theorem own_plainE {Z : State} {h : Heap} {a : Addr} {C : String} (E : Exa Z h a C) : ∀ cell : Cell, h[a]? = some cell → cell.vm.isStatics = false := fun cell hc => by
  obtain ⟨c, k, h1, -, -, h4, -⟩ := E; cases h1.symm.trans hc; exact h4
theorem own_plainV {Z : State} {h : Heap} {a : Addr} {k : ClassId} {ty : FieldType} {z : Int32} {vs : List Value} {dv : Value} (F : Arv Z h a k ty z vs dv) : ∀ cell : Cell, h[a]? = some cell → cell.vm.isStatics = false := fun cell hc => by
  obtain ⟨c, A, -⟩ := F; cases A.1.symm.trans hc; exact A.plain
section Bounds
variable {x a k : Int32} {u : Int}
theorem own_L1 (h : ¬ (x < a)) : a.toInt ≤ x.toInt := by rw [Int32.lt_iff_toInt_lt] at h; omega
theorem own_L2 (h : a < x) : a.toInt + 1 ≤ x.toInt := by rw [Int32.lt_iff_toInt_lt] at h; omega
theorem own_L3 (h : x = a) : a.toInt ≤ x.toInt := by subst h; omega
theorem own_U1 (h : x < a) : x.toInt ≤ a.toInt - 1 := by rw [Int32.lt_iff_toInt_lt] at h; omega
theorem own_U2 (h : ¬ (a < x)) : x.toInt ≤ a.toInt := by rw [Int32.lt_iff_toInt_lt] at h; omega
theorem own_U3 (h : x = a) : x.toInt ≤ a.toInt := by subst h; omega
theorem own_T1 (h : x.toInt ≤ u) (d : u < k.toInt) : x < k := by rw [Int32.lt_iff_toInt_lt]; omega
theorem own_T2 (h : u ≤ x.toInt) (d : k.toInt ≤ u) : ¬ (x < k) := by rw [Int32.lt_iff_toInt_lt]; omega
theorem own_T3 (h : u ≤ x.toInt) (d : k.toInt < u) : k < x := by rw [Int32.lt_iff_toInt_lt]; omega
theorem own_T4 (h : x.toInt ≤ u) (d : u ≤ k.toInt) : ¬ (k < x) := by rw [Int32.lt_iff_toInt_lt]; omega
theorem own_T5 (h : x.toInt ≤ u) (d : u < k.toInt) : ¬ (x = k) := fun q => by subst q; omega
theorem own_T6 (h : u ≤ x.toInt) (d : k.toInt < u) : ¬ (x = k) := fun q => by subst q; omega
theorem own_T7 {u' : Int} (h : u ≤ x.toInt) (h' : x.toInt ≤ u') (d : k.toInt ≤ u ∧ u' ≤ k.toInt) : x = k := Int32.toInt_inj.mp (by omega)
end Bounds
section Rel
theorem own_JR1 {a b : Int64} (h : a < b) : ¬ (b < a) := by rw [Int64.lt_iff_toInt_lt] at *; omega
theorem own_JR2 {a b : Int64} (h : a < b) : ¬ (a = b) := fun q => by subst q; rw [Int64.lt_iff_toInt_lt] at h; omega
theorem own_JR2' {a b : Int64} (h : a < b) : ¬ (b = a) := fun q => by subst q; rw [Int64.lt_iff_toInt_lt] at h; omega
theorem own_JR3 {a b : Int64} (h : a = b) : ¬ (a < b) := fun q => by subst h; rw [Int64.lt_iff_toInt_lt] at q; omega
theorem own_JR3' {a b : Int64} (h : a = b) : ¬ (b < a) := fun q => by subst h; rw [Int64.lt_iff_toInt_lt] at q; omega
theorem own_JR4 {a b : Int64} (h : ¬ (a < b)) (h' : ¬ (b < a)) : a = b := by rw [Int64.lt_iff_toInt_lt] at h h'; exact Int64.toInt_inj.mp (by omega)
theorem own_JR5 {a b : Int64} (h : ¬ (a < b)) (h' : ¬ (a = b)) : b < a := by rw [← Int64.toInt_inj] at h'; rw [Int64.lt_iff_toInt_lt] at *; omega
theorem own_JR5' {a b : Int64} (h : ¬ (a < b)) (h' : ¬ (b = a)) : b < a := by rw [← Int64.toInt_inj] at h'; rw [Int64.lt_iff_toInt_lt] at *; omega
theorem own_IR1 {a b : Int32} (h : a < b) : ¬ (b < a) := by rw [Int32.lt_iff_toInt_lt] at *; omega
theorem own_IR2 {a b : Int32} (h : a < b) : ¬ (a = b) := fun q => by subst q; rw [Int32.lt_iff_toInt_lt] at h; omega
theorem own_IR2' {a b : Int32} (h : a < b) : ¬ (b = a) := fun q => by subst q; rw [Int32.lt_iff_toInt_lt] at h; omega
theorem own_IR3 {a b : Int32} (h : a = b) : ¬ (a < b) := fun q => by subst h; rw [Int32.lt_iff_toInt_lt] at q; omega
theorem own_IR3' {a b : Int32} (h : a = b) : ¬ (b < a) := fun q => by subst h; rw [Int32.lt_iff_toInt_lt] at q; omega
theorem own_IR4 {a b : Int32} (h : ¬ (a < b)) (h' : ¬ (b < a)) : a = b := by rw [Int32.lt_iff_toInt_lt] at h h'; exact Int32.toInt_inj.mp (by omega)
theorem own_IR5 {a b : Int32} (h : ¬ (a < b)) (h' : ¬ (a = b)) : b < a := by rw [← Int32.toInt_inj] at h'; rw [Int32.lt_iff_toInt_lt] at *; omega
theorem own_IR5' {a b : Int32} (h : ¬ (a < b)) (h' : ¬ (b = a)) : b < a := by rw [← Int32.toInt_inj] at h'; rw [Int32.lt_iff_toInt_lt] at *; omega
end Rel
end Jvm.RoadKit
namespace Jvm.Pilot.@@N@@
open Jvm Jvm.ClassFile Sem Op Lib Jvm.Free Jvm.Stand Jvm.LawKit Jvm.RoadKit Bundle Jvm.Pilot.@@N@@.Jvm.D
def own_tab (j : Int32) : Int32 := if j < (45 : Int32) then (0 : Int32) else if j < (46 : Int32) then (2 : Int32) else if j < (47 : Int32) then (2 : Int32) else if j < (48 : Int32) then (0 : Int32) else if j < (58 : Int32) then (2 : Int32) else if j < (65 : Int32) then (0 : Int32) else if j < (91 : Int32) then (3 : Int32) else if j < (95 : Int32) then (0 : Int32) else if j < (96 : Int32) then (3 : Int32) else if j < (97 : Int32) then (0 : Int32) else if j < (123 : Int32) then (3 : Int32) else (0 : Int32)
theorem own_tab_all {args : Array Value} {Z : State} {t : Term} {a : Addr} {cl : Cell} {ty : FieldType} (ev : t.eval args Z none [] Z = some (.ref a)) (A : Arr Z Z.heap a cl ty) {G : Jvm.Cond} {j : Int32} (h : (Jvm.Cond.all t G).value args Z none Z [] = some true) (hl : j.toNatClampNeg < cl.slots.size) : G.value args Z none Z [j.toNatClampNeg] = some true := Cond.all_elim ev (A.fin (Vm.Alike.refl _)) h _ hl
theorem own_tab_el {args : Array Value} {Z : State} {t : Term} {a : Addr} {cl : Cell} {ty : FieldType} {j y : Int32} (ev : t.eval args Z none [j.toNatClampNeg] Z = some (.ref a)) (A : Arr Z Z.heap a cl ty) (hj : ¬ j < 0) (h : (Jvm.Cond.eq (.elem t (.index 0)) (.int y)).value args Z none Z [j.toNatClampNeg] = some true) : cl.slots[j.toNatClampNeg]? = some (.int y) := (elem_f ev (idx_at hj) (A.fin (Vm.Alike.refl _)) hj).symm.trans (eqv_i (Term.int_eval y) h)
theorem own_tab_el1 {args : Array Value} {Z : State} {t : Term} {a : Addr} {cl : Cell} {ty : FieldType} {j y : Int32} (ev : t.eval args Z none [] Z = some (.ref a)) (A : Arr Z Z.heap a cl ty) (hj : ¬ j < 0) (h : (Jvm.Cond.eq (.elem t (.int j)) (.int y)).value args Z none Z [] = some true) : cl.slots[j.toNatClampNeg]? = some (.int y) := (elem_f ev (Term.int_eval j) (A.fin (Vm.Alike.refl _)) hj).symm.trans (eqv_i (Term.int_eval y) h)
theorem own_tab_not_le {x y : Int32} (h : y < x) : ¬ x ≤ y := Int32.not_le.mpr h
theorem own_tab_mid {j k k' : Int32} (h1 : ¬ j < k) (h2 : j < k') (e : k'.toInt = k.toInt + 1) : j = k := by
  rw [Int32.lt_iff_toInt_lt] at h1 h2
  exact Int32.toInt_inj.mp (by omega)
theorem own_tab_at {args : Array Value} {s : State} {a : Addr} {cl : Cell} (hn : narrow_1.value args s none s [] = some true) (ev : (Jvm.Term.static "com/example/vine_labels/vinelabels/xmlinput/XmlCharacters" "ASCII" "[B").eval args s none [] s = some (.ref a)) (A : Arr s s.heap a cl .byte) (j : Int32) (hj : ¬ j < 0) (hl : j.toNatClampNeg < cl.slots.size) : cl.slots[j.toNatClampNeg]? = some (.int (own_tab j)) := by
  have hn0 : narrow_1.value _ s none s [] = some true := hn
  obtain ⟨hn_0, hr_0⟩ := and_e hn0
  obtain ⟨hn_1, hr_1⟩ := and_e hr_0
  obtain ⟨hn_2, hr_2⟩ := and_e hr_1
  obtain ⟨hn_3, hr_3⟩ := and_e hr_2
  obtain ⟨hn_4, hr_4⟩ := and_e hr_3
  obtain ⟨hn_5, hr_5⟩ := and_e hr_4
  obtain ⟨hn_6, hr_6⟩ := and_e hr_5
  obtain ⟨hn_7, hr_7⟩ := and_e hr_6
  obtain ⟨hn_8, hr_8⟩ := and_e hr_7
  obtain ⟨hn_9, hr_9⟩ := and_e hr_8
  obtain ⟨hn_10, hr_10⟩ := and_e hr_9
  obtain ⟨hn_11, hr_11⟩ := and_e hr_10
  obtain ⟨hn_12, hr_12⟩ := and_e hr_11
  by_cases c2 : j < (45 : Int32)
  · simp only [own_tab, if_pos c2]
    have h := own_tab_all (j := j) ev A hn_2 hl
    rw [Cond.or_of_right (nay (Cond.le_ints (Term.int_eval _) (idx_at hj)) (own_tab_not_le c2))] at h
    exact own_tab_el ev A hj h
  by_cases c3 : j < (46 : Int32)
  · simp only [own_tab, if_pos c3, if_neg c2]
    obtain rfl := own_tab_mid c2 c3 rfl
    exact own_tab_el1 ev A (by decide) hn_3
  by_cases c4 : j < (47 : Int32)
  · simp only [own_tab, if_pos c4, if_neg c2, if_neg c3]
    obtain rfl := own_tab_mid c3 c4 rfl
    exact own_tab_el1 ev A (by decide) hn_4
  by_cases c5 : j < (48 : Int32)
  · simp only [own_tab, if_pos c5, if_neg c2, if_neg c3, if_neg c4]
    obtain rfl := own_tab_mid c4 c5 rfl
    exact own_tab_el1 ev A (by decide) hn_5
  by_cases c6 : j < (58 : Int32)
  · simp only [own_tab, if_pos c6, if_neg c2, if_neg c3, if_neg c4, if_neg c5]
    have h := own_tab_all (j := j) ev A hn_6 hl
    rw [Cond.or_of_right (nay (Cond.lt_ints (idx_at hj) (Term.int_eval _)) c5)] at h
    rw [Cond.or_of_right (nay (Cond.le_ints (Term.int_eval _) (idx_at hj)) (own_tab_not_le c6))] at h
    exact own_tab_el ev A hj h
  by_cases c7 : j < (65 : Int32)
  · simp only [own_tab, if_pos c7, if_neg c2, if_neg c3, if_neg c4, if_neg c5, if_neg c6]
    have h := own_tab_all (j := j) ev A hn_7 hl
    rw [Cond.or_of_right (nay (Cond.lt_ints (idx_at hj) (Term.int_eval _)) c6)] at h
    rw [Cond.or_of_right (nay (Cond.le_ints (Term.int_eval _) (idx_at hj)) (own_tab_not_le c7))] at h
    exact own_tab_el ev A hj h
  by_cases c8 : j < (91 : Int32)
  · simp only [own_tab, if_pos c8, if_neg c2, if_neg c3, if_neg c4, if_neg c5, if_neg c6, if_neg c7]
    have h := own_tab_all (j := j) ev A hn_8 hl
    rw [Cond.or_of_right (nay (Cond.lt_ints (idx_at hj) (Term.int_eval _)) c7)] at h
    rw [Cond.or_of_right (nay (Cond.le_ints (Term.int_eval _) (idx_at hj)) (own_tab_not_le c8))] at h
    exact own_tab_el ev A hj h
  by_cases c9 : j < (95 : Int32)
  · simp only [own_tab, if_pos c9, if_neg c2, if_neg c3, if_neg c4, if_neg c5, if_neg c6, if_neg c7, if_neg c8]
    have h := own_tab_all (j := j) ev A hn_9 hl
    rw [Cond.or_of_right (nay (Cond.lt_ints (idx_at hj) (Term.int_eval _)) c8)] at h
    rw [Cond.or_of_right (nay (Cond.le_ints (Term.int_eval _) (idx_at hj)) (own_tab_not_le c9))] at h
    exact own_tab_el ev A hj h
  by_cases c10 : j < (96 : Int32)
  · simp only [own_tab, if_pos c10, if_neg c2, if_neg c3, if_neg c4, if_neg c5, if_neg c6, if_neg c7, if_neg c8, if_neg c9]
    obtain rfl := own_tab_mid c9 c10 rfl
    exact own_tab_el1 ev A (by decide) hn_10
  by_cases c11 : j < (97 : Int32)
  · simp only [own_tab, if_pos c11, if_neg c2, if_neg c3, if_neg c4, if_neg c5, if_neg c6, if_neg c7, if_neg c8, if_neg c9, if_neg c10]
    obtain rfl := own_tab_mid c10 c11 rfl
    exact own_tab_el1 ev A (by decide) hn_11
  by_cases c12 : j < (123 : Int32)
  · simp only [own_tab, if_pos c12, if_neg c2, if_neg c3, if_neg c4, if_neg c5, if_neg c6, if_neg c7, if_neg c8, if_neg c9, if_neg c10, if_neg c11]
    have h := own_tab_all (j := j) ev A hn_12 hl
    rw [Cond.or_of_right (nay (Cond.lt_ints (idx_at hj) (Term.int_eval _)) c11)] at h
    rw [Cond.or_of_right (nay (Cond.le_ints (Term.int_eval _) (idx_at hj)) (own_tab_not_le c12))] at h
    exact own_tab_el ev A hj h
  simp only [own_tab, if_neg c2, if_neg c3, if_neg c4, if_neg c5, if_neg c6, if_neg c7, if_neg c8, if_neg c9, if_neg c10, if_neg c11, if_neg c12]
  have h := own_tab_all (j := j) ev A hr_12 hl
  rw [Cond.or_of_right (nay (Cond.lt_ints (idx_at hj) (Term.int_eval _)) c12)] at h
  exact own_tab_el ev A hj h
theorem own_tab_P {P : Int32 → Prop} (h0 : P 0) (h2 : P 2) (h3 : P 3) (j : Int32) : P (own_tab j) := by
  by_cases c2 : j < (45 : Int32)
  · simp only [own_tab, if_pos c2]; exact h0
  by_cases c3 : j < (46 : Int32)
  · simp only [own_tab, if_pos c3, if_neg c2]; exact h2
  by_cases c4 : j < (47 : Int32)
  · simp only [own_tab, if_pos c4, if_neg c2, if_neg c3]; exact h2
  by_cases c5 : j < (48 : Int32)
  · simp only [own_tab, if_pos c5, if_neg c2, if_neg c3, if_neg c4]; exact h0
  by_cases c6 : j < (58 : Int32)
  · simp only [own_tab, if_pos c6, if_neg c2, if_neg c3, if_neg c4, if_neg c5]; exact h2
  by_cases c7 : j < (65 : Int32)
  · simp only [own_tab, if_pos c7, if_neg c2, if_neg c3, if_neg c4, if_neg c5, if_neg c6]; exact h0
  by_cases c8 : j < (91 : Int32)
  · simp only [own_tab, if_pos c8, if_neg c2, if_neg c3, if_neg c4, if_neg c5, if_neg c6, if_neg c7]; exact h3
  by_cases c9 : j < (95 : Int32)
  · simp only [own_tab, if_pos c9, if_neg c2, if_neg c3, if_neg c4, if_neg c5, if_neg c6, if_neg c7, if_neg c8]; exact h0
  by_cases c10 : j < (96 : Int32)
  · simp only [own_tab, if_pos c10, if_neg c2, if_neg c3, if_neg c4, if_neg c5, if_neg c6, if_neg c7, if_neg c8, if_neg c9]; exact h3
  by_cases c11 : j < (97 : Int32)
  · simp only [own_tab, if_pos c11, if_neg c2, if_neg c3, if_neg c4, if_neg c5, if_neg c6, if_neg c7, if_neg c8, if_neg c9, if_neg c10]; exact h0
  by_cases c12 : j < (123 : Int32)
  · simp only [own_tab, if_pos c12, if_neg c2, if_neg c3, if_neg c4, if_neg c5, if_neg c6, if_neg c7, if_neg c8, if_neg c9, if_neg c10, if_neg c11]; exact h3
  simp only [own_tab, if_neg c2, if_neg c3, if_neg c4, if_neg c5, if_neg c6, if_neg c7, if_neg c8, if_neg c9, if_neg c10, if_neg c11, if_neg c12]; exact h0
theorem d1_0 : decode prog_34_method_5_code 0 = .ok (.iload_n 0, 1) := by decide +kernel
theorem d1_1 : decode prog_34_method_5_code 1 = .ok (.sipush 128, 3) := by decide +kernel
theorem d1_4 : decode prog_34_method_5_code 4 = .ok (.if_icmp .ge 23, 3) := by decide +kernel
theorem d1_7 : decode prog_34_method_5_code 7 = .ok (.iload_n 0, 1) := by decide +kernel
theorem d1_8 : decode prog_34_method_5_code 8 = .ok (.ifCond .lt 17, 3) := by decide +kernel
theorem d1_11 : decode prog_34_method_5_code 11 = .ok (.getstatic 18, 3) := by decide +kernel
theorem d1_14 : decode prog_34_method_5_code 14 = .ok (.iload_n 0, 1) := by decide +kernel
theorem d1_15 : decode prog_34_method_5_code 15 = .ok (.baload, 1) := by decide +kernel
theorem d1_16 : decode prog_34_method_5_code 16 = .ok (.iconst 1, 1) := by decide +kernel
theorem d1_17 : decode prog_34_method_5_code 17 = .ok (.iand, 1) := by decide +kernel
theorem d1_18 : decode prog_34_method_5_code 18 = .ok (.ifCond .eq 7, 3) := by decide +kernel
theorem d1_21 : decode prog_34_method_5_code 21 = .ok (.iconst 1, 1) := by decide +kernel
theorem d1_22 : decode prog_34_method_5_code 22 = .ok (.goto 4, 3) := by decide +kernel
theorem d1_25 : decode prog_34_method_5_code 25 = .ok (.iconst 0, 1) := by decide +kernel
theorem d1_26 : decode prog_34_method_5_code 26 = .ok (.ireturn, 1) := by decide +kernel
theorem d1_27 : decode prog_34_method_5_code 27 = .ok (.iload_n 0, 1) := by decide +kernel
theorem d1_28 : decode prog_34_method_5_code 28 = .ok (.sipush 192, 3) := by decide +kernel
theorem d1_31 : decode prog_34_method_5_code 31 = .ok (.if_icmp .lt 10, 3) := by decide +kernel
theorem d1_34 : decode prog_34_method_5_code 34 = .ok (.iload_n 0, 1) := by decide +kernel
theorem d1_35 : decode prog_34_method_5_code 35 = .ok (.sipush 214, 3) := by decide +kernel
theorem d1_38 : decode prog_34_method_5_code 38 = .ok (.if_icmp .le 150, 3) := by decide +kernel
theorem d1_41 : decode prog_34_method_5_code 41 = .ok (.iload_n 0, 1) := by decide +kernel
theorem d1_42 : decode prog_34_method_5_code 42 = .ok (.sipush 216, 3) := by decide +kernel
theorem d1_45 : decode prog_34_method_5_code 45 = .ok (.if_icmp .lt 10, 3) := by decide +kernel
theorem d1_48 : decode prog_34_method_5_code 48 = .ok (.iload_n 0, 1) := by decide +kernel
theorem d1_49 : decode prog_34_method_5_code 49 = .ok (.sipush 246, 3) := by decide +kernel
theorem d1_52 : decode prog_34_method_5_code 52 = .ok (.if_icmp .le 136, 3) := by decide +kernel
theorem d1_55 : decode prog_34_method_5_code 55 = .ok (.iload_n 0, 1) := by decide +kernel
theorem d1_56 : decode prog_34_method_5_code 56 = .ok (.sipush 248, 3) := by decide +kernel
theorem d1_59 : decode prog_34_method_5_code 59 = .ok (.if_icmp .lt 10, 3) := by decide +kernel
theorem d1_62 : decode prog_34_method_5_code 62 = .ok (.iload_n 0, 1) := by decide +kernel
theorem d1_63 : decode prog_34_method_5_code 63 = .ok (.sipush 767, 3) := by decide +kernel
theorem d1_66 : decode prog_34_method_5_code 66 = .ok (.if_icmp .le 122, 3) := by decide +kernel
theorem d1_69 : decode prog_34_method_5_code 69 = .ok (.iload_n 0, 1) := by decide +kernel
theorem d1_70 : decode prog_34_method_5_code 70 = .ok (.sipush 880, 3) := by decide +kernel
theorem d1_73 : decode prog_34_method_5_code 73 = .ok (.if_icmp .lt 10, 3) := by decide +kernel
theorem d1_76 : decode prog_34_method_5_code 76 = .ok (.iload_n 0, 1) := by decide +kernel
theorem d1_77 : decode prog_34_method_5_code 77 = .ok (.sipush 893, 3) := by decide +kernel
theorem d1_80 : decode prog_34_method_5_code 80 = .ok (.if_icmp .le 108, 3) := by decide +kernel
theorem d1_83 : decode prog_34_method_5_code 83 = .ok (.iload_n 0, 1) := by decide +kernel
theorem d1_84 : decode prog_34_method_5_code 84 = .ok (.sipush 895, 3) := by decide +kernel
theorem d1_87 : decode prog_34_method_5_code 87 = .ok (.if_icmp .lt 10, 3) := by decide +kernel
theorem d1_90 : decode prog_34_method_5_code 90 = .ok (.iload_n 0, 1) := by decide +kernel
theorem d1_91 : decode prog_34_method_5_code 91 = .ok (.sipush 8191, 3) := by decide +kernel
theorem d1_94 : decode prog_34_method_5_code 94 = .ok (.if_icmp .le 94, 3) := by decide +kernel
theorem d1_97 : decode prog_34_method_5_code 97 = .ok (.iload_n 0, 1) := by decide +kernel
theorem d1_98 : decode prog_34_method_5_code 98 = .ok (.sipush 8204, 3) := by decide +kernel
theorem d1_101 : decode prog_34_method_5_code 101 = .ok (.if_icmp .lt 10, 3) := by decide +kernel
theorem d1_104 : decode prog_34_method_5_code 104 = .ok (.iload_n 0, 1) := by decide +kernel
theorem d1_105 : decode prog_34_method_5_code 105 = .ok (.sipush 8205, 3) := by decide +kernel
theorem d1_108 : decode prog_34_method_5_code 108 = .ok (.if_icmp .le 80, 3) := by decide +kernel
theorem d1_111 : decode prog_34_method_5_code 111 = .ok (.iload_n 0, 1) := by decide +kernel
theorem d1_112 : decode prog_34_method_5_code 112 = .ok (.sipush 8304, 3) := by decide +kernel
theorem d1_115 : decode prog_34_method_5_code 115 = .ok (.if_icmp .lt 10, 3) := by decide +kernel
theorem d1_118 : decode prog_34_method_5_code 118 = .ok (.iload_n 0, 1) := by decide +kernel
theorem d1_119 : decode prog_34_method_5_code 119 = .ok (.sipush 8591, 3) := by decide +kernel
theorem d1_122 : decode prog_34_method_5_code 122 = .ok (.if_icmp .le 66, 3) := by decide +kernel
theorem d1_125 : decode prog_34_method_5_code 125 = .ok (.iload_n 0, 1) := by decide +kernel
theorem d1_126 : decode prog_34_method_5_code 126 = .ok (.sipush 11264, 3) := by decide +kernel
theorem d1_129 : decode prog_34_method_5_code 129 = .ok (.if_icmp .lt 10, 3) := by decide +kernel
theorem d1_132 : decode prog_34_method_5_code 132 = .ok (.iload_n 0, 1) := by decide +kernel
theorem d1_133 : decode prog_34_method_5_code 133 = .ok (.sipush 12271, 3) := by decide +kernel
theorem d1_136 : decode prog_34_method_5_code 136 = .ok (.if_icmp .le 52, 3) := by decide +kernel
theorem d1_139 : decode prog_34_method_5_code 139 = .ok (.iload_n 0, 1) := by decide +kernel
theorem d1_140 : decode prog_34_method_5_code 140 = .ok (.sipush 12289, 3) := by decide +kernel
theorem d1_143 : decode prog_34_method_5_code 143 = .ok (.if_icmp .lt 9, 3) := by decide +kernel
theorem d1_146 : decode prog_34_method_5_code 146 = .ok (.iload_n 0, 1) := by decide +kernel
theorem d1_147 : decode prog_34_method_5_code 147 = .ok (.ldc 13, 2) := by decide +kernel
theorem d1_149 : decode prog_34_method_5_code 149 = .ok (.if_icmp .le 39, 3) := by decide +kernel
theorem d1_152 : decode prog_34_method_5_code 152 = .ok (.iload_n 0, 1) := by decide +kernel
theorem d1_153 : decode prog_34_method_5_code 153 = .ok (.ldc 21, 2) := by decide +kernel
theorem d1_155 : decode prog_34_method_5_code 155 = .ok (.if_icmp .lt 9, 3) := by decide +kernel
theorem d1_158 : decode prog_34_method_5_code 158 = .ok (.iload_n 0, 1) := by decide +kernel
theorem d1_159 : decode prog_34_method_5_code 159 = .ok (.ldc 22, 2) := by decide +kernel
theorem d1_161 : decode prog_34_method_5_code 161 = .ok (.if_icmp .le 27, 3) := by decide +kernel
theorem d1_164 : decode prog_34_method_5_code 164 = .ok (.iload_n 0, 1) := by decide +kernel
theorem d1_165 : decode prog_34_method_5_code 165 = .ok (.ldc 23, 2) := by decide +kernel
theorem d1_167 : decode prog_34_method_5_code 167 = .ok (.if_icmp .lt 9, 3) := by decide +kernel
theorem d1_170 : decode prog_34_method_5_code 170 = .ok (.iload_n 0, 1) := by decide +kernel
theorem d1_171 : decode prog_34_method_5_code 171 = .ok (.ldc 15, 2) := by decide +kernel
theorem d1_173 : decode prog_34_method_5_code 173 = .ok (.if_icmp .le 15, 3) := by decide +kernel
theorem d1_176 : decode prog_34_method_5_code 176 = .ok (.iload_n 0, 1) := by decide +kernel
theorem d1_177 : decode prog_34_method_5_code 177 = .ok (.ldc 16, 2) := by decide +kernel
theorem d1_179 : decode prog_34_method_5_code 179 = .ok (.if_icmp .lt 13, 3) := by decide +kernel
theorem d1_182 : decode prog_34_method_5_code 182 = .ok (.iload_n 0, 1) := by decide +kernel
theorem d1_183 : decode prog_34_method_5_code 183 = .ok (.ldc 24, 2) := by decide +kernel
theorem d1_185 : decode prog_34_method_5_code 185 = .ok (.if_icmp .gt 7, 3) := by decide +kernel
theorem d1_188 : decode prog_34_method_5_code 188 = .ok (.iconst 1, 1) := by decide +kernel
theorem d1_189 : decode prog_34_method_5_code 189 = .ok (.goto 4, 3) := by decide +kernel
theorem d1_192 : decode prog_34_method_5_code 192 = .ok (.iconst 0, 1) := by decide +kernel
theorem d1_193 : decode prog_34_method_5_code 193 = .ok (.ireturn, 1) := by decide +kernel
theorem pn_0 : plainName "com/example/vine_labels/vinelabels/xmlinput/XmlCharacters" = true := by first | (simp [plainName, overriddenIn]; done) | decide +kernel
theorem ef_1 (m : MethodId) (x0 : Int32) : entryFrame m #[(.int x0)] 1 = mkF m 0 #[.val (.int x0)] [] := by first | (simp [entryFrame, mkF, argsToLocals, Value.category]; done) | rfl
def f1 (p0 : Int32) : Int32 := if p0 < (128 : Int32) then (if p0 < (0 : Int32) then (0 : Int32)
    else if ((own_tab p0) &&& (1 : Int32)) = (0 : Int32) then (0 : Int32)
      else (1 : Int32))
  else if p0 < (192 : Int32) then (0 : Int32)
    else if (214 : Int32) < p0 then (if p0 < (216 : Int32) then (0 : Int32)
        else if (246 : Int32) < p0 then (if p0 < (248 : Int32) then (0 : Int32)
            else if (767 : Int32) < p0 then (if p0 < (880 : Int32) then (0 : Int32)
                else if (893 : Int32) < p0 then (if p0 < (895 : Int32) then (0 : Int32)
                    else if (8191 : Int32) < p0 then (if p0 < (8204 : Int32) then (0 : Int32)
                        else if (8205 : Int32) < p0 then (if p0 < (8304 : Int32) then (0 : Int32)
                            else if (8591 : Int32) < p0 then (if p0 < (11264 : Int32) then (0 : Int32)
                                else if (12271 : Int32) < p0 then (if p0 < (12289 : Int32) then (0 : Int32)
                                    else if (55295 : Int32) < p0 then (if p0 < (63744 : Int32) then (0 : Int32)
                                        else if (64975 : Int32) < p0 then (if p0 < (65008 : Int32) then (0 : Int32)
                                            else if (65533 : Int32) < p0 then (if p0 < (65536 : Int32) then (0 : Int32)
                                                else if (983039 : Int32) < p0 then (0 : Int32)
                                                  else (1 : Int32))
                                              else (1 : Int32))
                                          else (1 : Int32))
                                      else (1 : Int32))
                                  else (1 : Int32))
                              else (1 : Int32))
                          else (1 : Int32))
                      else (1 : Int32))
                  else (1 : Int32))
              else (1 : Int32))
          else (1 : Int32))
      else (1 : Int32)
def Q1 (Z : State) (p0 : Int32) (w : Addr) (cl : Cell) (h0 : Heap) (n0 : Nat) (v : Option Value) (h : Heap) (L : List Loc) : Prop := v = some (.int (f1 p0)) ∧ Fr n0 L ∧ h = h0
set_option maxRecDepth 65536 in
set_option maxHeartbeats 40000000 in
theorem rm1 (l : Launch) (Z : State) (a0 : Array Value) (hw : ∀ d ∈ tables_1, d.before a0 Z = true) (ws : List Jvm.Cond) (p0 : Int32) (w : Addr) (cl : Cell) (h0 : Heap) (n0 : Nat) (Z0 : n0 ≤ h0.size) (S : Sta Z h0 "com/example/vine_labels/vinelabels/xmlinput/XmlCharacters" "ASCII" "[B" (.ref w)) (A : Arr Z h0 w cl .byte) (hT : ∀ j : Int32, ¬ j < (0 : Int32) → j < (128 : Int32) → ¬ (j < 0 ∨ cl.slots.size ≤ j.toNatClampNeg) ∧ cl.slots[j.toNatClampNeg]? = some (.int (own_tab j))) :
    MetFree l (⟨"com/example/vine_labels/vinelabels/xmlinput/XmlCharacters", "isNameStart", "(I)Z"⟩ : MethodName) (head1 (Jvm.Cond.code (⟨"com/example/vine_labels/vinelabels/xmlinput/XmlCharacters", "isNameStart", "(I)Z"⟩ : MethodName) prog_34_method_5_code 1 (some .boolean) :: ws) ({ frames := 0, cells := 0, slots := 0, locals := 0 } : Room)) (fun a U => a = #[(.int p0)] ∧ Z.Warmed39 U.vm ∧ U.heap = h0) (fun _ _ _ _ _ => True) (fun _ U o U' => ∃ v L, o = .returned v ∧ Q1 Z p0 w cl h0 n0 v U'.heap L ∧ FrameEnd U o U' L ({ frames := 0, cells := 0, slots := 0, locals := 0 } : Room).cells ({ frames := 0, cells := 0, slots := 0, locals := 0 } : Room).slots) := by
  refine MetFree.of_bodySF (plainFor_of_name pn_0) hisR ?_
  intro p e s m args below meth c s₁ Bd hml0 hP hK
  obtain ⟨rfl, hZ, hh⟩ := hP
  have hx := Bd.exec
  have hby := Bd.bytes
  have hml : c.maxLocals = 1 := hml0
  have hown : s.vm.findClass "com/example/vine_labels/vinelabels/xmlinput/XmlCharacters" = some m.cls := findClass_of_methodNamed Bd.named
  have hnm := (name_of_methodNamed Bd.named Bd.method).1
  have X0 : Stand p l e ({ frames := 0, cells := 0, slots := 0, locals := 0 } : Room) s m #[(.int p0)] below meth c s₁ [] 0 0 := Stand.of_body Bd
  have e0 : s₁.heap = h0 := by rw [← hh, Bd.state]; rfl
  have N0 := Fr.nil n0
  have hret := Bd.returns
  have hlk := BodyLoose.notSynchronized Bd
  show own_Out p e below (fun o U' => ∃ v L, o = .returned v ∧ Q1 Z p0 w cl h0 n0 v U'.heap L ∧ FrameEnd s o U' L ({ frames := 0, cells := 0, slots := 0, locals := 0 } : Room).cells ({ frames := 0, cells := 0, slots := 0, locals := 0 } : Room).slots) (s₁.setTop (entryFrame m #[(.int p0)] 1))
  refine own_of (fun t k => castTop (ef_1 m p0) k) ?_
  show own_Out p e below _ (s₁.setTop (mkF m 0 #[.val (.int p0)] []))
  refine own_of (fun _ k => XS.iloadN X0.here hx rfl (hb hby d1_0) rfl k) ?_
  show own_Out p e below _ (s₁.setTop (mkF m 1 #[.val (.int p0)] [(.int p0)]))
  refine own_of (fun _ k => XS.sipush X0.here hx rfl (hb hby d1_1) k) ?_
  show own_Out p e below _ (s₁.setTop (mkF m 4 #[.val (.int p0)] [(.int (128 : Int32)), (.int p0)]))
  by_cases hc4_1 : p0 < (128 : Int32)
  · skip
    refine own_of (fun _ k => XS.icmpNo X0.here hx rfl (hb hby d1_4) rfl (tlt hc4_1).2.1 k) ?_
    show own_Out p e below _ (s₁.setTop (mkF m 7 #[.val (.int p0)] []))
    refine own_of (fun _ k => XS.iloadN X0.here hx rfl (hb hby d1_7) rfl k) ?_
    show own_Out p e below _ (s₁.setTop (mkF m 8 #[.val (.int p0)] [(.int p0)]))
    by_cases hc8_2 : p0 < (0 : Int32)
    · skip
      refine own_of (fun _ k => XS.ifYes X0.here hx rfl (pc0 := 8) (pc' := 25) rfl (hb hby d1_8) rfl ((if0 _ _).trans (tlt hc8_2).1) (by decide) (by decide) k) ?_
      show own_Out p e below _ (s₁.setTop (mkF m 25 #[.val (.int p0)] []))
      refine own_of (fun _ k => XS.iconst X0.here hx rfl (hb hby d1_25) k) ?_
      show own_Out p e below _ (s₁.setTop (mkF m 26 #[.val (.int p0)] [(.int (0 : Int32))]))
      exact own_outN X0 hx hlk (t := .boolean) hret (by simp) (hb hby d1_26) (z' := (0 : Int32)) rfl (Q := Q1 Z p0 w cl h0 n0) ⟨by simp only [f1, if_pos hc4_1, if_pos hc8_2], N0, e0⟩ (by decide) (by decide)
    · skip
      refine own_of (fun _ k => XS.ifNo X0.here hx rfl (hb hby d1_8) rfl ((if0 _ _).trans (flt hc8_2).1) k) ?_
      show own_Out p e below _ (s₁.setTop (mkF m 11 #[.val (.int p0)] []))
      obtain ⟨T3, X3, e3, st3⟩ := getS2 X0 hx hZ hown (host := "") (Or.inl (hw _ (List.mem_of_getElem? (i := 4) rfl))) Via.refl e0 S (g := (mkF m 11 #[.val (.int p0)] [])) rfl (hb hby d1_11)
      refine own_of st3 ?_
      show own_Out p e below _ (T3.setTop (mkF m 14 #[.val (.int p0)] [(.ref w)]))
      refine own_of (fun _ k => XS.iloadN X3.here hx rfl (hb hby d1_14) rfl k) ?_
      show own_Out p e below _ (T3.setTop (mkF m 15 #[.val (.int p0)] [(.int p0), (.ref w)]))
      refine own_of (X3.baloadBytes hx (j := p0) (v := (.int (own_tab p0))) (by rw [e3]; exact A.1) (State.isArrayOf_alike hZ.alike A.2.1) A.2.2 (hT p0 hc8_2 hc4_1).1 (hT p0 hc8_2 hc4_1).2 (g := (mkF m 15 #[.val (.int p0)] [(.int p0), (.ref w)])) rfl rfl (hb hby d1_15)) ?_
      show own_Out p e below _ (T3.setTop (mkF m 16 #[.val (.int p0)] [(.int (own_tab p0))]))
      refine own_of (fun _ k => XS.iconst X3.here hx rfl (hb hby d1_16) k) ?_
      show own_Out p e below _ (T3.setTop (mkF m 17 #[.val (.int p0)] [(.int (1 : Int32)), (.int (own_tab p0))]))
      refine own_of (fun _ k => XS.iand X3.here hx rfl (hb hby d1_17) rfl k) ?_
      show own_Out p e below _ (T3.setTop (mkF m 18 #[.val (.int p0)] [(.int ((own_tab p0) &&& (1 : Int32)))]))
      by_cases hc18_4 : ((own_tab p0) &&& (1 : Int32)) = (0 : Int32)
      · skip
        refine own_of (fun _ k => XS.ifYes X3.here hx rfl (pc0 := 18) (pc' := 25) rfl (hb hby d1_18) rfl ((if0 _ _).trans (teq hc18_4).1) (by decide) (by decide) k) ?_
        show own_Out p e below _ (T3.setTop (mkF m 25 #[.val (.int p0)] []))
        refine own_of (fun _ k => XS.iconst X3.here hx rfl (hb hby d1_25) k) ?_
        show own_Out p e below _ (T3.setTop (mkF m 26 #[.val (.int p0)] [(.int (0 : Int32))]))
        exact own_outN X3 hx hlk (t := .boolean) hret (by simp) (hb hby d1_26) (z' := (0 : Int32)) rfl (Q := Q1 Z p0 w cl h0 n0) ⟨by simp only [f1, if_pos hc4_1, if_neg hc8_2, if_pos hc18_4], N0, e3⟩ (by decide) (by decide)
      · skip
        refine own_of (fun _ k => XS.ifNo X3.here hx rfl (hb hby d1_18) rfl ((if0 _ _).trans (feq hc18_4).1) k) ?_
        show own_Out p e below _ (T3.setTop (mkF m 21 #[.val (.int p0)] []))
        refine own_of (fun _ k => XS.iconst X3.here hx rfl (hb hby d1_21) k) ?_
        show own_Out p e below _ (T3.setTop (mkF m 22 #[.val (.int p0)] [(.int (1 : Int32))]))
        refine own_of (fun _ k => XS.goto X3.here hx rfl (pc0 := 22) (pc' := 26) rfl (hb hby d1_22) (by decide) (by decide) k) ?_
        show own_Out p e below _ (T3.setTop (mkF m 26 #[.val (.int p0)] [(.int (1 : Int32))]))
        exact own_outN X3 hx hlk (t := .boolean) hret (by simp) (hb hby d1_26) (z' := (1 : Int32)) rfl (Q := Q1 Z p0 w cl h0 n0) ⟨by simp only [f1, if_pos hc4_1, if_neg hc8_2, if_neg hc18_4], N0, e3⟩ (by decide) (by decide)
  · skip
    refine own_of (fun _ k => XS.icmpYes X0.here hx rfl (pc0 := 4) (pc' := 27) rfl (hb hby d1_4) rfl (flt hc4_1).2.1 (by decide) (by decide) k) ?_
    show own_Out p e below _ (s₁.setTop (mkF m 27 #[.val (.int p0)] []))
    refine own_of (fun _ k => XS.iloadN X0.here hx rfl (hb hby d1_27) rfl k) ?_
    show own_Out p e below _ (s₁.setTop (mkF m 28 #[.val (.int p0)] [(.int p0)]))
    refine own_of (fun _ k => XS.sipush X0.here hx rfl (hb hby d1_28) k) ?_
    show own_Out p e below _ (s₁.setTop (mkF m 31 #[.val (.int p0)] [(.int (192 : Int32)), (.int p0)]))
    by_cases hc31_5 : p0 < (192 : Int32)
    · skip
      refine own_of (fun _ k => XS.icmpYes X0.here hx rfl (pc0 := 31) (pc' := 41) rfl (hb hby d1_31) rfl (tlt hc31_5).1 (by decide) (by decide) k) ?_
      show own_Out p e below _ (s₁.setTop (mkF m 41 #[.val (.int p0)] []))
      refine own_of (fun _ k => XS.iloadN X0.here hx rfl (hb hby d1_41) rfl k) ?_
      show own_Out p e below _ (s₁.setTop (mkF m 42 #[.val (.int p0)] [(.int p0)]))
      refine own_of (fun _ k => XS.sipush X0.here hx rfl (hb hby d1_42) k) ?_
      show own_Out p e below _ (s₁.setTop (mkF m 45 #[.val (.int p0)] [(.int (216 : Int32)), (.int p0)]))
      refine own_of (fun _ k => XS.icmpYes X0.here hx rfl (pc0 := 45) (pc' := 55) rfl (hb hby d1_45) rfl (tlt (own_T1 (own_U1 hc31_5) (by decide) : p0 < (216 : Int32))).1 (by decide) (by decide) k) ?_
      show own_Out p e below _ (s₁.setTop (mkF m 55 #[.val (.int p0)] []))
      refine own_of (fun _ k => XS.iloadN X0.here hx rfl (hb hby d1_55) rfl k) ?_
      show own_Out p e below _ (s₁.setTop (mkF m 56 #[.val (.int p0)] [(.int p0)]))
      refine own_of (fun _ k => XS.sipush X0.here hx rfl (hb hby d1_56) k) ?_
      show own_Out p e below _ (s₁.setTop (mkF m 59 #[.val (.int p0)] [(.int (248 : Int32)), (.int p0)]))
      refine own_of (fun _ k => XS.icmpYes X0.here hx rfl (pc0 := 59) (pc' := 69) rfl (hb hby d1_59) rfl (tlt (own_T1 (own_U1 hc31_5) (by decide) : p0 < (248 : Int32))).1 (by decide) (by decide) k) ?_
      show own_Out p e below _ (s₁.setTop (mkF m 69 #[.val (.int p0)] []))
      refine own_of (fun _ k => XS.iloadN X0.here hx rfl (hb hby d1_69) rfl k) ?_
      show own_Out p e below _ (s₁.setTop (mkF m 70 #[.val (.int p0)] [(.int p0)]))
      refine own_of (fun _ k => XS.sipush X0.here hx rfl (hb hby d1_70) k) ?_
      show own_Out p e below _ (s₁.setTop (mkF m 73 #[.val (.int p0)] [(.int (880 : Int32)), (.int p0)]))
      refine own_of (fun _ k => XS.icmpYes X0.here hx rfl (pc0 := 73) (pc' := 83) rfl (hb hby d1_73) rfl (tlt (own_T1 (own_U1 hc31_5) (by decide) : p0 < (880 : Int32))).1 (by decide) (by decide) k) ?_
      show own_Out p e below _ (s₁.setTop (mkF m 83 #[.val (.int p0)] []))
      refine own_of (fun _ k => XS.iloadN X0.here hx rfl (hb hby d1_83) rfl k) ?_
      show own_Out p e below _ (s₁.setTop (mkF m 84 #[.val (.int p0)] [(.int p0)]))
      refine own_of (fun _ k => XS.sipush X0.here hx rfl (hb hby d1_84) k) ?_
      show own_Out p e below _ (s₁.setTop (mkF m 87 #[.val (.int p0)] [(.int (895 : Int32)), (.int p0)]))
      refine own_of (fun _ k => XS.icmpYes X0.here hx rfl (pc0 := 87) (pc' := 97) rfl (hb hby d1_87) rfl (tlt (own_T1 (own_U1 hc31_5) (by decide) : p0 < (895 : Int32))).1 (by decide) (by decide) k) ?_
      show own_Out p e below _ (s₁.setTop (mkF m 97 #[.val (.int p0)] []))
      refine own_of (fun _ k => XS.iloadN X0.here hx rfl (hb hby d1_97) rfl k) ?_
      show own_Out p e below _ (s₁.setTop (mkF m 98 #[.val (.int p0)] [(.int p0)]))
      refine own_of (fun _ k => XS.sipush X0.here hx rfl (hb hby d1_98) k) ?_
      show own_Out p e below _ (s₁.setTop (mkF m 101 #[.val (.int p0)] [(.int (8204 : Int32)), (.int p0)]))
      refine own_of (fun _ k => XS.icmpYes X0.here hx rfl (pc0 := 101) (pc' := 111) rfl (hb hby d1_101) rfl (tlt (own_T1 (own_U1 hc31_5) (by decide) : p0 < (8204 : Int32))).1 (by decide) (by decide) k) ?_
      show own_Out p e below _ (s₁.setTop (mkF m 111 #[.val (.int p0)] []))
      refine own_of (fun _ k => XS.iloadN X0.here hx rfl (hb hby d1_111) rfl k) ?_
      show own_Out p e below _ (s₁.setTop (mkF m 112 #[.val (.int p0)] [(.int p0)]))
      refine own_of (fun _ k => XS.sipush X0.here hx rfl (hb hby d1_112) k) ?_
      show own_Out p e below _ (s₁.setTop (mkF m 115 #[.val (.int p0)] [(.int (8304 : Int32)), (.int p0)]))
      refine own_of (fun _ k => XS.icmpYes X0.here hx rfl (pc0 := 115) (pc' := 125) rfl (hb hby d1_115) rfl (tlt (own_T1 (own_U1 hc31_5) (by decide) : p0 < (8304 : Int32))).1 (by decide) (by decide) k) ?_
      show own_Out p e below _ (s₁.setTop (mkF m 125 #[.val (.int p0)] []))
      refine own_of (fun _ k => XS.iloadN X0.here hx rfl (hb hby d1_125) rfl k) ?_
      show own_Out p e below _ (s₁.setTop (mkF m 126 #[.val (.int p0)] [(.int p0)]))
      refine own_of (fun _ k => XS.sipush X0.here hx rfl (hb hby d1_126) k) ?_
      show own_Out p e below _ (s₁.setTop (mkF m 129 #[.val (.int p0)] [(.int (11264 : Int32)), (.int p0)]))
      refine own_of (fun _ k => XS.icmpYes X0.here hx rfl (pc0 := 129) (pc' := 139) rfl (hb hby d1_129) rfl (tlt (own_T1 (own_U1 hc31_5) (by decide) : p0 < (11264 : Int32))).1 (by decide) (by decide) k) ?_
      show own_Out p e below _ (s₁.setTop (mkF m 139 #[.val (.int p0)] []))
      refine own_of (fun _ k => XS.iloadN X0.here hx rfl (hb hby d1_139) rfl k) ?_
      show own_Out p e below _ (s₁.setTop (mkF m 140 #[.val (.int p0)] [(.int p0)]))
      refine own_of (fun _ k => XS.sipush X0.here hx rfl (hb hby d1_140) k) ?_
      show own_Out p e below _ (s₁.setTop (mkF m 143 #[.val (.int p0)] [(.int (12289 : Int32)), (.int p0)]))
      refine own_of (fun _ k => XS.icmpYes X0.here hx rfl (pc0 := 143) (pc' := 152) rfl (hb hby d1_143) rfl (tlt (own_T1 (own_U1 hc31_5) (by decide) : p0 < (12289 : Int32))).1 (by decide) (by decide) k) ?_
      show own_Out p e below _ (s₁.setTop (mkF m 152 #[.val (.int p0)] []))
      refine own_of (fun _ k => XS.iloadN X0.here hx rfl (hb hby d1_152) rfl k) ?_
      show own_Out p e below _ (s₁.setTop (mkF m 153 #[.val (.int p0)] [(.int p0)]))
      refine own_of (X0.ldcInt hx hown (mvT hZ (hw _ (List.mem_of_getElem? (i := 16) rfl))) (g := (mkF m 153 #[.val (.int p0)] [(.int p0)])) rfl (hb hby d1_153)) ?_
      show own_Out p e below _ (s₁.setTop (mkF m 155 #[.val (.int p0)] [(.int (63744 : Int32)), (.int p0)]))
      refine own_of (fun _ k => XS.icmpYes X0.here hx rfl (pc0 := 155) (pc' := 164) rfl (hb hby d1_155) rfl (tlt (own_T1 (own_U1 hc31_5) (by decide) : p0 < (63744 : Int32))).1 (by decide) (by decide) k) ?_
      show own_Out p e below _ (s₁.setTop (mkF m 164 #[.val (.int p0)] []))
      refine own_of (fun _ k => XS.iloadN X0.here hx rfl (hb hby d1_164) rfl k) ?_
      show own_Out p e below _ (s₁.setTop (mkF m 165 #[.val (.int p0)] [(.int p0)]))
      refine own_of (X0.ldcInt hx hown (mvT hZ (hw _ (List.mem_of_getElem? (i := 18) rfl))) (g := (mkF m 165 #[.val (.int p0)] [(.int p0)])) rfl (hb hby d1_165)) ?_
      show own_Out p e below _ (s₁.setTop (mkF m 167 #[.val (.int p0)] [(.int (65008 : Int32)), (.int p0)]))
      refine own_of (fun _ k => XS.icmpYes X0.here hx rfl (pc0 := 167) (pc' := 176) rfl (hb hby d1_167) rfl (tlt (own_T1 (own_U1 hc31_5) (by decide) : p0 < (65008 : Int32))).1 (by decide) (by decide) k) ?_
      show own_Out p e below _ (s₁.setTop (mkF m 176 #[.val (.int p0)] []))
      refine own_of (fun _ k => XS.iloadN X0.here hx rfl (hb hby d1_176) rfl k) ?_
      show own_Out p e below _ (s₁.setTop (mkF m 177 #[.val (.int p0)] [(.int p0)]))
      refine own_of (X0.ldcInt hx hown (mvT hZ (hw _ (List.mem_of_getElem? (i := 20) rfl))) (g := (mkF m 177 #[.val (.int p0)] [(.int p0)])) rfl (hb hby d1_177)) ?_
      show own_Out p e below _ (s₁.setTop (mkF m 179 #[.val (.int p0)] [(.int (65536 : Int32)), (.int p0)]))
      refine own_of (fun _ k => XS.icmpYes X0.here hx rfl (pc0 := 179) (pc' := 192) rfl (hb hby d1_179) rfl (tlt (own_T1 (own_U1 hc31_5) (by decide) : p0 < (65536 : Int32))).1 (by decide) (by decide) k) ?_
      show own_Out p e below _ (s₁.setTop (mkF m 192 #[.val (.int p0)] []))
      refine own_of (fun _ k => XS.iconst X0.here hx rfl (hb hby d1_192) k) ?_
      show own_Out p e below _ (s₁.setTop (mkF m 193 #[.val (.int p0)] [(.int (0 : Int32))]))
      exact own_outN X0 hx hlk (t := .boolean) hret (by simp) (hb hby d1_193) (z' := (0 : Int32)) rfl (Q := Q1 Z p0 w cl h0 n0) ⟨by simp only [f1, if_neg hc4_1, if_pos hc31_5], N0, e0⟩ (by decide) (by decide)
    · skip
      refine own_of (fun _ k => XS.icmpNo X0.here hx rfl (hb hby d1_31) rfl (flt hc31_5).1 k) ?_
      show own_Out p e below _ (s₁.setTop (mkF m 34 #[.val (.int p0)] []))
      refine own_of (fun _ k => XS.iloadN X0.here hx rfl (hb hby d1_34) rfl k) ?_
      show own_Out p e below _ (s₁.setTop (mkF m 35 #[.val (.int p0)] [(.int p0)]))
      refine own_of (fun _ k => XS.sipush X0.here hx rfl (hb hby d1_35) k) ?_
      show own_Out p e below _ (s₁.setTop (mkF m 38 #[.val (.int p0)] [(.int (214 : Int32)), (.int p0)]))
      by_cases hc38_6 : (214 : Int32) < p0
      · skip
        refine own_of (fun _ k => XS.icmpNo X0.here hx rfl (hb hby d1_38) rfl (tlt hc38_6).2.2.2 k) ?_
        show own_Out p e below _ (s₁.setTop (mkF m 41 #[.val (.int p0)] []))
        refine own_of (fun _ k => XS.iloadN X0.here hx rfl (hb hby d1_41) rfl k) ?_
        show own_Out p e below _ (s₁.setTop (mkF m 42 #[.val (.int p0)] [(.int p0)]))
        refine own_of (fun _ k => XS.sipush X0.here hx rfl (hb hby d1_42) k) ?_
        show own_Out p e below _ (s₁.setTop (mkF m 45 #[.val (.int p0)] [(.int (216 : Int32)), (.int p0)]))
        by_cases hc45_7 : p0 < (216 : Int32)
        · skip
          refine own_of (fun _ k => XS.icmpYes X0.here hx rfl (pc0 := 45) (pc' := 55) rfl (hb hby d1_45) rfl (tlt hc45_7).1 (by decide) (by decide) k) ?_
          show own_Out p e below _ (s₁.setTop (mkF m 55 #[.val (.int p0)] []))
          refine own_of (fun _ k => XS.iloadN X0.here hx rfl (hb hby d1_55) rfl k) ?_
          show own_Out p e below _ (s₁.setTop (mkF m 56 #[.val (.int p0)] [(.int p0)]))
          refine own_of (fun _ k => XS.sipush X0.here hx rfl (hb hby d1_56) k) ?_
          show own_Out p e below _ (s₁.setTop (mkF m 59 #[.val (.int p0)] [(.int (248 : Int32)), (.int p0)]))
          refine own_of (fun _ k => XS.icmpYes X0.here hx rfl (pc0 := 59) (pc' := 69) rfl (hb hby d1_59) rfl (tlt (own_T1 (own_U1 hc45_7) (by decide) : p0 < (248 : Int32))).1 (by decide) (by decide) k) ?_
          show own_Out p e below _ (s₁.setTop (mkF m 69 #[.val (.int p0)] []))
          refine own_of (fun _ k => XS.iloadN X0.here hx rfl (hb hby d1_69) rfl k) ?_
          show own_Out p e below _ (s₁.setTop (mkF m 70 #[.val (.int p0)] [(.int p0)]))
          refine own_of (fun _ k => XS.sipush X0.here hx rfl (hb hby d1_70) k) ?_
          show own_Out p e below _ (s₁.setTop (mkF m 73 #[.val (.int p0)] [(.int (880 : Int32)), (.int p0)]))
          refine own_of (fun _ k => XS.icmpYes X0.here hx rfl (pc0 := 73) (pc' := 83) rfl (hb hby d1_73) rfl (tlt (own_T1 (own_U1 hc45_7) (by decide) : p0 < (880 : Int32))).1 (by decide) (by decide) k) ?_
          show own_Out p e below _ (s₁.setTop (mkF m 83 #[.val (.int p0)] []))
          refine own_of (fun _ k => XS.iloadN X0.here hx rfl (hb hby d1_83) rfl k) ?_
          show own_Out p e below _ (s₁.setTop (mkF m 84 #[.val (.int p0)] [(.int p0)]))
          refine own_of (fun _ k => XS.sipush X0.here hx rfl (hb hby d1_84) k) ?_
          show own_Out p e below _ (s₁.setTop (mkF m 87 #[.val (.int p0)] [(.int (895 : Int32)), (.int p0)]))
          refine own_of (fun _ k => XS.icmpYes X0.here hx rfl (pc0 := 87) (pc' := 97) rfl (hb hby d1_87) rfl (tlt (own_T1 (own_U1 hc45_7) (by decide) : p0 < (895 : Int32))).1 (by decide) (by decide) k) ?_
          show own_Out p e below _ (s₁.setTop (mkF m 97 #[.val (.int p0)] []))
          refine own_of (fun _ k => XS.iloadN X0.here hx rfl (hb hby d1_97) rfl k) ?_
          show own_Out p e below _ (s₁.setTop (mkF m 98 #[.val (.int p0)] [(.int p0)]))
          refine own_of (fun _ k => XS.sipush X0.here hx rfl (hb hby d1_98) k) ?_
          show own_Out p e below _ (s₁.setTop (mkF m 101 #[.val (.int p0)] [(.int (8204 : Int32)), (.int p0)]))
          refine own_of (fun _ k => XS.icmpYes X0.here hx rfl (pc0 := 101) (pc' := 111) rfl (hb hby d1_101) rfl (tlt (own_T1 (own_U1 hc45_7) (by decide) : p0 < (8204 : Int32))).1 (by decide) (by decide) k) ?_
          show own_Out p e below _ (s₁.setTop (mkF m 111 #[.val (.int p0)] []))
          refine own_of (fun _ k => XS.iloadN X0.here hx rfl (hb hby d1_111) rfl k) ?_
          show own_Out p e below _ (s₁.setTop (mkF m 112 #[.val (.int p0)] [(.int p0)]))
          refine own_of (fun _ k => XS.sipush X0.here hx rfl (hb hby d1_112) k) ?_
          show own_Out p e below _ (s₁.setTop (mkF m 115 #[.val (.int p0)] [(.int (8304 : Int32)), (.int p0)]))
          refine own_of (fun _ k => XS.icmpYes X0.here hx rfl (pc0 := 115) (pc' := 125) rfl (hb hby d1_115) rfl (tlt (own_T1 (own_U1 hc45_7) (by decide) : p0 < (8304 : Int32))).1 (by decide) (by decide) k) ?_
          show own_Out p e below _ (s₁.setTop (mkF m 125 #[.val (.int p0)] []))
          refine own_of (fun _ k => XS.iloadN X0.here hx rfl (hb hby d1_125) rfl k) ?_
          show own_Out p e below _ (s₁.setTop (mkF m 126 #[.val (.int p0)] [(.int p0)]))
          refine own_of (fun _ k => XS.sipush X0.here hx rfl (hb hby d1_126) k) ?_
          show own_Out p e below _ (s₁.setTop (mkF m 129 #[.val (.int p0)] [(.int (11264 : Int32)), (.int p0)]))
          refine own_of (fun _ k => XS.icmpYes X0.here hx rfl (pc0 := 129) (pc' := 139) rfl (hb hby d1_129) rfl (tlt (own_T1 (own_U1 hc45_7) (by decide) : p0 < (11264 : Int32))).1 (by decide) (by decide) k) ?_
          show own_Out p e below _ (s₁.setTop (mkF m 139 #[.val (.int p0)] []))
          refine own_of (fun _ k => XS.iloadN X0.here hx rfl (hb hby d1_139) rfl k) ?_
          show own_Out p e below _ (s₁.setTop (mkF m 140 #[.val (.int p0)] [(.int p0)]))
          refine own_of (fun _ k => XS.sipush X0.here hx rfl (hb hby d1_140) k) ?_
          show own_Out p e below _ (s₁.setTop (mkF m 143 #[.val (.int p0)] [(.int (12289 : Int32)), (.int p0)]))
          refine own_of (fun _ k => XS.icmpYes X0.here hx rfl (pc0 := 143) (pc' := 152) rfl (hb hby d1_143) rfl (tlt (own_T1 (own_U1 hc45_7) (by decide) : p0 < (12289 : Int32))).1 (by decide) (by decide) k) ?_
          show own_Out p e below _ (s₁.setTop (mkF m 152 #[.val (.int p0)] []))
          refine own_of (fun _ k => XS.iloadN X0.here hx rfl (hb hby d1_152) rfl k) ?_
          show own_Out p e below _ (s₁.setTop (mkF m 153 #[.val (.int p0)] [(.int p0)]))
          refine own_of (X0.ldcInt hx hown (mvT hZ (hw _ (List.mem_of_getElem? (i := 16) rfl))) (g := (mkF m 153 #[.val (.int p0)] [(.int p0)])) rfl (hb hby d1_153)) ?_
          show own_Out p e below _ (s₁.setTop (mkF m 155 #[.val (.int p0)] [(.int (63744 : Int32)), (.int p0)]))
          refine own_of (fun _ k => XS.icmpYes X0.here hx rfl (pc0 := 155) (pc' := 164) rfl (hb hby d1_155) rfl (tlt (own_T1 (own_U1 hc45_7) (by decide) : p0 < (63744 : Int32))).1 (by decide) (by decide) k) ?_
          show own_Out p e below _ (s₁.setTop (mkF m 164 #[.val (.int p0)] []))
          refine own_of (fun _ k => XS.iloadN X0.here hx rfl (hb hby d1_164) rfl k) ?_
          show own_Out p e below _ (s₁.setTop (mkF m 165 #[.val (.int p0)] [(.int p0)]))
          refine own_of (X0.ldcInt hx hown (mvT hZ (hw _ (List.mem_of_getElem? (i := 18) rfl))) (g := (mkF m 165 #[.val (.int p0)] [(.int p0)])) rfl (hb hby d1_165)) ?_
          show own_Out p e below _ (s₁.setTop (mkF m 167 #[.val (.int p0)] [(.int (65008 : Int32)), (.int p0)]))
          refine own_of (fun _ k => XS.icmpYes X0.here hx rfl (pc0 := 167) (pc' := 176) rfl (hb hby d1_167) rfl (tlt (own_T1 (own_U1 hc45_7) (by decide) : p0 < (65008 : Int32))).1 (by decide) (by decide) k) ?_
          show own_Out p e below _ (s₁.setTop (mkF m 176 #[.val (.int p0)] []))
          refine own_of (fun _ k => XS.iloadN X0.here hx rfl (hb hby d1_176) rfl k) ?_
          show own_Out p e below _ (s₁.setTop (mkF m 177 #[.val (.int p0)] [(.int p0)]))
          refine own_of (X0.ldcInt hx hown (mvT hZ (hw _ (List.mem_of_getElem? (i := 20) rfl))) (g := (mkF m 177 #[.val (.int p0)] [(.int p0)])) rfl (hb hby d1_177)) ?_
          show own_Out p e below _ (s₁.setTop (mkF m 179 #[.val (.int p0)] [(.int (65536 : Int32)), (.int p0)]))
          refine own_of (fun _ k => XS.icmpYes X0.here hx rfl (pc0 := 179) (pc' := 192) rfl (hb hby d1_179) rfl (tlt (own_T1 (own_U1 hc45_7) (by decide) : p0 < (65536 : Int32))).1 (by decide) (by decide) k) ?_
          show own_Out p e below _ (s₁.setTop (mkF m 192 #[.val (.int p0)] []))
          refine own_of (fun _ k => XS.iconst X0.here hx rfl (hb hby d1_192) k) ?_
          show own_Out p e below _ (s₁.setTop (mkF m 193 #[.val (.int p0)] [(.int (0 : Int32))]))
          exact own_outN X0 hx hlk (t := .boolean) hret (by simp) (hb hby d1_193) (z' := (0 : Int32)) rfl (Q := Q1 Z p0 w cl h0 n0) ⟨by simp only [f1, if_neg hc4_1, if_neg hc31_5, if_pos hc38_6, if_pos hc45_7], N0, e0⟩ (by decide) (by decide)
        · skip
          refine own_of (fun _ k => XS.icmpNo X0.here hx rfl (hb hby d1_45) rfl (flt hc45_7).1 k) ?_
          show own_Out p e below _ (s₁.setTop (mkF m 48 #[.val (.int p0)] []))
          refine own_of (fun _ k => XS.iloadN X0.here hx rfl (hb hby d1_48) rfl k) ?_
          show own_Out p e below _ (s₁.setTop (mkF m 49 #[.val (.int p0)] [(.int p0)]))
          refine own_of (fun _ k => XS.sipush X0.here hx rfl (hb hby d1_49) k) ?_
          show own_Out p e below _ (s₁.setTop (mkF m 52 #[.val (.int p0)] [(.int (246 : Int32)), (.int p0)]))
          by_cases hc52_8 : (246 : Int32) < p0
          · skip
            refine own_of (fun _ k => XS.icmpNo X0.here hx rfl (hb hby d1_52) rfl (tlt hc52_8).2.2.2 k) ?_
            show own_Out p e below _ (s₁.setTop (mkF m 55 #[.val (.int p0)] []))
            refine own_of (fun _ k => XS.iloadN X0.here hx rfl (hb hby d1_55) rfl k) ?_
            show own_Out p e below _ (s₁.setTop (mkF m 56 #[.val (.int p0)] [(.int p0)]))
            refine own_of (fun _ k => XS.sipush X0.here hx rfl (hb hby d1_56) k) ?_
            show own_Out p e below _ (s₁.setTop (mkF m 59 #[.val (.int p0)] [(.int (248 : Int32)), (.int p0)]))
            by_cases hc59_9 : p0 < (248 : Int32)
            · skip
              refine own_of (fun _ k => XS.icmpYes X0.here hx rfl (pc0 := 59) (pc' := 69) rfl (hb hby d1_59) rfl (tlt hc59_9).1 (by decide) (by decide) k) ?_
              show own_Out p e below _ (s₁.setTop (mkF m 69 #[.val (.int p0)] []))
              refine own_of (fun _ k => XS.iloadN X0.here hx rfl (hb hby d1_69) rfl k) ?_
              show own_Out p e below _ (s₁.setTop (mkF m 70 #[.val (.int p0)] [(.int p0)]))
              refine own_of (fun _ k => XS.sipush X0.here hx rfl (hb hby d1_70) k) ?_
              show own_Out p e below _ (s₁.setTop (mkF m 73 #[.val (.int p0)] [(.int (880 : Int32)), (.int p0)]))
              refine own_of (fun _ k => XS.icmpYes X0.here hx rfl (pc0 := 73) (pc' := 83) rfl (hb hby d1_73) rfl (tlt (own_T1 (own_U1 hc59_9) (by decide) : p0 < (880 : Int32))).1 (by decide) (by decide) k) ?_
              show own_Out p e below _ (s₁.setTop (mkF m 83 #[.val (.int p0)] []))
              refine own_of (fun _ k => XS.iloadN X0.here hx rfl (hb hby d1_83) rfl k) ?_
              show own_Out p e below _ (s₁.setTop (mkF m 84 #[.val (.int p0)] [(.int p0)]))
              refine own_of (fun _ k => XS.sipush X0.here hx rfl (hb hby d1_84) k) ?_
              show own_Out p e below _ (s₁.setTop (mkF m 87 #[.val (.int p0)] [(.int (895 : Int32)), (.int p0)]))
              refine own_of (fun _ k => XS.icmpYes X0.here hx rfl (pc0 := 87) (pc' := 97) rfl (hb hby d1_87) rfl (tlt (own_T1 (own_U1 hc59_9) (by decide) : p0 < (895 : Int32))).1 (by decide) (by decide) k) ?_
              show own_Out p e below _ (s₁.setTop (mkF m 97 #[.val (.int p0)] []))
              refine own_of (fun _ k => XS.iloadN X0.here hx rfl (hb hby d1_97) rfl k) ?_
              show own_Out p e below _ (s₁.setTop (mkF m 98 #[.val (.int p0)] [(.int p0)]))
              refine own_of (fun _ k => XS.sipush X0.here hx rfl (hb hby d1_98) k) ?_
              show own_Out p e below _ (s₁.setTop (mkF m 101 #[.val (.int p0)] [(.int (8204 : Int32)), (.int p0)]))
              refine own_of (fun _ k => XS.icmpYes X0.here hx rfl (pc0 := 101) (pc' := 111) rfl (hb hby d1_101) rfl (tlt (own_T1 (own_U1 hc59_9) (by decide) : p0 < (8204 : Int32))).1 (by decide) (by decide) k) ?_
              show own_Out p e below _ (s₁.setTop (mkF m 111 #[.val (.int p0)] []))
              refine own_of (fun _ k => XS.iloadN X0.here hx rfl (hb hby d1_111) rfl k) ?_
              show own_Out p e below _ (s₁.setTop (mkF m 112 #[.val (.int p0)] [(.int p0)]))
              refine own_of (fun _ k => XS.sipush X0.here hx rfl (hb hby d1_112) k) ?_
              show own_Out p e below _ (s₁.setTop (mkF m 115 #[.val (.int p0)] [(.int (8304 : Int32)), (.int p0)]))
              refine own_of (fun _ k => XS.icmpYes X0.here hx rfl (pc0 := 115) (pc' := 125) rfl (hb hby d1_115) rfl (tlt (own_T1 (own_U1 hc59_9) (by decide) : p0 < (8304 : Int32))).1 (by decide) (by decide) k) ?_
              show own_Out p e below _ (s₁.setTop (mkF m 125 #[.val (.int p0)] []))
              refine own_of (fun _ k => XS.iloadN X0.here hx rfl (hb hby d1_125) rfl k) ?_
              show own_Out p e below _ (s₁.setTop (mkF m 126 #[.val (.int p0)] [(.int p0)]))
              refine own_of (fun _ k => XS.sipush X0.here hx rfl (hb hby d1_126) k) ?_
              show own_Out p e below _ (s₁.setTop (mkF m 129 #[.val (.int p0)] [(.int (11264 : Int32)), (.int p0)]))
              refine own_of (fun _ k => XS.icmpYes X0.here hx rfl (pc0 := 129) (pc' := 139) rfl (hb hby d1_129) rfl (tlt (own_T1 (own_U1 hc59_9) (by decide) : p0 < (11264 : Int32))).1 (by decide) (by decide) k) ?_
              show own_Out p e below _ (s₁.setTop (mkF m 139 #[.val (.int p0)] []))
              refine own_of (fun _ k => XS.iloadN X0.here hx rfl (hb hby d1_139) rfl k) ?_
              show own_Out p e below _ (s₁.setTop (mkF m 140 #[.val (.int p0)] [(.int p0)]))
              refine own_of (fun _ k => XS.sipush X0.here hx rfl (hb hby d1_140) k) ?_
              show own_Out p e below _ (s₁.setTop (mkF m 143 #[.val (.int p0)] [(.int (12289 : Int32)), (.int p0)]))
              refine own_of (fun _ k => XS.icmpYes X0.here hx rfl (pc0 := 143) (pc' := 152) rfl (hb hby d1_143) rfl (tlt (own_T1 (own_U1 hc59_9) (by decide) : p0 < (12289 : Int32))).1 (by decide) (by decide) k) ?_
              show own_Out p e below _ (s₁.setTop (mkF m 152 #[.val (.int p0)] []))
              refine own_of (fun _ k => XS.iloadN X0.here hx rfl (hb hby d1_152) rfl k) ?_
              show own_Out p e below _ (s₁.setTop (mkF m 153 #[.val (.int p0)] [(.int p0)]))
              refine own_of (X0.ldcInt hx hown (mvT hZ (hw _ (List.mem_of_getElem? (i := 16) rfl))) (g := (mkF m 153 #[.val (.int p0)] [(.int p0)])) rfl (hb hby d1_153)) ?_
              show own_Out p e below _ (s₁.setTop (mkF m 155 #[.val (.int p0)] [(.int (63744 : Int32)), (.int p0)]))
              refine own_of (fun _ k => XS.icmpYes X0.here hx rfl (pc0 := 155) (pc' := 164) rfl (hb hby d1_155) rfl (tlt (own_T1 (own_U1 hc59_9) (by decide) : p0 < (63744 : Int32))).1 (by decide) (by decide) k) ?_
              show own_Out p e below _ (s₁.setTop (mkF m 164 #[.val (.int p0)] []))
              refine own_of (fun _ k => XS.iloadN X0.here hx rfl (hb hby d1_164) rfl k) ?_
              show own_Out p e below _ (s₁.setTop (mkF m 165 #[.val (.int p0)] [(.int p0)]))
              refine own_of (X0.ldcInt hx hown (mvT hZ (hw _ (List.mem_of_getElem? (i := 18) rfl))) (g := (mkF m 165 #[.val (.int p0)] [(.int p0)])) rfl (hb hby d1_165)) ?_
              show own_Out p e below _ (s₁.setTop (mkF m 167 #[.val (.int p0)] [(.int (65008 : Int32)), (.int p0)]))
              refine own_of (fun _ k => XS.icmpYes X0.here hx rfl (pc0 := 167) (pc' := 176) rfl (hb hby d1_167) rfl (tlt (own_T1 (own_U1 hc59_9) (by decide) : p0 < (65008 : Int32))).1 (by decide) (by decide) k) ?_
              show own_Out p e below _ (s₁.setTop (mkF m 176 #[.val (.int p0)] []))
              refine own_of (fun _ k => XS.iloadN X0.here hx rfl (hb hby d1_176) rfl k) ?_
              show own_Out p e below _ (s₁.setTop (mkF m 177 #[.val (.int p0)] [(.int p0)]))
              refine own_of (X0.ldcInt hx hown (mvT hZ (hw _ (List.mem_of_getElem? (i := 20) rfl))) (g := (mkF m 177 #[.val (.int p0)] [(.int p0)])) rfl (hb hby d1_177)) ?_
              show own_Out p e below _ (s₁.setTop (mkF m 179 #[.val (.int p0)] [(.int (65536 : Int32)), (.int p0)]))
              refine own_of (fun _ k => XS.icmpYes X0.here hx rfl (pc0 := 179) (pc' := 192) rfl (hb hby d1_179) rfl (tlt (own_T1 (own_U1 hc59_9) (by decide) : p0 < (65536 : Int32))).1 (by decide) (by decide) k) ?_
              show own_Out p e below _ (s₁.setTop (mkF m 192 #[.val (.int p0)] []))
              refine own_of (fun _ k => XS.iconst X0.here hx rfl (hb hby d1_192) k) ?_
              show own_Out p e below _ (s₁.setTop (mkF m 193 #[.val (.int p0)] [(.int (0 : Int32))]))
              exact own_outN X0 hx hlk (t := .boolean) hret (by simp) (hb hby d1_193) (z' := (0 : Int32)) rfl (Q := Q1 Z p0 w cl h0 n0) ⟨by simp only [f1, if_neg hc4_1, if_neg hc31_5, if_pos hc38_6, if_neg hc45_7, if_pos hc52_8, if_pos hc59_9], N0, e0⟩ (by decide) (by decide)
            · skip
              refine own_of (fun _ k => XS.icmpNo X0.here hx rfl (hb hby d1_59) rfl (flt hc59_9).1 k) ?_
              show own_Out p e below _ (s₁.setTop (mkF m 62 #[.val (.int p0)] []))
              refine own_of (fun _ k => XS.iloadN X0.here hx rfl (hb hby d1_62) rfl k) ?_
              show own_Out p e below _ (s₁.setTop (mkF m 63 #[.val (.int p0)] [(.int p0)]))
              refine own_of (fun _ k => XS.sipush X0.here hx rfl (hb hby d1_63) k) ?_
              show own_Out p e below _ (s₁.setTop (mkF m 66 #[.val (.int p0)] [(.int (767 : Int32)), (.int p0)]))
              by_cases hc66_10 : (767 : Int32) < p0
              · skip
                refine own_of (fun _ k => XS.icmpNo X0.here hx rfl (hb hby d1_66) rfl (tlt hc66_10).2.2.2 k) ?_
                show own_Out p e below _ (s₁.setTop (mkF m 69 #[.val (.int p0)] []))
                refine own_of (fun _ k => XS.iloadN X0.here hx rfl (hb hby d1_69) rfl k) ?_
                show own_Out p e below _ (s₁.setTop (mkF m 70 #[.val (.int p0)] [(.int p0)]))
                refine own_of (fun _ k => XS.sipush X0.here hx rfl (hb hby d1_70) k) ?_
                show own_Out p e below _ (s₁.setTop (mkF m 73 #[.val (.int p0)] [(.int (880 : Int32)), (.int p0)]))
                by_cases hc73_11 : p0 < (880 : Int32)
                · skip
                  refine own_of (fun _ k => XS.icmpYes X0.here hx rfl (pc0 := 73) (pc' := 83) rfl (hb hby d1_73) rfl (tlt hc73_11).1 (by decide) (by decide) k) ?_
                  show own_Out p e below _ (s₁.setTop (mkF m 83 #[.val (.int p0)] []))
                  refine own_of (fun _ k => XS.iloadN X0.here hx rfl (hb hby d1_83) rfl k) ?_
                  show own_Out p e below _ (s₁.setTop (mkF m 84 #[.val (.int p0)] [(.int p0)]))
                  refine own_of (fun _ k => XS.sipush X0.here hx rfl (hb hby d1_84) k) ?_
                  show own_Out p e below _ (s₁.setTop (mkF m 87 #[.val (.int p0)] [(.int (895 : Int32)), (.int p0)]))
                  refine own_of (fun _ k => XS.icmpYes X0.here hx rfl (pc0 := 87) (pc' := 97) rfl (hb hby d1_87) rfl (tlt (own_T1 (own_U1 hc73_11) (by decide) : p0 < (895 : Int32))).1 (by decide) (by decide) k) ?_
                  show own_Out p e below _ (s₁.setTop (mkF m 97 #[.val (.int p0)] []))
                  refine own_of (fun _ k => XS.iloadN X0.here hx rfl (hb hby d1_97) rfl k) ?_
                  show own_Out p e below _ (s₁.setTop (mkF m 98 #[.val (.int p0)] [(.int p0)]))
                  refine own_of (fun _ k => XS.sipush X0.here hx rfl (hb hby d1_98) k) ?_
                  show own_Out p e below _ (s₁.setTop (mkF m 101 #[.val (.int p0)] [(.int (8204 : Int32)), (.int p0)]))
                  refine own_of (fun _ k => XS.icmpYes X0.here hx rfl (pc0 := 101) (pc' := 111) rfl (hb hby d1_101) rfl (tlt (own_T1 (own_U1 hc73_11) (by decide) : p0 < (8204 : Int32))).1 (by decide) (by decide) k) ?_
                  show own_Out p e below _ (s₁.setTop (mkF m 111 #[.val (.int p0)] []))
                  refine own_of (fun _ k => XS.iloadN X0.here hx rfl (hb hby d1_111) rfl k) ?_
                  show own_Out p e below _ (s₁.setTop (mkF m 112 #[.val (.int p0)] [(.int p0)]))
                  refine own_of (fun _ k => XS.sipush X0.here hx rfl (hb hby d1_112) k) ?_
                  show own_Out p e below _ (s₁.setTop (mkF m 115 #[.val (.int p0)] [(.int (8304 : Int32)), (.int p0)]))
                  refine own_of (fun _ k => XS.icmpYes X0.here hx rfl (pc0 := 115) (pc' := 125) rfl (hb hby d1_115) rfl (tlt (own_T1 (own_U1 hc73_11) (by decide) : p0 < (8304 : Int32))).1 (by decide) (by decide) k) ?_
                  show own_Out p e below _ (s₁.setTop (mkF m 125 #[.val (.int p0)] []))
                  refine own_of (fun _ k => XS.iloadN X0.here hx rfl (hb hby d1_125) rfl k) ?_
                  show own_Out p e below _ (s₁.setTop (mkF m 126 #[.val (.int p0)] [(.int p0)]))
                  refine own_of (fun _ k => XS.sipush X0.here hx rfl (hb hby d1_126) k) ?_
                  show own_Out p e below _ (s₁.setTop (mkF m 129 #[.val (.int p0)] [(.int (11264 : Int32)), (.int p0)]))
                  refine own_of (fun _ k => XS.icmpYes X0.here hx rfl (pc0 := 129) (pc' := 139) rfl (hb hby d1_129) rfl (tlt (own_T1 (own_U1 hc73_11) (by decide) : p0 < (11264 : Int32))).1 (by decide) (by decide) k) ?_
                  show own_Out p e below _ (s₁.setTop (mkF m 139 #[.val (.int p0)] []))
                  refine own_of (fun _ k => XS.iloadN X0.here hx rfl (hb hby d1_139) rfl k) ?_
                  show own_Out p e below _ (s₁.setTop (mkF m 140 #[.val (.int p0)] [(.int p0)]))
                  refine own_of (fun _ k => XS.sipush X0.here hx rfl (hb hby d1_140) k) ?_
                  show own_Out p e below _ (s₁.setTop (mkF m 143 #[.val (.int p0)] [(.int (12289 : Int32)), (.int p0)]))
                  refine own_of (fun _ k => XS.icmpYes X0.here hx rfl (pc0 := 143) (pc' := 152) rfl (hb hby d1_143) rfl (tlt (own_T1 (own_U1 hc73_11) (by decide) : p0 < (12289 : Int32))).1 (by decide) (by decide) k) ?_
                  show own_Out p e below _ (s₁.setTop (mkF m 152 #[.val (.int p0)] []))
                  refine own_of (fun _ k => XS.iloadN X0.here hx rfl (hb hby d1_152) rfl k) ?_
                  show own_Out p e below _ (s₁.setTop (mkF m 153 #[.val (.int p0)] [(.int p0)]))
                  refine own_of (X0.ldcInt hx hown (mvT hZ (hw _ (List.mem_of_getElem? (i := 16) rfl))) (g := (mkF m 153 #[.val (.int p0)] [(.int p0)])) rfl (hb hby d1_153)) ?_
                  show own_Out p e below _ (s₁.setTop (mkF m 155 #[.val (.int p0)] [(.int (63744 : Int32)), (.int p0)]))
                  refine own_of (fun _ k => XS.icmpYes X0.here hx rfl (pc0 := 155) (pc' := 164) rfl (hb hby d1_155) rfl (tlt (own_T1 (own_U1 hc73_11) (by decide) : p0 < (63744 : Int32))).1 (by decide) (by decide) k) ?_
                  show own_Out p e below _ (s₁.setTop (mkF m 164 #[.val (.int p0)] []))
                  refine own_of (fun _ k => XS.iloadN X0.here hx rfl (hb hby d1_164) rfl k) ?_
                  show own_Out p e below _ (s₁.setTop (mkF m 165 #[.val (.int p0)] [(.int p0)]))
                  refine own_of (X0.ldcInt hx hown (mvT hZ (hw _ (List.mem_of_getElem? (i := 18) rfl))) (g := (mkF m 165 #[.val (.int p0)] [(.int p0)])) rfl (hb hby d1_165)) ?_
                  show own_Out p e below _ (s₁.setTop (mkF m 167 #[.val (.int p0)] [(.int (65008 : Int32)), (.int p0)]))
                  refine own_of (fun _ k => XS.icmpYes X0.here hx rfl (pc0 := 167) (pc' := 176) rfl (hb hby d1_167) rfl (tlt (own_T1 (own_U1 hc73_11) (by decide) : p0 < (65008 : Int32))).1 (by decide) (by decide) k) ?_
                  show own_Out p e below _ (s₁.setTop (mkF m 176 #[.val (.int p0)] []))
                  refine own_of (fun _ k => XS.iloadN X0.here hx rfl (hb hby d1_176) rfl k) ?_
                  show own_Out p e below _ (s₁.setTop (mkF m 177 #[.val (.int p0)] [(.int p0)]))
                  refine own_of (X0.ldcInt hx hown (mvT hZ (hw _ (List.mem_of_getElem? (i := 20) rfl))) (g := (mkF m 177 #[.val (.int p0)] [(.int p0)])) rfl (hb hby d1_177)) ?_
                  show own_Out p e below _ (s₁.setTop (mkF m 179 #[.val (.int p0)] [(.int (65536 : Int32)), (.int p0)]))
                  refine own_of (fun _ k => XS.icmpYes X0.here hx rfl (pc0 := 179) (pc' := 192) rfl (hb hby d1_179) rfl (tlt (own_T1 (own_U1 hc73_11) (by decide) : p0 < (65536 : Int32))).1 (by decide) (by decide) k) ?_
                  show own_Out p e below _ (s₁.setTop (mkF m 192 #[.val (.int p0)] []))
                  refine own_of (fun _ k => XS.iconst X0.here hx rfl (hb hby d1_192) k) ?_
                  show own_Out p e below _ (s₁.setTop (mkF m 193 #[.val (.int p0)] [(.int (0 : Int32))]))
                  exact own_outN X0 hx hlk (t := .boolean) hret (by simp) (hb hby d1_193) (z' := (0 : Int32)) rfl (Q := Q1 Z p0 w cl h0 n0) ⟨by simp only [f1, if_neg hc4_1, if_neg hc31_5, if_pos hc38_6, if_neg hc45_7, if_pos hc52_8, if_neg hc59_9, if_pos hc66_10, if_pos hc73_11], N0, e0⟩ (by decide) (by decide)
                · skip
                  refine own_of (fun _ k => XS.icmpNo X0.here hx rfl (hb hby d1_73) rfl (flt hc73_11).1 k) ?_
                  show own_Out p e below _ (s₁.setTop (mkF m 76 #[.val (.int p0)] []))
                  refine own_of (fun _ k => XS.iloadN X0.here hx rfl (hb hby d1_76) rfl k) ?_
                  show own_Out p e below _ (s₁.setTop (mkF m 77 #[.val (.int p0)] [(.int p0)]))
                  refine own_of (fun _ k => XS.sipush X0.here hx rfl (hb hby d1_77) k) ?_
                  show own_Out p e below _ (s₁.setTop (mkF m 80 #[.val (.int p0)] [(.int (893 : Int32)), (.int p0)]))
                  by_cases hc80_12 : (893 : Int32) < p0
                  · skip
                    refine own_of (fun _ k => XS.icmpNo X0.here hx rfl (hb hby d1_80) rfl (tlt hc80_12).2.2.2 k) ?_
                    show own_Out p e below _ (s₁.setTop (mkF m 83 #[.val (.int p0)] []))
                    refine own_of (fun _ k => XS.iloadN X0.here hx rfl (hb hby d1_83) rfl k) ?_
                    show own_Out p e below _ (s₁.setTop (mkF m 84 #[.val (.int p0)] [(.int p0)]))
                    refine own_of (fun _ k => XS.sipush X0.here hx rfl (hb hby d1_84) k) ?_
                    show own_Out p e below _ (s₁.setTop (mkF m 87 #[.val (.int p0)] [(.int (895 : Int32)), (.int p0)]))
                    by_cases hc87_13 : p0 < (895 : Int32)
                    · skip
                      refine own_of (fun _ k => XS.icmpYes X0.here hx rfl (pc0 := 87) (pc' := 97) rfl (hb hby d1_87) rfl (tlt hc87_13).1 (by decide) (by decide) k) ?_
                      show own_Out p e below _ (s₁.setTop (mkF m 97 #[.val (.int p0)] []))
                      refine own_of (fun _ k => XS.iloadN X0.here hx rfl (hb hby d1_97) rfl k) ?_
                      show own_Out p e below _ (s₁.setTop (mkF m 98 #[.val (.int p0)] [(.int p0)]))
                      refine own_of (fun _ k => XS.sipush X0.here hx rfl (hb hby d1_98) k) ?_
                      show own_Out p e below _ (s₁.setTop (mkF m 101 #[.val (.int p0)] [(.int (8204 : Int32)), (.int p0)]))
                      refine own_of (fun _ k => XS.icmpYes X0.here hx rfl (pc0 := 101) (pc' := 111) rfl (hb hby d1_101) rfl (tlt (own_T1 (own_U1 hc87_13) (by decide) : p0 < (8204 : Int32))).1 (by decide) (by decide) k) ?_
                      show own_Out p e below _ (s₁.setTop (mkF m 111 #[.val (.int p0)] []))
                      refine own_of (fun _ k => XS.iloadN X0.here hx rfl (hb hby d1_111) rfl k) ?_
                      show own_Out p e below _ (s₁.setTop (mkF m 112 #[.val (.int p0)] [(.int p0)]))
                      refine own_of (fun _ k => XS.sipush X0.here hx rfl (hb hby d1_112) k) ?_
                      show own_Out p e below _ (s₁.setTop (mkF m 115 #[.val (.int p0)] [(.int (8304 : Int32)), (.int p0)]))
                      refine own_of (fun _ k => XS.icmpYes X0.here hx rfl (pc0 := 115) (pc' := 125) rfl (hb hby d1_115) rfl (tlt (own_T1 (own_U1 hc87_13) (by decide) : p0 < (8304 : Int32))).1 (by decide) (by decide) k) ?_
                      show own_Out p e below _ (s₁.setTop (mkF m 125 #[.val (.int p0)] []))
                      refine own_of (fun _ k => XS.iloadN X0.here hx rfl (hb hby d1_125) rfl k) ?_
                      show own_Out p e below _ (s₁.setTop (mkF m 126 #[.val (.int p0)] [(.int p0)]))
                      refine own_of (fun _ k => XS.sipush X0.here hx rfl (hb hby d1_126) k) ?_
                      show own_Out p e below _ (s₁.setTop (mkF m 129 #[.val (.int p0)] [(.int (11264 : Int32)), (.int p0)]))
                      refine own_of (fun _ k => XS.icmpYes X0.here hx rfl (pc0 := 129) (pc' := 139) rfl (hb hby d1_129) rfl (tlt (own_T1 (own_U1 hc87_13) (by decide) : p0 < (11264 : Int32))).1 (by decide) (by decide) k) ?_
                      show own_Out p e below _ (s₁.setTop (mkF m 139 #[.val (.int p0)] []))
                      refine own_of (fun _ k => XS.iloadN X0.here hx rfl (hb hby d1_139) rfl k) ?_
                      show own_Out p e below _ (s₁.setTop (mkF m 140 #[.val (.int p0)] [(.int p0)]))
                      refine own_of (fun _ k => XS.sipush X0.here hx rfl (hb hby d1_140) k) ?_
                      show own_Out p e below _ (s₁.setTop (mkF m 143 #[.val (.int p0)] [(.int (12289 : Int32)), (.int p0)]))
                      refine own_of (fun _ k => XS.icmpYes X0.here hx rfl (pc0 := 143) (pc' := 152) rfl (hb hby d1_143) rfl (tlt (own_T1 (own_U1 hc87_13) (by decide) : p0 < (12289 : Int32))).1 (by decide) (by decide) k) ?_
                      show own_Out p e below _ (s₁.setTop (mkF m 152 #[.val (.int p0)] []))
                      refine own_of (fun _ k => XS.iloadN X0.here hx rfl (hb hby d1_152) rfl k) ?_
                      show own_Out p e below _ (s₁.setTop (mkF m 153 #[.val (.int p0)] [(.int p0)]))
                      refine own_of (X0.ldcInt hx hown (mvT hZ (hw _ (List.mem_of_getElem? (i := 16) rfl))) (g := (mkF m 153 #[.val (.int p0)] [(.int p0)])) rfl (hb hby d1_153)) ?_
                      show own_Out p e below _ (s₁.setTop (mkF m 155 #[.val (.int p0)] [(.int (63744 : Int32)), (.int p0)]))
                      refine own_of (fun _ k => XS.icmpYes X0.here hx rfl (pc0 := 155) (pc' := 164) rfl (hb hby d1_155) rfl (tlt (own_T1 (own_U1 hc87_13) (by decide) : p0 < (63744 : Int32))).1 (by decide) (by decide) k) ?_
                      show own_Out p e below _ (s₁.setTop (mkF m 164 #[.val (.int p0)] []))
                      refine own_of (fun _ k => XS.iloadN X0.here hx rfl (hb hby d1_164) rfl k) ?_
                      show own_Out p e below _ (s₁.setTop (mkF m 165 #[.val (.int p0)] [(.int p0)]))
                      refine own_of (X0.ldcInt hx hown (mvT hZ (hw _ (List.mem_of_getElem? (i := 18) rfl))) (g := (mkF m 165 #[.val (.int p0)] [(.int p0)])) rfl (hb hby d1_165)) ?_
                      show own_Out p e below _ (s₁.setTop (mkF m 167 #[.val (.int p0)] [(.int (65008 : Int32)), (.int p0)]))
                      refine own_of (fun _ k => XS.icmpYes X0.here hx rfl (pc0 := 167) (pc' := 176) rfl (hb hby d1_167) rfl (tlt (own_T1 (own_U1 hc87_13) (by decide) : p0 < (65008 : Int32))).1 (by decide) (by decide) k) ?_
                      show own_Out p e below _ (s₁.setTop (mkF m 176 #[.val (.int p0)] []))
                      refine own_of (fun _ k => XS.iloadN X0.here hx rfl (hb hby d1_176) rfl k) ?_
                      show own_Out p e below _ (s₁.setTop (mkF m 177 #[.val (.int p0)] [(.int p0)]))
                      refine own_of (X0.ldcInt hx hown (mvT hZ (hw _ (List.mem_of_getElem? (i := 20) rfl))) (g := (mkF m 177 #[.val (.int p0)] [(.int p0)])) rfl (hb hby d1_177)) ?_
                      show own_Out p e below _ (s₁.setTop (mkF m 179 #[.val (.int p0)] [(.int (65536 : Int32)), (.int p0)]))
                      refine own_of (fun _ k => XS.icmpYes X0.here hx rfl (pc0 := 179) (pc' := 192) rfl (hb hby d1_179) rfl (tlt (own_T1 (own_U1 hc87_13) (by decide) : p0 < (65536 : Int32))).1 (by decide) (by decide) k) ?_
                      show own_Out p e below _ (s₁.setTop (mkF m 192 #[.val (.int p0)] []))
                      refine own_of (fun _ k => XS.iconst X0.here hx rfl (hb hby d1_192) k) ?_
                      show own_Out p e below _ (s₁.setTop (mkF m 193 #[.val (.int p0)] [(.int (0 : Int32))]))
                      exact own_outN X0 hx hlk (t := .boolean) hret (by simp) (hb hby d1_193) (z' := (0 : Int32)) rfl (Q := Q1 Z p0 w cl h0 n0) ⟨by simp only [f1, if_neg hc4_1, if_neg hc31_5, if_pos hc38_6, if_neg hc45_7, if_pos hc52_8, if_neg hc59_9, if_pos hc66_10, if_neg hc73_11, if_pos hc80_12, if_pos hc87_13], N0, e0⟩ (by decide) (by decide)
                    · skip
                      refine own_of (fun _ k => XS.icmpNo X0.here hx rfl (hb hby d1_87) rfl (flt hc87_13).1 k) ?_
                      show own_Out p e below _ (s₁.setTop (mkF m 90 #[.val (.int p0)] []))
                      refine own_of (fun _ k => XS.iloadN X0.here hx rfl (hb hby d1_90) rfl k) ?_
                      show own_Out p e below _ (s₁.setTop (mkF m 91 #[.val (.int p0)] [(.int p0)]))
                      refine own_of (fun _ k => XS.sipush X0.here hx rfl (hb hby d1_91) k) ?_
                      show own_Out p e below _ (s₁.setTop (mkF m 94 #[.val (.int p0)] [(.int (8191 : Int32)), (.int p0)]))
                      by_cases hc94_14 : (8191 : Int32) < p0
                      · skip
                        refine own_of (fun _ k => XS.icmpNo X0.here hx rfl (hb hby d1_94) rfl (tlt hc94_14).2.2.2 k) ?_
                        show own_Out p e below _ (s₁.setTop (mkF m 97 #[.val (.int p0)] []))
                        refine own_of (fun _ k => XS.iloadN X0.here hx rfl (hb hby d1_97) rfl k) ?_
                        show own_Out p e below _ (s₁.setTop (mkF m 98 #[.val (.int p0)] [(.int p0)]))
                        refine own_of (fun _ k => XS.sipush X0.here hx rfl (hb hby d1_98) k) ?_
                        show own_Out p e below _ (s₁.setTop (mkF m 101 #[.val (.int p0)] [(.int (8204 : Int32)), (.int p0)]))
                        by_cases hc101_15 : p0 < (8204 : Int32)
                        · skip
                          refine own_of (fun _ k => XS.icmpYes X0.here hx rfl (pc0 := 101) (pc' := 111) rfl (hb hby d1_101) rfl (tlt hc101_15).1 (by decide) (by decide) k) ?_
                          show own_Out p e below _ (s₁.setTop (mkF m 111 #[.val (.int p0)] []))
                          refine own_of (fun _ k => XS.iloadN X0.here hx rfl (hb hby d1_111) rfl k) ?_
                          show own_Out p e below _ (s₁.setTop (mkF m 112 #[.val (.int p0)] [(.int p0)]))
                          refine own_of (fun _ k => XS.sipush X0.here hx rfl (hb hby d1_112) k) ?_
                          show own_Out p e below _ (s₁.setTop (mkF m 115 #[.val (.int p0)] [(.int (8304 : Int32)), (.int p0)]))
                          refine own_of (fun _ k => XS.icmpYes X0.here hx rfl (pc0 := 115) (pc' := 125) rfl (hb hby d1_115) rfl (tlt (own_T1 (own_U1 hc101_15) (by decide) : p0 < (8304 : Int32))).1 (by decide) (by decide) k) ?_
                          show own_Out p e below _ (s₁.setTop (mkF m 125 #[.val (.int p0)] []))
                          refine own_of (fun _ k => XS.iloadN X0.here hx rfl (hb hby d1_125) rfl k) ?_
                          show own_Out p e below _ (s₁.setTop (mkF m 126 #[.val (.int p0)] [(.int p0)]))
                          refine own_of (fun _ k => XS.sipush X0.here hx rfl (hb hby d1_126) k) ?_
                          show own_Out p e below _ (s₁.setTop (mkF m 129 #[.val (.int p0)] [(.int (11264 : Int32)), (.int p0)]))
                          refine own_of (fun _ k => XS.icmpYes X0.here hx rfl (pc0 := 129) (pc' := 139) rfl (hb hby d1_129) rfl (tlt (own_T1 (own_U1 hc101_15) (by decide) : p0 < (11264 : Int32))).1 (by decide) (by decide) k) ?_
                          show own_Out p e below _ (s₁.setTop (mkF m 139 #[.val (.int p0)] []))
                          refine own_of (fun _ k => XS.iloadN X0.here hx rfl (hb hby d1_139) rfl k) ?_
                          show own_Out p e below _ (s₁.setTop (mkF m 140 #[.val (.int p0)] [(.int p0)]))
                          refine own_of (fun _ k => XS.sipush X0.here hx rfl (hb hby d1_140) k) ?_
                          show own_Out p e below _ (s₁.setTop (mkF m 143 #[.val (.int p0)] [(.int (12289 : Int32)), (.int p0)]))
                          refine own_of (fun _ k => XS.icmpYes X0.here hx rfl (pc0 := 143) (pc' := 152) rfl (hb hby d1_143) rfl (tlt (own_T1 (own_U1 hc101_15) (by decide) : p0 < (12289 : Int32))).1 (by decide) (by decide) k) ?_
                          show own_Out p e below _ (s₁.setTop (mkF m 152 #[.val (.int p0)] []))
                          refine own_of (fun _ k => XS.iloadN X0.here hx rfl (hb hby d1_152) rfl k) ?_
                          show own_Out p e below _ (s₁.setTop (mkF m 153 #[.val (.int p0)] [(.int p0)]))
                          refine own_of (X0.ldcInt hx hown (mvT hZ (hw _ (List.mem_of_getElem? (i := 16) rfl))) (g := (mkF m 153 #[.val (.int p0)] [(.int p0)])) rfl (hb hby d1_153)) ?_
                          show own_Out p e below _ (s₁.setTop (mkF m 155 #[.val (.int p0)] [(.int (63744 : Int32)), (.int p0)]))
                          refine own_of (fun _ k => XS.icmpYes X0.here hx rfl (pc0 := 155) (pc' := 164) rfl (hb hby d1_155) rfl (tlt (own_T1 (own_U1 hc101_15) (by decide) : p0 < (63744 : Int32))).1 (by decide) (by decide) k) ?_
                          show own_Out p e below _ (s₁.setTop (mkF m 164 #[.val (.int p0)] []))
                          refine own_of (fun _ k => XS.iloadN X0.here hx rfl (hb hby d1_164) rfl k) ?_
                          show own_Out p e below _ (s₁.setTop (mkF m 165 #[.val (.int p0)] [(.int p0)]))
                          refine own_of (X0.ldcInt hx hown (mvT hZ (hw _ (List.mem_of_getElem? (i := 18) rfl))) (g := (mkF m 165 #[.val (.int p0)] [(.int p0)])) rfl (hb hby d1_165)) ?_
                          show own_Out p e below _ (s₁.setTop (mkF m 167 #[.val (.int p0)] [(.int (65008 : Int32)), (.int p0)]))
                          refine own_of (fun _ k => XS.icmpYes X0.here hx rfl (pc0 := 167) (pc' := 176) rfl (hb hby d1_167) rfl (tlt (own_T1 (own_U1 hc101_15) (by decide) : p0 < (65008 : Int32))).1 (by decide) (by decide) k) ?_
                          show own_Out p e below _ (s₁.setTop (mkF m 176 #[.val (.int p0)] []))
                          refine own_of (fun _ k => XS.iloadN X0.here hx rfl (hb hby d1_176) rfl k) ?_
                          show own_Out p e below _ (s₁.setTop (mkF m 177 #[.val (.int p0)] [(.int p0)]))
                          refine own_of (X0.ldcInt hx hown (mvT hZ (hw _ (List.mem_of_getElem? (i := 20) rfl))) (g := (mkF m 177 #[.val (.int p0)] [(.int p0)])) rfl (hb hby d1_177)) ?_
                          show own_Out p e below _ (s₁.setTop (mkF m 179 #[.val (.int p0)] [(.int (65536 : Int32)), (.int p0)]))
                          refine own_of (fun _ k => XS.icmpYes X0.here hx rfl (pc0 := 179) (pc' := 192) rfl (hb hby d1_179) rfl (tlt (own_T1 (own_U1 hc101_15) (by decide) : p0 < (65536 : Int32))).1 (by decide) (by decide) k) ?_
                          show own_Out p e below _ (s₁.setTop (mkF m 192 #[.val (.int p0)] []))
                          refine own_of (fun _ k => XS.iconst X0.here hx rfl (hb hby d1_192) k) ?_
                          show own_Out p e below _ (s₁.setTop (mkF m 193 #[.val (.int p0)] [(.int (0 : Int32))]))
                          exact own_outN X0 hx hlk (t := .boolean) hret (by simp) (hb hby d1_193) (z' := (0 : Int32)) rfl (Q := Q1 Z p0 w cl h0 n0) ⟨by simp only [f1, if_neg hc4_1, if_neg hc31_5, if_pos hc38_6, if_neg hc45_7, if_pos hc52_8, if_neg hc59_9, if_pos hc66_10, if_neg hc73_11, if_pos hc80_12, if_neg hc87_13, if_pos hc94_14, if_pos hc101_15], N0, e0⟩ (by decide) (by decide)
                        · skip
                          refine own_of (fun _ k => XS.icmpNo X0.here hx rfl (hb hby d1_101) rfl (flt hc101_15).1 k) ?_
                          show own_Out p e below _ (s₁.setTop (mkF m 104 #[.val (.int p0)] []))
                          refine own_of (fun _ k => XS.iloadN X0.here hx rfl (hb hby d1_104) rfl k) ?_
                          show own_Out p e below _ (s₁.setTop (mkF m 105 #[.val (.int p0)] [(.int p0)]))
                          refine own_of (fun _ k => XS.sipush X0.here hx rfl (hb hby d1_105) k) ?_
                          show own_Out p e below _ (s₁.setTop (mkF m 108 #[.val (.int p0)] [(.int (8205 : Int32)), (.int p0)]))
                          by_cases hc108_16 : (8205 : Int32) < p0
                          · skip
                            refine own_of (fun _ k => XS.icmpNo X0.here hx rfl (hb hby d1_108) rfl (tlt hc108_16).2.2.2 k) ?_
                            show own_Out p e below _ (s₁.setTop (mkF m 111 #[.val (.int p0)] []))
                            refine own_of (fun _ k => XS.iloadN X0.here hx rfl (hb hby d1_111) rfl k) ?_
                            show own_Out p e below _ (s₁.setTop (mkF m 112 #[.val (.int p0)] [(.int p0)]))
                            refine own_of (fun _ k => XS.sipush X0.here hx rfl (hb hby d1_112) k) ?_
                            show own_Out p e below _ (s₁.setTop (mkF m 115 #[.val (.int p0)] [(.int (8304 : Int32)), (.int p0)]))
                            by_cases hc115_17 : p0 < (8304 : Int32)
                            · skip
                              refine own_of (fun _ k => XS.icmpYes X0.here hx rfl (pc0 := 115) (pc' := 125) rfl (hb hby d1_115) rfl (tlt hc115_17).1 (by decide) (by decide) k) ?_
                              show own_Out p e below _ (s₁.setTop (mkF m 125 #[.val (.int p0)] []))
                              refine own_of (fun _ k => XS.iloadN X0.here hx rfl (hb hby d1_125) rfl k) ?_
                              show own_Out p e below _ (s₁.setTop (mkF m 126 #[.val (.int p0)] [(.int p0)]))
                              refine own_of (fun _ k => XS.sipush X0.here hx rfl (hb hby d1_126) k) ?_
                              show own_Out p e below _ (s₁.setTop (mkF m 129 #[.val (.int p0)] [(.int (11264 : Int32)), (.int p0)]))
                              refine own_of (fun _ k => XS.icmpYes X0.here hx rfl (pc0 := 129) (pc' := 139) rfl (hb hby d1_129) rfl (tlt (own_T1 (own_U1 hc115_17) (by decide) : p0 < (11264 : Int32))).1 (by decide) (by decide) k) ?_
                              show own_Out p e below _ (s₁.setTop (mkF m 139 #[.val (.int p0)] []))
                              refine own_of (fun _ k => XS.iloadN X0.here hx rfl (hb hby d1_139) rfl k) ?_
                              show own_Out p e below _ (s₁.setTop (mkF m 140 #[.val (.int p0)] [(.int p0)]))
                              refine own_of (fun _ k => XS.sipush X0.here hx rfl (hb hby d1_140) k) ?_
                              show own_Out p e below _ (s₁.setTop (mkF m 143 #[.val (.int p0)] [(.int (12289 : Int32)), (.int p0)]))
                              refine own_of (fun _ k => XS.icmpYes X0.here hx rfl (pc0 := 143) (pc' := 152) rfl (hb hby d1_143) rfl (tlt (own_T1 (own_U1 hc115_17) (by decide) : p0 < (12289 : Int32))).1 (by decide) (by decide) k) ?_
                              show own_Out p e below _ (s₁.setTop (mkF m 152 #[.val (.int p0)] []))
                              refine own_of (fun _ k => XS.iloadN X0.here hx rfl (hb hby d1_152) rfl k) ?_
                              show own_Out p e below _ (s₁.setTop (mkF m 153 #[.val (.int p0)] [(.int p0)]))
                              refine own_of (X0.ldcInt hx hown (mvT hZ (hw _ (List.mem_of_getElem? (i := 16) rfl))) (g := (mkF m 153 #[.val (.int p0)] [(.int p0)])) rfl (hb hby d1_153)) ?_
                              show own_Out p e below _ (s₁.setTop (mkF m 155 #[.val (.int p0)] [(.int (63744 : Int32)), (.int p0)]))
                              refine own_of (fun _ k => XS.icmpYes X0.here hx rfl (pc0 := 155) (pc' := 164) rfl (hb hby d1_155) rfl (tlt (own_T1 (own_U1 hc115_17) (by decide) : p0 < (63744 : Int32))).1 (by decide) (by decide) k) ?_
                              show own_Out p e below _ (s₁.setTop (mkF m 164 #[.val (.int p0)] []))
                              refine own_of (fun _ k => XS.iloadN X0.here hx rfl (hb hby d1_164) rfl k) ?_
                              show own_Out p e below _ (s₁.setTop (mkF m 165 #[.val (.int p0)] [(.int p0)]))
                              refine own_of (X0.ldcInt hx hown (mvT hZ (hw _ (List.mem_of_getElem? (i := 18) rfl))) (g := (mkF m 165 #[.val (.int p0)] [(.int p0)])) rfl (hb hby d1_165)) ?_
                              show own_Out p e below _ (s₁.setTop (mkF m 167 #[.val (.int p0)] [(.int (65008 : Int32)), (.int p0)]))
                              refine own_of (fun _ k => XS.icmpYes X0.here hx rfl (pc0 := 167) (pc' := 176) rfl (hb hby d1_167) rfl (tlt (own_T1 (own_U1 hc115_17) (by decide) : p0 < (65008 : Int32))).1 (by decide) (by decide) k) ?_
                              show own_Out p e below _ (s₁.setTop (mkF m 176 #[.val (.int p0)] []))
                              refine own_of (fun _ k => XS.iloadN X0.here hx rfl (hb hby d1_176) rfl k) ?_
                              show own_Out p e below _ (s₁.setTop (mkF m 177 #[.val (.int p0)] [(.int p0)]))
                              refine own_of (X0.ldcInt hx hown (mvT hZ (hw _ (List.mem_of_getElem? (i := 20) rfl))) (g := (mkF m 177 #[.val (.int p0)] [(.int p0)])) rfl (hb hby d1_177)) ?_
                              show own_Out p e below _ (s₁.setTop (mkF m 179 #[.val (.int p0)] [(.int (65536 : Int32)), (.int p0)]))
                              refine own_of (fun _ k => XS.icmpYes X0.here hx rfl (pc0 := 179) (pc' := 192) rfl (hb hby d1_179) rfl (tlt (own_T1 (own_U1 hc115_17) (by decide) : p0 < (65536 : Int32))).1 (by decide) (by decide) k) ?_
                              show own_Out p e below _ (s₁.setTop (mkF m 192 #[.val (.int p0)] []))
                              refine own_of (fun _ k => XS.iconst X0.here hx rfl (hb hby d1_192) k) ?_
                              show own_Out p e below _ (s₁.setTop (mkF m 193 #[.val (.int p0)] [(.int (0 : Int32))]))
                              exact own_outN X0 hx hlk (t := .boolean) hret (by simp) (hb hby d1_193) (z' := (0 : Int32)) rfl (Q := Q1 Z p0 w cl h0 n0) ⟨by simp only [f1, if_neg hc4_1, if_neg hc31_5, if_pos hc38_6, if_neg hc45_7, if_pos hc52_8, if_neg hc59_9, if_pos hc66_10, if_neg hc73_11, if_pos hc80_12, if_neg hc87_13, if_pos hc94_14, if_neg hc101_15, if_pos hc108_16, if_pos hc115_17], N0, e0⟩ (by decide) (by decide)
                            · skip
                              refine own_of (fun _ k => XS.icmpNo X0.here hx rfl (hb hby d1_115) rfl (flt hc115_17).1 k) ?_
                              show own_Out p e below _ (s₁.setTop (mkF m 118 #[.val (.int p0)] []))
                              refine own_of (fun _ k => XS.iloadN X0.here hx rfl (hb hby d1_118) rfl k) ?_
                              show own_Out p e below _ (s₁.setTop (mkF m 119 #[.val (.int p0)] [(.int p0)]))
                              refine own_of (fun _ k => XS.sipush X0.here hx rfl (hb hby d1_119) k) ?_
                              show own_Out p e below _ (s₁.setTop (mkF m 122 #[.val (.int p0)] [(.int (8591 : Int32)), (.int p0)]))
                              by_cases hc122_18 : (8591 : Int32) < p0
                              · skip
                                refine own_of (fun _ k => XS.icmpNo X0.here hx rfl (hb hby d1_122) rfl (tlt hc122_18).2.2.2 k) ?_
                                show own_Out p e below _ (s₁.setTop (mkF m 125 #[.val (.int p0)] []))
                                refine own_of (fun _ k => XS.iloadN X0.here hx rfl (hb hby d1_125) rfl k) ?_
                                show own_Out p e below _ (s₁.setTop (mkF m 126 #[.val (.int p0)] [(.int p0)]))
                                refine own_of (fun _ k => XS.sipush X0.here hx rfl (hb hby d1_126) k) ?_
                                show own_Out p e below _ (s₁.setTop (mkF m 129 #[.val (.int p0)] [(.int (11264 : Int32)), (.int p0)]))
                                by_cases hc129_19 : p0 < (11264 : Int32)
                                · skip
                                  refine own_of (fun _ k => XS.icmpYes X0.here hx rfl (pc0 := 129) (pc' := 139) rfl (hb hby d1_129) rfl (tlt hc129_19).1 (by decide) (by decide) k) ?_
                                  show own_Out p e below _ (s₁.setTop (mkF m 139 #[.val (.int p0)] []))
                                  refine own_of (fun _ k => XS.iloadN X0.here hx rfl (hb hby d1_139) rfl k) ?_
                                  show own_Out p e below _ (s₁.setTop (mkF m 140 #[.val (.int p0)] [(.int p0)]))
                                  refine own_of (fun _ k => XS.sipush X0.here hx rfl (hb hby d1_140) k) ?_
                                  show own_Out p e below _ (s₁.setTop (mkF m 143 #[.val (.int p0)] [(.int (12289 : Int32)), (.int p0)]))
                                  refine own_of (fun _ k => XS.icmpYes X0.here hx rfl (pc0 := 143) (pc' := 152) rfl (hb hby d1_143) rfl (tlt (own_T1 (own_U1 hc129_19) (by decide) : p0 < (12289 : Int32))).1 (by decide) (by decide) k) ?_
                                  show own_Out p e below _ (s₁.setTop (mkF m 152 #[.val (.int p0)] []))
                                  refine own_of (fun _ k => XS.iloadN X0.here hx rfl (hb hby d1_152) rfl k) ?_
                                  show own_Out p e below _ (s₁.setTop (mkF m 153 #[.val (.int p0)] [(.int p0)]))
                                  refine own_of (X0.ldcInt hx hown (mvT hZ (hw _ (List.mem_of_getElem? (i := 16) rfl))) (g := (mkF m 153 #[.val (.int p0)] [(.int p0)])) rfl (hb hby d1_153)) ?_
                                  show own_Out p e below _ (s₁.setTop (mkF m 155 #[.val (.int p0)] [(.int (63744 : Int32)), (.int p0)]))
                                  refine own_of (fun _ k => XS.icmpYes X0.here hx rfl (pc0 := 155) (pc' := 164) rfl (hb hby d1_155) rfl (tlt (own_T1 (own_U1 hc129_19) (by decide) : p0 < (63744 : Int32))).1 (by decide) (by decide) k) ?_
                                  show own_Out p e below _ (s₁.setTop (mkF m 164 #[.val (.int p0)] []))
                                  refine own_of (fun _ k => XS.iloadN X0.here hx rfl (hb hby d1_164) rfl k) ?_
                                  show own_Out p e below _ (s₁.setTop (mkF m 165 #[.val (.int p0)] [(.int p0)]))
                                  refine own_of (X0.ldcInt hx hown (mvT hZ (hw _ (List.mem_of_getElem? (i := 18) rfl))) (g := (mkF m 165 #[.val (.int p0)] [(.int p0)])) rfl (hb hby d1_165)) ?_
                                  show own_Out p e below _ (s₁.setTop (mkF m 167 #[.val (.int p0)] [(.int (65008 : Int32)), (.int p0)]))
                                  refine own_of (fun _ k => XS.icmpYes X0.here hx rfl (pc0 := 167) (pc' := 176) rfl (hb hby d1_167) rfl (tlt (own_T1 (own_U1 hc129_19) (by decide) : p0 < (65008 : Int32))).1 (by decide) (by decide) k) ?_
                                  show own_Out p e below _ (s₁.setTop (mkF m 176 #[.val (.int p0)] []))
                                  refine own_of (fun _ k => XS.iloadN X0.here hx rfl (hb hby d1_176) rfl k) ?_
                                  show own_Out p e below _ (s₁.setTop (mkF m 177 #[.val (.int p0)] [(.int p0)]))
                                  refine own_of (X0.ldcInt hx hown (mvT hZ (hw _ (List.mem_of_getElem? (i := 20) rfl))) (g := (mkF m 177 #[.val (.int p0)] [(.int p0)])) rfl (hb hby d1_177)) ?_
                                  show own_Out p e below _ (s₁.setTop (mkF m 179 #[.val (.int p0)] [(.int (65536 : Int32)), (.int p0)]))
                                  refine own_of (fun _ k => XS.icmpYes X0.here hx rfl (pc0 := 179) (pc' := 192) rfl (hb hby d1_179) rfl (tlt (own_T1 (own_U1 hc129_19) (by decide) : p0 < (65536 : Int32))).1 (by decide) (by decide) k) ?_
                                  show own_Out p e below _ (s₁.setTop (mkF m 192 #[.val (.int p0)] []))
                                  refine own_of (fun _ k => XS.iconst X0.here hx rfl (hb hby d1_192) k) ?_
                                  show own_Out p e below _ (s₁.setTop (mkF m 193 #[.val (.int p0)] [(.int (0 : Int32))]))
                                  exact own_outN X0 hx hlk (t := .boolean) hret (by simp) (hb hby d1_193) (z' := (0 : Int32)) rfl (Q := Q1 Z p0 w cl h0 n0) ⟨by simp only [f1, if_neg hc4_1, if_neg hc31_5, if_pos hc38_6, if_neg hc45_7, if_pos hc52_8, if_neg hc59_9, if_pos hc66_10, if_neg hc73_11, if_pos hc80_12, if_neg hc87_13, if_pos hc94_14, if_neg hc101_15, if_pos hc108_16, if_neg hc115_17, if_pos hc122_18, if_pos hc129_19], N0, e0⟩ (by decide) (by decide)
                                · skip
                                  refine own_of (fun _ k => XS.icmpNo X0.here hx rfl (hb hby d1_129) rfl (flt hc129_19).1 k) ?_
                                  show own_Out p e below _ (s₁.setTop (mkF m 132 #[.val (.int p0)] []))
                                  refine own_of (fun _ k => XS.iloadN X0.here hx rfl (hb hby d1_132) rfl k) ?_
                                  show own_Out p e below _ (s₁.setTop (mkF m 133 #[.val (.int p0)] [(.int p0)]))
                                  refine own_of (fun _ k => XS.sipush X0.here hx rfl (hb hby d1_133) k) ?_
                                  show own_Out p e below _ (s₁.setTop (mkF m 136 #[.val (.int p0)] [(.int (12271 : Int32)), (.int p0)]))
                                  by_cases hc136_20 : (12271 : Int32) < p0
                                  · skip
                                    refine own_of (fun _ k => XS.icmpNo X0.here hx rfl (hb hby d1_136) rfl (tlt hc136_20).2.2.2 k) ?_
                                    show own_Out p e below _ (s₁.setTop (mkF m 139 #[.val (.int p0)] []))
                                    refine own_of (fun _ k => XS.iloadN X0.here hx rfl (hb hby d1_139) rfl k) ?_
                                    show own_Out p e below _ (s₁.setTop (mkF m 140 #[.val (.int p0)] [(.int p0)]))
                                    refine own_of (fun _ k => XS.sipush X0.here hx rfl (hb hby d1_140) k) ?_
                                    show own_Out p e below _ (s₁.setTop (mkF m 143 #[.val (.int p0)] [(.int (12289 : Int32)), (.int p0)]))
                                    by_cases hc143_21 : p0 < (12289 : Int32)
                                    · skip
                                      refine own_of (fun _ k => XS.icmpYes X0.here hx rfl (pc0 := 143) (pc' := 152) rfl (hb hby d1_143) rfl (tlt hc143_21).1 (by decide) (by decide) k) ?_
                                      show own_Out p e below _ (s₁.setTop (mkF m 152 #[.val (.int p0)] []))
                                      refine own_of (fun _ k => XS.iloadN X0.here hx rfl (hb hby d1_152) rfl k) ?_
                                      show own_Out p e below _ (s₁.setTop (mkF m 153 #[.val (.int p0)] [(.int p0)]))
                                      refine own_of (X0.ldcInt hx hown (mvT hZ (hw _ (List.mem_of_getElem? (i := 16) rfl))) (g := (mkF m 153 #[.val (.int p0)] [(.int p0)])) rfl (hb hby d1_153)) ?_
                                      show own_Out p e below _ (s₁.setTop (mkF m 155 #[.val (.int p0)] [(.int (63744 : Int32)), (.int p0)]))
                                      refine own_of (fun _ k => XS.icmpYes X0.here hx rfl (pc0 := 155) (pc' := 164) rfl (hb hby d1_155) rfl (tlt (own_T1 (own_U1 hc143_21) (by decide) : p0 < (63744 : Int32))).1 (by decide) (by decide) k) ?_
                                      show own_Out p e below _ (s₁.setTop (mkF m 164 #[.val (.int p0)] []))
                                      refine own_of (fun _ k => XS.iloadN X0.here hx rfl (hb hby d1_164) rfl k) ?_
                                      show own_Out p e below _ (s₁.setTop (mkF m 165 #[.val (.int p0)] [(.int p0)]))
                                      refine own_of (X0.ldcInt hx hown (mvT hZ (hw _ (List.mem_of_getElem? (i := 18) rfl))) (g := (mkF m 165 #[.val (.int p0)] [(.int p0)])) rfl (hb hby d1_165)) ?_
                                      show own_Out p e below _ (s₁.setTop (mkF m 167 #[.val (.int p0)] [(.int (65008 : Int32)), (.int p0)]))
                                      refine own_of (fun _ k => XS.icmpYes X0.here hx rfl (pc0 := 167) (pc' := 176) rfl (hb hby d1_167) rfl (tlt (own_T1 (own_U1 hc143_21) (by decide) : p0 < (65008 : Int32))).1 (by decide) (by decide) k) ?_
                                      show own_Out p e below _ (s₁.setTop (mkF m 176 #[.val (.int p0)] []))
                                      refine own_of (fun _ k => XS.iloadN X0.here hx rfl (hb hby d1_176) rfl k) ?_
                                      show own_Out p e below _ (s₁.setTop (mkF m 177 #[.val (.int p0)] [(.int p0)]))
                                      refine own_of (X0.ldcInt hx hown (mvT hZ (hw _ (List.mem_of_getElem? (i := 20) rfl))) (g := (mkF m 177 #[.val (.int p0)] [(.int p0)])) rfl (hb hby d1_177)) ?_
                                      show own_Out p e below _ (s₁.setTop (mkF m 179 #[.val (.int p0)] [(.int (65536 : Int32)), (.int p0)]))
                                      refine own_of (fun _ k => XS.icmpYes X0.here hx rfl (pc0 := 179) (pc' := 192) rfl (hb hby d1_179) rfl (tlt (own_T1 (own_U1 hc143_21) (by decide) : p0 < (65536 : Int32))).1 (by decide) (by decide) k) ?_
                                      show own_Out p e below _ (s₁.setTop (mkF m 192 #[.val (.int p0)] []))
                                      refine own_of (fun _ k => XS.iconst X0.here hx rfl (hb hby d1_192) k) ?_
                                      show own_Out p e below _ (s₁.setTop (mkF m 193 #[.val (.int p0)] [(.int (0 : Int32))]))
                                      exact own_outN X0 hx hlk (t := .boolean) hret (by simp) (hb hby d1_193) (z' := (0 : Int32)) rfl (Q := Q1 Z p0 w cl h0 n0) ⟨by simp only [f1, if_neg hc4_1, if_neg hc31_5, if_pos hc38_6, if_neg hc45_7, if_pos hc52_8, if_neg hc59_9, if_pos hc66_10, if_neg hc73_11, if_pos hc80_12, if_neg hc87_13, if_pos hc94_14, if_neg hc101_15, if_pos hc108_16, if_neg hc115_17, if_pos hc122_18, if_neg hc129_19, if_pos hc136_20, if_pos hc143_21], N0, e0⟩ (by decide) (by decide)
                                    · skip
                                      refine own_of (fun _ k => XS.icmpNo X0.here hx rfl (hb hby d1_143) rfl (flt hc143_21).1 k) ?_
                                      show own_Out p e below _ (s₁.setTop (mkF m 146 #[.val (.int p0)] []))
                                      refine own_of (fun _ k => XS.iloadN X0.here hx rfl (hb hby d1_146) rfl k) ?_
                                      show own_Out p e below _ (s₁.setTop (mkF m 147 #[.val (.int p0)] [(.int p0)]))
                                      refine own_of (X0.ldcInt hx hown (mvT hZ (hw _ (List.mem_of_getElem? (i := 15) rfl))) (g := (mkF m 147 #[.val (.int p0)] [(.int p0)])) rfl (hb hby d1_147)) ?_
                                      show own_Out p e below _ (s₁.setTop (mkF m 149 #[.val (.int p0)] [(.int (55295 : Int32)), (.int p0)]))
                                      by_cases hc149_22 : (55295 : Int32) < p0
                                      · skip
                                        refine own_of (fun _ k => XS.icmpNo X0.here hx rfl (hb hby d1_149) rfl (tlt hc149_22).2.2.2 k) ?_
                                        show own_Out p e below _ (s₁.setTop (mkF m 152 #[.val (.int p0)] []))
                                        refine own_of (fun _ k => XS.iloadN X0.here hx rfl (hb hby d1_152) rfl k) ?_
                                        show own_Out p e below _ (s₁.setTop (mkF m 153 #[.val (.int p0)] [(.int p0)]))
                                        refine own_of (X0.ldcInt hx hown (mvT hZ (hw _ (List.mem_of_getElem? (i := 16) rfl))) (g := (mkF m 153 #[.val (.int p0)] [(.int p0)])) rfl (hb hby d1_153)) ?_
                                        show own_Out p e below _ (s₁.setTop (mkF m 155 #[.val (.int p0)] [(.int (63744 : Int32)), (.int p0)]))
                                        by_cases hc155_23 : p0 < (63744 : Int32)
                                        · skip
                                          refine own_of (fun _ k => XS.icmpYes X0.here hx rfl (pc0 := 155) (pc' := 164) rfl (hb hby d1_155) rfl (tlt hc155_23).1 (by decide) (by decide) k) ?_
                                          show own_Out p e below _ (s₁.setTop (mkF m 164 #[.val (.int p0)] []))
                                          refine own_of (fun _ k => XS.iloadN X0.here hx rfl (hb hby d1_164) rfl k) ?_
                                          show own_Out p e below _ (s₁.setTop (mkF m 165 #[.val (.int p0)] [(.int p0)]))
                                          refine own_of (X0.ldcInt hx hown (mvT hZ (hw _ (List.mem_of_getElem? (i := 18) rfl))) (g := (mkF m 165 #[.val (.int p0)] [(.int p0)])) rfl (hb hby d1_165)) ?_
                                          show own_Out p e below _ (s₁.setTop (mkF m 167 #[.val (.int p0)] [(.int (65008 : Int32)), (.int p0)]))
                                          refine own_of (fun _ k => XS.icmpYes X0.here hx rfl (pc0 := 167) (pc' := 176) rfl (hb hby d1_167) rfl (tlt (own_T1 (own_U1 hc155_23) (by decide) : p0 < (65008 : Int32))).1 (by decide) (by decide) k) ?_
                                          show own_Out p e below _ (s₁.setTop (mkF m 176 #[.val (.int p0)] []))
                                          refine own_of (fun _ k => XS.iloadN X0.here hx rfl (hb hby d1_176) rfl k) ?_
                                          show own_Out p e below _ (s₁.setTop (mkF m 177 #[.val (.int p0)] [(.int p0)]))
                                          refine own_of (X0.ldcInt hx hown (mvT hZ (hw _ (List.mem_of_getElem? (i := 20) rfl))) (g := (mkF m 177 #[.val (.int p0)] [(.int p0)])) rfl (hb hby d1_177)) ?_
                                          show own_Out p e below _ (s₁.setTop (mkF m 179 #[.val (.int p0)] [(.int (65536 : Int32)), (.int p0)]))
                                          refine own_of (fun _ k => XS.icmpYes X0.here hx rfl (pc0 := 179) (pc' := 192) rfl (hb hby d1_179) rfl (tlt (own_T1 (own_U1 hc155_23) (by decide) : p0 < (65536 : Int32))).1 (by decide) (by decide) k) ?_
                                          show own_Out p e below _ (s₁.setTop (mkF m 192 #[.val (.int p0)] []))
                                          refine own_of (fun _ k => XS.iconst X0.here hx rfl (hb hby d1_192) k) ?_
                                          show own_Out p e below _ (s₁.setTop (mkF m 193 #[.val (.int p0)] [(.int (0 : Int32))]))
                                          exact own_outN X0 hx hlk (t := .boolean) hret (by simp) (hb hby d1_193) (z' := (0 : Int32)) rfl (Q := Q1 Z p0 w cl h0 n0) ⟨by simp only [f1, if_neg hc4_1, if_neg hc31_5, if_pos hc38_6, if_neg hc45_7, if_pos hc52_8, if_neg hc59_9, if_pos hc66_10, if_neg hc73_11, if_pos hc80_12, if_neg hc87_13, if_pos hc94_14, if_neg hc101_15, if_pos hc108_16, if_neg hc115_17, if_pos hc122_18, if_neg hc129_19, if_pos hc136_20, if_neg hc143_21, if_pos hc149_22, if_pos hc155_23], N0, e0⟩ (by decide) (by decide)
                                        · skip
                                          refine own_of (fun _ k => XS.icmpNo X0.here hx rfl (hb hby d1_155) rfl (flt hc155_23).1 k) ?_
                                          show own_Out p e below _ (s₁.setTop (mkF m 158 #[.val (.int p0)] []))
                                          refine own_of (fun _ k => XS.iloadN X0.here hx rfl (hb hby d1_158) rfl k) ?_
                                          show own_Out p e below _ (s₁.setTop (mkF m 159 #[.val (.int p0)] [(.int p0)]))
                                          refine own_of (X0.ldcInt hx hown (mvT hZ (hw _ (List.mem_of_getElem? (i := 17) rfl))) (g := (mkF m 159 #[.val (.int p0)] [(.int p0)])) rfl (hb hby d1_159)) ?_
                                          show own_Out p e below _ (s₁.setTop (mkF m 161 #[.val (.int p0)] [(.int (64975 : Int32)), (.int p0)]))
                                          by_cases hc161_24 : (64975 : Int32) < p0
                                          · skip
                                            refine own_of (fun _ k => XS.icmpNo X0.here hx rfl (hb hby d1_161) rfl (tlt hc161_24).2.2.2 k) ?_
                                            show own_Out p e below _ (s₁.setTop (mkF m 164 #[.val (.int p0)] []))
                                            refine own_of (fun _ k => XS.iloadN X0.here hx rfl (hb hby d1_164) rfl k) ?_
                                            show own_Out p e below _ (s₁.setTop (mkF m 165 #[.val (.int p0)] [(.int p0)]))
                                            refine own_of (X0.ldcInt hx hown (mvT hZ (hw _ (List.mem_of_getElem? (i := 18) rfl))) (g := (mkF m 165 #[.val (.int p0)] [(.int p0)])) rfl (hb hby d1_165)) ?_
                                            show own_Out p e below _ (s₁.setTop (mkF m 167 #[.val (.int p0)] [(.int (65008 : Int32)), (.int p0)]))
                                            by_cases hc167_25 : p0 < (65008 : Int32)
                                            · skip
                                              refine own_of (fun _ k => XS.icmpYes X0.here hx rfl (pc0 := 167) (pc' := 176) rfl (hb hby d1_167) rfl (tlt hc167_25).1 (by decide) (by decide) k) ?_
                                              show own_Out p e below _ (s₁.setTop (mkF m 176 #[.val (.int p0)] []))
                                              refine own_of (fun _ k => XS.iloadN X0.here hx rfl (hb hby d1_176) rfl k) ?_
                                              show own_Out p e below _ (s₁.setTop (mkF m 177 #[.val (.int p0)] [(.int p0)]))
                                              refine own_of (X0.ldcInt hx hown (mvT hZ (hw _ (List.mem_of_getElem? (i := 20) rfl))) (g := (mkF m 177 #[.val (.int p0)] [(.int p0)])) rfl (hb hby d1_177)) ?_
                                              show own_Out p e below _ (s₁.setTop (mkF m 179 #[.val (.int p0)] [(.int (65536 : Int32)), (.int p0)]))
                                              refine own_of (fun _ k => XS.icmpYes X0.here hx rfl (pc0 := 179) (pc' := 192) rfl (hb hby d1_179) rfl (tlt (own_T1 (own_U1 hc167_25) (by decide) : p0 < (65536 : Int32))).1 (by decide) (by decide) k) ?_
                                              show own_Out p e below _ (s₁.setTop (mkF m 192 #[.val (.int p0)] []))
                                              refine own_of (fun _ k => XS.iconst X0.here hx rfl (hb hby d1_192) k) ?_
                                              show own_Out p e below _ (s₁.setTop (mkF m 193 #[.val (.int p0)] [(.int (0 : Int32))]))
                                              exact own_outN X0 hx hlk (t := .boolean) hret (by simp) (hb hby d1_193) (z' := (0 : Int32)) rfl (Q := Q1 Z p0 w cl h0 n0) ⟨by simp only [f1, if_neg hc4_1, if_neg hc31_5, if_pos hc38_6, if_neg hc45_7, if_pos hc52_8, if_neg hc59_9, if_pos hc66_10, if_neg hc73_11, if_pos hc80_12, if_neg hc87_13, if_pos hc94_14, if_neg hc101_15, if_pos hc108_16, if_neg hc115_17, if_pos hc122_18, if_neg hc129_19, if_pos hc136_20, if_neg hc143_21, if_pos hc149_22, if_neg hc155_23, if_pos hc161_24, if_pos hc167_25], N0, e0⟩ (by decide) (by decide)
                                            · skip
                                              refine own_of (fun _ k => XS.icmpNo X0.here hx rfl (hb hby d1_167) rfl (flt hc167_25).1 k) ?_
                                              show own_Out p e below _ (s₁.setTop (mkF m 170 #[.val (.int p0)] []))
                                              refine own_of (fun _ k => XS.iloadN X0.here hx rfl (hb hby d1_170) rfl k) ?_
                                              show own_Out p e below _ (s₁.setTop (mkF m 171 #[.val (.int p0)] [(.int p0)]))
                                              refine own_of (X0.ldcInt hx hown (mvT hZ (hw _ (List.mem_of_getElem? (i := 19) rfl))) (g := (mkF m 171 #[.val (.int p0)] [(.int p0)])) rfl (hb hby d1_171)) ?_
                                              show own_Out p e below _ (s₁.setTop (mkF m 173 #[.val (.int p0)] [(.int (65533 : Int32)), (.int p0)]))
                                              by_cases hc173_26 : (65533 : Int32) < p0
                                              · skip
                                                refine own_of (fun _ k => XS.icmpNo X0.here hx rfl (hb hby d1_173) rfl (tlt hc173_26).2.2.2 k) ?_
                                                show own_Out p e below _ (s₁.setTop (mkF m 176 #[.val (.int p0)] []))
                                                refine own_of (fun _ k => XS.iloadN X0.here hx rfl (hb hby d1_176) rfl k) ?_
                                                show own_Out p e below _ (s₁.setTop (mkF m 177 #[.val (.int p0)] [(.int p0)]))
                                                refine own_of (X0.ldcInt hx hown (mvT hZ (hw _ (List.mem_of_getElem? (i := 20) rfl))) (g := (mkF m 177 #[.val (.int p0)] [(.int p0)])) rfl (hb hby d1_177)) ?_
                                                show own_Out p e below _ (s₁.setTop (mkF m 179 #[.val (.int p0)] [(.int (65536 : Int32)), (.int p0)]))
                                                by_cases hc179_27 : p0 < (65536 : Int32)
                                                · skip
                                                  refine own_of (fun _ k => XS.icmpYes X0.here hx rfl (pc0 := 179) (pc' := 192) rfl (hb hby d1_179) rfl (tlt hc179_27).1 (by decide) (by decide) k) ?_
                                                  show own_Out p e below _ (s₁.setTop (mkF m 192 #[.val (.int p0)] []))
                                                  refine own_of (fun _ k => XS.iconst X0.here hx rfl (hb hby d1_192) k) ?_
                                                  show own_Out p e below _ (s₁.setTop (mkF m 193 #[.val (.int p0)] [(.int (0 : Int32))]))
                                                  exact own_outN X0 hx hlk (t := .boolean) hret (by simp) (hb hby d1_193) (z' := (0 : Int32)) rfl (Q := Q1 Z p0 w cl h0 n0) ⟨by simp only [f1, if_neg hc4_1, if_neg hc31_5, if_pos hc38_6, if_neg hc45_7, if_pos hc52_8, if_neg hc59_9, if_pos hc66_10, if_neg hc73_11, if_pos hc80_12, if_neg hc87_13, if_pos hc94_14, if_neg hc101_15, if_pos hc108_16, if_neg hc115_17, if_pos hc122_18, if_neg hc129_19, if_pos hc136_20, if_neg hc143_21, if_pos hc149_22, if_neg hc155_23, if_pos hc161_24, if_neg hc167_25, if_pos hc173_26, if_pos hc179_27], N0, e0⟩ (by decide) (by decide)
                                                · skip
                                                  refine own_of (fun _ k => XS.icmpNo X0.here hx rfl (hb hby d1_179) rfl (flt hc179_27).1 k) ?_
                                                  show own_Out p e below _ (s₁.setTop (mkF m 182 #[.val (.int p0)] []))
                                                  refine own_of (fun _ k => XS.iloadN X0.here hx rfl (hb hby d1_182) rfl k) ?_
                                                  show own_Out p e below _ (s₁.setTop (mkF m 183 #[.val (.int p0)] [(.int p0)]))
                                                  refine own_of (X0.ldcInt hx hown (mvT hZ (hw _ (List.mem_of_getElem? (i := 21) rfl))) (g := (mkF m 183 #[.val (.int p0)] [(.int p0)])) rfl (hb hby d1_183)) ?_
                                                  show own_Out p e below _ (s₁.setTop (mkF m 185 #[.val (.int p0)] [(.int (983039 : Int32)), (.int p0)]))
                                                  by_cases hc185_28 : (983039 : Int32) < p0
                                                  · skip
                                                    refine own_of (fun _ k => XS.icmpYes X0.here hx rfl (pc0 := 185) (pc' := 192) rfl (hb hby d1_185) rfl (tlt hc185_28).2.2.1 (by decide) (by decide) k) ?_
                                                    show own_Out p e below _ (s₁.setTop (mkF m 192 #[.val (.int p0)] []))
                                                    refine own_of (fun _ k => XS.iconst X0.here hx rfl (hb hby d1_192) k) ?_
                                                    show own_Out p e below _ (s₁.setTop (mkF m 193 #[.val (.int p0)] [(.int (0 : Int32))]))
                                                    exact own_outN X0 hx hlk (t := .boolean) hret (by simp) (hb hby d1_193) (z' := (0 : Int32)) rfl (Q := Q1 Z p0 w cl h0 n0) ⟨by simp only [f1, if_neg hc4_1, if_neg hc31_5, if_pos hc38_6, if_neg hc45_7, if_pos hc52_8, if_neg hc59_9, if_pos hc66_10, if_neg hc73_11, if_pos hc80_12, if_neg hc87_13, if_pos hc94_14, if_neg hc101_15, if_pos hc108_16, if_neg hc115_17, if_pos hc122_18, if_neg hc129_19, if_pos hc136_20, if_neg hc143_21, if_pos hc149_22, if_neg hc155_23, if_pos hc161_24, if_neg hc167_25, if_pos hc173_26, if_neg hc179_27, if_pos hc185_28], N0, e0⟩ (by decide) (by decide)
                                                  · skip
                                                    refine own_of (fun _ k => XS.icmpNo X0.here hx rfl (hb hby d1_185) rfl (flt hc185_28).2.2.1 k) ?_
                                                    show own_Out p e below _ (s₁.setTop (mkF m 188 #[.val (.int p0)] []))
                                                    refine own_of (fun _ k => XS.iconst X0.here hx rfl (hb hby d1_188) k) ?_
                                                    show own_Out p e below _ (s₁.setTop (mkF m 189 #[.val (.int p0)] [(.int (1 : Int32))]))
                                                    refine own_of (fun _ k => XS.goto X0.here hx rfl (pc0 := 189) (pc' := 193) rfl (hb hby d1_189) (by decide) (by decide) k) ?_
                                                    show own_Out p e below _ (s₁.setTop (mkF m 193 #[.val (.int p0)] [(.int (1 : Int32))]))
                                                    exact own_outN X0 hx hlk (t := .boolean) hret (by simp) (hb hby d1_193) (z' := (1 : Int32)) rfl (Q := Q1 Z p0 w cl h0 n0) ⟨by simp only [f1, if_neg hc4_1, if_neg hc31_5, if_pos hc38_6, if_neg hc45_7, if_pos hc52_8, if_neg hc59_9, if_pos hc66_10, if_neg hc73_11, if_pos hc80_12, if_neg hc87_13, if_pos hc94_14, if_neg hc101_15, if_pos hc108_16, if_neg hc115_17, if_pos hc122_18, if_neg hc129_19, if_pos hc136_20, if_neg hc143_21, if_pos hc149_22, if_neg hc155_23, if_pos hc161_24, if_neg hc167_25, if_pos hc173_26, if_neg hc179_27, if_neg hc185_28], N0, e0⟩ (by decide) (by decide)
                                              · skip
                                                refine own_of (fun _ k => XS.icmpYes X0.here hx rfl (pc0 := 173) (pc' := 188) rfl (hb hby d1_173) rfl (flt hc173_26).2.2.2 (by decide) (by decide) k) ?_
                                                show own_Out p e below _ (s₁.setTop (mkF m 188 #[.val (.int p0)] []))
                                                refine own_of (fun _ k => XS.iconst X0.here hx rfl (hb hby d1_188) k) ?_
                                                show own_Out p e below _ (s₁.setTop (mkF m 189 #[.val (.int p0)] [(.int (1 : Int32))]))
                                                refine own_of (fun _ k => XS.goto X0.here hx rfl (pc0 := 189) (pc' := 193) rfl (hb hby d1_189) (by decide) (by decide) k) ?_
                                                show own_Out p e below _ (s₁.setTop (mkF m 193 #[.val (.int p0)] [(.int (1 : Int32))]))
                                                exact own_outN X0 hx hlk (t := .boolean) hret (by simp) (hb hby d1_193) (z' := (1 : Int32)) rfl (Q := Q1 Z p0 w cl h0 n0) ⟨by simp only [f1, if_neg hc4_1, if_neg hc31_5, if_pos hc38_6, if_neg hc45_7, if_pos hc52_8, if_neg hc59_9, if_pos hc66_10, if_neg hc73_11, if_pos hc80_12, if_neg hc87_13, if_pos hc94_14, if_neg hc101_15, if_pos hc108_16, if_neg hc115_17, if_pos hc122_18, if_neg hc129_19, if_pos hc136_20, if_neg hc143_21, if_pos hc149_22, if_neg hc155_23, if_pos hc161_24, if_neg hc167_25, if_neg hc173_26], N0, e0⟩ (by decide) (by decide)
                                          · skip
                                            refine own_of (fun _ k => XS.icmpYes X0.here hx rfl (pc0 := 161) (pc' := 188) rfl (hb hby d1_161) rfl (flt hc161_24).2.2.2 (by decide) (by decide) k) ?_
                                            show own_Out p e below _ (s₁.setTop (mkF m 188 #[.val (.int p0)] []))
                                            refine own_of (fun _ k => XS.iconst X0.here hx rfl (hb hby d1_188) k) ?_
                                            show own_Out p e below _ (s₁.setTop (mkF m 189 #[.val (.int p0)] [(.int (1 : Int32))]))
                                            refine own_of (fun _ k => XS.goto X0.here hx rfl (pc0 := 189) (pc' := 193) rfl (hb hby d1_189) (by decide) (by decide) k) ?_
                                            show own_Out p e below _ (s₁.setTop (mkF m 193 #[.val (.int p0)] [(.int (1 : Int32))]))
                                            exact own_outN X0 hx hlk (t := .boolean) hret (by simp) (hb hby d1_193) (z' := (1 : Int32)) rfl (Q := Q1 Z p0 w cl h0 n0) ⟨by simp only [f1, if_neg hc4_1, if_neg hc31_5, if_pos hc38_6, if_neg hc45_7, if_pos hc52_8, if_neg hc59_9, if_pos hc66_10, if_neg hc73_11, if_pos hc80_12, if_neg hc87_13, if_pos hc94_14, if_neg hc101_15, if_pos hc108_16, if_neg hc115_17, if_pos hc122_18, if_neg hc129_19, if_pos hc136_20, if_neg hc143_21, if_pos hc149_22, if_neg hc155_23, if_neg hc161_24], N0, e0⟩ (by decide) (by decide)
                                      · skip
                                        refine own_of (fun _ k => XS.icmpYes X0.here hx rfl (pc0 := 149) (pc' := 188) rfl (hb hby d1_149) rfl (flt hc149_22).2.2.2 (by decide) (by decide) k) ?_
                                        show own_Out p e below _ (s₁.setTop (mkF m 188 #[.val (.int p0)] []))
                                        refine own_of (fun _ k => XS.iconst X0.here hx rfl (hb hby d1_188) k) ?_
                                        show own_Out p e below _ (s₁.setTop (mkF m 189 #[.val (.int p0)] [(.int (1 : Int32))]))
                                        refine own_of (fun _ k => XS.goto X0.here hx rfl (pc0 := 189) (pc' := 193) rfl (hb hby d1_189) (by decide) (by decide) k) ?_
                                        show own_Out p e below _ (s₁.setTop (mkF m 193 #[.val (.int p0)] [(.int (1 : Int32))]))
                                        exact own_outN X0 hx hlk (t := .boolean) hret (by simp) (hb hby d1_193) (z' := (1 : Int32)) rfl (Q := Q1 Z p0 w cl h0 n0) ⟨by simp only [f1, if_neg hc4_1, if_neg hc31_5, if_pos hc38_6, if_neg hc45_7, if_pos hc52_8, if_neg hc59_9, if_pos hc66_10, if_neg hc73_11, if_pos hc80_12, if_neg hc87_13, if_pos hc94_14, if_neg hc101_15, if_pos hc108_16, if_neg hc115_17, if_pos hc122_18, if_neg hc129_19, if_pos hc136_20, if_neg hc143_21, if_neg hc149_22], N0, e0⟩ (by decide) (by decide)
                                  · skip
                                    refine own_of (fun _ k => XS.icmpYes X0.here hx rfl (pc0 := 136) (pc' := 188) rfl (hb hby d1_136) rfl (flt hc136_20).2.2.2 (by decide) (by decide) k) ?_
                                    show own_Out p e below _ (s₁.setTop (mkF m 188 #[.val (.int p0)] []))
                                    refine own_of (fun _ k => XS.iconst X0.here hx rfl (hb hby d1_188) k) ?_
                                    show own_Out p e below _ (s₁.setTop (mkF m 189 #[.val (.int p0)] [(.int (1 : Int32))]))
                                    refine own_of (fun _ k => XS.goto X0.here hx rfl (pc0 := 189) (pc' := 193) rfl (hb hby d1_189) (by decide) (by decide) k) ?_
                                    show own_Out p e below _ (s₁.setTop (mkF m 193 #[.val (.int p0)] [(.int (1 : Int32))]))
                                    exact own_outN X0 hx hlk (t := .boolean) hret (by simp) (hb hby d1_193) (z' := (1 : Int32)) rfl (Q := Q1 Z p0 w cl h0 n0) ⟨by simp only [f1, if_neg hc4_1, if_neg hc31_5, if_pos hc38_6, if_neg hc45_7, if_pos hc52_8, if_neg hc59_9, if_pos hc66_10, if_neg hc73_11, if_pos hc80_12, if_neg hc87_13, if_pos hc94_14, if_neg hc101_15, if_pos hc108_16, if_neg hc115_17, if_pos hc122_18, if_neg hc129_19, if_neg hc136_20], N0, e0⟩ (by decide) (by decide)
                              · skip
                                refine own_of (fun _ k => XS.icmpYes X0.here hx rfl (pc0 := 122) (pc' := 188) rfl (hb hby d1_122) rfl (flt hc122_18).2.2.2 (by decide) (by decide) k) ?_
                                show own_Out p e below _ (s₁.setTop (mkF m 188 #[.val (.int p0)] []))
                                refine own_of (fun _ k => XS.iconst X0.here hx rfl (hb hby d1_188) k) ?_
                                show own_Out p e below _ (s₁.setTop (mkF m 189 #[.val (.int p0)] [(.int (1 : Int32))]))
                                refine own_of (fun _ k => XS.goto X0.here hx rfl (pc0 := 189) (pc' := 193) rfl (hb hby d1_189) (by decide) (by decide) k) ?_
                                show own_Out p e below _ (s₁.setTop (mkF m 193 #[.val (.int p0)] [(.int (1 : Int32))]))
                                exact own_outN X0 hx hlk (t := .boolean) hret (by simp) (hb hby d1_193) (z' := (1 : Int32)) rfl (Q := Q1 Z p0 w cl h0 n0) ⟨by simp only [f1, if_neg hc4_1, if_neg hc31_5, if_pos hc38_6, if_neg hc45_7, if_pos hc52_8, if_neg hc59_9, if_pos hc66_10, if_neg hc73_11, if_pos hc80_12, if_neg hc87_13, if_pos hc94_14, if_neg hc101_15, if_pos hc108_16, if_neg hc115_17, if_neg hc122_18], N0, e0⟩ (by decide) (by decide)
                          · skip
                            refine own_of (fun _ k => XS.icmpYes X0.here hx rfl (pc0 := 108) (pc' := 188) rfl (hb hby d1_108) rfl (flt hc108_16).2.2.2 (by decide) (by decide) k) ?_
                            show own_Out p e below _ (s₁.setTop (mkF m 188 #[.val (.int p0)] []))
                            refine own_of (fun _ k => XS.iconst X0.here hx rfl (hb hby d1_188) k) ?_
                            show own_Out p e below _ (s₁.setTop (mkF m 189 #[.val (.int p0)] [(.int (1 : Int32))]))
                            refine own_of (fun _ k => XS.goto X0.here hx rfl (pc0 := 189) (pc' := 193) rfl (hb hby d1_189) (by decide) (by decide) k) ?_
                            show own_Out p e below _ (s₁.setTop (mkF m 193 #[.val (.int p0)] [(.int (1 : Int32))]))
                            exact own_outN X0 hx hlk (t := .boolean) hret (by simp) (hb hby d1_193) (z' := (1 : Int32)) rfl (Q := Q1 Z p0 w cl h0 n0) ⟨by simp only [f1, if_neg hc4_1, if_neg hc31_5, if_pos hc38_6, if_neg hc45_7, if_pos hc52_8, if_neg hc59_9, if_pos hc66_10, if_neg hc73_11, if_pos hc80_12, if_neg hc87_13, if_pos hc94_14, if_neg hc101_15, if_neg hc108_16], N0, e0⟩ (by decide) (by decide)
                      · skip
                        refine own_of (fun _ k => XS.icmpYes X0.here hx rfl (pc0 := 94) (pc' := 188) rfl (hb hby d1_94) rfl (flt hc94_14).2.2.2 (by decide) (by decide) k) ?_
                        show own_Out p e below _ (s₁.setTop (mkF m 188 #[.val (.int p0)] []))
                        refine own_of (fun _ k => XS.iconst X0.here hx rfl (hb hby d1_188) k) ?_
                        show own_Out p e below _ (s₁.setTop (mkF m 189 #[.val (.int p0)] [(.int (1 : Int32))]))
                        refine own_of (fun _ k => XS.goto X0.here hx rfl (pc0 := 189) (pc' := 193) rfl (hb hby d1_189) (by decide) (by decide) k) ?_
                        show own_Out p e below _ (s₁.setTop (mkF m 193 #[.val (.int p0)] [(.int (1 : Int32))]))
                        exact own_outN X0 hx hlk (t := .boolean) hret (by simp) (hb hby d1_193) (z' := (1 : Int32)) rfl (Q := Q1 Z p0 w cl h0 n0) ⟨by simp only [f1, if_neg hc4_1, if_neg hc31_5, if_pos hc38_6, if_neg hc45_7, if_pos hc52_8, if_neg hc59_9, if_pos hc66_10, if_neg hc73_11, if_pos hc80_12, if_neg hc87_13, if_neg hc94_14], N0, e0⟩ (by decide) (by decide)
                  · skip
                    refine own_of (fun _ k => XS.icmpYes X0.here hx rfl (pc0 := 80) (pc' := 188) rfl (hb hby d1_80) rfl (flt hc80_12).2.2.2 (by decide) (by decide) k) ?_
                    show own_Out p e below _ (s₁.setTop (mkF m 188 #[.val (.int p0)] []))
                    refine own_of (fun _ k => XS.iconst X0.here hx rfl (hb hby d1_188) k) ?_
                    show own_Out p e below _ (s₁.setTop (mkF m 189 #[.val (.int p0)] [(.int (1 : Int32))]))
                    refine own_of (fun _ k => XS.goto X0.here hx rfl (pc0 := 189) (pc' := 193) rfl (hb hby d1_189) (by decide) (by decide) k) ?_
                    show own_Out p e below _ (s₁.setTop (mkF m 193 #[.val (.int p0)] [(.int (1 : Int32))]))
                    exact own_outN X0 hx hlk (t := .boolean) hret (by simp) (hb hby d1_193) (z' := (1 : Int32)) rfl (Q := Q1 Z p0 w cl h0 n0) ⟨by simp only [f1, if_neg hc4_1, if_neg hc31_5, if_pos hc38_6, if_neg hc45_7, if_pos hc52_8, if_neg hc59_9, if_pos hc66_10, if_neg hc73_11, if_neg hc80_12], N0, e0⟩ (by decide) (by decide)
              · skip
                refine own_of (fun _ k => XS.icmpYes X0.here hx rfl (pc0 := 66) (pc' := 188) rfl (hb hby d1_66) rfl (flt hc66_10).2.2.2 (by decide) (by decide) k) ?_
                show own_Out p e below _ (s₁.setTop (mkF m 188 #[.val (.int p0)] []))
                refine own_of (fun _ k => XS.iconst X0.here hx rfl (hb hby d1_188) k) ?_
                show own_Out p e below _ (s₁.setTop (mkF m 189 #[.val (.int p0)] [(.int (1 : Int32))]))
                refine own_of (fun _ k => XS.goto X0.here hx rfl (pc0 := 189) (pc' := 193) rfl (hb hby d1_189) (by decide) (by decide) k) ?_
                show own_Out p e below _ (s₁.setTop (mkF m 193 #[.val (.int p0)] [(.int (1 : Int32))]))
                exact own_outN X0 hx hlk (t := .boolean) hret (by simp) (hb hby d1_193) (z' := (1 : Int32)) rfl (Q := Q1 Z p0 w cl h0 n0) ⟨by simp only [f1, if_neg hc4_1, if_neg hc31_5, if_pos hc38_6, if_neg hc45_7, if_pos hc52_8, if_neg hc59_9, if_neg hc66_10], N0, e0⟩ (by decide) (by decide)
          · skip
            refine own_of (fun _ k => XS.icmpYes X0.here hx rfl (pc0 := 52) (pc' := 188) rfl (hb hby d1_52) rfl (flt hc52_8).2.2.2 (by decide) (by decide) k) ?_
            show own_Out p e below _ (s₁.setTop (mkF m 188 #[.val (.int p0)] []))
            refine own_of (fun _ k => XS.iconst X0.here hx rfl (hb hby d1_188) k) ?_
            show own_Out p e below _ (s₁.setTop (mkF m 189 #[.val (.int p0)] [(.int (1 : Int32))]))
            refine own_of (fun _ k => XS.goto X0.here hx rfl (pc0 := 189) (pc' := 193) rfl (hb hby d1_189) (by decide) (by decide) k) ?_
            show own_Out p e below _ (s₁.setTop (mkF m 193 #[.val (.int p0)] [(.int (1 : Int32))]))
            exact own_outN X0 hx hlk (t := .boolean) hret (by simp) (hb hby d1_193) (z' := (1 : Int32)) rfl (Q := Q1 Z p0 w cl h0 n0) ⟨by simp only [f1, if_neg hc4_1, if_neg hc31_5, if_pos hc38_6, if_neg hc45_7, if_neg hc52_8], N0, e0⟩ (by decide) (by decide)
      · skip
        refine own_of (fun _ k => XS.icmpYes X0.here hx rfl (pc0 := 38) (pc' := 188) rfl (hb hby d1_38) rfl (flt hc38_6).2.2.2 (by decide) (by decide) k) ?_
        show own_Out p e below _ (s₁.setTop (mkF m 188 #[.val (.int p0)] []))
        refine own_of (fun _ k => XS.iconst X0.here hx rfl (hb hby d1_188) k) ?_
        show own_Out p e below _ (s₁.setTop (mkF m 189 #[.val (.int p0)] [(.int (1 : Int32))]))
        refine own_of (fun _ k => XS.goto X0.here hx rfl (pc0 := 189) (pc' := 193) rfl (hb hby d1_189) (by decide) (by decide) k) ?_
        show own_Out p e below _ (s₁.setTop (mkF m 193 #[.val (.int p0)] [(.int (1 : Int32))]))
        exact own_outN X0 hx hlk (t := .boolean) hret (by simp) (hb hby d1_193) (z' := (1 : Int32)) rfl (Q := Q1 Z p0 w cl h0 n0) ⟨by simp only [f1, if_neg hc4_1, if_neg hc31_5, if_neg hc38_6], N0, e0⟩ (by decide) (by decide)
theorem d2_0 : decode method_2_code 0 = .ok (.iload_n 0, 1) := by decide +kernel
theorem d2_1 : decode method_2_code 1 = .ok (.ifCond .ge 5, 3) := by decide +kernel
theorem d2_4 : decode method_2_code 4 = .ok (.iconst 0, 1) := by decide +kernel
theorem d2_5 : decode method_2_code 5 = .ok (.ireturn, 1) := by decide +kernel
theorem d2_6 : decode method_2_code 6 = .ok (.iload_n 0, 1) := by decide +kernel
theorem d2_7 : decode method_2_code 7 = .ok (.sipush 128, 3) := by decide +kernel
theorem d2_10 : decode method_2_code 10 = .ok (.if_icmp .ge 39, 3) := by decide +kernel
theorem d2_13 : decode method_2_code 13 = .ok (.iload_n 0, 1) := by decide +kernel
theorem d2_14 : decode method_2_code 14 = .ok (.bipush 65, 2) := by decide +kernel
theorem d2_16 : decode method_2_code 16 = .ok (.if_icmp .lt 9, 3) := by decide +kernel
theorem d2_19 : decode method_2_code 19 = .ok (.iload_n 0, 1) := by decide +kernel
theorem d2_20 : decode method_2_code 20 = .ok (.bipush 90, 2) := by decide +kernel
theorem d2_22 : decode method_2_code 22 = .ok (.if_icmp .le 21, 3) := by decide +kernel
theorem d2_25 : decode method_2_code 25 = .ok (.iload_n 0, 1) := by decide +kernel
theorem d2_26 : decode method_2_code 26 = .ok (.bipush 97, 2) := by decide +kernel
theorem d2_28 : decode method_2_code 28 = .ok (.if_icmp .lt 9, 3) := by decide +kernel
theorem d2_31 : decode method_2_code 31 = .ok (.iload_n 0, 1) := by decide +kernel
theorem d2_32 : decode method_2_code 32 = .ok (.bipush 122, 2) := by decide +kernel
theorem d2_34 : decode method_2_code 34 = .ok (.if_icmp .le 9, 3) := by decide +kernel
theorem d2_37 : decode method_2_code 37 = .ok (.iload_n 0, 1) := by decide +kernel
theorem d2_38 : decode method_2_code 38 = .ok (.bipush 95, 2) := by decide +kernel
theorem d2_40 : decode method_2_code 40 = .ok (.if_icmp .ne 7, 3) := by decide +kernel
theorem d2_43 : decode method_2_code 43 = .ok (.iconst 1, 1) := by decide +kernel
theorem d2_44 : decode method_2_code 44 = .ok (.goto 4, 3) := by decide +kernel
theorem d2_47 : decode method_2_code 47 = .ok (.iconst 0, 1) := by decide +kernel
theorem d2_48 : decode method_2_code 48 = .ok (.ireturn, 1) := by decide +kernel
theorem d2_49 : decode method_2_code 49 = .ok (.iload_n 0, 1) := by decide +kernel
theorem d2_50 : decode method_2_code 50 = .ok (.sipush 192, 3) := by decide +kernel
theorem d2_53 : decode method_2_code 53 = .ok (.if_icmp .ge 5, 3) := by decide +kernel
theorem d2_56 : decode method_2_code 56 = .ok (.iconst 0, 1) := by decide +kernel
theorem d2_57 : decode method_2_code 57 = .ok (.ireturn, 1) := by decide +kernel
theorem d2_58 : decode method_2_code 58 = .ok (.iload_n 0, 1) := by decide +kernel
theorem d2_59 : decode method_2_code 59 = .ok (.ldc 7, 2) := by decide +kernel
theorem d2_61 : decode method_2_code 61 = .ok (.if_icmp .le 5, 3) := by decide +kernel
theorem d2_64 : decode method_2_code 64 = .ok (.iconst 0, 1) := by decide +kernel
theorem d2_65 : decode method_2_code 65 = .ok (.ireturn, 1) := by decide +kernel
theorem d2_66 : decode method_2_code 66 = .ok (.iload_n 0, 1) := by decide +kernel
theorem d2_67 : decode method_2_code 67 = .ok (.sipush 215, 3) := by decide +kernel
theorem d2_70 : decode method_2_code 70 = .ok (.if_icmp .eq 123, 3) := by decide +kernel
theorem d2_73 : decode method_2_code 73 = .ok (.iload_n 0, 1) := by decide +kernel
theorem d2_74 : decode method_2_code 74 = .ok (.sipush 247, 3) := by decide +kernel
theorem d2_77 : decode method_2_code 77 = .ok (.if_icmp .eq 116, 3) := by decide +kernel
theorem d2_80 : decode method_2_code 80 = .ok (.iload_n 0, 1) := by decide +kernel
theorem d2_81 : decode method_2_code 81 = .ok (.sipush 768, 3) := by decide +kernel
theorem d2_84 : decode method_2_code 84 = .ok (.if_icmp .lt 10, 3) := by decide +kernel
theorem d2_87 : decode method_2_code 87 = .ok (.iload_n 0, 1) := by decide +kernel
theorem d2_88 : decode method_2_code 88 = .ok (.sipush 879, 3) := by decide +kernel
theorem d2_91 : decode method_2_code 91 = .ok (.if_icmp .le 102, 3) := by decide +kernel
theorem d2_94 : decode method_2_code 94 = .ok (.iload_n 0, 1) := by decide +kernel
theorem d2_95 : decode method_2_code 95 = .ok (.sipush 894, 3) := by decide +kernel
theorem d2_98 : decode method_2_code 98 = .ok (.if_icmp .eq 95, 3) := by decide +kernel
theorem d2_101 : decode method_2_code 101 = .ok (.iload_n 0, 1) := by decide +kernel
theorem d2_102 : decode method_2_code 102 = .ok (.sipush 8192, 3) := by decide +kernel
theorem d2_105 : decode method_2_code 105 = .ok (.if_icmp .lt 10, 3) := by decide +kernel
theorem d2_108 : decode method_2_code 108 = .ok (.iload_n 0, 1) := by decide +kernel
theorem d2_109 : decode method_2_code 109 = .ok (.sipush 8203, 3) := by decide +kernel
theorem d2_112 : decode method_2_code 112 = .ok (.if_icmp .le 81, 3) := by decide +kernel
theorem d2_115 : decode method_2_code 115 = .ok (.iload_n 0, 1) := by decide +kernel
theorem d2_116 : decode method_2_code 116 = .ok (.sipush 8206, 3) := by decide +kernel
theorem d2_119 : decode method_2_code 119 = .ok (.if_icmp .lt 10, 3) := by decide +kernel
theorem d2_122 : decode method_2_code 122 = .ok (.iload_n 0, 1) := by decide +kernel
theorem d2_123 : decode method_2_code 123 = .ok (.sipush 8303, 3) := by decide +kernel
theorem d2_126 : decode method_2_code 126 = .ok (.if_icmp .le 67, 3) := by decide +kernel
theorem d2_129 : decode method_2_code 129 = .ok (.iload_n 0, 1) := by decide +kernel
theorem d2_130 : decode method_2_code 130 = .ok (.sipush 8592, 3) := by decide +kernel
theorem d2_133 : decode method_2_code 133 = .ok (.if_icmp .lt 10, 3) := by decide +kernel
theorem d2_136 : decode method_2_code 136 = .ok (.iload_n 0, 1) := by decide +kernel
theorem d2_137 : decode method_2_code 137 = .ok (.sipush 11263, 3) := by decide +kernel
theorem d2_140 : decode method_2_code 140 = .ok (.if_icmp .le 53, 3) := by decide +kernel
theorem d2_143 : decode method_2_code 143 = .ok (.iload_n 0, 1) := by decide +kernel
theorem d2_144 : decode method_2_code 144 = .ok (.sipush 12272, 3) := by decide +kernel
theorem d2_147 : decode method_2_code 147 = .ok (.if_icmp .lt 10, 3) := by decide +kernel
theorem d2_150 : decode method_2_code 150 = .ok (.iload_n 0, 1) := by decide +kernel
theorem d2_151 : decode method_2_code 151 = .ok (.sipush 12288, 3) := by decide +kernel
theorem d2_154 : decode method_2_code 154 = .ok (.if_icmp .le 39, 3) := by decide +kernel
theorem d2_157 : decode method_2_code 157 = .ok (.iload_n 0, 1) := by decide +kernel
theorem d2_158 : decode method_2_code 158 = .ok (.ldc 8, 2) := by decide +kernel
theorem d2_160 : decode method_2_code 160 = .ok (.if_icmp .lt 9, 3) := by decide +kernel
theorem d2_163 : decode method_2_code 163 = .ok (.iload_n 0, 1) := by decide +kernel
theorem d2_164 : decode method_2_code 164 = .ok (.ldc 9, 2) := by decide +kernel
theorem d2_166 : decode method_2_code 166 = .ok (.if_icmp .le 27, 3) := by decide +kernel
theorem d2_169 : decode method_2_code 169 = .ok (.iload_n 0, 1) := by decide +kernel
theorem d2_170 : decode method_2_code 170 = .ok (.ldc 10, 2) := by decide +kernel
theorem d2_172 : decode method_2_code 172 = .ok (.if_icmp .lt 9, 3) := by decide +kernel
theorem d2_175 : decode method_2_code 175 = .ok (.iload_n 0, 1) := by decide +kernel
theorem d2_176 : decode method_2_code 176 = .ok (.ldc 11, 2) := by decide +kernel
theorem d2_178 : decode method_2_code 178 = .ok (.if_icmp .le 15, 3) := by decide +kernel
theorem d2_181 : decode method_2_code 181 = .ok (.iload_n 0, 1) := by decide +kernel
theorem d2_182 : decode method_2_code 182 = .ok (.ldc 12, 2) := by decide +kernel
theorem d2_184 : decode method_2_code 184 = .ok (.if_icmp .lt 13, 3) := by decide +kernel
theorem d2_187 : decode method_2_code 187 = .ok (.iload_n 0, 1) := by decide +kernel
theorem d2_188 : decode method_2_code 188 = .ok (.ldc 13, 2) := by decide +kernel
theorem d2_190 : decode method_2_code 190 = .ok (.if_icmp .gt 7, 3) := by decide +kernel
theorem d2_193 : decode method_2_code 193 = .ok (.iconst 1, 1) := by decide +kernel
theorem d2_194 : decode method_2_code 194 = .ok (.goto 4, 3) := by decide +kernel
theorem d2_197 : decode method_2_code 197 = .ok (.iconst 0, 1) := by decide +kernel
theorem d2_198 : decode method_2_code 198 = .ok (.istore_n 1, 1) := by decide +kernel
theorem d2_199 : decode method_2_code 199 = .ok (.iload_n 1, 1) := by decide +kernel
theorem d2_200 : decode method_2_code 200 = .ok (.ifCond .ne 7, 3) := by decide +kernel
theorem d2_203 : decode method_2_code 203 = .ok (.iconst 1, 1) := by decide +kernel
theorem d2_204 : decode method_2_code 204 = .ok (.goto 4, 3) := by decide +kernel
theorem d2_207 : decode method_2_code 207 = .ok (.iconst 0, 1) := by decide +kernel
theorem d2_208 : decode method_2_code 208 = .ok (.ireturn, 1) := by decide +kernel
theorem pn_1 : plainName "com/example/vine_labels/vinelabels/xmlinput/XmlCharactersIsNameStartPinLaw" = true := by first | (simp [plainName, overriddenIn]; done) | decide +kernel
theorem ef_2 (m : MethodId) (x0 : Int32) : entryFrame m #[(.int x0)] 2 = mkF m 0 #[.val (.int x0), .unset] [] := by first | (simp [entryFrame, mkF, argsToLocals, Value.category]; done) | rfl
def f2 (p0 : Int32) : Int32 := if p0 < (0 : Int32) then (0 : Int32)
  else if p0 < (128 : Int32) then (if p0 < (65 : Int32) then (0 : Int32)
      else if (90 : Int32) < p0 then (if p0 < (97 : Int32) then (if p0 = (95 : Int32) then (1 : Int32)
            else (0 : Int32))
          else if (122 : Int32) < p0 then (0 : Int32)
            else (1 : Int32))
        else (1 : Int32))
    else if p0 < (192 : Int32) then (0 : Int32)
      else if (983039 : Int32) < p0 then (0 : Int32)
        else if p0 = (215 : Int32) then (0 : Int32)
          else if p0 = (247 : Int32) then (0 : Int32)
            else if p0 < (768 : Int32) then (1 : Int32)
              else if (879 : Int32) < p0 then (if p0 = (894 : Int32) then (0 : Int32)
                  else if p0 < (8192 : Int32) then (1 : Int32)
                    else if (8203 : Int32) < p0 then (if p0 < (8206 : Int32) then (1 : Int32)
                        else if (8303 : Int32) < p0 then (if p0 < (8592 : Int32) then (1 : Int32)
                            else if (11263 : Int32) < p0 then (if p0 < (12272 : Int32) then (1 : Int32)
                                else if (12288 : Int32) < p0 then (if p0 < (55296 : Int32) then (1 : Int32)
                                    else if (63743 : Int32) < p0 then (if p0 < (64976 : Int32) then (1 : Int32)
                                        else if (65007 : Int32) < p0 then (if p0 < (65534 : Int32) then (1 : Int32)
                                            else if (65535 : Int32) < p0 then (1 : Int32)
                                              else (0 : Int32))
                                          else (0 : Int32))
                                      else (0 : Int32))
                                  else (0 : Int32))
                              else (0 : Int32))
                          else (0 : Int32))
                      else (0 : Int32))
                else (0 : Int32)
def Q2 (Z : State) (p0 : Int32) (h0 : Heap) (n0 : Nat) (v : Option Value) (h : Heap) (L : List Loc) : Prop := v = some (.int (f2 p0)) ∧ Fr n0 L ∧ h = h0
set_option maxRecDepth 65536 in
set_option maxHeartbeats 40000000 in
theorem rm2 (l : Launch) (Z : State) (a0 : Array Value) (hw : ∀ d ∈ tables_1, d.before a0 Z = true) (ws : List Jvm.Cond) (p0 : Int32) (h0 : Heap) (n0 : Nat) (Z0 : n0 ≤ h0.size) :
    MetFree l (⟨"com/example/vine_labels/vinelabels/xmlinput/XmlCharactersIsNameStartPinLaw", "reference", "(I)Z"⟩ : MethodName) (head1 (Jvm.Cond.code (⟨"com/example/vine_labels/vinelabels/xmlinput/XmlCharactersIsNameStartPinLaw", "reference", "(I)Z"⟩ : MethodName) method_2_code 2 (some .boolean) :: ws) ({ frames := 0, cells := 0, slots := 0, locals := 0 } : Room)) (fun a U => a = #[(.int p0)] ∧ Z.Warmed39 U.vm ∧ U.heap = h0) (fun _ _ _ _ _ => True) (fun _ U o U' => ∃ v L, o = .returned v ∧ Q2 Z p0 h0 n0 v U'.heap L ∧ FrameEnd U o U' L ({ frames := 0, cells := 0, slots := 0, locals := 0 } : Room).cells ({ frames := 0, cells := 0, slots := 0, locals := 0 } : Room).slots) := by
  refine MetFree.of_bodySF (plainFor_of_name pn_1) hisR ?_
  intro p e s m args below meth c s₁ Bd hml0 hP hK
  obtain ⟨rfl, hZ, hh⟩ := hP
  have hx := Bd.exec
  have hby := Bd.bytes
  have hml : c.maxLocals = 2 := hml0
  have hown : s.vm.findClass "com/example/vine_labels/vinelabels/xmlinput/XmlCharactersIsNameStartPinLaw" = some m.cls := findClass_of_methodNamed Bd.named
  have hnm := (name_of_methodNamed Bd.named Bd.method).1
  have X0 : Stand p l e ({ frames := 0, cells := 0, slots := 0, locals := 0 } : Room) s m #[(.int p0)] below meth c s₁ [] 0 0 := Stand.of_body Bd
  have e0 : s₁.heap = h0 := by rw [← hh, Bd.state]; rfl
  have N0 := Fr.nil n0
  have hret := Bd.returns
  have hlk := BodyLoose.notSynchronized Bd
  show own_Out p e below (fun o U' => ∃ v L, o = .returned v ∧ Q2 Z p0 h0 n0 v U'.heap L ∧ FrameEnd s o U' L ({ frames := 0, cells := 0, slots := 0, locals := 0 } : Room).cells ({ frames := 0, cells := 0, slots := 0, locals := 0 } : Room).slots) (s₁.setTop (entryFrame m #[(.int p0)] 2))
  refine own_of (fun t k => castTop (ef_2 m p0) k) ?_
  show own_Out p e below _ (s₁.setTop (mkF m 0 #[.val (.int p0), .unset] []))
  refine own_of (fun _ k => XS.iloadN X0.here hx rfl (hb hby d2_0) rfl k) ?_
  show own_Out p e below _ (s₁.setTop (mkF m 1 #[.val (.int p0), .unset] [(.int p0)]))
  by_cases hc1_1 : p0 < (0 : Int32)
  · skip
    refine own_of (fun _ k => XS.ifNo X0.here hx rfl (hb hby d2_1) rfl ((if0 _ _).trans (tlt hc1_1).2.1) k) ?_
    show own_Out p e below _ (s₁.setTop (mkF m 4 #[.val (.int p0), .unset] []))
    refine own_of (fun _ k => XS.iconst X0.here hx rfl (hb hby d2_4) k) ?_
    show own_Out p e below _ (s₁.setTop (mkF m 5 #[.val (.int p0), .unset] [(.int (0 : Int32))]))
    exact own_outN X0 hx hlk (t := .boolean) hret (by simp) (hb hby d2_5) (z' := (0 : Int32)) rfl (Q := Q2 Z p0 h0 n0) ⟨by simp only [f2, if_pos hc1_1], N0, e0⟩ (by decide) (by decide)
  · skip
    refine own_of (fun _ k => XS.ifYes X0.here hx rfl (pc0 := 1) (pc' := 6) rfl (hb hby d2_1) rfl ((if0 _ _).trans (flt hc1_1).2.1) (by decide) (by decide) k) ?_
    show own_Out p e below _ (s₁.setTop (mkF m 6 #[.val (.int p0), .unset] []))
    refine own_of (fun _ k => XS.iloadN X0.here hx rfl (hb hby d2_6) rfl k) ?_
    show own_Out p e below _ (s₁.setTop (mkF m 7 #[.val (.int p0), .unset] [(.int p0)]))
    refine own_of (fun _ k => XS.sipush X0.here hx rfl (hb hby d2_7) k) ?_
    show own_Out p e below _ (s₁.setTop (mkF m 10 #[.val (.int p0), .unset] [(.int (128 : Int32)), (.int p0)]))
    by_cases hc10_2 : p0 < (128 : Int32)
    · skip
      refine own_of (fun _ k => XS.icmpNo X0.here hx rfl (hb hby d2_10) rfl (tlt hc10_2).2.1 k) ?_
      show own_Out p e below _ (s₁.setTop (mkF m 13 #[.val (.int p0), .unset] []))
      refine own_of (fun _ k => XS.iloadN X0.here hx rfl (hb hby d2_13) rfl k) ?_
      show own_Out p e below _ (s₁.setTop (mkF m 14 #[.val (.int p0), .unset] [(.int p0)]))
      refine own_of (fun _ k => XS.bipush X0.here hx rfl (hb hby d2_14) k) ?_
      show own_Out p e below _ (s₁.setTop (mkF m 16 #[.val (.int p0), .unset] [(.int (65 : Int32)), (.int p0)]))
      by_cases hc16_3 : p0 < (65 : Int32)
      · skip
        refine own_of (fun _ k => XS.icmpYes X0.here hx rfl (pc0 := 16) (pc' := 25) rfl (hb hby d2_16) rfl (tlt hc16_3).1 (by decide) (by decide) k) ?_
        show own_Out p e below _ (s₁.setTop (mkF m 25 #[.val (.int p0), .unset] []))
        refine own_of (fun _ k => XS.iloadN X0.here hx rfl (hb hby d2_25) rfl k) ?_
        show own_Out p e below _ (s₁.setTop (mkF m 26 #[.val (.int p0), .unset] [(.int p0)]))
        refine own_of (fun _ k => XS.bipush X0.here hx rfl (hb hby d2_26) k) ?_
        show own_Out p e below _ (s₁.setTop (mkF m 28 #[.val (.int p0), .unset] [(.int (97 : Int32)), (.int p0)]))
        refine own_of (fun _ k => XS.icmpYes X0.here hx rfl (pc0 := 28) (pc' := 37) rfl (hb hby d2_28) rfl (tlt (own_T1 (own_U1 hc16_3) (by decide) : p0 < (97 : Int32))).1 (by decide) (by decide) k) ?_
        show own_Out p e below _ (s₁.setTop (mkF m 37 #[.val (.int p0), .unset] []))
        refine own_of (fun _ k => XS.iloadN X0.here hx rfl (hb hby d2_37) rfl k) ?_
        show own_Out p e below _ (s₁.setTop (mkF m 38 #[.val (.int p0), .unset] [(.int p0)]))
        refine own_of (fun _ k => XS.bipush X0.here hx rfl (hb hby d2_38) k) ?_
        show own_Out p e below _ (s₁.setTop (mkF m 40 #[.val (.int p0), .unset] [(.int (95 : Int32)), (.int p0)]))
        refine own_of (fun _ k => XS.icmpYes X0.here hx rfl (pc0 := 40) (pc' := 47) rfl (hb hby d2_40) rfl (feq (own_T5 (own_U1 hc16_3) (by decide) : ¬ (p0 = (95 : Int32)))).2 (by decide) (by decide) k) ?_
        show own_Out p e below _ (s₁.setTop (mkF m 47 #[.val (.int p0), .unset] []))
        refine own_of (fun _ k => XS.iconst X0.here hx rfl (hb hby d2_47) k) ?_
        show own_Out p e below _ (s₁.setTop (mkF m 48 #[.val (.int p0), .unset] [(.int (0 : Int32))]))
        exact own_outN X0 hx hlk (t := .boolean) hret (by simp) (hb hby d2_48) (z' := (0 : Int32)) rfl (Q := Q2 Z p0 h0 n0) ⟨by simp only [f2, if_neg hc1_1, if_pos hc10_2, if_pos hc16_3], N0, e0⟩ (by decide) (by decide)
      · skip
        refine own_of (fun _ k => XS.icmpNo X0.here hx rfl (hb hby d2_16) rfl (flt hc16_3).1 k) ?_
        show own_Out p e below _ (s₁.setTop (mkF m 19 #[.val (.int p0), .unset] []))
        refine own_of (fun _ k => XS.iloadN X0.here hx rfl (hb hby d2_19) rfl k) ?_
        show own_Out p e below _ (s₁.setTop (mkF m 20 #[.val (.int p0), .unset] [(.int p0)]))
        refine own_of (fun _ k => XS.bipush X0.here hx rfl (hb hby d2_20) k) ?_
        show own_Out p e below _ (s₁.setTop (mkF m 22 #[.val (.int p0), .unset] [(.int (90 : Int32)), (.int p0)]))
        by_cases hc22_4 : (90 : Int32) < p0
        · skip
          refine own_of (fun _ k => XS.icmpNo X0.here hx rfl (hb hby d2_22) rfl (tlt hc22_4).2.2.2 k) ?_
          show own_Out p e below _ (s₁.setTop (mkF m 25 #[.val (.int p0), .unset] []))
          refine own_of (fun _ k => XS.iloadN X0.here hx rfl (hb hby d2_25) rfl k) ?_
          show own_Out p e below _ (s₁.setTop (mkF m 26 #[.val (.int p0), .unset] [(.int p0)]))
          refine own_of (fun _ k => XS.bipush X0.here hx rfl (hb hby d2_26) k) ?_
          show own_Out p e below _ (s₁.setTop (mkF m 28 #[.val (.int p0), .unset] [(.int (97 : Int32)), (.int p0)]))
          by_cases hc28_5 : p0 < (97 : Int32)
          · skip
            refine own_of (fun _ k => XS.icmpYes X0.here hx rfl (pc0 := 28) (pc' := 37) rfl (hb hby d2_28) rfl (tlt hc28_5).1 (by decide) (by decide) k) ?_
            show own_Out p e below _ (s₁.setTop (mkF m 37 #[.val (.int p0), .unset] []))
            refine own_of (fun _ k => XS.iloadN X0.here hx rfl (hb hby d2_37) rfl k) ?_
            show own_Out p e below _ (s₁.setTop (mkF m 38 #[.val (.int p0), .unset] [(.int p0)]))
            refine own_of (fun _ k => XS.bipush X0.here hx rfl (hb hby d2_38) k) ?_
            show own_Out p e below _ (s₁.setTop (mkF m 40 #[.val (.int p0), .unset] [(.int (95 : Int32)), (.int p0)]))
            by_cases hc40_6 : p0 = (95 : Int32)
            · skip
              refine own_of (fun _ k => XS.icmpNo X0.here hx rfl (hb hby d2_40) rfl (teq hc40_6).2 k) ?_
              show own_Out p e below _ (s₁.setTop (mkF m 43 #[.val (.int p0), .unset] []))
              refine own_of (fun _ k => XS.iconst X0.here hx rfl (hb hby d2_43) k) ?_
              show own_Out p e below _ (s₁.setTop (mkF m 44 #[.val (.int p0), .unset] [(.int (1 : Int32))]))
              refine own_of (fun _ k => XS.goto X0.here hx rfl (pc0 := 44) (pc' := 48) rfl (hb hby d2_44) (by decide) (by decide) k) ?_
              show own_Out p e below _ (s₁.setTop (mkF m 48 #[.val (.int p0), .unset] [(.int (1 : Int32))]))
              exact own_outN X0 hx hlk (t := .boolean) hret (by simp) (hb hby d2_48) (z' := (1 : Int32)) rfl (Q := Q2 Z p0 h0 n0) ⟨by simp only [f2, if_neg hc1_1, if_pos hc10_2, if_neg hc16_3, if_pos hc22_4, if_pos hc28_5, if_pos hc40_6], N0, e0⟩ (by decide) (by decide)
            · skip
              refine own_of (fun _ k => XS.icmpYes X0.here hx rfl (pc0 := 40) (pc' := 47) rfl (hb hby d2_40) rfl (feq hc40_6).2 (by decide) (by decide) k) ?_
              show own_Out p e below _ (s₁.setTop (mkF m 47 #[.val (.int p0), .unset] []))
              refine own_of (fun _ k => XS.iconst X0.here hx rfl (hb hby d2_47) k) ?_
              show own_Out p e below _ (s₁.setTop (mkF m 48 #[.val (.int p0), .unset] [(.int (0 : Int32))]))
              exact own_outN X0 hx hlk (t := .boolean) hret (by simp) (hb hby d2_48) (z' := (0 : Int32)) rfl (Q := Q2 Z p0 h0 n0) ⟨by simp only [f2, if_neg hc1_1, if_pos hc10_2, if_neg hc16_3, if_pos hc22_4, if_pos hc28_5, if_neg hc40_6], N0, e0⟩ (by decide) (by decide)
          · skip
            refine own_of (fun _ k => XS.icmpNo X0.here hx rfl (hb hby d2_28) rfl (flt hc28_5).1 k) ?_
            show own_Out p e below _ (s₁.setTop (mkF m 31 #[.val (.int p0), .unset] []))
            refine own_of (fun _ k => XS.iloadN X0.here hx rfl (hb hby d2_31) rfl k) ?_
            show own_Out p e below _ (s₁.setTop (mkF m 32 #[.val (.int p0), .unset] [(.int p0)]))
            refine own_of (fun _ k => XS.bipush X0.here hx rfl (hb hby d2_32) k) ?_
            show own_Out p e below _ (s₁.setTop (mkF m 34 #[.val (.int p0), .unset] [(.int (122 : Int32)), (.int p0)]))
            by_cases hc34_7 : (122 : Int32) < p0
            · skip
              refine own_of (fun _ k => XS.icmpNo X0.here hx rfl (hb hby d2_34) rfl (tlt hc34_7).2.2.2 k) ?_
              show own_Out p e below _ (s₁.setTop (mkF m 37 #[.val (.int p0), .unset] []))
              refine own_of (fun _ k => XS.iloadN X0.here hx rfl (hb hby d2_37) rfl k) ?_
              show own_Out p e below _ (s₁.setTop (mkF m 38 #[.val (.int p0), .unset] [(.int p0)]))
              refine own_of (fun _ k => XS.bipush X0.here hx rfl (hb hby d2_38) k) ?_
              show own_Out p e below _ (s₁.setTop (mkF m 40 #[.val (.int p0), .unset] [(.int (95 : Int32)), (.int p0)]))
              refine own_of (fun _ k => XS.icmpYes X0.here hx rfl (pc0 := 40) (pc' := 47) rfl (hb hby d2_40) rfl (feq (own_T6 (own_L2 hc34_7) (by decide) : ¬ (p0 = (95 : Int32)))).2 (by decide) (by decide) k) ?_
              show own_Out p e below _ (s₁.setTop (mkF m 47 #[.val (.int p0), .unset] []))
              refine own_of (fun _ k => XS.iconst X0.here hx rfl (hb hby d2_47) k) ?_
              show own_Out p e below _ (s₁.setTop (mkF m 48 #[.val (.int p0), .unset] [(.int (0 : Int32))]))
              exact own_outN X0 hx hlk (t := .boolean) hret (by simp) (hb hby d2_48) (z' := (0 : Int32)) rfl (Q := Q2 Z p0 h0 n0) ⟨by simp only [f2, if_neg hc1_1, if_pos hc10_2, if_neg hc16_3, if_pos hc22_4, if_neg hc28_5, if_pos hc34_7], N0, e0⟩ (by decide) (by decide)
            · skip
              refine own_of (fun _ k => XS.icmpYes X0.here hx rfl (pc0 := 34) (pc' := 43) rfl (hb hby d2_34) rfl (flt hc34_7).2.2.2 (by decide) (by decide) k) ?_
              show own_Out p e below _ (s₁.setTop (mkF m 43 #[.val (.int p0), .unset] []))
              refine own_of (fun _ k => XS.iconst X0.here hx rfl (hb hby d2_43) k) ?_
              show own_Out p e below _ (s₁.setTop (mkF m 44 #[.val (.int p0), .unset] [(.int (1 : Int32))]))
              refine own_of (fun _ k => XS.goto X0.here hx rfl (pc0 := 44) (pc' := 48) rfl (hb hby d2_44) (by decide) (by decide) k) ?_
              show own_Out p e below _ (s₁.setTop (mkF m 48 #[.val (.int p0), .unset] [(.int (1 : Int32))]))
              exact own_outN X0 hx hlk (t := .boolean) hret (by simp) (hb hby d2_48) (z' := (1 : Int32)) rfl (Q := Q2 Z p0 h0 n0) ⟨by simp only [f2, if_neg hc1_1, if_pos hc10_2, if_neg hc16_3, if_pos hc22_4, if_neg hc28_5, if_neg hc34_7], N0, e0⟩ (by decide) (by decide)
        · skip
          refine own_of (fun _ k => XS.icmpYes X0.here hx rfl (pc0 := 22) (pc' := 43) rfl (hb hby d2_22) rfl (flt hc22_4).2.2.2 (by decide) (by decide) k) ?_
          show own_Out p e below _ (s₁.setTop (mkF m 43 #[.val (.int p0), .unset] []))
          refine own_of (fun _ k => XS.iconst X0.here hx rfl (hb hby d2_43) k) ?_
          show own_Out p e below _ (s₁.setTop (mkF m 44 #[.val (.int p0), .unset] [(.int (1 : Int32))]))
          refine own_of (fun _ k => XS.goto X0.here hx rfl (pc0 := 44) (pc' := 48) rfl (hb hby d2_44) (by decide) (by decide) k) ?_
          show own_Out p e below _ (s₁.setTop (mkF m 48 #[.val (.int p0), .unset] [(.int (1 : Int32))]))
          exact own_outN X0 hx hlk (t := .boolean) hret (by simp) (hb hby d2_48) (z' := (1 : Int32)) rfl (Q := Q2 Z p0 h0 n0) ⟨by simp only [f2, if_neg hc1_1, if_pos hc10_2, if_neg hc16_3, if_neg hc22_4], N0, e0⟩ (by decide) (by decide)
    · skip
      refine own_of (fun _ k => XS.icmpYes X0.here hx rfl (pc0 := 10) (pc' := 49) rfl (hb hby d2_10) rfl (flt hc10_2).2.1 (by decide) (by decide) k) ?_
      show own_Out p e below _ (s₁.setTop (mkF m 49 #[.val (.int p0), .unset] []))
      refine own_of (fun _ k => XS.iloadN X0.here hx rfl (hb hby d2_49) rfl k) ?_
      show own_Out p e below _ (s₁.setTop (mkF m 50 #[.val (.int p0), .unset] [(.int p0)]))
      refine own_of (fun _ k => XS.sipush X0.here hx rfl (hb hby d2_50) k) ?_
      show own_Out p e below _ (s₁.setTop (mkF m 53 #[.val (.int p0), .unset] [(.int (192 : Int32)), (.int p0)]))
      by_cases hc53_8 : p0 < (192 : Int32)
      · skip
        refine own_of (fun _ k => XS.icmpNo X0.here hx rfl (hb hby d2_53) rfl (tlt hc53_8).2.1 k) ?_
        show own_Out p e below _ (s₁.setTop (mkF m 56 #[.val (.int p0), .unset] []))
        refine own_of (fun _ k => XS.iconst X0.here hx rfl (hb hby d2_56) k) ?_
        show own_Out p e below _ (s₁.setTop (mkF m 57 #[.val (.int p0), .unset] [(.int (0 : Int32))]))
        exact own_outN X0 hx hlk (t := .boolean) hret (by simp) (hb hby d2_57) (z' := (0 : Int32)) rfl (Q := Q2 Z p0 h0 n0) ⟨by simp only [f2, if_neg hc1_1, if_neg hc10_2, if_pos hc53_8], N0, e0⟩ (by decide) (by decide)
      · skip
        refine own_of (fun _ k => XS.icmpYes X0.here hx rfl (pc0 := 53) (pc' := 58) rfl (hb hby d2_53) rfl (flt hc53_8).2.1 (by decide) (by decide) k) ?_
        show own_Out p e below _ (s₁.setTop (mkF m 58 #[.val (.int p0), .unset] []))
        refine own_of (fun _ k => XS.iloadN X0.here hx rfl (hb hby d2_58) rfl k) ?_
        show own_Out p e below _ (s₁.setTop (mkF m 59 #[.val (.int p0), .unset] [(.int p0)]))
        refine own_of (X0.ldcInt hx hown (mvT hZ (hw _ (List.mem_of_getElem? (i := 11) rfl))) (g := (mkF m 59 #[.val (.int p0), .unset] [(.int p0)])) rfl (hb hby d2_59)) ?_
        show own_Out p e below _ (s₁.setTop (mkF m 61 #[.val (.int p0), .unset] [(.int (983039 : Int32)), (.int p0)]))
        by_cases hc61_9 : (983039 : Int32) < p0
        · skip
          refine own_of (fun _ k => XS.icmpNo X0.here hx rfl (hb hby d2_61) rfl (tlt hc61_9).2.2.2 k) ?_
          show own_Out p e below _ (s₁.setTop (mkF m 64 #[.val (.int p0), .unset] []))
          refine own_of (fun _ k => XS.iconst X0.here hx rfl (hb hby d2_64) k) ?_
          show own_Out p e below _ (s₁.setTop (mkF m 65 #[.val (.int p0), .unset] [(.int (0 : Int32))]))
          exact own_outN X0 hx hlk (t := .boolean) hret (by simp) (hb hby d2_65) (z' := (0 : Int32)) rfl (Q := Q2 Z p0 h0 n0) ⟨by simp only [f2, if_neg hc1_1, if_neg hc10_2, if_neg hc53_8, if_pos hc61_9], N0, e0⟩ (by decide) (by decide)
        · skip
          refine own_of (fun _ k => XS.icmpYes X0.here hx rfl (pc0 := 61) (pc' := 66) rfl (hb hby d2_61) rfl (flt hc61_9).2.2.2 (by decide) (by decide) k) ?_
          show own_Out p e below _ (s₁.setTop (mkF m 66 #[.val (.int p0), .unset] []))
          refine own_of (fun _ k => XS.iloadN X0.here hx rfl (hb hby d2_66) rfl k) ?_
          show own_Out p e below _ (s₁.setTop (mkF m 67 #[.val (.int p0), .unset] [(.int p0)]))
          refine own_of (fun _ k => XS.sipush X0.here hx rfl (hb hby d2_67) k) ?_
          show own_Out p e below _ (s₁.setTop (mkF m 70 #[.val (.int p0), .unset] [(.int (215 : Int32)), (.int p0)]))
          by_cases hc70_10 : p0 = (215 : Int32)
          · skip
            refine own_of (fun _ k => XS.icmpYes X0.here hx rfl (pc0 := 70) (pc' := 193) rfl (hb hby d2_70) rfl (teq hc70_10).1 (by decide) (by decide) k) ?_
            show own_Out p e below _ (s₁.setTop (mkF m 193 #[.val (.int p0), .unset] []))
            refine own_of (fun _ k => XS.iconst X0.here hx rfl (hb hby d2_193) k) ?_
            show own_Out p e below _ (s₁.setTop (mkF m 194 #[.val (.int p0), .unset] [(.int (1 : Int32))]))
            refine own_of (fun _ k => XS.goto X0.here hx rfl (pc0 := 194) (pc' := 198) rfl (hb hby d2_194) (by decide) (by decide) k) ?_
            show own_Out p e below _ (s₁.setTop (mkF m 198 #[.val (.int p0), .unset] [(.int (1 : Int32))]))
            refine own_of (fun _ k => XS.istoreN X0.here hx rfl (hb hby d2_198) rfl (l' := #[.val (.int p0), .val (.int (1 : Int32))]) rfl k) ?_
            show own_Out p e below _ (s₁.setTop (mkF m 199 #[.val (.int p0), .val (.int (1 : Int32))] []))
            refine own_of (fun _ k => XS.iloadN X0.here hx rfl (hb hby d2_199) rfl k) ?_
            show own_Out p e below _ (s₁.setTop (mkF m 200 #[.val (.int p0), .val (.int (1 : Int32))] [(.int (1 : Int32))]))
            refine own_of (fun _ k => XS.ifYes X0.here hx rfl (pc0 := 200) (pc' := 207) rfl (hb hby d2_200) rfl ((if0 _ _).trans (feq (by decide : ¬ ((1 : Int32) = (0 : Int32)))).2) (by decide) (by decide) k) ?_
            show own_Out p e below _ (s₁.setTop (mkF m 207 #[.val (.int p0), .val (.int (1 : Int32))] []))
            refine own_of (fun _ k => XS.iconst X0.here hx rfl (hb hby d2_207) k) ?_
            show own_Out p e below _ (s₁.setTop (mkF m 208 #[.val (.int p0), .val (.int (1 : Int32))] [(.int (0 : Int32))]))
            exact own_outN X0 hx hlk (t := .boolean) hret (by simp) (hb hby d2_208) (z' := (0 : Int32)) rfl (Q := Q2 Z p0 h0 n0) ⟨by simp only [f2, if_neg hc1_1, if_neg hc10_2, if_neg hc53_8, if_neg hc61_9, if_pos hc70_10], N0, e0⟩ (by decide) (by decide)
          · skip
            refine own_of (fun _ k => XS.icmpNo X0.here hx rfl (hb hby d2_70) rfl (feq hc70_10).1 k) ?_
            show own_Out p e below _ (s₁.setTop (mkF m 73 #[.val (.int p0), .unset] []))
            refine own_of (fun _ k => XS.iloadN X0.here hx rfl (hb hby d2_73) rfl k) ?_
            show own_Out p e below _ (s₁.setTop (mkF m 74 #[.val (.int p0), .unset] [(.int p0)]))
            refine own_of (fun _ k => XS.sipush X0.here hx rfl (hb hby d2_74) k) ?_
            show own_Out p e below _ (s₁.setTop (mkF m 77 #[.val (.int p0), .unset] [(.int (247 : Int32)), (.int p0)]))
            by_cases hc77_11 : p0 = (247 : Int32)
            · skip
              refine own_of (fun _ k => XS.icmpYes X0.here hx rfl (pc0 := 77) (pc' := 193) rfl (hb hby d2_77) rfl (teq hc77_11).1 (by decide) (by decide) k) ?_
              show own_Out p e below _ (s₁.setTop (mkF m 193 #[.val (.int p0), .unset] []))
              refine own_of (fun _ k => XS.iconst X0.here hx rfl (hb hby d2_193) k) ?_
              show own_Out p e below _ (s₁.setTop (mkF m 194 #[.val (.int p0), .unset] [(.int (1 : Int32))]))
              refine own_of (fun _ k => XS.goto X0.here hx rfl (pc0 := 194) (pc' := 198) rfl (hb hby d2_194) (by decide) (by decide) k) ?_
              show own_Out p e below _ (s₁.setTop (mkF m 198 #[.val (.int p0), .unset] [(.int (1 : Int32))]))
              refine own_of (fun _ k => XS.istoreN X0.here hx rfl (hb hby d2_198) rfl (l' := #[.val (.int p0), .val (.int (1 : Int32))]) rfl k) ?_
              show own_Out p e below _ (s₁.setTop (mkF m 199 #[.val (.int p0), .val (.int (1 : Int32))] []))
              refine own_of (fun _ k => XS.iloadN X0.here hx rfl (hb hby d2_199) rfl k) ?_
              show own_Out p e below _ (s₁.setTop (mkF m 200 #[.val (.int p0), .val (.int (1 : Int32))] [(.int (1 : Int32))]))
              refine own_of (fun _ k => XS.ifYes X0.here hx rfl (pc0 := 200) (pc' := 207) rfl (hb hby d2_200) rfl ((if0 _ _).trans (feq (by decide : ¬ ((1 : Int32) = (0 : Int32)))).2) (by decide) (by decide) k) ?_
              show own_Out p e below _ (s₁.setTop (mkF m 207 #[.val (.int p0), .val (.int (1 : Int32))] []))
              refine own_of (fun _ k => XS.iconst X0.here hx rfl (hb hby d2_207) k) ?_
              show own_Out p e below _ (s₁.setTop (mkF m 208 #[.val (.int p0), .val (.int (1 : Int32))] [(.int (0 : Int32))]))
              exact own_outN X0 hx hlk (t := .boolean) hret (by simp) (hb hby d2_208) (z' := (0 : Int32)) rfl (Q := Q2 Z p0 h0 n0) ⟨by simp only [f2, if_neg hc1_1, if_neg hc10_2, if_neg hc53_8, if_neg hc61_9, if_neg hc70_10, if_pos hc77_11], N0, e0⟩ (by decide) (by decide)
            · skip
              refine own_of (fun _ k => XS.icmpNo X0.here hx rfl (hb hby d2_77) rfl (feq hc77_11).1 k) ?_
              show own_Out p e below _ (s₁.setTop (mkF m 80 #[.val (.int p0), .unset] []))
              refine own_of (fun _ k => XS.iloadN X0.here hx rfl (hb hby d2_80) rfl k) ?_
              show own_Out p e below _ (s₁.setTop (mkF m 81 #[.val (.int p0), .unset] [(.int p0)]))
              refine own_of (fun _ k => XS.sipush X0.here hx rfl (hb hby d2_81) k) ?_
              show own_Out p e below _ (s₁.setTop (mkF m 84 #[.val (.int p0), .unset] [(.int (768 : Int32)), (.int p0)]))
              by_cases hc84_12 : p0 < (768 : Int32)
              · skip
                refine own_of (fun _ k => XS.icmpYes X0.here hx rfl (pc0 := 84) (pc' := 94) rfl (hb hby d2_84) rfl (tlt hc84_12).1 (by decide) (by decide) k) ?_
                show own_Out p e below _ (s₁.setTop (mkF m 94 #[.val (.int p0), .unset] []))
                refine own_of (fun _ k => XS.iloadN X0.here hx rfl (hb hby d2_94) rfl k) ?_
                show own_Out p e below _ (s₁.setTop (mkF m 95 #[.val (.int p0), .unset] [(.int p0)]))
                refine own_of (fun _ k => XS.sipush X0.here hx rfl (hb hby d2_95) k) ?_
                show own_Out p e below _ (s₁.setTop (mkF m 98 #[.val (.int p0), .unset] [(.int (894 : Int32)), (.int p0)]))
                refine own_of (fun _ k => XS.icmpNo X0.here hx rfl (hb hby d2_98) rfl (feq (own_T5 (own_U1 hc84_12) (by decide) : ¬ (p0 = (894 : Int32)))).1 k) ?_
                show own_Out p e below _ (s₁.setTop (mkF m 101 #[.val (.int p0), .unset] []))
                refine own_of (fun _ k => XS.iloadN X0.here hx rfl (hb hby d2_101) rfl k) ?_
                show own_Out p e below _ (s₁.setTop (mkF m 102 #[.val (.int p0), .unset] [(.int p0)]))
                refine own_of (fun _ k => XS.sipush X0.here hx rfl (hb hby d2_102) k) ?_
                show own_Out p e below _ (s₁.setTop (mkF m 105 #[.val (.int p0), .unset] [(.int (8192 : Int32)), (.int p0)]))
                refine own_of (fun _ k => XS.icmpYes X0.here hx rfl (pc0 := 105) (pc' := 115) rfl (hb hby d2_105) rfl (tlt (own_T1 (own_U1 hc84_12) (by decide) : p0 < (8192 : Int32))).1 (by decide) (by decide) k) ?_
                show own_Out p e below _ (s₁.setTop (mkF m 115 #[.val (.int p0), .unset] []))
                refine own_of (fun _ k => XS.iloadN X0.here hx rfl (hb hby d2_115) rfl k) ?_
                show own_Out p e below _ (s₁.setTop (mkF m 116 #[.val (.int p0), .unset] [(.int p0)]))
                refine own_of (fun _ k => XS.sipush X0.here hx rfl (hb hby d2_116) k) ?_
                show own_Out p e below _ (s₁.setTop (mkF m 119 #[.val (.int p0), .unset] [(.int (8206 : Int32)), (.int p0)]))
                refine own_of (fun _ k => XS.icmpYes X0.here hx rfl (pc0 := 119) (pc' := 129) rfl (hb hby d2_119) rfl (tlt (own_T1 (own_U1 hc84_12) (by decide) : p0 < (8206 : Int32))).1 (by decide) (by decide) k) ?_
                show own_Out p e below _ (s₁.setTop (mkF m 129 #[.val (.int p0), .unset] []))
                refine own_of (fun _ k => XS.iloadN X0.here hx rfl (hb hby d2_129) rfl k) ?_
                show own_Out p e below _ (s₁.setTop (mkF m 130 #[.val (.int p0), .unset] [(.int p0)]))
                refine own_of (fun _ k => XS.sipush X0.here hx rfl (hb hby d2_130) k) ?_
                show own_Out p e below _ (s₁.setTop (mkF m 133 #[.val (.int p0), .unset] [(.int (8592 : Int32)), (.int p0)]))
                refine own_of (fun _ k => XS.icmpYes X0.here hx rfl (pc0 := 133) (pc' := 143) rfl (hb hby d2_133) rfl (tlt (own_T1 (own_U1 hc84_12) (by decide) : p0 < (8592 : Int32))).1 (by decide) (by decide) k) ?_
                show own_Out p e below _ (s₁.setTop (mkF m 143 #[.val (.int p0), .unset] []))
                refine own_of (fun _ k => XS.iloadN X0.here hx rfl (hb hby d2_143) rfl k) ?_
                show own_Out p e below _ (s₁.setTop (mkF m 144 #[.val (.int p0), .unset] [(.int p0)]))
                refine own_of (fun _ k => XS.sipush X0.here hx rfl (hb hby d2_144) k) ?_
                show own_Out p e below _ (s₁.setTop (mkF m 147 #[.val (.int p0), .unset] [(.int (12272 : Int32)), (.int p0)]))
                refine own_of (fun _ k => XS.icmpYes X0.here hx rfl (pc0 := 147) (pc' := 157) rfl (hb hby d2_147) rfl (tlt (own_T1 (own_U1 hc84_12) (by decide) : p0 < (12272 : Int32))).1 (by decide) (by decide) k) ?_
                show own_Out p e below _ (s₁.setTop (mkF m 157 #[.val (.int p0), .unset] []))
                refine own_of (fun _ k => XS.iloadN X0.here hx rfl (hb hby d2_157) rfl k) ?_
                show own_Out p e below _ (s₁.setTop (mkF m 158 #[.val (.int p0), .unset] [(.int p0)]))
                refine own_of (X0.ldcInt hx hown (mvT hZ (hw _ (List.mem_of_getElem? (i := 12) rfl))) (g := (mkF m 158 #[.val (.int p0), .unset] [(.int p0)])) rfl (hb hby d2_158)) ?_
                show own_Out p e below _ (s₁.setTop (mkF m 160 #[.val (.int p0), .unset] [(.int (55296 : Int32)), (.int p0)]))
                refine own_of (fun _ k => XS.icmpYes X0.here hx rfl (pc0 := 160) (pc' := 169) rfl (hb hby d2_160) rfl (tlt (own_T1 (own_U1 hc84_12) (by decide) : p0 < (55296 : Int32))).1 (by decide) (by decide) k) ?_
                show own_Out p e below _ (s₁.setTop (mkF m 169 #[.val (.int p0), .unset] []))
                refine own_of (fun _ k => XS.iloadN X0.here hx rfl (hb hby d2_169) rfl k) ?_
                show own_Out p e below _ (s₁.setTop (mkF m 170 #[.val (.int p0), .unset] [(.int p0)]))
                refine own_of (X0.ldcInt hx hown (mvT hZ (hw _ (List.mem_of_getElem? (i := 13) rfl))) (g := (mkF m 170 #[.val (.int p0), .unset] [(.int p0)])) rfl (hb hby d2_170)) ?_
                show own_Out p e below _ (s₁.setTop (mkF m 172 #[.val (.int p0), .unset] [(.int (64976 : Int32)), (.int p0)]))
                refine own_of (fun _ k => XS.icmpYes X0.here hx rfl (pc0 := 172) (pc' := 181) rfl (hb hby d2_172) rfl (tlt (own_T1 (own_U1 hc84_12) (by decide) : p0 < (64976 : Int32))).1 (by decide) (by decide) k) ?_
                show own_Out p e below _ (s₁.setTop (mkF m 181 #[.val (.int p0), .unset] []))
                refine own_of (fun _ k => XS.iloadN X0.here hx rfl (hb hby d2_181) rfl k) ?_
                show own_Out p e below _ (s₁.setTop (mkF m 182 #[.val (.int p0), .unset] [(.int p0)]))
                refine own_of (X0.ldcInt hx hown (mvT hZ (hw _ (List.mem_of_getElem? (i := 14) rfl))) (g := (mkF m 182 #[.val (.int p0), .unset] [(.int p0)])) rfl (hb hby d2_182)) ?_
                show own_Out p e below _ (s₁.setTop (mkF m 184 #[.val (.int p0), .unset] [(.int (65534 : Int32)), (.int p0)]))
                refine own_of (fun _ k => XS.icmpYes X0.here hx rfl (pc0 := 184) (pc' := 197) rfl (hb hby d2_184) rfl (tlt (own_T1 (own_U1 hc84_12) (by decide) : p0 < (65534 : Int32))).1 (by decide) (by decide) k) ?_
                show own_Out p e below _ (s₁.setTop (mkF m 197 #[.val (.int p0), .unset] []))
                refine own_of (fun _ k => XS.iconst X0.here hx rfl (hb hby d2_197) k) ?_
                show own_Out p e below _ (s₁.setTop (mkF m 198 #[.val (.int p0), .unset] [(.int (0 : Int32))]))
                refine own_of (fun _ k => XS.istoreN X0.here hx rfl (hb hby d2_198) rfl (l' := #[.val (.int p0), .val (.int (0 : Int32))]) rfl k) ?_
                show own_Out p e below _ (s₁.setTop (mkF m 199 #[.val (.int p0), .val (.int (0 : Int32))] []))
                refine own_of (fun _ k => XS.iloadN X0.here hx rfl (hb hby d2_199) rfl k) ?_
                show own_Out p e below _ (s₁.setTop (mkF m 200 #[.val (.int p0), .val (.int (0 : Int32))] [(.int (0 : Int32))]))
                refine own_of (fun _ k => XS.ifNo X0.here hx rfl (hb hby d2_200) rfl ((if0 _ _).trans (teq (by decide : (0 : Int32) = (0 : Int32))).2) k) ?_
                show own_Out p e below _ (s₁.setTop (mkF m 203 #[.val (.int p0), .val (.int (0 : Int32))] []))
                refine own_of (fun _ k => XS.iconst X0.here hx rfl (hb hby d2_203) k) ?_
                show own_Out p e below _ (s₁.setTop (mkF m 204 #[.val (.int p0), .val (.int (0 : Int32))] [(.int (1 : Int32))]))
                refine own_of (fun _ k => XS.goto X0.here hx rfl (pc0 := 204) (pc' := 208) rfl (hb hby d2_204) (by decide) (by decide) k) ?_
                show own_Out p e below _ (s₁.setTop (mkF m 208 #[.val (.int p0), .val (.int (0 : Int32))] [(.int (1 : Int32))]))
                exact own_outN X0 hx hlk (t := .boolean) hret (by simp) (hb hby d2_208) (z' := (1 : Int32)) rfl (Q := Q2 Z p0 h0 n0) ⟨by simp only [f2, if_neg hc1_1, if_neg hc10_2, if_neg hc53_8, if_neg hc61_9, if_neg hc70_10, if_neg hc77_11, if_pos hc84_12], N0, e0⟩ (by decide) (by decide)
              · skip
                refine own_of (fun _ k => XS.icmpNo X0.here hx rfl (hb hby d2_84) rfl (flt hc84_12).1 k) ?_
                show own_Out p e below _ (s₁.setTop (mkF m 87 #[.val (.int p0), .unset] []))
                refine own_of (fun _ k => XS.iloadN X0.here hx rfl (hb hby d2_87) rfl k) ?_
                show own_Out p e below _ (s₁.setTop (mkF m 88 #[.val (.int p0), .unset] [(.int p0)]))
                refine own_of (fun _ k => XS.sipush X0.here hx rfl (hb hby d2_88) k) ?_
                show own_Out p e below _ (s₁.setTop (mkF m 91 #[.val (.int p0), .unset] [(.int (879 : Int32)), (.int p0)]))
                by_cases hc91_13 : (879 : Int32) < p0
                · skip
                  refine own_of (fun _ k => XS.icmpNo X0.here hx rfl (hb hby d2_91) rfl (tlt hc91_13).2.2.2 k) ?_
                  show own_Out p e below _ (s₁.setTop (mkF m 94 #[.val (.int p0), .unset] []))
                  refine own_of (fun _ k => XS.iloadN X0.here hx rfl (hb hby d2_94) rfl k) ?_
                  show own_Out p e below _ (s₁.setTop (mkF m 95 #[.val (.int p0), .unset] [(.int p0)]))
                  refine own_of (fun _ k => XS.sipush X0.here hx rfl (hb hby d2_95) k) ?_
                  show own_Out p e below _ (s₁.setTop (mkF m 98 #[.val (.int p0), .unset] [(.int (894 : Int32)), (.int p0)]))
                  by_cases hc98_14 : p0 = (894 : Int32)
                  · skip
                    refine own_of (fun _ k => XS.icmpYes X0.here hx rfl (pc0 := 98) (pc' := 193) rfl (hb hby d2_98) rfl (teq hc98_14).1 (by decide) (by decide) k) ?_
                    show own_Out p e below _ (s₁.setTop (mkF m 193 #[.val (.int p0), .unset] []))
                    refine own_of (fun _ k => XS.iconst X0.here hx rfl (hb hby d2_193) k) ?_
                    show own_Out p e below _ (s₁.setTop (mkF m 194 #[.val (.int p0), .unset] [(.int (1 : Int32))]))
                    refine own_of (fun _ k => XS.goto X0.here hx rfl (pc0 := 194) (pc' := 198) rfl (hb hby d2_194) (by decide) (by decide) k) ?_
                    show own_Out p e below _ (s₁.setTop (mkF m 198 #[.val (.int p0), .unset] [(.int (1 : Int32))]))
                    refine own_of (fun _ k => XS.istoreN X0.here hx rfl (hb hby d2_198) rfl (l' := #[.val (.int p0), .val (.int (1 : Int32))]) rfl k) ?_
                    show own_Out p e below _ (s₁.setTop (mkF m 199 #[.val (.int p0), .val (.int (1 : Int32))] []))
                    refine own_of (fun _ k => XS.iloadN X0.here hx rfl (hb hby d2_199) rfl k) ?_
                    show own_Out p e below _ (s₁.setTop (mkF m 200 #[.val (.int p0), .val (.int (1 : Int32))] [(.int (1 : Int32))]))
                    refine own_of (fun _ k => XS.ifYes X0.here hx rfl (pc0 := 200) (pc' := 207) rfl (hb hby d2_200) rfl ((if0 _ _).trans (feq (by decide : ¬ ((1 : Int32) = (0 : Int32)))).2) (by decide) (by decide) k) ?_
                    show own_Out p e below _ (s₁.setTop (mkF m 207 #[.val (.int p0), .val (.int (1 : Int32))] []))
                    refine own_of (fun _ k => XS.iconst X0.here hx rfl (hb hby d2_207) k) ?_
                    show own_Out p e below _ (s₁.setTop (mkF m 208 #[.val (.int p0), .val (.int (1 : Int32))] [(.int (0 : Int32))]))
                    exact own_outN X0 hx hlk (t := .boolean) hret (by simp) (hb hby d2_208) (z' := (0 : Int32)) rfl (Q := Q2 Z p0 h0 n0) ⟨by simp only [f2, if_neg hc1_1, if_neg hc10_2, if_neg hc53_8, if_neg hc61_9, if_neg hc70_10, if_neg hc77_11, if_neg hc84_12, if_pos hc91_13, if_pos hc98_14], N0, e0⟩ (by decide) (by decide)
                  · skip
                    refine own_of (fun _ k => XS.icmpNo X0.here hx rfl (hb hby d2_98) rfl (feq hc98_14).1 k) ?_
                    show own_Out p e below _ (s₁.setTop (mkF m 101 #[.val (.int p0), .unset] []))
                    refine own_of (fun _ k => XS.iloadN X0.here hx rfl (hb hby d2_101) rfl k) ?_
                    show own_Out p e below _ (s₁.setTop (mkF m 102 #[.val (.int p0), .unset] [(.int p0)]))
                    refine own_of (fun _ k => XS.sipush X0.here hx rfl (hb hby d2_102) k) ?_
                    show own_Out p e below _ (s₁.setTop (mkF m 105 #[.val (.int p0), .unset] [(.int (8192 : Int32)), (.int p0)]))
                    by_cases hc105_15 : p0 < (8192 : Int32)
                    · skip
                      refine own_of (fun _ k => XS.icmpYes X0.here hx rfl (pc0 := 105) (pc' := 115) rfl (hb hby d2_105) rfl (tlt hc105_15).1 (by decide) (by decide) k) ?_
                      show own_Out p e below _ (s₁.setTop (mkF m 115 #[.val (.int p0), .unset] []))
                      refine own_of (fun _ k => XS.iloadN X0.here hx rfl (hb hby d2_115) rfl k) ?_
                      show own_Out p e below _ (s₁.setTop (mkF m 116 #[.val (.int p0), .unset] [(.int p0)]))
                      refine own_of (fun _ k => XS.sipush X0.here hx rfl (hb hby d2_116) k) ?_
                      show own_Out p e below _ (s₁.setTop (mkF m 119 #[.val (.int p0), .unset] [(.int (8206 : Int32)), (.int p0)]))
                      refine own_of (fun _ k => XS.icmpYes X0.here hx rfl (pc0 := 119) (pc' := 129) rfl (hb hby d2_119) rfl (tlt (own_T1 (own_U1 hc105_15) (by decide) : p0 < (8206 : Int32))).1 (by decide) (by decide) k) ?_
                      show own_Out p e below _ (s₁.setTop (mkF m 129 #[.val (.int p0), .unset] []))
                      refine own_of (fun _ k => XS.iloadN X0.here hx rfl (hb hby d2_129) rfl k) ?_
                      show own_Out p e below _ (s₁.setTop (mkF m 130 #[.val (.int p0), .unset] [(.int p0)]))
                      refine own_of (fun _ k => XS.sipush X0.here hx rfl (hb hby d2_130) k) ?_
                      show own_Out p e below _ (s₁.setTop (mkF m 133 #[.val (.int p0), .unset] [(.int (8592 : Int32)), (.int p0)]))
                      refine own_of (fun _ k => XS.icmpYes X0.here hx rfl (pc0 := 133) (pc' := 143) rfl (hb hby d2_133) rfl (tlt (own_T1 (own_U1 hc105_15) (by decide) : p0 < (8592 : Int32))).1 (by decide) (by decide) k) ?_
                      show own_Out p e below _ (s₁.setTop (mkF m 143 #[.val (.int p0), .unset] []))
                      refine own_of (fun _ k => XS.iloadN X0.here hx rfl (hb hby d2_143) rfl k) ?_
                      show own_Out p e below _ (s₁.setTop (mkF m 144 #[.val (.int p0), .unset] [(.int p0)]))
                      refine own_of (fun _ k => XS.sipush X0.here hx rfl (hb hby d2_144) k) ?_
                      show own_Out p e below _ (s₁.setTop (mkF m 147 #[.val (.int p0), .unset] [(.int (12272 : Int32)), (.int p0)]))
                      refine own_of (fun _ k => XS.icmpYes X0.here hx rfl (pc0 := 147) (pc' := 157) rfl (hb hby d2_147) rfl (tlt (own_T1 (own_U1 hc105_15) (by decide) : p0 < (12272 : Int32))).1 (by decide) (by decide) k) ?_
                      show own_Out p e below _ (s₁.setTop (mkF m 157 #[.val (.int p0), .unset] []))
                      refine own_of (fun _ k => XS.iloadN X0.here hx rfl (hb hby d2_157) rfl k) ?_
                      show own_Out p e below _ (s₁.setTop (mkF m 158 #[.val (.int p0), .unset] [(.int p0)]))
                      refine own_of (X0.ldcInt hx hown (mvT hZ (hw _ (List.mem_of_getElem? (i := 12) rfl))) (g := (mkF m 158 #[.val (.int p0), .unset] [(.int p0)])) rfl (hb hby d2_158)) ?_
                      show own_Out p e below _ (s₁.setTop (mkF m 160 #[.val (.int p0), .unset] [(.int (55296 : Int32)), (.int p0)]))
                      refine own_of (fun _ k => XS.icmpYes X0.here hx rfl (pc0 := 160) (pc' := 169) rfl (hb hby d2_160) rfl (tlt (own_T1 (own_U1 hc105_15) (by decide) : p0 < (55296 : Int32))).1 (by decide) (by decide) k) ?_
                      show own_Out p e below _ (s₁.setTop (mkF m 169 #[.val (.int p0), .unset] []))
                      refine own_of (fun _ k => XS.iloadN X0.here hx rfl (hb hby d2_169) rfl k) ?_
                      show own_Out p e below _ (s₁.setTop (mkF m 170 #[.val (.int p0), .unset] [(.int p0)]))
                      refine own_of (X0.ldcInt hx hown (mvT hZ (hw _ (List.mem_of_getElem? (i := 13) rfl))) (g := (mkF m 170 #[.val (.int p0), .unset] [(.int p0)])) rfl (hb hby d2_170)) ?_
                      show own_Out p e below _ (s₁.setTop (mkF m 172 #[.val (.int p0), .unset] [(.int (64976 : Int32)), (.int p0)]))
                      refine own_of (fun _ k => XS.icmpYes X0.here hx rfl (pc0 := 172) (pc' := 181) rfl (hb hby d2_172) rfl (tlt (own_T1 (own_U1 hc105_15) (by decide) : p0 < (64976 : Int32))).1 (by decide) (by decide) k) ?_
                      show own_Out p e below _ (s₁.setTop (mkF m 181 #[.val (.int p0), .unset] []))
                      refine own_of (fun _ k => XS.iloadN X0.here hx rfl (hb hby d2_181) rfl k) ?_
                      show own_Out p e below _ (s₁.setTop (mkF m 182 #[.val (.int p0), .unset] [(.int p0)]))
                      refine own_of (X0.ldcInt hx hown (mvT hZ (hw _ (List.mem_of_getElem? (i := 14) rfl))) (g := (mkF m 182 #[.val (.int p0), .unset] [(.int p0)])) rfl (hb hby d2_182)) ?_
                      show own_Out p e below _ (s₁.setTop (mkF m 184 #[.val (.int p0), .unset] [(.int (65534 : Int32)), (.int p0)]))
                      refine own_of (fun _ k => XS.icmpYes X0.here hx rfl (pc0 := 184) (pc' := 197) rfl (hb hby d2_184) rfl (tlt (own_T1 (own_U1 hc105_15) (by decide) : p0 < (65534 : Int32))).1 (by decide) (by decide) k) ?_
                      show own_Out p e below _ (s₁.setTop (mkF m 197 #[.val (.int p0), .unset] []))
                      refine own_of (fun _ k => XS.iconst X0.here hx rfl (hb hby d2_197) k) ?_
                      show own_Out p e below _ (s₁.setTop (mkF m 198 #[.val (.int p0), .unset] [(.int (0 : Int32))]))
                      refine own_of (fun _ k => XS.istoreN X0.here hx rfl (hb hby d2_198) rfl (l' := #[.val (.int p0), .val (.int (0 : Int32))]) rfl k) ?_
                      show own_Out p e below _ (s₁.setTop (mkF m 199 #[.val (.int p0), .val (.int (0 : Int32))] []))
                      refine own_of (fun _ k => XS.iloadN X0.here hx rfl (hb hby d2_199) rfl k) ?_
                      show own_Out p e below _ (s₁.setTop (mkF m 200 #[.val (.int p0), .val (.int (0 : Int32))] [(.int (0 : Int32))]))
                      refine own_of (fun _ k => XS.ifNo X0.here hx rfl (hb hby d2_200) rfl ((if0 _ _).trans (teq (by decide : (0 : Int32) = (0 : Int32))).2) k) ?_
                      show own_Out p e below _ (s₁.setTop (mkF m 203 #[.val (.int p0), .val (.int (0 : Int32))] []))
                      refine own_of (fun _ k => XS.iconst X0.here hx rfl (hb hby d2_203) k) ?_
                      show own_Out p e below _ (s₁.setTop (mkF m 204 #[.val (.int p0), .val (.int (0 : Int32))] [(.int (1 : Int32))]))
                      refine own_of (fun _ k => XS.goto X0.here hx rfl (pc0 := 204) (pc' := 208) rfl (hb hby d2_204) (by decide) (by decide) k) ?_
                      show own_Out p e below _ (s₁.setTop (mkF m 208 #[.val (.int p0), .val (.int (0 : Int32))] [(.int (1 : Int32))]))
                      exact own_outN X0 hx hlk (t := .boolean) hret (by simp) (hb hby d2_208) (z' := (1 : Int32)) rfl (Q := Q2 Z p0 h0 n0) ⟨by simp only [f2, if_neg hc1_1, if_neg hc10_2, if_neg hc53_8, if_neg hc61_9, if_neg hc70_10, if_neg hc77_11, if_neg hc84_12, if_pos hc91_13, if_neg hc98_14, if_pos hc105_15], N0, e0⟩ (by decide) (by decide)
                    · skip
                      refine own_of (fun _ k => XS.icmpNo X0.here hx rfl (hb hby d2_105) rfl (flt hc105_15).1 k) ?_
                      show own_Out p e below _ (s₁.setTop (mkF m 108 #[.val (.int p0), .unset] []))
                      refine own_of (fun _ k => XS.iloadN X0.here hx rfl (hb hby d2_108) rfl k) ?_
                      show own_Out p e below _ (s₁.setTop (mkF m 109 #[.val (.int p0), .unset] [(.int p0)]))
                      refine own_of (fun _ k => XS.sipush X0.here hx rfl (hb hby d2_109) k) ?_
                      show own_Out p e below _ (s₁.setTop (mkF m 112 #[.val (.int p0), .unset] [(.int (8203 : Int32)), (.int p0)]))
                      by_cases hc112_16 : (8203 : Int32) < p0
                      · skip
                        refine own_of (fun _ k => XS.icmpNo X0.here hx rfl (hb hby d2_112) rfl (tlt hc112_16).2.2.2 k) ?_
                        show own_Out p e below _ (s₁.setTop (mkF m 115 #[.val (.int p0), .unset] []))
                        refine own_of (fun _ k => XS.iloadN X0.here hx rfl (hb hby d2_115) rfl k) ?_
                        show own_Out p e below _ (s₁.setTop (mkF m 116 #[.val (.int p0), .unset] [(.int p0)]))
                        refine own_of (fun _ k => XS.sipush X0.here hx rfl (hb hby d2_116) k) ?_
                        show own_Out p e below _ (s₁.setTop (mkF m 119 #[.val (.int p0), .unset] [(.int (8206 : Int32)), (.int p0)]))
                        by_cases hc119_17 : p0 < (8206 : Int32)
                        · skip
                          refine own_of (fun _ k => XS.icmpYes X0.here hx rfl (pc0 := 119) (pc' := 129) rfl (hb hby d2_119) rfl (tlt hc119_17).1 (by decide) (by decide) k) ?_
                          show own_Out p e below _ (s₁.setTop (mkF m 129 #[.val (.int p0), .unset] []))
                          refine own_of (fun _ k => XS.iloadN X0.here hx rfl (hb hby d2_129) rfl k) ?_
                          show own_Out p e below _ (s₁.setTop (mkF m 130 #[.val (.int p0), .unset] [(.int p0)]))
                          refine own_of (fun _ k => XS.sipush X0.here hx rfl (hb hby d2_130) k) ?_
                          show own_Out p e below _ (s₁.setTop (mkF m 133 #[.val (.int p0), .unset] [(.int (8592 : Int32)), (.int p0)]))
                          refine own_of (fun _ k => XS.icmpYes X0.here hx rfl (pc0 := 133) (pc' := 143) rfl (hb hby d2_133) rfl (tlt (own_T1 (own_U1 hc119_17) (by decide) : p0 < (8592 : Int32))).1 (by decide) (by decide) k) ?_
                          show own_Out p e below _ (s₁.setTop (mkF m 143 #[.val (.int p0), .unset] []))
                          refine own_of (fun _ k => XS.iloadN X0.here hx rfl (hb hby d2_143) rfl k) ?_
                          show own_Out p e below _ (s₁.setTop (mkF m 144 #[.val (.int p0), .unset] [(.int p0)]))
                          refine own_of (fun _ k => XS.sipush X0.here hx rfl (hb hby d2_144) k) ?_
                          show own_Out p e below _ (s₁.setTop (mkF m 147 #[.val (.int p0), .unset] [(.int (12272 : Int32)), (.int p0)]))
                          refine own_of (fun _ k => XS.icmpYes X0.here hx rfl (pc0 := 147) (pc' := 157) rfl (hb hby d2_147) rfl (tlt (own_T1 (own_U1 hc119_17) (by decide) : p0 < (12272 : Int32))).1 (by decide) (by decide) k) ?_
                          show own_Out p e below _ (s₁.setTop (mkF m 157 #[.val (.int p0), .unset] []))
                          refine own_of (fun _ k => XS.iloadN X0.here hx rfl (hb hby d2_157) rfl k) ?_
                          show own_Out p e below _ (s₁.setTop (mkF m 158 #[.val (.int p0), .unset] [(.int p0)]))
                          refine own_of (X0.ldcInt hx hown (mvT hZ (hw _ (List.mem_of_getElem? (i := 12) rfl))) (g := (mkF m 158 #[.val (.int p0), .unset] [(.int p0)])) rfl (hb hby d2_158)) ?_
                          show own_Out p e below _ (s₁.setTop (mkF m 160 #[.val (.int p0), .unset] [(.int (55296 : Int32)), (.int p0)]))
                          refine own_of (fun _ k => XS.icmpYes X0.here hx rfl (pc0 := 160) (pc' := 169) rfl (hb hby d2_160) rfl (tlt (own_T1 (own_U1 hc119_17) (by decide) : p0 < (55296 : Int32))).1 (by decide) (by decide) k) ?_
                          show own_Out p e below _ (s₁.setTop (mkF m 169 #[.val (.int p0), .unset] []))
                          refine own_of (fun _ k => XS.iloadN X0.here hx rfl (hb hby d2_169) rfl k) ?_
                          show own_Out p e below _ (s₁.setTop (mkF m 170 #[.val (.int p0), .unset] [(.int p0)]))
                          refine own_of (X0.ldcInt hx hown (mvT hZ (hw _ (List.mem_of_getElem? (i := 13) rfl))) (g := (mkF m 170 #[.val (.int p0), .unset] [(.int p0)])) rfl (hb hby d2_170)) ?_
                          show own_Out p e below _ (s₁.setTop (mkF m 172 #[.val (.int p0), .unset] [(.int (64976 : Int32)), (.int p0)]))
                          refine own_of (fun _ k => XS.icmpYes X0.here hx rfl (pc0 := 172) (pc' := 181) rfl (hb hby d2_172) rfl (tlt (own_T1 (own_U1 hc119_17) (by decide) : p0 < (64976 : Int32))).1 (by decide) (by decide) k) ?_
                          show own_Out p e below _ (s₁.setTop (mkF m 181 #[.val (.int p0), .unset] []))
                          refine own_of (fun _ k => XS.iloadN X0.here hx rfl (hb hby d2_181) rfl k) ?_
                          show own_Out p e below _ (s₁.setTop (mkF m 182 #[.val (.int p0), .unset] [(.int p0)]))
                          refine own_of (X0.ldcInt hx hown (mvT hZ (hw _ (List.mem_of_getElem? (i := 14) rfl))) (g := (mkF m 182 #[.val (.int p0), .unset] [(.int p0)])) rfl (hb hby d2_182)) ?_
                          show own_Out p e below _ (s₁.setTop (mkF m 184 #[.val (.int p0), .unset] [(.int (65534 : Int32)), (.int p0)]))
                          refine own_of (fun _ k => XS.icmpYes X0.here hx rfl (pc0 := 184) (pc' := 197) rfl (hb hby d2_184) rfl (tlt (own_T1 (own_U1 hc119_17) (by decide) : p0 < (65534 : Int32))).1 (by decide) (by decide) k) ?_
                          show own_Out p e below _ (s₁.setTop (mkF m 197 #[.val (.int p0), .unset] []))
                          refine own_of (fun _ k => XS.iconst X0.here hx rfl (hb hby d2_197) k) ?_
                          show own_Out p e below _ (s₁.setTop (mkF m 198 #[.val (.int p0), .unset] [(.int (0 : Int32))]))
                          refine own_of (fun _ k => XS.istoreN X0.here hx rfl (hb hby d2_198) rfl (l' := #[.val (.int p0), .val (.int (0 : Int32))]) rfl k) ?_
                          show own_Out p e below _ (s₁.setTop (mkF m 199 #[.val (.int p0), .val (.int (0 : Int32))] []))
                          refine own_of (fun _ k => XS.iloadN X0.here hx rfl (hb hby d2_199) rfl k) ?_
                          show own_Out p e below _ (s₁.setTop (mkF m 200 #[.val (.int p0), .val (.int (0 : Int32))] [(.int (0 : Int32))]))
                          refine own_of (fun _ k => XS.ifNo X0.here hx rfl (hb hby d2_200) rfl ((if0 _ _).trans (teq (by decide : (0 : Int32) = (0 : Int32))).2) k) ?_
                          show own_Out p e below _ (s₁.setTop (mkF m 203 #[.val (.int p0), .val (.int (0 : Int32))] []))
                          refine own_of (fun _ k => XS.iconst X0.here hx rfl (hb hby d2_203) k) ?_
                          show own_Out p e below _ (s₁.setTop (mkF m 204 #[.val (.int p0), .val (.int (0 : Int32))] [(.int (1 : Int32))]))
                          refine own_of (fun _ k => XS.goto X0.here hx rfl (pc0 := 204) (pc' := 208) rfl (hb hby d2_204) (by decide) (by decide) k) ?_
                          show own_Out p e below _ (s₁.setTop (mkF m 208 #[.val (.int p0), .val (.int (0 : Int32))] [(.int (1 : Int32))]))
                          exact own_outN X0 hx hlk (t := .boolean) hret (by simp) (hb hby d2_208) (z' := (1 : Int32)) rfl (Q := Q2 Z p0 h0 n0) ⟨by simp only [f2, if_neg hc1_1, if_neg hc10_2, if_neg hc53_8, if_neg hc61_9, if_neg hc70_10, if_neg hc77_11, if_neg hc84_12, if_pos hc91_13, if_neg hc98_14, if_neg hc105_15, if_pos hc112_16, if_pos hc119_17], N0, e0⟩ (by decide) (by decide)
                        · skip
                          refine own_of (fun _ k => XS.icmpNo X0.here hx rfl (hb hby d2_119) rfl (flt hc119_17).1 k) ?_
                          show own_Out p e below _ (s₁.setTop (mkF m 122 #[.val (.int p0), .unset] []))
                          refine own_of (fun _ k => XS.iloadN X0.here hx rfl (hb hby d2_122) rfl k) ?_
                          show own_Out p e below _ (s₁.setTop (mkF m 123 #[.val (.int p0), .unset] [(.int p0)]))
                          refine own_of (fun _ k => XS.sipush X0.here hx rfl (hb hby d2_123) k) ?_
                          show own_Out p e below _ (s₁.setTop (mkF m 126 #[.val (.int p0), .unset] [(.int (8303 : Int32)), (.int p0)]))
                          by_cases hc126_18 : (8303 : Int32) < p0
                          · skip
                            refine own_of (fun _ k => XS.icmpNo X0.here hx rfl (hb hby d2_126) rfl (tlt hc126_18).2.2.2 k) ?_
                            show own_Out p e below _ (s₁.setTop (mkF m 129 #[.val (.int p0), .unset] []))
                            refine own_of (fun _ k => XS.iloadN X0.here hx rfl (hb hby d2_129) rfl k) ?_
                            show own_Out p e below _ (s₁.setTop (mkF m 130 #[.val (.int p0), .unset] [(.int p0)]))
                            refine own_of (fun _ k => XS.sipush X0.here hx rfl (hb hby d2_130) k) ?_
                            show own_Out p e below _ (s₁.setTop (mkF m 133 #[.val (.int p0), .unset] [(.int (8592 : Int32)), (.int p0)]))
                            by_cases hc133_19 : p0 < (8592 : Int32)
                            · skip
                              refine own_of (fun _ k => XS.icmpYes X0.here hx rfl (pc0 := 133) (pc' := 143) rfl (hb hby d2_133) rfl (tlt hc133_19).1 (by decide) (by decide) k) ?_
                              show own_Out p e below _ (s₁.setTop (mkF m 143 #[.val (.int p0), .unset] []))
                              refine own_of (fun _ k => XS.iloadN X0.here hx rfl (hb hby d2_143) rfl k) ?_
                              show own_Out p e below _ (s₁.setTop (mkF m 144 #[.val (.int p0), .unset] [(.int p0)]))
                              refine own_of (fun _ k => XS.sipush X0.here hx rfl (hb hby d2_144) k) ?_
                              show own_Out p e below _ (s₁.setTop (mkF m 147 #[.val (.int p0), .unset] [(.int (12272 : Int32)), (.int p0)]))
                              refine own_of (fun _ k => XS.icmpYes X0.here hx rfl (pc0 := 147) (pc' := 157) rfl (hb hby d2_147) rfl (tlt (own_T1 (own_U1 hc133_19) (by decide) : p0 < (12272 : Int32))).1 (by decide) (by decide) k) ?_
                              show own_Out p e below _ (s₁.setTop (mkF m 157 #[.val (.int p0), .unset] []))
                              refine own_of (fun _ k => XS.iloadN X0.here hx rfl (hb hby d2_157) rfl k) ?_
                              show own_Out p e below _ (s₁.setTop (mkF m 158 #[.val (.int p0), .unset] [(.int p0)]))
                              refine own_of (X0.ldcInt hx hown (mvT hZ (hw _ (List.mem_of_getElem? (i := 12) rfl))) (g := (mkF m 158 #[.val (.int p0), .unset] [(.int p0)])) rfl (hb hby d2_158)) ?_
                              show own_Out p e below _ (s₁.setTop (mkF m 160 #[.val (.int p0), .unset] [(.int (55296 : Int32)), (.int p0)]))
                              refine own_of (fun _ k => XS.icmpYes X0.here hx rfl (pc0 := 160) (pc' := 169) rfl (hb hby d2_160) rfl (tlt (own_T1 (own_U1 hc133_19) (by decide) : p0 < (55296 : Int32))).1 (by decide) (by decide) k) ?_
                              show own_Out p e below _ (s₁.setTop (mkF m 169 #[.val (.int p0), .unset] []))
                              refine own_of (fun _ k => XS.iloadN X0.here hx rfl (hb hby d2_169) rfl k) ?_
                              show own_Out p e below _ (s₁.setTop (mkF m 170 #[.val (.int p0), .unset] [(.int p0)]))
                              refine own_of (X0.ldcInt hx hown (mvT hZ (hw _ (List.mem_of_getElem? (i := 13) rfl))) (g := (mkF m 170 #[.val (.int p0), .unset] [(.int p0)])) rfl (hb hby d2_170)) ?_
                              show own_Out p e below _ (s₁.setTop (mkF m 172 #[.val (.int p0), .unset] [(.int (64976 : Int32)), (.int p0)]))
                              refine own_of (fun _ k => XS.icmpYes X0.here hx rfl (pc0 := 172) (pc' := 181) rfl (hb hby d2_172) rfl (tlt (own_T1 (own_U1 hc133_19) (by decide) : p0 < (64976 : Int32))).1 (by decide) (by decide) k) ?_
                              show own_Out p e below _ (s₁.setTop (mkF m 181 #[.val (.int p0), .unset] []))
                              refine own_of (fun _ k => XS.iloadN X0.here hx rfl (hb hby d2_181) rfl k) ?_
                              show own_Out p e below _ (s₁.setTop (mkF m 182 #[.val (.int p0), .unset] [(.int p0)]))
                              refine own_of (X0.ldcInt hx hown (mvT hZ (hw _ (List.mem_of_getElem? (i := 14) rfl))) (g := (mkF m 182 #[.val (.int p0), .unset] [(.int p0)])) rfl (hb hby d2_182)) ?_
                              show own_Out p e below _ (s₁.setTop (mkF m 184 #[.val (.int p0), .unset] [(.int (65534 : Int32)), (.int p0)]))
                              refine own_of (fun _ k => XS.icmpYes X0.here hx rfl (pc0 := 184) (pc' := 197) rfl (hb hby d2_184) rfl (tlt (own_T1 (own_U1 hc133_19) (by decide) : p0 < (65534 : Int32))).1 (by decide) (by decide) k) ?_
                              show own_Out p e below _ (s₁.setTop (mkF m 197 #[.val (.int p0), .unset] []))
                              refine own_of (fun _ k => XS.iconst X0.here hx rfl (hb hby d2_197) k) ?_
                              show own_Out p e below _ (s₁.setTop (mkF m 198 #[.val (.int p0), .unset] [(.int (0 : Int32))]))
                              refine own_of (fun _ k => XS.istoreN X0.here hx rfl (hb hby d2_198) rfl (l' := #[.val (.int p0), .val (.int (0 : Int32))]) rfl k) ?_
                              show own_Out p e below _ (s₁.setTop (mkF m 199 #[.val (.int p0), .val (.int (0 : Int32))] []))
                              refine own_of (fun _ k => XS.iloadN X0.here hx rfl (hb hby d2_199) rfl k) ?_
                              show own_Out p e below _ (s₁.setTop (mkF m 200 #[.val (.int p0), .val (.int (0 : Int32))] [(.int (0 : Int32))]))
                              refine own_of (fun _ k => XS.ifNo X0.here hx rfl (hb hby d2_200) rfl ((if0 _ _).trans (teq (by decide : (0 : Int32) = (0 : Int32))).2) k) ?_
                              show own_Out p e below _ (s₁.setTop (mkF m 203 #[.val (.int p0), .val (.int (0 : Int32))] []))
                              refine own_of (fun _ k => XS.iconst X0.here hx rfl (hb hby d2_203) k) ?_
                              show own_Out p e below _ (s₁.setTop (mkF m 204 #[.val (.int p0), .val (.int (0 : Int32))] [(.int (1 : Int32))]))
                              refine own_of (fun _ k => XS.goto X0.here hx rfl (pc0 := 204) (pc' := 208) rfl (hb hby d2_204) (by decide) (by decide) k) ?_
                              show own_Out p e below _ (s₁.setTop (mkF m 208 #[.val (.int p0), .val (.int (0 : Int32))] [(.int (1 : Int32))]))
                              exact own_outN X0 hx hlk (t := .boolean) hret (by simp) (hb hby d2_208) (z' := (1 : Int32)) rfl (Q := Q2 Z p0 h0 n0) ⟨by simp only [f2, if_neg hc1_1, if_neg hc10_2, if_neg hc53_8, if_neg hc61_9, if_neg hc70_10, if_neg hc77_11, if_neg hc84_12, if_pos hc91_13, if_neg hc98_14, if_neg hc105_15, if_pos hc112_16, if_neg hc119_17, if_pos hc126_18, if_pos hc133_19], N0, e0⟩ (by decide) (by decide)
                            · skip
                              refine own_of (fun _ k => XS.icmpNo X0.here hx rfl (hb hby d2_133) rfl (flt hc133_19).1 k) ?_
                              show own_Out p e below _ (s₁.setTop (mkF m 136 #[.val (.int p0), .unset] []))
                              refine own_of (fun _ k => XS.iloadN X0.here hx rfl (hb hby d2_136) rfl k) ?_
                              show own_Out p e below _ (s₁.setTop (mkF m 137 #[.val (.int p0), .unset] [(.int p0)]))
                              refine own_of (fun _ k => XS.sipush X0.here hx rfl (hb hby d2_137) k) ?_
                              show own_Out p e below _ (s₁.setTop (mkF m 140 #[.val (.int p0), .unset] [(.int (11263 : Int32)), (.int p0)]))
                              by_cases hc140_20 : (11263 : Int32) < p0
                              · skip
                                refine own_of (fun _ k => XS.icmpNo X0.here hx rfl (hb hby d2_140) rfl (tlt hc140_20).2.2.2 k) ?_
                                show own_Out p e below _ (s₁.setTop (mkF m 143 #[.val (.int p0), .unset] []))
                                refine own_of (fun _ k => XS.iloadN X0.here hx rfl (hb hby d2_143) rfl k) ?_
                                show own_Out p e below _ (s₁.setTop (mkF m 144 #[.val (.int p0), .unset] [(.int p0)]))
                                refine own_of (fun _ k => XS.sipush X0.here hx rfl (hb hby d2_144) k) ?_
                                show own_Out p e below _ (s₁.setTop (mkF m 147 #[.val (.int p0), .unset] [(.int (12272 : Int32)), (.int p0)]))
                                by_cases hc147_21 : p0 < (12272 : Int32)
                                · skip
                                  refine own_of (fun _ k => XS.icmpYes X0.here hx rfl (pc0 := 147) (pc' := 157) rfl (hb hby d2_147) rfl (tlt hc147_21).1 (by decide) (by decide) k) ?_
                                  show own_Out p e below _ (s₁.setTop (mkF m 157 #[.val (.int p0), .unset] []))
                                  refine own_of (fun _ k => XS.iloadN X0.here hx rfl (hb hby d2_157) rfl k) ?_
                                  show own_Out p e below _ (s₁.setTop (mkF m 158 #[.val (.int p0), .unset] [(.int p0)]))
                                  refine own_of (X0.ldcInt hx hown (mvT hZ (hw _ (List.mem_of_getElem? (i := 12) rfl))) (g := (mkF m 158 #[.val (.int p0), .unset] [(.int p0)])) rfl (hb hby d2_158)) ?_
                                  show own_Out p e below _ (s₁.setTop (mkF m 160 #[.val (.int p0), .unset] [(.int (55296 : Int32)), (.int p0)]))
                                  refine own_of (fun _ k => XS.icmpYes X0.here hx rfl (pc0 := 160) (pc' := 169) rfl (hb hby d2_160) rfl (tlt (own_T1 (own_U1 hc147_21) (by decide) : p0 < (55296 : Int32))).1 (by decide) (by decide) k) ?_
                                  show own_Out p e below _ (s₁.setTop (mkF m 169 #[.val (.int p0), .unset] []))
                                  refine own_of (fun _ k => XS.iloadN X0.here hx rfl (hb hby d2_169) rfl k) ?_
                                  show own_Out p e below _ (s₁.setTop (mkF m 170 #[.val (.int p0), .unset] [(.int p0)]))
                                  refine own_of (X0.ldcInt hx hown (mvT hZ (hw _ (List.mem_of_getElem? (i := 13) rfl))) (g := (mkF m 170 #[.val (.int p0), .unset] [(.int p0)])) rfl (hb hby d2_170)) ?_
                                  show own_Out p e below _ (s₁.setTop (mkF m 172 #[.val (.int p0), .unset] [(.int (64976 : Int32)), (.int p0)]))
                                  refine own_of (fun _ k => XS.icmpYes X0.here hx rfl (pc0 := 172) (pc' := 181) rfl (hb hby d2_172) rfl (tlt (own_T1 (own_U1 hc147_21) (by decide) : p0 < (64976 : Int32))).1 (by decide) (by decide) k) ?_
                                  show own_Out p e below _ (s₁.setTop (mkF m 181 #[.val (.int p0), .unset] []))
                                  refine own_of (fun _ k => XS.iloadN X0.here hx rfl (hb hby d2_181) rfl k) ?_
                                  show own_Out p e below _ (s₁.setTop (mkF m 182 #[.val (.int p0), .unset] [(.int p0)]))
                                  refine own_of (X0.ldcInt hx hown (mvT hZ (hw _ (List.mem_of_getElem? (i := 14) rfl))) (g := (mkF m 182 #[.val (.int p0), .unset] [(.int p0)])) rfl (hb hby d2_182)) ?_
                                  show own_Out p e below _ (s₁.setTop (mkF m 184 #[.val (.int p0), .unset] [(.int (65534 : Int32)), (.int p0)]))
                                  refine own_of (fun _ k => XS.icmpYes X0.here hx rfl (pc0 := 184) (pc' := 197) rfl (hb hby d2_184) rfl (tlt (own_T1 (own_U1 hc147_21) (by decide) : p0 < (65534 : Int32))).1 (by decide) (by decide) k) ?_
                                  show own_Out p e below _ (s₁.setTop (mkF m 197 #[.val (.int p0), .unset] []))
                                  refine own_of (fun _ k => XS.iconst X0.here hx rfl (hb hby d2_197) k) ?_
                                  show own_Out p e below _ (s₁.setTop (mkF m 198 #[.val (.int p0), .unset] [(.int (0 : Int32))]))
                                  refine own_of (fun _ k => XS.istoreN X0.here hx rfl (hb hby d2_198) rfl (l' := #[.val (.int p0), .val (.int (0 : Int32))]) rfl k) ?_
                                  show own_Out p e below _ (s₁.setTop (mkF m 199 #[.val (.int p0), .val (.int (0 : Int32))] []))
                                  refine own_of (fun _ k => XS.iloadN X0.here hx rfl (hb hby d2_199) rfl k) ?_
                                  show own_Out p e below _ (s₁.setTop (mkF m 200 #[.val (.int p0), .val (.int (0 : Int32))] [(.int (0 : Int32))]))
                                  refine own_of (fun _ k => XS.ifNo X0.here hx rfl (hb hby d2_200) rfl ((if0 _ _).trans (teq (by decide : (0 : Int32) = (0 : Int32))).2) k) ?_
                                  show own_Out p e below _ (s₁.setTop (mkF m 203 #[.val (.int p0), .val (.int (0 : Int32))] []))
                                  refine own_of (fun _ k => XS.iconst X0.here hx rfl (hb hby d2_203) k) ?_
                                  show own_Out p e below _ (s₁.setTop (mkF m 204 #[.val (.int p0), .val (.int (0 : Int32))] [(.int (1 : Int32))]))
                                  refine own_of (fun _ k => XS.goto X0.here hx rfl (pc0 := 204) (pc' := 208) rfl (hb hby d2_204) (by decide) (by decide) k) ?_
                                  show own_Out p e below _ (s₁.setTop (mkF m 208 #[.val (.int p0), .val (.int (0 : Int32))] [(.int (1 : Int32))]))
                                  exact own_outN X0 hx hlk (t := .boolean) hret (by simp) (hb hby d2_208) (z' := (1 : Int32)) rfl (Q := Q2 Z p0 h0 n0) ⟨by simp only [f2, if_neg hc1_1, if_neg hc10_2, if_neg hc53_8, if_neg hc61_9, if_neg hc70_10, if_neg hc77_11, if_neg hc84_12, if_pos hc91_13, if_neg hc98_14, if_neg hc105_15, if_pos hc112_16, if_neg hc119_17, if_pos hc126_18, if_neg hc133_19, if_pos hc140_20, if_pos hc147_21], N0, e0⟩ (by decide) (by decide)
                                · skip
                                  refine own_of (fun _ k => XS.icmpNo X0.here hx rfl (hb hby d2_147) rfl (flt hc147_21).1 k) ?_
                                  show own_Out p e below _ (s₁.setTop (mkF m 150 #[.val (.int p0), .unset] []))
                                  refine own_of (fun _ k => XS.iloadN X0.here hx rfl (hb hby d2_150) rfl k) ?_
                                  show own_Out p e below _ (s₁.setTop (mkF m 151 #[.val (.int p0), .unset] [(.int p0)]))
                                  refine own_of (fun _ k => XS.sipush X0.here hx rfl (hb hby d2_151) k) ?_
                                  show own_Out p e below _ (s₁.setTop (mkF m 154 #[.val (.int p0), .unset] [(.int (12288 : Int32)), (.int p0)]))
                                  by_cases hc154_22 : (12288 : Int32) < p0
                                  · skip
                                    refine own_of (fun _ k => XS.icmpNo X0.here hx rfl (hb hby d2_154) rfl (tlt hc154_22).2.2.2 k) ?_
                                    show own_Out p e below _ (s₁.setTop (mkF m 157 #[.val (.int p0), .unset] []))
                                    refine own_of (fun _ k => XS.iloadN X0.here hx rfl (hb hby d2_157) rfl k) ?_
                                    show own_Out p e below _ (s₁.setTop (mkF m 158 #[.val (.int p0), .unset] [(.int p0)]))
                                    refine own_of (X0.ldcInt hx hown (mvT hZ (hw _ (List.mem_of_getElem? (i := 12) rfl))) (g := (mkF m 158 #[.val (.int p0), .unset] [(.int p0)])) rfl (hb hby d2_158)) ?_
                                    show own_Out p e below _ (s₁.setTop (mkF m 160 #[.val (.int p0), .unset] [(.int (55296 : Int32)), (.int p0)]))
                                    by_cases hc160_23 : p0 < (55296 : Int32)
                                    · skip
                                      refine own_of (fun _ k => XS.icmpYes X0.here hx rfl (pc0 := 160) (pc' := 169) rfl (hb hby d2_160) rfl (tlt hc160_23).1 (by decide) (by decide) k) ?_
                                      show own_Out p e below _ (s₁.setTop (mkF m 169 #[.val (.int p0), .unset] []))
                                      refine own_of (fun _ k => XS.iloadN X0.here hx rfl (hb hby d2_169) rfl k) ?_
                                      show own_Out p e below _ (s₁.setTop (mkF m 170 #[.val (.int p0), .unset] [(.int p0)]))
                                      refine own_of (X0.ldcInt hx hown (mvT hZ (hw _ (List.mem_of_getElem? (i := 13) rfl))) (g := (mkF m 170 #[.val (.int p0), .unset] [(.int p0)])) rfl (hb hby d2_170)) ?_
                                      show own_Out p e below _ (s₁.setTop (mkF m 172 #[.val (.int p0), .unset] [(.int (64976 : Int32)), (.int p0)]))
                                      refine own_of (fun _ k => XS.icmpYes X0.here hx rfl (pc0 := 172) (pc' := 181) rfl (hb hby d2_172) rfl (tlt (own_T1 (own_U1 hc160_23) (by decide) : p0 < (64976 : Int32))).1 (by decide) (by decide) k) ?_
                                      show own_Out p e below _ (s₁.setTop (mkF m 181 #[.val (.int p0), .unset] []))
                                      refine own_of (fun _ k => XS.iloadN X0.here hx rfl (hb hby d2_181) rfl k) ?_
                                      show own_Out p e below _ (s₁.setTop (mkF m 182 #[.val (.int p0), .unset] [(.int p0)]))
                                      refine own_of (X0.ldcInt hx hown (mvT hZ (hw _ (List.mem_of_getElem? (i := 14) rfl))) (g := (mkF m 182 #[.val (.int p0), .unset] [(.int p0)])) rfl (hb hby d2_182)) ?_
                                      show own_Out p e below _ (s₁.setTop (mkF m 184 #[.val (.int p0), .unset] [(.int (65534 : Int32)), (.int p0)]))
                                      refine own_of (fun _ k => XS.icmpYes X0.here hx rfl (pc0 := 184) (pc' := 197) rfl (hb hby d2_184) rfl (tlt (own_T1 (own_U1 hc160_23) (by decide) : p0 < (65534 : Int32))).1 (by decide) (by decide) k) ?_
                                      show own_Out p e below _ (s₁.setTop (mkF m 197 #[.val (.int p0), .unset] []))
                                      refine own_of (fun _ k => XS.iconst X0.here hx rfl (hb hby d2_197) k) ?_
                                      show own_Out p e below _ (s₁.setTop (mkF m 198 #[.val (.int p0), .unset] [(.int (0 : Int32))]))
                                      refine own_of (fun _ k => XS.istoreN X0.here hx rfl (hb hby d2_198) rfl (l' := #[.val (.int p0), .val (.int (0 : Int32))]) rfl k) ?_
                                      show own_Out p e below _ (s₁.setTop (mkF m 199 #[.val (.int p0), .val (.int (0 : Int32))] []))
                                      refine own_of (fun _ k => XS.iloadN X0.here hx rfl (hb hby d2_199) rfl k) ?_
                                      show own_Out p e below _ (s₁.setTop (mkF m 200 #[.val (.int p0), .val (.int (0 : Int32))] [(.int (0 : Int32))]))
                                      refine own_of (fun _ k => XS.ifNo X0.here hx rfl (hb hby d2_200) rfl ((if0 _ _).trans (teq (by decide : (0 : Int32) = (0 : Int32))).2) k) ?_
                                      show own_Out p e below _ (s₁.setTop (mkF m 203 #[.val (.int p0), .val (.int (0 : Int32))] []))
                                      refine own_of (fun _ k => XS.iconst X0.here hx rfl (hb hby d2_203) k) ?_
                                      show own_Out p e below _ (s₁.setTop (mkF m 204 #[.val (.int p0), .val (.int (0 : Int32))] [(.int (1 : Int32))]))
                                      refine own_of (fun _ k => XS.goto X0.here hx rfl (pc0 := 204) (pc' := 208) rfl (hb hby d2_204) (by decide) (by decide) k) ?_
                                      show own_Out p e below _ (s₁.setTop (mkF m 208 #[.val (.int p0), .val (.int (0 : Int32))] [(.int (1 : Int32))]))
                                      exact own_outN X0 hx hlk (t := .boolean) hret (by simp) (hb hby d2_208) (z' := (1 : Int32)) rfl (Q := Q2 Z p0 h0 n0) ⟨by simp only [f2, if_neg hc1_1, if_neg hc10_2, if_neg hc53_8, if_neg hc61_9, if_neg hc70_10, if_neg hc77_11, if_neg hc84_12, if_pos hc91_13, if_neg hc98_14, if_neg hc105_15, if_pos hc112_16, if_neg hc119_17, if_pos hc126_18, if_neg hc133_19, if_pos hc140_20, if_neg hc147_21, if_pos hc154_22, if_pos hc160_23], N0, e0⟩ (by decide) (by decide)
                                    · skip
                                      refine own_of (fun _ k => XS.icmpNo X0.here hx rfl (hb hby d2_160) rfl (flt hc160_23).1 k) ?_
                                      show own_Out p e below _ (s₁.setTop (mkF m 163 #[.val (.int p0), .unset] []))
                                      refine own_of (fun _ k => XS.iloadN X0.here hx rfl (hb hby d2_163) rfl k) ?_
                                      show own_Out p e below _ (s₁.setTop (mkF m 164 #[.val (.int p0), .unset] [(.int p0)]))
                                      refine own_of (X0.ldcInt hx hown (mvT hZ (hw _ (List.mem_of_getElem? (i := 23) rfl))) (g := (mkF m 164 #[.val (.int p0), .unset] [(.int p0)])) rfl (hb hby d2_164)) ?_
                                      show own_Out p e below _ (s₁.setTop (mkF m 166 #[.val (.int p0), .unset] [(.int (63743 : Int32)), (.int p0)]))
                                      by_cases hc166_24 : (63743 : Int32) < p0
                                      · skip
                                        refine own_of (fun _ k => XS.icmpNo X0.here hx rfl (hb hby d2_166) rfl (tlt hc166_24).2.2.2 k) ?_
                                        show own_Out p e below _ (s₁.setTop (mkF m 169 #[.val (.int p0), .unset] []))
                                        refine own_of (fun _ k => XS.iloadN X0.here hx rfl (hb hby d2_169) rfl k) ?_
                                        show own_Out p e below _ (s₁.setTop (mkF m 170 #[.val (.int p0), .unset] [(.int p0)]))
                                        refine own_of (X0.ldcInt hx hown (mvT hZ (hw _ (List.mem_of_getElem? (i := 13) rfl))) (g := (mkF m 170 #[.val (.int p0), .unset] [(.int p0)])) rfl (hb hby d2_170)) ?_
                                        show own_Out p e below _ (s₁.setTop (mkF m 172 #[.val (.int p0), .unset] [(.int (64976 : Int32)), (.int p0)]))
                                        by_cases hc172_25 : p0 < (64976 : Int32)
                                        · skip
                                          refine own_of (fun _ k => XS.icmpYes X0.here hx rfl (pc0 := 172) (pc' := 181) rfl (hb hby d2_172) rfl (tlt hc172_25).1 (by decide) (by decide) k) ?_
                                          show own_Out p e below _ (s₁.setTop (mkF m 181 #[.val (.int p0), .unset] []))
                                          refine own_of (fun _ k => XS.iloadN X0.here hx rfl (hb hby d2_181) rfl k) ?_
                                          show own_Out p e below _ (s₁.setTop (mkF m 182 #[.val (.int p0), .unset] [(.int p0)]))
                                          refine own_of (X0.ldcInt hx hown (mvT hZ (hw _ (List.mem_of_getElem? (i := 14) rfl))) (g := (mkF m 182 #[.val (.int p0), .unset] [(.int p0)])) rfl (hb hby d2_182)) ?_
                                          show own_Out p e below _ (s₁.setTop (mkF m 184 #[.val (.int p0), .unset] [(.int (65534 : Int32)), (.int p0)]))
                                          refine own_of (fun _ k => XS.icmpYes X0.here hx rfl (pc0 := 184) (pc' := 197) rfl (hb hby d2_184) rfl (tlt (own_T1 (own_U1 hc172_25) (by decide) : p0 < (65534 : Int32))).1 (by decide) (by decide) k) ?_
                                          show own_Out p e below _ (s₁.setTop (mkF m 197 #[.val (.int p0), .unset] []))
                                          refine own_of (fun _ k => XS.iconst X0.here hx rfl (hb hby d2_197) k) ?_
                                          show own_Out p e below _ (s₁.setTop (mkF m 198 #[.val (.int p0), .unset] [(.int (0 : Int32))]))
                                          refine own_of (fun _ k => XS.istoreN X0.here hx rfl (hb hby d2_198) rfl (l' := #[.val (.int p0), .val (.int (0 : Int32))]) rfl k) ?_
                                          show own_Out p e below _ (s₁.setTop (mkF m 199 #[.val (.int p0), .val (.int (0 : Int32))] []))
                                          refine own_of (fun _ k => XS.iloadN X0.here hx rfl (hb hby d2_199) rfl k) ?_
                                          show own_Out p e below _ (s₁.setTop (mkF m 200 #[.val (.int p0), .val (.int (0 : Int32))] [(.int (0 : Int32))]))
                                          refine own_of (fun _ k => XS.ifNo X0.here hx rfl (hb hby d2_200) rfl ((if0 _ _).trans (teq (by decide : (0 : Int32) = (0 : Int32))).2) k) ?_
                                          show own_Out p e below _ (s₁.setTop (mkF m 203 #[.val (.int p0), .val (.int (0 : Int32))] []))
                                          refine own_of (fun _ k => XS.iconst X0.here hx rfl (hb hby d2_203) k) ?_
                                          show own_Out p e below _ (s₁.setTop (mkF m 204 #[.val (.int p0), .val (.int (0 : Int32))] [(.int (1 : Int32))]))
                                          refine own_of (fun _ k => XS.goto X0.here hx rfl (pc0 := 204) (pc' := 208) rfl (hb hby d2_204) (by decide) (by decide) k) ?_
                                          show own_Out p e below _ (s₁.setTop (mkF m 208 #[.val (.int p0), .val (.int (0 : Int32))] [(.int (1 : Int32))]))
                                          exact own_outN X0 hx hlk (t := .boolean) hret (by simp) (hb hby d2_208) (z' := (1 : Int32)) rfl (Q := Q2 Z p0 h0 n0) ⟨by simp only [f2, if_neg hc1_1, if_neg hc10_2, if_neg hc53_8, if_neg hc61_9, if_neg hc70_10, if_neg hc77_11, if_neg hc84_12, if_pos hc91_13, if_neg hc98_14, if_neg hc105_15, if_pos hc112_16, if_neg hc119_17, if_pos hc126_18, if_neg hc133_19, if_pos hc140_20, if_neg hc147_21, if_pos hc154_22, if_neg hc160_23, if_pos hc166_24, if_pos hc172_25], N0, e0⟩ (by decide) (by decide)
                                        · skip
                                          refine own_of (fun _ k => XS.icmpNo X0.here hx rfl (hb hby d2_172) rfl (flt hc172_25).1 k) ?_
                                          show own_Out p e below _ (s₁.setTop (mkF m 175 #[.val (.int p0), .unset] []))
                                          refine own_of (fun _ k => XS.iloadN X0.here hx rfl (hb hby d2_175) rfl k) ?_
                                          show own_Out p e below _ (s₁.setTop (mkF m 176 #[.val (.int p0), .unset] [(.int p0)]))
                                          refine own_of (X0.ldcInt hx hown (mvT hZ (hw _ (List.mem_of_getElem? (i := 24) rfl))) (g := (mkF m 176 #[.val (.int p0), .unset] [(.int p0)])) rfl (hb hby d2_176)) ?_
                                          show own_Out p e below _ (s₁.setTop (mkF m 178 #[.val (.int p0), .unset] [(.int (65007 : Int32)), (.int p0)]))
                                          by_cases hc178_26 : (65007 : Int32) < p0
                                          · skip
                                            refine own_of (fun _ k => XS.icmpNo X0.here hx rfl (hb hby d2_178) rfl (tlt hc178_26).2.2.2 k) ?_
                                            show own_Out p e below _ (s₁.setTop (mkF m 181 #[.val (.int p0), .unset] []))
                                            refine own_of (fun _ k => XS.iloadN X0.here hx rfl (hb hby d2_181) rfl k) ?_
                                            show own_Out p e below _ (s₁.setTop (mkF m 182 #[.val (.int p0), .unset] [(.int p0)]))
                                            refine own_of (X0.ldcInt hx hown (mvT hZ (hw _ (List.mem_of_getElem? (i := 14) rfl))) (g := (mkF m 182 #[.val (.int p0), .unset] [(.int p0)])) rfl (hb hby d2_182)) ?_
                                            show own_Out p e below _ (s₁.setTop (mkF m 184 #[.val (.int p0), .unset] [(.int (65534 : Int32)), (.int p0)]))
                                            by_cases hc184_27 : p0 < (65534 : Int32)
                                            · skip
                                              refine own_of (fun _ k => XS.icmpYes X0.here hx rfl (pc0 := 184) (pc' := 197) rfl (hb hby d2_184) rfl (tlt hc184_27).1 (by decide) (by decide) k) ?_
                                              show own_Out p e below _ (s₁.setTop (mkF m 197 #[.val (.int p0), .unset] []))
                                              refine own_of (fun _ k => XS.iconst X0.here hx rfl (hb hby d2_197) k) ?_
                                              show own_Out p e below _ (s₁.setTop (mkF m 198 #[.val (.int p0), .unset] [(.int (0 : Int32))]))
                                              refine own_of (fun _ k => XS.istoreN X0.here hx rfl (hb hby d2_198) rfl (l' := #[.val (.int p0), .val (.int (0 : Int32))]) rfl k) ?_
                                              show own_Out p e below _ (s₁.setTop (mkF m 199 #[.val (.int p0), .val (.int (0 : Int32))] []))
                                              refine own_of (fun _ k => XS.iloadN X0.here hx rfl (hb hby d2_199) rfl k) ?_
                                              show own_Out p e below _ (s₁.setTop (mkF m 200 #[.val (.int p0), .val (.int (0 : Int32))] [(.int (0 : Int32))]))
                                              refine own_of (fun _ k => XS.ifNo X0.here hx rfl (hb hby d2_200) rfl ((if0 _ _).trans (teq (by decide : (0 : Int32) = (0 : Int32))).2) k) ?_
                                              show own_Out p e below _ (s₁.setTop (mkF m 203 #[.val (.int p0), .val (.int (0 : Int32))] []))
                                              refine own_of (fun _ k => XS.iconst X0.here hx rfl (hb hby d2_203) k) ?_
                                              show own_Out p e below _ (s₁.setTop (mkF m 204 #[.val (.int p0), .val (.int (0 : Int32))] [(.int (1 : Int32))]))
                                              refine own_of (fun _ k => XS.goto X0.here hx rfl (pc0 := 204) (pc' := 208) rfl (hb hby d2_204) (by decide) (by decide) k) ?_
                                              show own_Out p e below _ (s₁.setTop (mkF m 208 #[.val (.int p0), .val (.int (0 : Int32))] [(.int (1 : Int32))]))
                                              exact own_outN X0 hx hlk (t := .boolean) hret (by simp) (hb hby d2_208) (z' := (1 : Int32)) rfl (Q := Q2 Z p0 h0 n0) ⟨by simp only [f2, if_neg hc1_1, if_neg hc10_2, if_neg hc53_8, if_neg hc61_9, if_neg hc70_10, if_neg hc77_11, if_neg hc84_12, if_pos hc91_13, if_neg hc98_14, if_neg hc105_15, if_pos hc112_16, if_neg hc119_17, if_pos hc126_18, if_neg hc133_19, if_pos hc140_20, if_neg hc147_21, if_pos hc154_22, if_neg hc160_23, if_pos hc166_24, if_neg hc172_25, if_pos hc178_26, if_pos hc184_27], N0, e0⟩ (by decide) (by decide)
                                            · skip
                                              refine own_of (fun _ k => XS.icmpNo X0.here hx rfl (hb hby d2_184) rfl (flt hc184_27).1 k) ?_
                                              show own_Out p e below _ (s₁.setTop (mkF m 187 #[.val (.int p0), .unset] []))
                                              refine own_of (fun _ k => XS.iloadN X0.here hx rfl (hb hby d2_187) rfl k) ?_
                                              show own_Out p e below _ (s₁.setTop (mkF m 188 #[.val (.int p0), .unset] [(.int p0)]))
                                              refine own_of (X0.ldcInt hx hown (mvT hZ (hw _ (List.mem_of_getElem? (i := 22) rfl))) (g := (mkF m 188 #[.val (.int p0), .unset] [(.int p0)])) rfl (hb hby d2_188)) ?_
                                              show own_Out p e below _ (s₁.setTop (mkF m 190 #[.val (.int p0), .unset] [(.int (65535 : Int32)), (.int p0)]))
                                              by_cases hc190_28 : (65535 : Int32) < p0
                                              · skip
                                                refine own_of (fun _ k => XS.icmpYes X0.here hx rfl (pc0 := 190) (pc' := 197) rfl (hb hby d2_190) rfl (tlt hc190_28).2.2.1 (by decide) (by decide) k) ?_
                                                show own_Out p e below _ (s₁.setTop (mkF m 197 #[.val (.int p0), .unset] []))
                                                refine own_of (fun _ k => XS.iconst X0.here hx rfl (hb hby d2_197) k) ?_
                                                show own_Out p e below _ (s₁.setTop (mkF m 198 #[.val (.int p0), .unset] [(.int (0 : Int32))]))
                                                refine own_of (fun _ k => XS.istoreN X0.here hx rfl (hb hby d2_198) rfl (l' := #[.val (.int p0), .val (.int (0 : Int32))]) rfl k) ?_
                                                show own_Out p e below _ (s₁.setTop (mkF m 199 #[.val (.int p0), .val (.int (0 : Int32))] []))
                                                refine own_of (fun _ k => XS.iloadN X0.here hx rfl (hb hby d2_199) rfl k) ?_
                                                show own_Out p e below _ (s₁.setTop (mkF m 200 #[.val (.int p0), .val (.int (0 : Int32))] [(.int (0 : Int32))]))
                                                refine own_of (fun _ k => XS.ifNo X0.here hx rfl (hb hby d2_200) rfl ((if0 _ _).trans (teq (by decide : (0 : Int32) = (0 : Int32))).2) k) ?_
                                                show own_Out p e below _ (s₁.setTop (mkF m 203 #[.val (.int p0), .val (.int (0 : Int32))] []))
                                                refine own_of (fun _ k => XS.iconst X0.here hx rfl (hb hby d2_203) k) ?_
                                                show own_Out p e below _ (s₁.setTop (mkF m 204 #[.val (.int p0), .val (.int (0 : Int32))] [(.int (1 : Int32))]))
                                                refine own_of (fun _ k => XS.goto X0.here hx rfl (pc0 := 204) (pc' := 208) rfl (hb hby d2_204) (by decide) (by decide) k) ?_
                                                show own_Out p e below _ (s₁.setTop (mkF m 208 #[.val (.int p0), .val (.int (0 : Int32))] [(.int (1 : Int32))]))
                                                exact own_outN X0 hx hlk (t := .boolean) hret (by simp) (hb hby d2_208) (z' := (1 : Int32)) rfl (Q := Q2 Z p0 h0 n0) ⟨by simp only [f2, if_neg hc1_1, if_neg hc10_2, if_neg hc53_8, if_neg hc61_9, if_neg hc70_10, if_neg hc77_11, if_neg hc84_12, if_pos hc91_13, if_neg hc98_14, if_neg hc105_15, if_pos hc112_16, if_neg hc119_17, if_pos hc126_18, if_neg hc133_19, if_pos hc140_20, if_neg hc147_21, if_pos hc154_22, if_neg hc160_23, if_pos hc166_24, if_neg hc172_25, if_pos hc178_26, if_neg hc184_27, if_pos hc190_28], N0, e0⟩ (by decide) (by decide)
                                              · skip
                                                refine own_of (fun _ k => XS.icmpNo X0.here hx rfl (hb hby d2_190) rfl (flt hc190_28).2.2.1 k) ?_
                                                show own_Out p e below _ (s₁.setTop (mkF m 193 #[.val (.int p0), .unset] []))
                                                refine own_of (fun _ k => XS.iconst X0.here hx rfl (hb hby d2_193) k) ?_
                                                show own_Out p e below _ (s₁.setTop (mkF m 194 #[.val (.int p0), .unset] [(.int (1 : Int32))]))
                                                refine own_of (fun _ k => XS.goto X0.here hx rfl (pc0 := 194) (pc' := 198) rfl (hb hby d2_194) (by decide) (by decide) k) ?_
                                                show own_Out p e below _ (s₁.setTop (mkF m 198 #[.val (.int p0), .unset] [(.int (1 : Int32))]))
                                                refine own_of (fun _ k => XS.istoreN X0.here hx rfl (hb hby d2_198) rfl (l' := #[.val (.int p0), .val (.int (1 : Int32))]) rfl k) ?_
                                                show own_Out p e below _ (s₁.setTop (mkF m 199 #[.val (.int p0), .val (.int (1 : Int32))] []))
                                                refine own_of (fun _ k => XS.iloadN X0.here hx rfl (hb hby d2_199) rfl k) ?_
                                                show own_Out p e below _ (s₁.setTop (mkF m 200 #[.val (.int p0), .val (.int (1 : Int32))] [(.int (1 : Int32))]))
                                                refine own_of (fun _ k => XS.ifYes X0.here hx rfl (pc0 := 200) (pc' := 207) rfl (hb hby d2_200) rfl ((if0 _ _).trans (feq (by decide : ¬ ((1 : Int32) = (0 : Int32)))).2) (by decide) (by decide) k) ?_
                                                show own_Out p e below _ (s₁.setTop (mkF m 207 #[.val (.int p0), .val (.int (1 : Int32))] []))
                                                refine own_of (fun _ k => XS.iconst X0.here hx rfl (hb hby d2_207) k) ?_
                                                show own_Out p e below _ (s₁.setTop (mkF m 208 #[.val (.int p0), .val (.int (1 : Int32))] [(.int (0 : Int32))]))
                                                exact own_outN X0 hx hlk (t := .boolean) hret (by simp) (hb hby d2_208) (z' := (0 : Int32)) rfl (Q := Q2 Z p0 h0 n0) ⟨by simp only [f2, if_neg hc1_1, if_neg hc10_2, if_neg hc53_8, if_neg hc61_9, if_neg hc70_10, if_neg hc77_11, if_neg hc84_12, if_pos hc91_13, if_neg hc98_14, if_neg hc105_15, if_pos hc112_16, if_neg hc119_17, if_pos hc126_18, if_neg hc133_19, if_pos hc140_20, if_neg hc147_21, if_pos hc154_22, if_neg hc160_23, if_pos hc166_24, if_neg hc172_25, if_pos hc178_26, if_neg hc184_27, if_neg hc190_28], N0, e0⟩ (by decide) (by decide)
                                          · skip
                                            refine own_of (fun _ k => XS.icmpYes X0.here hx rfl (pc0 := 178) (pc' := 193) rfl (hb hby d2_178) rfl (flt hc178_26).2.2.2 (by decide) (by decide) k) ?_
                                            show own_Out p e below _ (s₁.setTop (mkF m 193 #[.val (.int p0), .unset] []))
                                            refine own_of (fun _ k => XS.iconst X0.here hx rfl (hb hby d2_193) k) ?_
                                            show own_Out p e below _ (s₁.setTop (mkF m 194 #[.val (.int p0), .unset] [(.int (1 : Int32))]))
                                            refine own_of (fun _ k => XS.goto X0.here hx rfl (pc0 := 194) (pc' := 198) rfl (hb hby d2_194) (by decide) (by decide) k) ?_
                                            show own_Out p e below _ (s₁.setTop (mkF m 198 #[.val (.int p0), .unset] [(.int (1 : Int32))]))
                                            refine own_of (fun _ k => XS.istoreN X0.here hx rfl (hb hby d2_198) rfl (l' := #[.val (.int p0), .val (.int (1 : Int32))]) rfl k) ?_
                                            show own_Out p e below _ (s₁.setTop (mkF m 199 #[.val (.int p0), .val (.int (1 : Int32))] []))
                                            refine own_of (fun _ k => XS.iloadN X0.here hx rfl (hb hby d2_199) rfl k) ?_
                                            show own_Out p e below _ (s₁.setTop (mkF m 200 #[.val (.int p0), .val (.int (1 : Int32))] [(.int (1 : Int32))]))
                                            refine own_of (fun _ k => XS.ifYes X0.here hx rfl (pc0 := 200) (pc' := 207) rfl (hb hby d2_200) rfl ((if0 _ _).trans (feq (by decide : ¬ ((1 : Int32) = (0 : Int32)))).2) (by decide) (by decide) k) ?_
                                            show own_Out p e below _ (s₁.setTop (mkF m 207 #[.val (.int p0), .val (.int (1 : Int32))] []))
                                            refine own_of (fun _ k => XS.iconst X0.here hx rfl (hb hby d2_207) k) ?_
                                            show own_Out p e below _ (s₁.setTop (mkF m 208 #[.val (.int p0), .val (.int (1 : Int32))] [(.int (0 : Int32))]))
                                            exact own_outN X0 hx hlk (t := .boolean) hret (by simp) (hb hby d2_208) (z' := (0 : Int32)) rfl (Q := Q2 Z p0 h0 n0) ⟨by simp only [f2, if_neg hc1_1, if_neg hc10_2, if_neg hc53_8, if_neg hc61_9, if_neg hc70_10, if_neg hc77_11, if_neg hc84_12, if_pos hc91_13, if_neg hc98_14, if_neg hc105_15, if_pos hc112_16, if_neg hc119_17, if_pos hc126_18, if_neg hc133_19, if_pos hc140_20, if_neg hc147_21, if_pos hc154_22, if_neg hc160_23, if_pos hc166_24, if_neg hc172_25, if_neg hc178_26], N0, e0⟩ (by decide) (by decide)
                                      · skip
                                        refine own_of (fun _ k => XS.icmpYes X0.here hx rfl (pc0 := 166) (pc' := 193) rfl (hb hby d2_166) rfl (flt hc166_24).2.2.2 (by decide) (by decide) k) ?_
                                        show own_Out p e below _ (s₁.setTop (mkF m 193 #[.val (.int p0), .unset] []))
                                        refine own_of (fun _ k => XS.iconst X0.here hx rfl (hb hby d2_193) k) ?_
                                        show own_Out p e below _ (s₁.setTop (mkF m 194 #[.val (.int p0), .unset] [(.int (1 : Int32))]))
                                        refine own_of (fun _ k => XS.goto X0.here hx rfl (pc0 := 194) (pc' := 198) rfl (hb hby d2_194) (by decide) (by decide) k) ?_
                                        show own_Out p e below _ (s₁.setTop (mkF m 198 #[.val (.int p0), .unset] [(.int (1 : Int32))]))
                                        refine own_of (fun _ k => XS.istoreN X0.here hx rfl (hb hby d2_198) rfl (l' := #[.val (.int p0), .val (.int (1 : Int32))]) rfl k) ?_
                                        show own_Out p e below _ (s₁.setTop (mkF m 199 #[.val (.int p0), .val (.int (1 : Int32))] []))
                                        refine own_of (fun _ k => XS.iloadN X0.here hx rfl (hb hby d2_199) rfl k) ?_
                                        show own_Out p e below _ (s₁.setTop (mkF m 200 #[.val (.int p0), .val (.int (1 : Int32))] [(.int (1 : Int32))]))
                                        refine own_of (fun _ k => XS.ifYes X0.here hx rfl (pc0 := 200) (pc' := 207) rfl (hb hby d2_200) rfl ((if0 _ _).trans (feq (by decide : ¬ ((1 : Int32) = (0 : Int32)))).2) (by decide) (by decide) k) ?_
                                        show own_Out p e below _ (s₁.setTop (mkF m 207 #[.val (.int p0), .val (.int (1 : Int32))] []))
                                        refine own_of (fun _ k => XS.iconst X0.here hx rfl (hb hby d2_207) k) ?_
                                        show own_Out p e below _ (s₁.setTop (mkF m 208 #[.val (.int p0), .val (.int (1 : Int32))] [(.int (0 : Int32))]))
                                        exact own_outN X0 hx hlk (t := .boolean) hret (by simp) (hb hby d2_208) (z' := (0 : Int32)) rfl (Q := Q2 Z p0 h0 n0) ⟨by simp only [f2, if_neg hc1_1, if_neg hc10_2, if_neg hc53_8, if_neg hc61_9, if_neg hc70_10, if_neg hc77_11, if_neg hc84_12, if_pos hc91_13, if_neg hc98_14, if_neg hc105_15, if_pos hc112_16, if_neg hc119_17, if_pos hc126_18, if_neg hc133_19, if_pos hc140_20, if_neg hc147_21, if_pos hc154_22, if_neg hc160_23, if_neg hc166_24], N0, e0⟩ (by decide) (by decide)
                                  · skip
                                    refine own_of (fun _ k => XS.icmpYes X0.here hx rfl (pc0 := 154) (pc' := 193) rfl (hb hby d2_154) rfl (flt hc154_22).2.2.2 (by decide) (by decide) k) ?_
                                    show own_Out p e below _ (s₁.setTop (mkF m 193 #[.val (.int p0), .unset] []))
                                    refine own_of (fun _ k => XS.iconst X0.here hx rfl (hb hby d2_193) k) ?_
                                    show own_Out p e below _ (s₁.setTop (mkF m 194 #[.val (.int p0), .unset] [(.int (1 : Int32))]))
                                    refine own_of (fun _ k => XS.goto X0.here hx rfl (pc0 := 194) (pc' := 198) rfl (hb hby d2_194) (by decide) (by decide) k) ?_
                                    show own_Out p e below _ (s₁.setTop (mkF m 198 #[.val (.int p0), .unset] [(.int (1 : Int32))]))
                                    refine own_of (fun _ k => XS.istoreN X0.here hx rfl (hb hby d2_198) rfl (l' := #[.val (.int p0), .val (.int (1 : Int32))]) rfl k) ?_
                                    show own_Out p e below _ (s₁.setTop (mkF m 199 #[.val (.int p0), .val (.int (1 : Int32))] []))
                                    refine own_of (fun _ k => XS.iloadN X0.here hx rfl (hb hby d2_199) rfl k) ?_
                                    show own_Out p e below _ (s₁.setTop (mkF m 200 #[.val (.int p0), .val (.int (1 : Int32))] [(.int (1 : Int32))]))
                                    refine own_of (fun _ k => XS.ifYes X0.here hx rfl (pc0 := 200) (pc' := 207) rfl (hb hby d2_200) rfl ((if0 _ _).trans (feq (by decide : ¬ ((1 : Int32) = (0 : Int32)))).2) (by decide) (by decide) k) ?_
                                    show own_Out p e below _ (s₁.setTop (mkF m 207 #[.val (.int p0), .val (.int (1 : Int32))] []))
                                    refine own_of (fun _ k => XS.iconst X0.here hx rfl (hb hby d2_207) k) ?_
                                    show own_Out p e below _ (s₁.setTop (mkF m 208 #[.val (.int p0), .val (.int (1 : Int32))] [(.int (0 : Int32))]))
                                    exact own_outN X0 hx hlk (t := .boolean) hret (by simp) (hb hby d2_208) (z' := (0 : Int32)) rfl (Q := Q2 Z p0 h0 n0) ⟨by simp only [f2, if_neg hc1_1, if_neg hc10_2, if_neg hc53_8, if_neg hc61_9, if_neg hc70_10, if_neg hc77_11, if_neg hc84_12, if_pos hc91_13, if_neg hc98_14, if_neg hc105_15, if_pos hc112_16, if_neg hc119_17, if_pos hc126_18, if_neg hc133_19, if_pos hc140_20, if_neg hc147_21, if_neg hc154_22], N0, e0⟩ (by decide) (by decide)
                              · skip
                                refine own_of (fun _ k => XS.icmpYes X0.here hx rfl (pc0 := 140) (pc' := 193) rfl (hb hby d2_140) rfl (flt hc140_20).2.2.2 (by decide) (by decide) k) ?_
                                show own_Out p e below _ (s₁.setTop (mkF m 193 #[.val (.int p0), .unset] []))
                                refine own_of (fun _ k => XS.iconst X0.here hx rfl (hb hby d2_193) k) ?_
                                show own_Out p e below _ (s₁.setTop (mkF m 194 #[.val (.int p0), .unset] [(.int (1 : Int32))]))
                                refine own_of (fun _ k => XS.goto X0.here hx rfl (pc0 := 194) (pc' := 198) rfl (hb hby d2_194) (by decide) (by decide) k) ?_
                                show own_Out p e below _ (s₁.setTop (mkF m 198 #[.val (.int p0), .unset] [(.int (1 : Int32))]))
                                refine own_of (fun _ k => XS.istoreN X0.here hx rfl (hb hby d2_198) rfl (l' := #[.val (.int p0), .val (.int (1 : Int32))]) rfl k) ?_
                                show own_Out p e below _ (s₁.setTop (mkF m 199 #[.val (.int p0), .val (.int (1 : Int32))] []))
                                refine own_of (fun _ k => XS.iloadN X0.here hx rfl (hb hby d2_199) rfl k) ?_
                                show own_Out p e below _ (s₁.setTop (mkF m 200 #[.val (.int p0), .val (.int (1 : Int32))] [(.int (1 : Int32))]))
                                refine own_of (fun _ k => XS.ifYes X0.here hx rfl (pc0 := 200) (pc' := 207) rfl (hb hby d2_200) rfl ((if0 _ _).trans (feq (by decide : ¬ ((1 : Int32) = (0 : Int32)))).2) (by decide) (by decide) k) ?_
                                show own_Out p e below _ (s₁.setTop (mkF m 207 #[.val (.int p0), .val (.int (1 : Int32))] []))
                                refine own_of (fun _ k => XS.iconst X0.here hx rfl (hb hby d2_207) k) ?_
                                show own_Out p e below _ (s₁.setTop (mkF m 208 #[.val (.int p0), .val (.int (1 : Int32))] [(.int (0 : Int32))]))
                                exact own_outN X0 hx hlk (t := .boolean) hret (by simp) (hb hby d2_208) (z' := (0 : Int32)) rfl (Q := Q2 Z p0 h0 n0) ⟨by simp only [f2, if_neg hc1_1, if_neg hc10_2, if_neg hc53_8, if_neg hc61_9, if_neg hc70_10, if_neg hc77_11, if_neg hc84_12, if_pos hc91_13, if_neg hc98_14, if_neg hc105_15, if_pos hc112_16, if_neg hc119_17, if_pos hc126_18, if_neg hc133_19, if_neg hc140_20], N0, e0⟩ (by decide) (by decide)
                          · skip
                            refine own_of (fun _ k => XS.icmpYes X0.here hx rfl (pc0 := 126) (pc' := 193) rfl (hb hby d2_126) rfl (flt hc126_18).2.2.2 (by decide) (by decide) k) ?_
                            show own_Out p e below _ (s₁.setTop (mkF m 193 #[.val (.int p0), .unset] []))
                            refine own_of (fun _ k => XS.iconst X0.here hx rfl (hb hby d2_193) k) ?_
                            show own_Out p e below _ (s₁.setTop (mkF m 194 #[.val (.int p0), .unset] [(.int (1 : Int32))]))
                            refine own_of (fun _ k => XS.goto X0.here hx rfl (pc0 := 194) (pc' := 198) rfl (hb hby d2_194) (by decide) (by decide) k) ?_
                            show own_Out p e below _ (s₁.setTop (mkF m 198 #[.val (.int p0), .unset] [(.int (1 : Int32))]))
                            refine own_of (fun _ k => XS.istoreN X0.here hx rfl (hb hby d2_198) rfl (l' := #[.val (.int p0), .val (.int (1 : Int32))]) rfl k) ?_
                            show own_Out p e below _ (s₁.setTop (mkF m 199 #[.val (.int p0), .val (.int (1 : Int32))] []))
                            refine own_of (fun _ k => XS.iloadN X0.here hx rfl (hb hby d2_199) rfl k) ?_
                            show own_Out p e below _ (s₁.setTop (mkF m 200 #[.val (.int p0), .val (.int (1 : Int32))] [(.int (1 : Int32))]))
                            refine own_of (fun _ k => XS.ifYes X0.here hx rfl (pc0 := 200) (pc' := 207) rfl (hb hby d2_200) rfl ((if0 _ _).trans (feq (by decide : ¬ ((1 : Int32) = (0 : Int32)))).2) (by decide) (by decide) k) ?_
                            show own_Out p e below _ (s₁.setTop (mkF m 207 #[.val (.int p0), .val (.int (1 : Int32))] []))
                            refine own_of (fun _ k => XS.iconst X0.here hx rfl (hb hby d2_207) k) ?_
                            show own_Out p e below _ (s₁.setTop (mkF m 208 #[.val (.int p0), .val (.int (1 : Int32))] [(.int (0 : Int32))]))
                            exact own_outN X0 hx hlk (t := .boolean) hret (by simp) (hb hby d2_208) (z' := (0 : Int32)) rfl (Q := Q2 Z p0 h0 n0) ⟨by simp only [f2, if_neg hc1_1, if_neg hc10_2, if_neg hc53_8, if_neg hc61_9, if_neg hc70_10, if_neg hc77_11, if_neg hc84_12, if_pos hc91_13, if_neg hc98_14, if_neg hc105_15, if_pos hc112_16, if_neg hc119_17, if_neg hc126_18], N0, e0⟩ (by decide) (by decide)
                      · skip
                        refine own_of (fun _ k => XS.icmpYes X0.here hx rfl (pc0 := 112) (pc' := 193) rfl (hb hby d2_112) rfl (flt hc112_16).2.2.2 (by decide) (by decide) k) ?_
                        show own_Out p e below _ (s₁.setTop (mkF m 193 #[.val (.int p0), .unset] []))
                        refine own_of (fun _ k => XS.iconst X0.here hx rfl (hb hby d2_193) k) ?_
                        show own_Out p e below _ (s₁.setTop (mkF m 194 #[.val (.int p0), .unset] [(.int (1 : Int32))]))
                        refine own_of (fun _ k => XS.goto X0.here hx rfl (pc0 := 194) (pc' := 198) rfl (hb hby d2_194) (by decide) (by decide) k) ?_
                        show own_Out p e below _ (s₁.setTop (mkF m 198 #[.val (.int p0), .unset] [(.int (1 : Int32))]))
                        refine own_of (fun _ k => XS.istoreN X0.here hx rfl (hb hby d2_198) rfl (l' := #[.val (.int p0), .val (.int (1 : Int32))]) rfl k) ?_
                        show own_Out p e below _ (s₁.setTop (mkF m 199 #[.val (.int p0), .val (.int (1 : Int32))] []))
                        refine own_of (fun _ k => XS.iloadN X0.here hx rfl (hb hby d2_199) rfl k) ?_
                        show own_Out p e below _ (s₁.setTop (mkF m 200 #[.val (.int p0), .val (.int (1 : Int32))] [(.int (1 : Int32))]))
                        refine own_of (fun _ k => XS.ifYes X0.here hx rfl (pc0 := 200) (pc' := 207) rfl (hb hby d2_200) rfl ((if0 _ _).trans (feq (by decide : ¬ ((1 : Int32) = (0 : Int32)))).2) (by decide) (by decide) k) ?_
                        show own_Out p e below _ (s₁.setTop (mkF m 207 #[.val (.int p0), .val (.int (1 : Int32))] []))
                        refine own_of (fun _ k => XS.iconst X0.here hx rfl (hb hby d2_207) k) ?_
                        show own_Out p e below _ (s₁.setTop (mkF m 208 #[.val (.int p0), .val (.int (1 : Int32))] [(.int (0 : Int32))]))
                        exact own_outN X0 hx hlk (t := .boolean) hret (by simp) (hb hby d2_208) (z' := (0 : Int32)) rfl (Q := Q2 Z p0 h0 n0) ⟨by simp only [f2, if_neg hc1_1, if_neg hc10_2, if_neg hc53_8, if_neg hc61_9, if_neg hc70_10, if_neg hc77_11, if_neg hc84_12, if_pos hc91_13, if_neg hc98_14, if_neg hc105_15, if_neg hc112_16], N0, e0⟩ (by decide) (by decide)
                · skip
                  refine own_of (fun _ k => XS.icmpYes X0.here hx rfl (pc0 := 91) (pc' := 193) rfl (hb hby d2_91) rfl (flt hc91_13).2.2.2 (by decide) (by decide) k) ?_
                  show own_Out p e below _ (s₁.setTop (mkF m 193 #[.val (.int p0), .unset] []))
                  refine own_of (fun _ k => XS.iconst X0.here hx rfl (hb hby d2_193) k) ?_
                  show own_Out p e below _ (s₁.setTop (mkF m 194 #[.val (.int p0), .unset] [(.int (1 : Int32))]))
                  refine own_of (fun _ k => XS.goto X0.here hx rfl (pc0 := 194) (pc' := 198) rfl (hb hby d2_194) (by decide) (by decide) k) ?_
                  show own_Out p e below _ (s₁.setTop (mkF m 198 #[.val (.int p0), .unset] [(.int (1 : Int32))]))
                  refine own_of (fun _ k => XS.istoreN X0.here hx rfl (hb hby d2_198) rfl (l' := #[.val (.int p0), .val (.int (1 : Int32))]) rfl k) ?_
                  show own_Out p e below _ (s₁.setTop (mkF m 199 #[.val (.int p0), .val (.int (1 : Int32))] []))
                  refine own_of (fun _ k => XS.iloadN X0.here hx rfl (hb hby d2_199) rfl k) ?_
                  show own_Out p e below _ (s₁.setTop (mkF m 200 #[.val (.int p0), .val (.int (1 : Int32))] [(.int (1 : Int32))]))
                  refine own_of (fun _ k => XS.ifYes X0.here hx rfl (pc0 := 200) (pc' := 207) rfl (hb hby d2_200) rfl ((if0 _ _).trans (feq (by decide : ¬ ((1 : Int32) = (0 : Int32)))).2) (by decide) (by decide) k) ?_
                  show own_Out p e below _ (s₁.setTop (mkF m 207 #[.val (.int p0), .val (.int (1 : Int32))] []))
                  refine own_of (fun _ k => XS.iconst X0.here hx rfl (hb hby d2_207) k) ?_
                  show own_Out p e below _ (s₁.setTop (mkF m 208 #[.val (.int p0), .val (.int (1 : Int32))] [(.int (0 : Int32))]))
                  exact own_outN X0 hx hlk (t := .boolean) hret (by simp) (hb hby d2_208) (z' := (0 : Int32)) rfl (Q := Q2 Z p0 h0 n0) ⟨by simp only [f2, if_neg hc1_1, if_neg hc10_2, if_neg hc53_8, if_neg hc61_9, if_neg hc70_10, if_neg hc77_11, if_neg hc84_12, if_neg hc91_13], N0, e0⟩ (by decide) (by decide)
theorem pd_0 : parseMethodDescriptor "(I)Z" = some ⟨[.int], some .boolean⟩ := by decide +kernel
theorem ef_0 (m : MethodId) (x0 : Int32) (x1 : Int32) : entryFrame m #[(.int x0), (.int x1)] maxLocals = mkF m 0 #[.val (.int x0), .val (.int x1), .unset, .unset] [] := by first | (simp [entryFrame, mkF, argsToLocals, Value.category, maxLocals]; done) | rfl
theorem own_small : ∀ n : Fin 128, f1 (Int32.ofNat n.val) = f2 (Int32.ofNat n.val) := by decide +kernel
theorem own_big (p0 : Int32) (g0 : ¬ (p0 < (128 : Int32))) : f1 p0 = f2 p0 := by
  by_cases c1 : p0 < (192 : Int32)
  · skip
    simp only [f1, f2, if_neg g0, if_pos c1, if_neg (own_T2 (own_L1 g0) (by decide) : ¬ (p0 < (0 : Int32))), if_neg g0, if_pos c1]
  · skip
    by_cases c2 : (214 : Int32) < p0
    · skip
      by_cases c3 : p0 < (216 : Int32)
      · skip
        simp only [f1, f2, if_neg g0, if_neg c1, if_pos c2, if_pos c3, if_neg (own_T2 (own_L2 c2) (by decide) : ¬ (p0 < (0 : Int32))), if_neg g0, if_neg c1, if_neg (own_T4 (own_U1 c3) (by decide) : ¬ ((983039 : Int32) < p0)), if_pos (own_T7 (own_L2 c2) (own_U1 c3) (by decide) : p0 = (215 : Int32))]
      · skip
        by_cases c4 : (246 : Int32) < p0
        · skip
          by_cases c5 : p0 < (248 : Int32)
          · skip
            simp only [f1, f2, if_neg g0, if_neg c1, if_pos c2, if_neg c3, if_pos c4, if_pos c5, if_neg (own_T2 (own_L2 c4) (by decide) : ¬ (p0 < (0 : Int32))), if_neg g0, if_neg c1, if_neg (own_T4 (own_U1 c5) (by decide) : ¬ ((983039 : Int32) < p0)), if_neg (own_T6 (own_L2 c4) (by decide) : ¬ (p0 = (215 : Int32))), if_pos (own_T7 (own_L2 c4) (own_U1 c5) (by decide) : p0 = (247 : Int32))]
          · skip
            by_cases c6 : (767 : Int32) < p0
            · skip
              by_cases c7 : p0 < (880 : Int32)
              · skip
                simp only [f1, f2, if_neg g0, if_neg c1, if_pos c2, if_neg c3, if_pos c4, if_neg c5, if_pos c6, if_pos c7, if_neg (own_T2 (own_L2 c6) (by decide) : ¬ (p0 < (0 : Int32))), if_neg g0, if_neg c1, if_neg (own_T4 (own_U1 c7) (by decide) : ¬ ((983039 : Int32) < p0)), if_neg (own_T6 (own_L2 c6) (by decide) : ¬ (p0 = (215 : Int32))), if_neg (own_T6 (own_L2 c6) (by decide) : ¬ (p0 = (247 : Int32))), if_neg (own_T2 (own_L2 c6) (by decide) : ¬ (p0 < (768 : Int32))), if_neg (own_T4 (own_U1 c7) (by decide) : ¬ ((879 : Int32) < p0))]
              · skip
                by_cases c8 : (893 : Int32) < p0
                · skip
                  by_cases c9 : p0 < (895 : Int32)
                  · skip
                    simp only [f1, f2, if_neg g0, if_neg c1, if_pos c2, if_neg c3, if_pos c4, if_neg c5, if_pos c6, if_neg c7, if_pos c8, if_pos c9, if_neg (own_T2 (own_L2 c8) (by decide) : ¬ (p0 < (0 : Int32))), if_neg g0, if_neg c1, if_neg (own_T4 (own_U1 c9) (by decide) : ¬ ((983039 : Int32) < p0)), if_neg (own_T6 (own_L2 c8) (by decide) : ¬ (p0 = (215 : Int32))), if_neg (own_T6 (own_L2 c8) (by decide) : ¬ (p0 = (247 : Int32))), if_neg (own_T2 (own_L2 c8) (by decide) : ¬ (p0 < (768 : Int32))), if_pos (own_T3 (own_L2 c8) (by decide) : (879 : Int32) < p0), if_pos (own_T7 (own_L2 c8) (own_U1 c9) (by decide) : p0 = (894 : Int32))]
                  · skip
                    by_cases c10 : (8191 : Int32) < p0
                    · skip
                      by_cases c11 : p0 < (8204 : Int32)
                      · skip
                        simp only [f1, f2, if_neg g0, if_neg c1, if_pos c2, if_neg c3, if_pos c4, if_neg c5, if_pos c6, if_neg c7, if_pos c8, if_neg c9, if_pos c10, if_pos c11, if_neg (own_T2 (own_L2 c10) (by decide) : ¬ (p0 < (0 : Int32))), if_neg g0, if_neg c1, if_neg (own_T4 (own_U1 c11) (by decide) : ¬ ((983039 : Int32) < p0)), if_neg (own_T6 (own_L2 c10) (by decide) : ¬ (p0 = (215 : Int32))), if_neg (own_T6 (own_L2 c10) (by decide) : ¬ (p0 = (247 : Int32))), if_neg (own_T2 (own_L2 c10) (by decide) : ¬ (p0 < (768 : Int32))), if_pos (own_T3 (own_L2 c10) (by decide) : (879 : Int32) < p0), if_neg (own_T6 (own_L2 c10) (by decide) : ¬ (p0 = (894 : Int32))), if_neg (own_T2 (own_L2 c10) (by decide) : ¬ (p0 < (8192 : Int32))), if_neg (own_T4 (own_U1 c11) (by decide) : ¬ ((8203 : Int32) < p0))]
                      · skip
                        by_cases c12 : (8205 : Int32) < p0
                        · skip
                          by_cases c13 : p0 < (8304 : Int32)
                          · skip
                            simp only [f1, f2, if_neg g0, if_neg c1, if_pos c2, if_neg c3, if_pos c4, if_neg c5, if_pos c6, if_neg c7, if_pos c8, if_neg c9, if_pos c10, if_neg c11, if_pos c12, if_pos c13, if_neg (own_T2 (own_L2 c12) (by decide) : ¬ (p0 < (0 : Int32))), if_neg g0, if_neg c1, if_neg (own_T4 (own_U1 c13) (by decide) : ¬ ((983039 : Int32) < p0)), if_neg (own_T6 (own_L2 c12) (by decide) : ¬ (p0 = (215 : Int32))), if_neg (own_T6 (own_L2 c12) (by decide) : ¬ (p0 = (247 : Int32))), if_neg (own_T2 (own_L2 c12) (by decide) : ¬ (p0 < (768 : Int32))), if_pos (own_T3 (own_L2 c12) (by decide) : (879 : Int32) < p0), if_neg (own_T6 (own_L2 c12) (by decide) : ¬ (p0 = (894 : Int32))), if_neg (own_T2 (own_L2 c12) (by decide) : ¬ (p0 < (8192 : Int32))), if_pos (own_T3 (own_L2 c12) (by decide) : (8203 : Int32) < p0), if_neg (own_T2 (own_L2 c12) (by decide) : ¬ (p0 < (8206 : Int32))), if_neg (own_T4 (own_U1 c13) (by decide) : ¬ ((8303 : Int32) < p0))]
                          · skip
                            by_cases c14 : (8591 : Int32) < p0
                            · skip
                              by_cases c15 : p0 < (11264 : Int32)
                              · skip
                                simp only [f1, f2, if_neg g0, if_neg c1, if_pos c2, if_neg c3, if_pos c4, if_neg c5, if_pos c6, if_neg c7, if_pos c8, if_neg c9, if_pos c10, if_neg c11, if_pos c12, if_neg c13, if_pos c14, if_pos c15, if_neg (own_T2 (own_L2 c14) (by decide) : ¬ (p0 < (0 : Int32))), if_neg g0, if_neg c1, if_neg (own_T4 (own_U1 c15) (by decide) : ¬ ((983039 : Int32) < p0)), if_neg (own_T6 (own_L2 c14) (by decide) : ¬ (p0 = (215 : Int32))), if_neg (own_T6 (own_L2 c14) (by decide) : ¬ (p0 = (247 : Int32))), if_neg (own_T2 (own_L2 c14) (by decide) : ¬ (p0 < (768 : Int32))), if_pos (own_T3 (own_L2 c14) (by decide) : (879 : Int32) < p0), if_neg (own_T6 (own_L2 c14) (by decide) : ¬ (p0 = (894 : Int32))), if_neg (own_T2 (own_L2 c14) (by decide) : ¬ (p0 < (8192 : Int32))), if_pos (own_T3 (own_L2 c14) (by decide) : (8203 : Int32) < p0), if_neg (own_T2 (own_L2 c14) (by decide) : ¬ (p0 < (8206 : Int32))), if_pos (own_T3 (own_L2 c14) (by decide) : (8303 : Int32) < p0), if_neg (own_T2 (own_L2 c14) (by decide) : ¬ (p0 < (8592 : Int32))), if_neg (own_T4 (own_U1 c15) (by decide) : ¬ ((11263 : Int32) < p0))]
                              · skip
                                by_cases c16 : (12271 : Int32) < p0
                                · skip
                                  by_cases c17 : p0 < (12289 : Int32)
                                  · skip
                                    simp only [f1, f2, if_neg g0, if_neg c1, if_pos c2, if_neg c3, if_pos c4, if_neg c5, if_pos c6, if_neg c7, if_pos c8, if_neg c9, if_pos c10, if_neg c11, if_pos c12, if_neg c13, if_pos c14, if_neg c15, if_pos c16, if_pos c17, if_neg (own_T2 (own_L2 c16) (by decide) : ¬ (p0 < (0 : Int32))), if_neg g0, if_neg c1, if_neg (own_T4 (own_U1 c17) (by decide) : ¬ ((983039 : Int32) < p0)), if_neg (own_T6 (own_L2 c16) (by decide) : ¬ (p0 = (215 : Int32))), if_neg (own_T6 (own_L2 c16) (by decide) : ¬ (p0 = (247 : Int32))), if_neg (own_T2 (own_L2 c16) (by decide) : ¬ (p0 < (768 : Int32))), if_pos (own_T3 (own_L2 c16) (by decide) : (879 : Int32) < p0), if_neg (own_T6 (own_L2 c16) (by decide) : ¬ (p0 = (894 : Int32))), if_neg (own_T2 (own_L2 c16) (by decide) : ¬ (p0 < (8192 : Int32))), if_pos (own_T3 (own_L2 c16) (by decide) : (8203 : Int32) < p0), if_neg (own_T2 (own_L2 c16) (by decide) : ¬ (p0 < (8206 : Int32))), if_pos (own_T3 (own_L2 c16) (by decide) : (8303 : Int32) < p0), if_neg (own_T2 (own_L2 c16) (by decide) : ¬ (p0 < (8592 : Int32))), if_pos (own_T3 (own_L2 c16) (by decide) : (11263 : Int32) < p0), if_neg (own_T2 (own_L2 c16) (by decide) : ¬ (p0 < (12272 : Int32))), if_neg (own_T4 (own_U1 c17) (by decide) : ¬ ((12288 : Int32) < p0))]
                                  · skip
                                    by_cases c18 : (55295 : Int32) < p0
                                    · skip
                                      by_cases c19 : p0 < (63744 : Int32)
                                      · skip
                                        simp only [f1, f2, if_neg g0, if_neg c1, if_pos c2, if_neg c3, if_pos c4, if_neg c5, if_pos c6, if_neg c7, if_pos c8, if_neg c9, if_pos c10, if_neg c11, if_pos c12, if_neg c13, if_pos c14, if_neg c15, if_pos c16, if_neg c17, if_pos c18, if_pos c19, if_neg (own_T2 (own_L2 c18) (by decide) : ¬ (p0 < (0 : Int32))), if_neg g0, if_neg c1, if_neg (own_T4 (own_U1 c19) (by decide) : ¬ ((983039 : Int32) < p0)), if_neg (own_T6 (own_L2 c18) (by decide) : ¬ (p0 = (215 : Int32))), if_neg (own_T6 (own_L2 c18) (by decide) : ¬ (p0 = (247 : Int32))), if_neg (own_T2 (own_L2 c18) (by decide) : ¬ (p0 < (768 : Int32))), if_pos (own_T3 (own_L2 c18) (by decide) : (879 : Int32) < p0), if_neg (own_T6 (own_L2 c18) (by decide) : ¬ (p0 = (894 : Int32))), if_neg (own_T2 (own_L2 c18) (by decide) : ¬ (p0 < (8192 : Int32))), if_pos (own_T3 (own_L2 c18) (by decide) : (8203 : Int32) < p0), if_neg (own_T2 (own_L2 c18) (by decide) : ¬ (p0 < (8206 : Int32))), if_pos (own_T3 (own_L2 c18) (by decide) : (8303 : Int32) < p0), if_neg (own_T2 (own_L2 c18) (by decide) : ¬ (p0 < (8592 : Int32))), if_pos (own_T3 (own_L2 c18) (by decide) : (11263 : Int32) < p0), if_neg (own_T2 (own_L2 c18) (by decide) : ¬ (p0 < (12272 : Int32))), if_pos (own_T3 (own_L2 c18) (by decide) : (12288 : Int32) < p0), if_neg (own_T2 (own_L2 c18) (by decide) : ¬ (p0 < (55296 : Int32))), if_neg (own_T4 (own_U1 c19) (by decide) : ¬ ((63743 : Int32) < p0))]
                                      · skip
                                        by_cases c20 : (64975 : Int32) < p0
                                        · skip
                                          by_cases c21 : p0 < (65008 : Int32)
                                          · skip
                                            simp only [f1, f2, if_neg g0, if_neg c1, if_pos c2, if_neg c3, if_pos c4, if_neg c5, if_pos c6, if_neg c7, if_pos c8, if_neg c9, if_pos c10, if_neg c11, if_pos c12, if_neg c13, if_pos c14, if_neg c15, if_pos c16, if_neg c17, if_pos c18, if_neg c19, if_pos c20, if_pos c21, if_neg (own_T2 (own_L2 c20) (by decide) : ¬ (p0 < (0 : Int32))), if_neg g0, if_neg c1, if_neg (own_T4 (own_U1 c21) (by decide) : ¬ ((983039 : Int32) < p0)), if_neg (own_T6 (own_L2 c20) (by decide) : ¬ (p0 = (215 : Int32))), if_neg (own_T6 (own_L2 c20) (by decide) : ¬ (p0 = (247 : Int32))), if_neg (own_T2 (own_L2 c20) (by decide) : ¬ (p0 < (768 : Int32))), if_pos (own_T3 (own_L2 c20) (by decide) : (879 : Int32) < p0), if_neg (own_T6 (own_L2 c20) (by decide) : ¬ (p0 = (894 : Int32))), if_neg (own_T2 (own_L2 c20) (by decide) : ¬ (p0 < (8192 : Int32))), if_pos (own_T3 (own_L2 c20) (by decide) : (8203 : Int32) < p0), if_neg (own_T2 (own_L2 c20) (by decide) : ¬ (p0 < (8206 : Int32))), if_pos (own_T3 (own_L2 c20) (by decide) : (8303 : Int32) < p0), if_neg (own_T2 (own_L2 c20) (by decide) : ¬ (p0 < (8592 : Int32))), if_pos (own_T3 (own_L2 c20) (by decide) : (11263 : Int32) < p0), if_neg (own_T2 (own_L2 c20) (by decide) : ¬ (p0 < (12272 : Int32))), if_pos (own_T3 (own_L2 c20) (by decide) : (12288 : Int32) < p0), if_neg (own_T2 (own_L2 c20) (by decide) : ¬ (p0 < (55296 : Int32))), if_pos (own_T3 (own_L2 c20) (by decide) : (63743 : Int32) < p0), if_neg (own_T2 (own_L2 c20) (by decide) : ¬ (p0 < (64976 : Int32))), if_neg (own_T4 (own_U1 c21) (by decide) : ¬ ((65007 : Int32) < p0))]
                                          · skip
                                            by_cases c22 : (65533 : Int32) < p0
                                            · skip
                                              by_cases c23 : p0 < (65536 : Int32)
                                              · skip
                                                simp only [f1, f2, if_neg g0, if_neg c1, if_pos c2, if_neg c3, if_pos c4, if_neg c5, if_pos c6, if_neg c7, if_pos c8, if_neg c9, if_pos c10, if_neg c11, if_pos c12, if_neg c13, if_pos c14, if_neg c15, if_pos c16, if_neg c17, if_pos c18, if_neg c19, if_pos c20, if_neg c21, if_pos c22, if_pos c23, if_neg (own_T2 (own_L2 c22) (by decide) : ¬ (p0 < (0 : Int32))), if_neg g0, if_neg c1, if_neg (own_T4 (own_U1 c23) (by decide) : ¬ ((983039 : Int32) < p0)), if_neg (own_T6 (own_L2 c22) (by decide) : ¬ (p0 = (215 : Int32))), if_neg (own_T6 (own_L2 c22) (by decide) : ¬ (p0 = (247 : Int32))), if_neg (own_T2 (own_L2 c22) (by decide) : ¬ (p0 < (768 : Int32))), if_pos (own_T3 (own_L2 c22) (by decide) : (879 : Int32) < p0), if_neg (own_T6 (own_L2 c22) (by decide) : ¬ (p0 = (894 : Int32))), if_neg (own_T2 (own_L2 c22) (by decide) : ¬ (p0 < (8192 : Int32))), if_pos (own_T3 (own_L2 c22) (by decide) : (8203 : Int32) < p0), if_neg (own_T2 (own_L2 c22) (by decide) : ¬ (p0 < (8206 : Int32))), if_pos (own_T3 (own_L2 c22) (by decide) : (8303 : Int32) < p0), if_neg (own_T2 (own_L2 c22) (by decide) : ¬ (p0 < (8592 : Int32))), if_pos (own_T3 (own_L2 c22) (by decide) : (11263 : Int32) < p0), if_neg (own_T2 (own_L2 c22) (by decide) : ¬ (p0 < (12272 : Int32))), if_pos (own_T3 (own_L2 c22) (by decide) : (12288 : Int32) < p0), if_neg (own_T2 (own_L2 c22) (by decide) : ¬ (p0 < (55296 : Int32))), if_pos (own_T3 (own_L2 c22) (by decide) : (63743 : Int32) < p0), if_neg (own_T2 (own_L2 c22) (by decide) : ¬ (p0 < (64976 : Int32))), if_pos (own_T3 (own_L2 c22) (by decide) : (65007 : Int32) < p0), if_neg (own_T2 (own_L2 c22) (by decide) : ¬ (p0 < (65534 : Int32))), if_neg (own_T4 (own_U1 c23) (by decide) : ¬ ((65535 : Int32) < p0))]
                                              · skip
                                                by_cases c24 : (983039 : Int32) < p0
                                                · skip
                                                  simp only [f1, f2, if_neg g0, if_neg c1, if_pos c2, if_neg c3, if_pos c4, if_neg c5, if_pos c6, if_neg c7, if_pos c8, if_neg c9, if_pos c10, if_neg c11, if_pos c12, if_neg c13, if_pos c14, if_neg c15, if_pos c16, if_neg c17, if_pos c18, if_neg c19, if_pos c20, if_neg c21, if_pos c22, if_neg c23, if_pos c24, if_neg (own_T2 (own_L2 c24) (by decide) : ¬ (p0 < (0 : Int32))), if_neg g0, if_neg c1, if_pos c24]
                                                · skip
                                                  simp only [f1, f2, if_neg g0, if_neg c1, if_pos c2, if_neg c3, if_pos c4, if_neg c5, if_pos c6, if_neg c7, if_pos c8, if_neg c9, if_pos c10, if_neg c11, if_pos c12, if_neg c13, if_pos c14, if_neg c15, if_pos c16, if_neg c17, if_pos c18, if_neg c19, if_pos c20, if_neg c21, if_pos c22, if_neg c23, if_neg c24, if_neg (own_T2 (own_L1 c23) (by decide) : ¬ (p0 < (0 : Int32))), if_neg g0, if_neg c1, if_neg c24, if_neg (own_T6 (own_L1 c23) (by decide) : ¬ (p0 = (215 : Int32))), if_neg (own_T6 (own_L1 c23) (by decide) : ¬ (p0 = (247 : Int32))), if_neg (own_T2 (own_L1 c23) (by decide) : ¬ (p0 < (768 : Int32))), if_pos (own_T3 (own_L1 c23) (by decide) : (879 : Int32) < p0), if_neg (own_T6 (own_L1 c23) (by decide) : ¬ (p0 = (894 : Int32))), if_neg (own_T2 (own_L1 c23) (by decide) : ¬ (p0 < (8192 : Int32))), if_pos (own_T3 (own_L1 c23) (by decide) : (8203 : Int32) < p0), if_neg (own_T2 (own_L1 c23) (by decide) : ¬ (p0 < (8206 : Int32))), if_pos (own_T3 (own_L1 c23) (by decide) : (8303 : Int32) < p0), if_neg (own_T2 (own_L1 c23) (by decide) : ¬ (p0 < (8592 : Int32))), if_pos (own_T3 (own_L1 c23) (by decide) : (11263 : Int32) < p0), if_neg (own_T2 (own_L1 c23) (by decide) : ¬ (p0 < (12272 : Int32))), if_pos (own_T3 (own_L1 c23) (by decide) : (12288 : Int32) < p0), if_neg (own_T2 (own_L1 c23) (by decide) : ¬ (p0 < (55296 : Int32))), if_pos (own_T3 (own_L1 c23) (by decide) : (63743 : Int32) < p0), if_neg (own_T2 (own_L1 c23) (by decide) : ¬ (p0 < (64976 : Int32))), if_pos (own_T3 (own_L1 c23) (by decide) : (65007 : Int32) < p0), if_neg (own_T2 (own_L1 c23) (by decide) : ¬ (p0 < (65534 : Int32))), if_pos (own_T3 (own_L1 c23) (by decide) : (65535 : Int32) < p0)]
                                            · skip
                                              simp only [f1, f2, if_neg g0, if_neg c1, if_pos c2, if_neg c3, if_pos c4, if_neg c5, if_pos c6, if_neg c7, if_pos c8, if_neg c9, if_pos c10, if_neg c11, if_pos c12, if_neg c13, if_pos c14, if_neg c15, if_pos c16, if_neg c17, if_pos c18, if_neg c19, if_pos c20, if_neg c21, if_neg c22, if_neg (own_T2 (own_L1 c21) (by decide) : ¬ (p0 < (0 : Int32))), if_neg g0, if_neg c1, if_neg (own_T4 (own_U2 c22) (by decide) : ¬ ((983039 : Int32) < p0)), if_neg (own_T6 (own_L1 c21) (by decide) : ¬ (p0 = (215 : Int32))), if_neg (own_T6 (own_L1 c21) (by decide) : ¬ (p0 = (247 : Int32))), if_neg (own_T2 (own_L1 c21) (by decide) : ¬ (p0 < (768 : Int32))), if_pos (own_T3 (own_L1 c21) (by decide) : (879 : Int32) < p0), if_neg (own_T6 (own_L1 c21) (by decide) : ¬ (p0 = (894 : Int32))), if_neg (own_T2 (own_L1 c21) (by decide) : ¬ (p0 < (8192 : Int32))), if_pos (own_T3 (own_L1 c21) (by decide) : (8203 : Int32) < p0), if_neg (own_T2 (own_L1 c21) (by decide) : ¬ (p0 < (8206 : Int32))), if_pos (own_T3 (own_L1 c21) (by decide) : (8303 : Int32) < p0), if_neg (own_T2 (own_L1 c21) (by decide) : ¬ (p0 < (8592 : Int32))), if_pos (own_T3 (own_L1 c21) (by decide) : (11263 : Int32) < p0), if_neg (own_T2 (own_L1 c21) (by decide) : ¬ (p0 < (12272 : Int32))), if_pos (own_T3 (own_L1 c21) (by decide) : (12288 : Int32) < p0), if_neg (own_T2 (own_L1 c21) (by decide) : ¬ (p0 < (55296 : Int32))), if_pos (own_T3 (own_L1 c21) (by decide) : (63743 : Int32) < p0), if_neg (own_T2 (own_L1 c21) (by decide) : ¬ (p0 < (64976 : Int32))), if_pos (own_T3 (own_L1 c21) (by decide) : (65007 : Int32) < p0), if_pos (own_T1 (own_U2 c22) (by decide) : p0 < (65534 : Int32))]
                                        · skip
                                          simp only [f1, f2, if_neg g0, if_neg c1, if_pos c2, if_neg c3, if_pos c4, if_neg c5, if_pos c6, if_neg c7, if_pos c8, if_neg c9, if_pos c10, if_neg c11, if_pos c12, if_neg c13, if_pos c14, if_neg c15, if_pos c16, if_neg c17, if_pos c18, if_neg c19, if_neg c20, if_neg (own_T2 (own_L1 c19) (by decide) : ¬ (p0 < (0 : Int32))), if_neg g0, if_neg c1, if_neg (own_T4 (own_U2 c20) (by decide) : ¬ ((983039 : Int32) < p0)), if_neg (own_T6 (own_L1 c19) (by decide) : ¬ (p0 = (215 : Int32))), if_neg (own_T6 (own_L1 c19) (by decide) : ¬ (p0 = (247 : Int32))), if_neg (own_T2 (own_L1 c19) (by decide) : ¬ (p0 < (768 : Int32))), if_pos (own_T3 (own_L1 c19) (by decide) : (879 : Int32) < p0), if_neg (own_T6 (own_L1 c19) (by decide) : ¬ (p0 = (894 : Int32))), if_neg (own_T2 (own_L1 c19) (by decide) : ¬ (p0 < (8192 : Int32))), if_pos (own_T3 (own_L1 c19) (by decide) : (8203 : Int32) < p0), if_neg (own_T2 (own_L1 c19) (by decide) : ¬ (p0 < (8206 : Int32))), if_pos (own_T3 (own_L1 c19) (by decide) : (8303 : Int32) < p0), if_neg (own_T2 (own_L1 c19) (by decide) : ¬ (p0 < (8592 : Int32))), if_pos (own_T3 (own_L1 c19) (by decide) : (11263 : Int32) < p0), if_neg (own_T2 (own_L1 c19) (by decide) : ¬ (p0 < (12272 : Int32))), if_pos (own_T3 (own_L1 c19) (by decide) : (12288 : Int32) < p0), if_neg (own_T2 (own_L1 c19) (by decide) : ¬ (p0 < (55296 : Int32))), if_pos (own_T3 (own_L1 c19) (by decide) : (63743 : Int32) < p0), if_pos (own_T1 (own_U2 c20) (by decide) : p0 < (64976 : Int32))]
                                    · skip
                                      simp only [f1, f2, if_neg g0, if_neg c1, if_pos c2, if_neg c3, if_pos c4, if_neg c5, if_pos c6, if_neg c7, if_pos c8, if_neg c9, if_pos c10, if_neg c11, if_pos c12, if_neg c13, if_pos c14, if_neg c15, if_pos c16, if_neg c17, if_neg c18, if_neg (own_T2 (own_L1 c17) (by decide) : ¬ (p0 < (0 : Int32))), if_neg g0, if_neg c1, if_neg (own_T4 (own_U2 c18) (by decide) : ¬ ((983039 : Int32) < p0)), if_neg (own_T6 (own_L1 c17) (by decide) : ¬ (p0 = (215 : Int32))), if_neg (own_T6 (own_L1 c17) (by decide) : ¬ (p0 = (247 : Int32))), if_neg (own_T2 (own_L1 c17) (by decide) : ¬ (p0 < (768 : Int32))), if_pos (own_T3 (own_L1 c17) (by decide) : (879 : Int32) < p0), if_neg (own_T6 (own_L1 c17) (by decide) : ¬ (p0 = (894 : Int32))), if_neg (own_T2 (own_L1 c17) (by decide) : ¬ (p0 < (8192 : Int32))), if_pos (own_T3 (own_L1 c17) (by decide) : (8203 : Int32) < p0), if_neg (own_T2 (own_L1 c17) (by decide) : ¬ (p0 < (8206 : Int32))), if_pos (own_T3 (own_L1 c17) (by decide) : (8303 : Int32) < p0), if_neg (own_T2 (own_L1 c17) (by decide) : ¬ (p0 < (8592 : Int32))), if_pos (own_T3 (own_L1 c17) (by decide) : (11263 : Int32) < p0), if_neg (own_T2 (own_L1 c17) (by decide) : ¬ (p0 < (12272 : Int32))), if_pos (own_T3 (own_L1 c17) (by decide) : (12288 : Int32) < p0), if_pos (own_T1 (own_U2 c18) (by decide) : p0 < (55296 : Int32))]
                                · skip
                                  simp only [f1, f2, if_neg g0, if_neg c1, if_pos c2, if_neg c3, if_pos c4, if_neg c5, if_pos c6, if_neg c7, if_pos c8, if_neg c9, if_pos c10, if_neg c11, if_pos c12, if_neg c13, if_pos c14, if_neg c15, if_neg c16, if_neg (own_T2 (own_L1 c15) (by decide) : ¬ (p0 < (0 : Int32))), if_neg g0, if_neg c1, if_neg (own_T4 (own_U2 c16) (by decide) : ¬ ((983039 : Int32) < p0)), if_neg (own_T6 (own_L1 c15) (by decide) : ¬ (p0 = (215 : Int32))), if_neg (own_T6 (own_L1 c15) (by decide) : ¬ (p0 = (247 : Int32))), if_neg (own_T2 (own_L1 c15) (by decide) : ¬ (p0 < (768 : Int32))), if_pos (own_T3 (own_L1 c15) (by decide) : (879 : Int32) < p0), if_neg (own_T6 (own_L1 c15) (by decide) : ¬ (p0 = (894 : Int32))), if_neg (own_T2 (own_L1 c15) (by decide) : ¬ (p0 < (8192 : Int32))), if_pos (own_T3 (own_L1 c15) (by decide) : (8203 : Int32) < p0), if_neg (own_T2 (own_L1 c15) (by decide) : ¬ (p0 < (8206 : Int32))), if_pos (own_T3 (own_L1 c15) (by decide) : (8303 : Int32) < p0), if_neg (own_T2 (own_L1 c15) (by decide) : ¬ (p0 < (8592 : Int32))), if_pos (own_T3 (own_L1 c15) (by decide) : (11263 : Int32) < p0), if_pos (own_T1 (own_U2 c16) (by decide) : p0 < (12272 : Int32))]
                            · skip
                              simp only [f1, f2, if_neg g0, if_neg c1, if_pos c2, if_neg c3, if_pos c4, if_neg c5, if_pos c6, if_neg c7, if_pos c8, if_neg c9, if_pos c10, if_neg c11, if_pos c12, if_neg c13, if_neg c14, if_neg (own_T2 (own_L1 c13) (by decide) : ¬ (p0 < (0 : Int32))), if_neg g0, if_neg c1, if_neg (own_T4 (own_U2 c14) (by decide) : ¬ ((983039 : Int32) < p0)), if_neg (own_T6 (own_L1 c13) (by decide) : ¬ (p0 = (215 : Int32))), if_neg (own_T6 (own_L1 c13) (by decide) : ¬ (p0 = (247 : Int32))), if_neg (own_T2 (own_L1 c13) (by decide) : ¬ (p0 < (768 : Int32))), if_pos (own_T3 (own_L1 c13) (by decide) : (879 : Int32) < p0), if_neg (own_T6 (own_L1 c13) (by decide) : ¬ (p0 = (894 : Int32))), if_neg (own_T2 (own_L1 c13) (by decide) : ¬ (p0 < (8192 : Int32))), if_pos (own_T3 (own_L1 c13) (by decide) : (8203 : Int32) < p0), if_neg (own_T2 (own_L1 c13) (by decide) : ¬ (p0 < (8206 : Int32))), if_pos (own_T3 (own_L1 c13) (by decide) : (8303 : Int32) < p0), if_pos (own_T1 (own_U2 c14) (by decide) : p0 < (8592 : Int32))]
                        · skip
                          simp only [f1, f2, if_neg g0, if_neg c1, if_pos c2, if_neg c3, if_pos c4, if_neg c5, if_pos c6, if_neg c7, if_pos c8, if_neg c9, if_pos c10, if_neg c11, if_neg c12, if_neg (own_T2 (own_L1 c11) (by decide) : ¬ (p0 < (0 : Int32))), if_neg g0, if_neg c1, if_neg (own_T4 (own_U2 c12) (by decide) : ¬ ((983039 : Int32) < p0)), if_neg (own_T6 (own_L1 c11) (by decide) : ¬ (p0 = (215 : Int32))), if_neg (own_T6 (own_L1 c11) (by decide) : ¬ (p0 = (247 : Int32))), if_neg (own_T2 (own_L1 c11) (by decide) : ¬ (p0 < (768 : Int32))), if_pos (own_T3 (own_L1 c11) (by decide) : (879 : Int32) < p0), if_neg (own_T6 (own_L1 c11) (by decide) : ¬ (p0 = (894 : Int32))), if_neg (own_T2 (own_L1 c11) (by decide) : ¬ (p0 < (8192 : Int32))), if_pos (own_T3 (own_L1 c11) (by decide) : (8203 : Int32) < p0), if_pos (own_T1 (own_U2 c12) (by decide) : p0 < (8206 : Int32))]
                    · skip
                      simp only [f1, f2, if_neg g0, if_neg c1, if_pos c2, if_neg c3, if_pos c4, if_neg c5, if_pos c6, if_neg c7, if_pos c8, if_neg c9, if_neg c10, if_neg (own_T2 (own_L1 c9) (by decide) : ¬ (p0 < (0 : Int32))), if_neg g0, if_neg c1, if_neg (own_T4 (own_U2 c10) (by decide) : ¬ ((983039 : Int32) < p0)), if_neg (own_T6 (own_L1 c9) (by decide) : ¬ (p0 = (215 : Int32))), if_neg (own_T6 (own_L1 c9) (by decide) : ¬ (p0 = (247 : Int32))), if_neg (own_T2 (own_L1 c9) (by decide) : ¬ (p0 < (768 : Int32))), if_pos (own_T3 (own_L1 c9) (by decide) : (879 : Int32) < p0), if_neg (own_T6 (own_L1 c9) (by decide) : ¬ (p0 = (894 : Int32))), if_pos (own_T1 (own_U2 c10) (by decide) : p0 < (8192 : Int32))]
                · skip
                  simp only [f1, f2, if_neg g0, if_neg c1, if_pos c2, if_neg c3, if_pos c4, if_neg c5, if_pos c6, if_neg c7, if_neg c8, if_neg (own_T2 (own_L1 c7) (by decide) : ¬ (p0 < (0 : Int32))), if_neg g0, if_neg c1, if_neg (own_T4 (own_U2 c8) (by decide) : ¬ ((983039 : Int32) < p0)), if_neg (own_T6 (own_L1 c7) (by decide) : ¬ (p0 = (215 : Int32))), if_neg (own_T6 (own_L1 c7) (by decide) : ¬ (p0 = (247 : Int32))), if_neg (own_T2 (own_L1 c7) (by decide) : ¬ (p0 < (768 : Int32))), if_pos (own_T3 (own_L1 c7) (by decide) : (879 : Int32) < p0), if_neg (own_T5 (own_U2 c8) (by decide) : ¬ (p0 = (894 : Int32))), if_pos (own_T1 (own_U2 c8) (by decide) : p0 < (8192 : Int32))]
            · skip
              simp only [f1, f2, if_neg g0, if_neg c1, if_pos c2, if_neg c3, if_pos c4, if_neg c5, if_neg c6, if_neg (own_T2 (own_L1 c5) (by decide) : ¬ (p0 < (0 : Int32))), if_neg g0, if_neg c1, if_neg (own_T4 (own_U2 c6) (by decide) : ¬ ((983039 : Int32) < p0)), if_neg (own_T6 (own_L1 c5) (by decide) : ¬ (p0 = (215 : Int32))), if_neg (own_T6 (own_L1 c5) (by decide) : ¬ (p0 = (247 : Int32))), if_pos (own_T1 (own_U2 c6) (by decide) : p0 < (768 : Int32))]
        · skip
          simp only [f1, f2, if_neg g0, if_neg c1, if_pos c2, if_neg c3, if_neg c4, if_neg (own_T2 (own_L1 c3) (by decide) : ¬ (p0 < (0 : Int32))), if_neg g0, if_neg c1, if_neg (own_T4 (own_U2 c4) (by decide) : ¬ ((983039 : Int32) < p0)), if_neg (own_T6 (own_L1 c3) (by decide) : ¬ (p0 = (215 : Int32))), if_neg (own_T5 (own_U2 c4) (by decide) : ¬ (p0 = (247 : Int32))), if_pos (own_T1 (own_U2 c4) (by decide) : p0 < (768 : Int32))]
    · skip
      simp only [f1, f2, if_neg g0, if_neg c1, if_neg c2, if_neg (own_T2 (own_L1 c1) (by decide) : ¬ (p0 < (0 : Int32))), if_neg g0, if_neg c1, if_neg (own_T4 (own_U2 c2) (by decide) : ¬ ((983039 : Int32) < p0)), if_neg (own_T5 (own_U2 c2) (by decide) : ¬ (p0 = (215 : Int32))), if_neg (own_T5 (own_U2 c2) (by decide) : ¬ (p0 = (247 : Int32))), if_pos (own_T1 (own_U2 c2) (by decide) : p0 < (768 : Int32))]
theorem own_main (c : Int32) : f1 c = f2 c := by
  have L : ∀ k : Int32, c < k ↔ c.toInt < k.toInt := fun k => Int32.lt_iff_toInt_lt
  have n0 : (0 : Int32).toInt = 0 := rfl
  have n128 : (128 : Int32).toInt = 128 := rfl
  by_cases h1 : c < (128 : Int32)
  · by_cases h0 : c < (0 : Int32)
    · simp only [f1, f2, if_pos h1, if_pos h0]
    · rw [L] at h0 h1
      have h := own_small ⟨c.toInt.toNat, by omega⟩
      have e : Int32.ofNat c.toInt.toNat = c := by
        rw [← Int32.toInt_inj, Int32.toInt_ofNat_of_lt (by omega)]; omega
      simpa only [e] using h
  · exact own_big c h1
theorem dead0_0 (p0 : Int32) (p1 : Int32) (hc5_1 : (p1 &&& (3 : Int32)) = (0 : Int32)) (hc53_4 : ¬ ((f1 p0) = (f2 p0))) : False := by
  exact hc53_4 (own_main _)
theorem dead0_1 (p0 : Int32) (p1 : Int32) (hc5_1 : ¬ ((p1 &&& (3 : Int32)) = (0 : Int32))) (hc15_5 : (p1 &&& (3 : Int32)) = (1 : Int32)) (hc53_8 : ¬ ((f1 (p0 &&& (2097151 : Int32))) = (f2 (p0 &&& (2097151 : Int32))))) : False := by
  exact hc53_8 (own_main _)
theorem dead0_2 (p0 : Int32) (p1 : Int32) (hc5_1 : ¬ ((p1 &&& (3 : Int32)) = (0 : Int32))) (hc15_5 : ¬ ((p1 &&& (3 : Int32)) = (1 : Int32))) (hc28_9 : (p1 &&& (3 : Int32)) = (2 : Int32)) (hc53_12 : ¬ ((f1 (p0 &&& (65535 : Int32))) = (f2 (p0 &&& (65535 : Int32))))) : False := by
  exact hc53_12 (own_main _)
theorem dead0_3 (p0 : Int32) (p1 : Int32) (hc5_1 : ¬ ((p1 &&& (3 : Int32)) = (0 : Int32))) (hc15_5 : ¬ ((p1 &&& (3 : Int32)) = (1 : Int32))) (hc28_9 : ¬ ((p1 &&& (3 : Int32)) = (2 : Int32))) (hc53_15 : ¬ ((f1 (p0 &&& (16383 : Int32))) = (f2 (p0 &&& (16383 : Int32))))) : False := by
  exact hc53_15 (own_main _)
def Q0 (Z : State) (p0 : Int32) (p1 : Int32) (w : Addr) (cl : Cell) (h0 : Heap) (n0 : Nat) (v : Option Value) (h : Heap) (L : List Loc) : Prop := v = some (.int 1) ∧ Fr n0 L
set_option maxRecDepth 65536 in
set_option maxHeartbeats 40000000 in
theorem rm0 (l : Launch) (Z : State) (a0 : Array Value) (hw : ∀ d ∈ tables_1, d.before a0 Z = true) (ws : List Jvm.Cond) (p0 : Int32) (p1 : Int32) (w : Addr) (cl : Cell) (h0 : Heap) (n0 : Nat) (Z0 : n0 ≤ h0.size) (S : Sta Z h0 "com/example/vine_labels/vinelabels/xmlinput/XmlCharacters" "ASCII" "[B" (.ref w)) (A : Arr Z h0 w cl .byte) (hT : ∀ j : Int32, ¬ j < (0 : Int32) → j < (128 : Int32) → ¬ (j < 0 ∨ cl.slots.size ≤ j.toNatClampNeg) ∧ cl.slots[j.toNatClampNeg]? = some (.int (own_tab j))) :
    MetFree l x (head1 (Jvm.Cond.code x code maxLocals ret :: ws) room_1) (fun a U => a = #[(.int p0), (.int p1)] ∧ Z.Warmed39 U.vm ∧ U.heap = h0) (fun _ _ _ _ _ => True) (fun _ U o U' => ∃ v L, o = .returned v ∧ Q0 Z p0 p1 w cl h0 n0 v U'.heap L ∧ FrameEnd U o U' L 0 0) := by
  refine MetFree.of_bodySF (plainFor_of_name pn_1) hisR ?_
  intro p e s m args below meth c s₁ Bd hml0 hP hK
  obtain ⟨rfl, hZ, hh⟩ := hP
  have hx := Bd.exec
  have hby := Bd.bytes
  have hml : c.maxLocals = 4 := hml0
  have hown : s.vm.findClass "com/example/vine_labels/vinelabels/xmlinput/XmlCharactersIsNameStartPinLaw" = some m.cls := findClass_of_methodNamed Bd.named
  have hnm := (name_of_methodNamed Bd.named Bd.method).1
  have X0 : Stand p l e room_1 s m #[(.int p0), (.int p1)] below meth c s₁ [] 0 0 := Stand.of_body Bd
  have e0 : s₁.heap = h0 := by rw [← hh, Bd.state]; rfl
  have N0 := Fr.nil n0
  have hret := Bd.returns
  have hlk := BodyLoose.notSynchronized Bd
  show own_Out p e below (fun o U' => ∃ v L, o = .returned v ∧ Q0 Z p0 p1 w cl h0 n0 v U'.heap L ∧ FrameEnd s o U' L 0 0) (s₁.setTop (entryFrame m #[(.int p0), (.int p1)] maxLocals))
  refine own_of (fun t k => castTop (ef_0 m p0 p1) k) ?_
  show own_Out p e below _ (s₁.setTop (mkF m 0 #[.val (.int p0), .val (.int p1), .unset, .unset] []))
  refine own_of (fun _ k => XS.iloadN X0.here hx rfl (hb hby at_0) rfl k) ?_
  show own_Out p e below _ (s₁.setTop (mkF m 1 #[.val (.int p0), .val (.int p1), .unset, .unset] [(.int p1)]))
  refine own_of (fun _ k => XS.iconst X0.here hx rfl (hb hby at_1) k) ?_
  show own_Out p e below _ (s₁.setTop (mkF m 2 #[.val (.int p0), .val (.int p1), .unset, .unset] [(.int (3 : Int32)), (.int p1)]))
  refine own_of (fun _ k => XS.iand X0.here hx rfl (hb hby at_2) rfl k) ?_
  show own_Out p e below _ (s₁.setTop (mkF m 3 #[.val (.int p0), .val (.int p1), .unset, .unset] [(.int (p1 &&& (3 : Int32)))]))
  refine own_of (fun _ k => XS.istoreN X0.here hx rfl (hb hby at_3) rfl (l' := #[.val (.int p0), .val (.int p1), .val (.int (p1 &&& (3 : Int32))), .unset]) rfl k) ?_
  show own_Out p e below _ (s₁.setTop (mkF m 4 #[.val (.int p0), .val (.int p1), .val (.int (p1 &&& (3 : Int32))), .unset] []))
  refine own_of (fun _ k => XS.iloadN X0.here hx rfl (hb hby at_4) rfl k) ?_
  show own_Out p e below _ (s₁.setTop (mkF m 5 #[.val (.int p0), .val (.int p1), .val (.int (p1 &&& (3 : Int32))), .unset] [(.int (p1 &&& (3 : Int32)))]))
  by_cases hc5_1 : (p1 &&& (3 : Int32)) = (0 : Int32)
  · skip
    refine own_of (fun _ k => XS.ifNo X0.here hx rfl (hb hby at_5) rfl ((if0 _ _).trans (teq hc5_1).2) k) ?_
    show own_Out p e below _ (s₁.setTop (mkF m 8 #[.val (.int p0), .val (.int p1), .val (.int (p1 &&& (3 : Int32))), .unset] []))
    refine own_of (fun _ k => XS.iloadN X0.here hx rfl (hb hby at_8) rfl k) ?_
    show own_Out p e below _ (s₁.setTop (mkF m 9 #[.val (.int p0), .val (.int p1), .val (.int (p1 &&& (3 : Int32))), .unset] [(.int p0)]))
    refine own_of (fun _ k => XS.istoreN X0.here hx rfl (hb hby at_9) rfl (l' := #[.val (.int p0), .val (.int p1), .val (.int (p1 &&& (3 : Int32))), .val (.int p0)]) rfl k) ?_
    show own_Out p e below _ (s₁.setTop (mkF m 10 #[.val (.int p0), .val (.int p1), .val (.int (p1 &&& (3 : Int32))), .val (.int p0)] []))
    refine own_of (fun _ k => XS.goto X0.here hx rfl (pc0 := 10) (pc' := 45) rfl (hb hby at_10) (by decide) (by decide) k) ?_
    show own_Out p e below _ (s₁.setTop (mkF m 45 #[.val (.int p0), .val (.int p1), .val (.int (p1 &&& (3 : Int32))), .val (.int p0)] []))
    refine own_of (fun _ k => XS.iloadN X0.here hx rfl (hb hby at_45) rfl k) ?_
    show own_Out p e below _ (s₁.setTop (mkF m 46 #[.val (.int p0), .val (.int p1), .val (.int (p1 &&& (3 : Int32))), .val (.int p0)] [(.int p0)]))
    obtain ⟨_, _, ⟨T2, L2, k2, n2⟩, -, X2, ⟨Lc2, hQ2, l2, y2, z2⟩, st2⟩ := Jvm.LawKit.callS X0 hx (y := (⟨"com/example/vine_labels/vinelabels/xmlinput/XmlCharacters", "isNameStart", "(I)Z"⟩ : MethodName)) hown (mvT hZ (hw _ (List.mem_of_getElem? (i := 0) rfl))) (mvT hZ (hw _ (List.mem_of_getElem? (i := 1) rfl))) (mvT hZ (hw _ (List.mem_of_getElem? (i := 2) rfl))) (mvT hZ (hw _ (List.mem_of_getElem? (i := 3) rfl))) (by decide) (backOf (W := 0) (rm1 l Z a0 hw [] p0 w cl h0 n0 Z0 S A hT) hZ (hw _ (List.mem_of_getElem? (i := 3) rfl)) (hw _ (List.mem_of_getElem? (i := 2) rfl)) (by decide) (by decide)) (g := (mkF m 46 #[.val (.int p0), .val (.int p1), .val (.int (p1 &&& (3 : Int32))), .val (.int p0)] [(.int p0)])) rfl (by rw [hml]; rfl) (argsL := [(.int p0)]) (rest := []) (lenOf pd_0 rfl) rfl (by show 2 * 0 + _ ≤ _; exact Nat.le_of_eq rfl) (hb hby at_46) (fun _ _ => ⟨rfl, e0, (by decide : 0 + 0 ≤ _), (by decide : 0 + 0 ≤ _)⟩)
    dsimp only [Pt.U, Pt.locs, Pt.cells, Pt.slots] at X2 l2 y2 z2 st2 hQ2
    subst l2 y2 z2
    obtain ⟨rfl, N2q, hh2⟩ := hQ2
    have N2 := Fr.app N0 N2q
    refine own_of st2 ?_
    show own_Out p e below _ (T2.setTop (mkF m 49 #[.val (.int p0), .val (.int p1), .val (.int (p1 &&& (3 : Int32))), .val (.int p0)] [(.int (f1 p0))]))
    refine own_of (fun _ k => XS.iloadN X2.here hx rfl (hb hby at_49) rfl k) ?_
    show own_Out p e below _ (T2.setTop (mkF m 50 #[.val (.int p0), .val (.int p1), .val (.int (p1 &&& (3 : Int32))), .val (.int p0)] [(.int p0), (.int (f1 p0))]))
    obtain ⟨_, _, ⟨T3, L3, k3, n3⟩, -, X3, ⟨Lc3, hQ3, l3, y3, z3⟩, st3⟩ := Jvm.LawKit.callS X2 hx (y := (⟨"com/example/vine_labels/vinelabels/xmlinput/XmlCharactersIsNameStartPinLaw", "reference", "(I)Z"⟩ : MethodName)) hown (mvT hZ (hw _ (List.mem_of_getElem? (i := 6) rfl))) (mvT hZ (hw _ (List.mem_of_getElem? (i := 7) rfl))) (mvT hZ (hw _ (List.mem_of_getElem? (i := 8) rfl))) (mvT hZ (hw _ (List.mem_of_getElem? (i := 9) rfl))) (by decide) (backOf (W := 1) (rm2 l Z a0 hw [] p0 h0 n0 Z0 ) hZ (hw _ (List.mem_of_getElem? (i := 9) rfl)) (hw _ (List.mem_of_getElem? (i := 8) rfl)) (by decide) (by decide)) (g := (mkF m 50 #[.val (.int p0), .val (.int p1), .val (.int (p1 &&& (3 : Int32))), .val (.int p0)] [(.int p0), (.int (f1 p0))])) rfl (by rw [hml]; rfl) (argsL := [(.int p0)]) (rest := [(.int (f1 p0))]) (lenOf pd_0 rfl) rfl (by show 2 * 0 + _ ≤ _; exact Nat.le_of_eq rfl) (hb hby at_50) (fun _ _ => ⟨rfl, hh2, (by decide : 0 + 0 ≤ _), (by decide : 0 + 0 ≤ _)⟩)
    dsimp only [Pt.U, Pt.locs, Pt.cells, Pt.slots] at X3 l3 y3 z3 st3 hQ3
    subst l3 y3 z3
    obtain ⟨rfl, N3q, hh3⟩ := hQ3
    have N3 := Fr.app N2 N3q
    refine own_of st3 ?_
    show own_Out p e below _ (T3.setTop (mkF m 53 #[.val (.int p0), .val (.int p1), .val (.int (p1 &&& (3 : Int32))), .val (.int p0)] [(.int (f2 p0)), (.int (f1 p0))]))
    by_cases hc53_4 : (f1 p0) = (f2 p0)
    · skip
      refine own_of (fun _ k => XS.icmpNo X3.here hx rfl (hb hby at_53) rfl (teq hc53_4).2 k) ?_
      show own_Out p e below _ (T3.setTop (mkF m 56 #[.val (.int p0), .val (.int p1), .val (.int (p1 &&& (3 : Int32))), .val (.int p0)] []))
      refine own_of (fun _ k => XS.iconst X3.here hx rfl (hb hby at_56) k) ?_
      show own_Out p e below _ (T3.setTop (mkF m 57 #[.val (.int p0), .val (.int p1), .val (.int (p1 &&& (3 : Int32))), .val (.int p0)] [(.int (1 : Int32))]))
      refine own_of (fun _ k => XS.goto X3.here hx rfl (pc0 := 57) (pc' := 61) rfl (hb hby at_57) (by decide) (by decide) k) ?_
      show own_Out p e below _ (T3.setTop (mkF m 61 #[.val (.int p0), .val (.int p1), .val (.int (p1 &&& (3 : Int32))), .val (.int p0)] [(.int (1 : Int32))]))
      exact own_outN X3 hx hlk (t := .boolean) hret (by simp) (hb hby at_61) (z' := (1 : Int32)) rfl (Q := Q0 Z p0 p1 w cl h0 n0) ⟨rfl, N3⟩ (by decide) (by decide)
    · skip
      refine own_of (fun _ k => XS.icmpYes X3.here hx rfl (pc0 := 53) (pc' := 60) rfl (hb hby at_53) rfl (feq hc53_4).2 (by decide) (by decide) k) ?_
      show own_Out p e below _ (T3.setTop (mkF m 60 #[.val (.int p0), .val (.int p1), .val (.int (p1 &&& (3 : Int32))), .val (.int p0)] []))
      refine own_of (fun _ k => XS.iconst X3.here hx rfl (hb hby at_60) k) ?_
      show own_Out p e below _ (T3.setTop (mkF m 61 #[.val (.int p0), .val (.int p1), .val (.int (p1 &&& (3 : Int32))), .val (.int p0)] [(.int (0 : Int32))]))
      exact (dead0_0 p0 p1 hc5_1 hc53_4).elim
  · skip
    refine own_of (fun _ k => XS.ifYes X0.here hx rfl (pc0 := 5) (pc' := 13) rfl (hb hby at_5) rfl ((if0 _ _).trans (feq hc5_1).2) (by decide) (by decide) k) ?_
    show own_Out p e below _ (s₁.setTop (mkF m 13 #[.val (.int p0), .val (.int p1), .val (.int (p1 &&& (3 : Int32))), .unset] []))
    refine own_of (fun _ k => XS.iloadN X0.here hx rfl (hb hby at_13) rfl k) ?_
    show own_Out p e below _ (s₁.setTop (mkF m 14 #[.val (.int p0), .val (.int p1), .val (.int (p1 &&& (3 : Int32))), .unset] [(.int (p1 &&& (3 : Int32)))]))
    refine own_of (fun _ k => XS.iconst X0.here hx rfl (hb hby at_14) k) ?_
    show own_Out p e below _ (s₁.setTop (mkF m 15 #[.val (.int p0), .val (.int p1), .val (.int (p1 &&& (3 : Int32))), .unset] [(.int (1 : Int32)), (.int (p1 &&& (3 : Int32)))]))
    by_cases hc15_5 : (p1 &&& (3 : Int32)) = (1 : Int32)
    · skip
      refine own_of (fun _ k => XS.icmpNo X0.here hx rfl (hb hby at_15) rfl (teq hc15_5).2 k) ?_
      show own_Out p e below _ (s₁.setTop (mkF m 18 #[.val (.int p0), .val (.int p1), .val (.int (p1 &&& (3 : Int32))), .unset] []))
      refine own_of (fun _ k => XS.iloadN X0.here hx rfl (hb hby at_18) rfl k) ?_
      show own_Out p e below _ (s₁.setTop (mkF m 19 #[.val (.int p0), .val (.int p1), .val (.int (p1 &&& (3 : Int32))), .unset] [(.int p0)]))
      refine own_of (X0.ldcInt hx hown (mvT hZ (hw _ (List.mem_of_getElem? (i := 10) rfl))) (g := (mkF m 19 #[.val (.int p0), .val (.int p1), .val (.int (p1 &&& (3 : Int32))), .unset] [(.int p0)])) rfl (hb hby at_19)) ?_
      show own_Out p e below _ (s₁.setTop (mkF m 21 #[.val (.int p0), .val (.int p1), .val (.int (p1 &&& (3 : Int32))), .unset] [(.int (2097151 : Int32)), (.int p0)]))
      refine own_of (fun _ k => XS.iand X0.here hx rfl (hb hby at_21) rfl k) ?_
      show own_Out p e below _ (s₁.setTop (mkF m 22 #[.val (.int p0), .val (.int p1), .val (.int (p1 &&& (3 : Int32))), .unset] [(.int (p0 &&& (2097151 : Int32)))]))
      refine own_of (fun _ k => XS.istoreN X0.here hx rfl (hb hby at_22) rfl (l' := #[.val (.int p0), .val (.int p1), .val (.int (p1 &&& (3 : Int32))), .val (.int (p0 &&& (2097151 : Int32)))]) rfl k) ?_
      show own_Out p e below _ (s₁.setTop (mkF m 23 #[.val (.int p0), .val (.int p1), .val (.int (p1 &&& (3 : Int32))), .val (.int (p0 &&& (2097151 : Int32)))] []))
      refine own_of (fun _ k => XS.goto X0.here hx rfl (pc0 := 23) (pc' := 45) rfl (hb hby at_23) (by decide) (by decide) k) ?_
      show own_Out p e below _ (s₁.setTop (mkF m 45 #[.val (.int p0), .val (.int p1), .val (.int (p1 &&& (3 : Int32))), .val (.int (p0 &&& (2097151 : Int32)))] []))
      refine own_of (fun _ k => XS.iloadN X0.here hx rfl (hb hby at_45) rfl k) ?_
      show own_Out p e below _ (s₁.setTop (mkF m 46 #[.val (.int p0), .val (.int p1), .val (.int (p1 &&& (3 : Int32))), .val (.int (p0 &&& (2097151 : Int32)))] [(.int (p0 &&& (2097151 : Int32)))]))
      obtain ⟨_, _, ⟨T6, L6, k6, n6⟩, -, X6, ⟨Lc6, hQ6, l6, y6, z6⟩, st6⟩ := Jvm.LawKit.callS X0 hx (y := (⟨"com/example/vine_labels/vinelabels/xmlinput/XmlCharacters", "isNameStart", "(I)Z"⟩ : MethodName)) hown (mvT hZ (hw _ (List.mem_of_getElem? (i := 0) rfl))) (mvT hZ (hw _ (List.mem_of_getElem? (i := 1) rfl))) (mvT hZ (hw _ (List.mem_of_getElem? (i := 2) rfl))) (mvT hZ (hw _ (List.mem_of_getElem? (i := 3) rfl))) (by decide) (backOf (W := 0) (rm1 l Z a0 hw [] (p0 &&& (2097151 : Int32)) w cl h0 n0 Z0 S A hT) hZ (hw _ (List.mem_of_getElem? (i := 3) rfl)) (hw _ (List.mem_of_getElem? (i := 2) rfl)) (by decide) (by decide)) (g := (mkF m 46 #[.val (.int p0), .val (.int p1), .val (.int (p1 &&& (3 : Int32))), .val (.int (p0 &&& (2097151 : Int32)))] [(.int (p0 &&& (2097151 : Int32)))])) rfl (by rw [hml]; rfl) (argsL := [(.int (p0 &&& (2097151 : Int32)))]) (rest := []) (lenOf pd_0 rfl) rfl (by show 2 * 0 + _ ≤ _; exact Nat.le_of_eq rfl) (hb hby at_46) (fun _ _ => ⟨rfl, e0, (by decide : 0 + 0 ≤ _), (by decide : 0 + 0 ≤ _)⟩)
      dsimp only [Pt.U, Pt.locs, Pt.cells, Pt.slots] at X6 l6 y6 z6 st6 hQ6
      subst l6 y6 z6
      obtain ⟨rfl, N6q, hh6⟩ := hQ6
      have N6 := Fr.app N0 N6q
      refine own_of st6 ?_
      show own_Out p e below _ (T6.setTop (mkF m 49 #[.val (.int p0), .val (.int p1), .val (.int (p1 &&& (3 : Int32))), .val (.int (p0 &&& (2097151 : Int32)))] [(.int (f1 (p0 &&& (2097151 : Int32))))]))
      refine own_of (fun _ k => XS.iloadN X6.here hx rfl (hb hby at_49) rfl k) ?_
      show own_Out p e below _ (T6.setTop (mkF m 50 #[.val (.int p0), .val (.int p1), .val (.int (p1 &&& (3 : Int32))), .val (.int (p0 &&& (2097151 : Int32)))] [(.int (p0 &&& (2097151 : Int32))), (.int (f1 (p0 &&& (2097151 : Int32))))]))
      obtain ⟨_, _, ⟨T7, L7, k7, n7⟩, -, X7, ⟨Lc7, hQ7, l7, y7, z7⟩, st7⟩ := Jvm.LawKit.callS X6 hx (y := (⟨"com/example/vine_labels/vinelabels/xmlinput/XmlCharactersIsNameStartPinLaw", "reference", "(I)Z"⟩ : MethodName)) hown (mvT hZ (hw _ (List.mem_of_getElem? (i := 6) rfl))) (mvT hZ (hw _ (List.mem_of_getElem? (i := 7) rfl))) (mvT hZ (hw _ (List.mem_of_getElem? (i := 8) rfl))) (mvT hZ (hw _ (List.mem_of_getElem? (i := 9) rfl))) (by decide) (backOf (W := 1) (rm2 l Z a0 hw [] (p0 &&& (2097151 : Int32)) h0 n0 Z0 ) hZ (hw _ (List.mem_of_getElem? (i := 9) rfl)) (hw _ (List.mem_of_getElem? (i := 8) rfl)) (by decide) (by decide)) (g := (mkF m 50 #[.val (.int p0), .val (.int p1), .val (.int (p1 &&& (3 : Int32))), .val (.int (p0 &&& (2097151 : Int32)))] [(.int (p0 &&& (2097151 : Int32))), (.int (f1 (p0 &&& (2097151 : Int32))))])) rfl (by rw [hml]; rfl) (argsL := [(.int (p0 &&& (2097151 : Int32)))]) (rest := [(.int (f1 (p0 &&& (2097151 : Int32))))]) (lenOf pd_0 rfl) rfl (by show 2 * 0 + _ ≤ _; exact Nat.le_of_eq rfl) (hb hby at_50) (fun _ _ => ⟨rfl, hh6, (by decide : 0 + 0 ≤ _), (by decide : 0 + 0 ≤ _)⟩)
      dsimp only [Pt.U, Pt.locs, Pt.cells, Pt.slots] at X7 l7 y7 z7 st7 hQ7
      subst l7 y7 z7
      obtain ⟨rfl, N7q, hh7⟩ := hQ7
      have N7 := Fr.app N6 N7q
      refine own_of st7 ?_
      show own_Out p e below _ (T7.setTop (mkF m 53 #[.val (.int p0), .val (.int p1), .val (.int (p1 &&& (3 : Int32))), .val (.int (p0 &&& (2097151 : Int32)))] [(.int (f2 (p0 &&& (2097151 : Int32)))), (.int (f1 (p0 &&& (2097151 : Int32))))]))
      by_cases hc53_8 : (f1 (p0 &&& (2097151 : Int32))) = (f2 (p0 &&& (2097151 : Int32)))
      · skip
        refine own_of (fun _ k => XS.icmpNo X7.here hx rfl (hb hby at_53) rfl (teq hc53_8).2 k) ?_
        show own_Out p e below _ (T7.setTop (mkF m 56 #[.val (.int p0), .val (.int p1), .val (.int (p1 &&& (3 : Int32))), .val (.int (p0 &&& (2097151 : Int32)))] []))
        refine own_of (fun _ k => XS.iconst X7.here hx rfl (hb hby at_56) k) ?_
        show own_Out p e below _ (T7.setTop (mkF m 57 #[.val (.int p0), .val (.int p1), .val (.int (p1 &&& (3 : Int32))), .val (.int (p0 &&& (2097151 : Int32)))] [(.int (1 : Int32))]))
        refine own_of (fun _ k => XS.goto X7.here hx rfl (pc0 := 57) (pc' := 61) rfl (hb hby at_57) (by decide) (by decide) k) ?_
        show own_Out p e below _ (T7.setTop (mkF m 61 #[.val (.int p0), .val (.int p1), .val (.int (p1 &&& (3 : Int32))), .val (.int (p0 &&& (2097151 : Int32)))] [(.int (1 : Int32))]))
        exact own_outN X7 hx hlk (t := .boolean) hret (by simp) (hb hby at_61) (z' := (1 : Int32)) rfl (Q := Q0 Z p0 p1 w cl h0 n0) ⟨rfl, N7⟩ (by decide) (by decide)
      · skip
        refine own_of (fun _ k => XS.icmpYes X7.here hx rfl (pc0 := 53) (pc' := 60) rfl (hb hby at_53) rfl (feq hc53_8).2 (by decide) (by decide) k) ?_
        show own_Out p e below _ (T7.setTop (mkF m 60 #[.val (.int p0), .val (.int p1), .val (.int (p1 &&& (3 : Int32))), .val (.int (p0 &&& (2097151 : Int32)))] []))
        refine own_of (fun _ k => XS.iconst X7.here hx rfl (hb hby at_60) k) ?_
        show own_Out p e below _ (T7.setTop (mkF m 61 #[.val (.int p0), .val (.int p1), .val (.int (p1 &&& (3 : Int32))), .val (.int (p0 &&& (2097151 : Int32)))] [(.int (0 : Int32))]))
        exact (dead0_1 p0 p1 hc5_1 hc15_5 hc53_8).elim
    · skip
      refine own_of (fun _ k => XS.icmpYes X0.here hx rfl (pc0 := 15) (pc' := 26) rfl (hb hby at_15) rfl (feq hc15_5).2 (by decide) (by decide) k) ?_
      show own_Out p e below _ (s₁.setTop (mkF m 26 #[.val (.int p0), .val (.int p1), .val (.int (p1 &&& (3 : Int32))), .unset] []))
      refine own_of (fun _ k => XS.iloadN X0.here hx rfl (hb hby at_26) rfl k) ?_
      show own_Out p e below _ (s₁.setTop (mkF m 27 #[.val (.int p0), .val (.int p1), .val (.int (p1 &&& (3 : Int32))), .unset] [(.int (p1 &&& (3 : Int32)))]))
      refine own_of (fun _ k => XS.iconst X0.here hx rfl (hb hby at_27) k) ?_
      show own_Out p e below _ (s₁.setTop (mkF m 28 #[.val (.int p0), .val (.int p1), .val (.int (p1 &&& (3 : Int32))), .unset] [(.int (2 : Int32)), (.int (p1 &&& (3 : Int32)))]))
      by_cases hc28_9 : (p1 &&& (3 : Int32)) = (2 : Int32)
      · skip
        refine own_of (fun _ k => XS.icmpNo X0.here hx rfl (hb hby at_28) rfl (teq hc28_9).2 k) ?_
        show own_Out p e below _ (s₁.setTop (mkF m 31 #[.val (.int p0), .val (.int p1), .val (.int (p1 &&& (3 : Int32))), .unset] []))
        refine own_of (fun _ k => XS.iloadN X0.here hx rfl (hb hby at_31) rfl k) ?_
        show own_Out p e below _ (s₁.setTop (mkF m 32 #[.val (.int p0), .val (.int p1), .val (.int (p1 &&& (3 : Int32))), .unset] [(.int p0)]))
        refine own_of (X0.ldcInt hx hown (mvT hZ (hw _ (List.mem_of_getElem? (i := 22) rfl))) (g := (mkF m 32 #[.val (.int p0), .val (.int p1), .val (.int (p1 &&& (3 : Int32))), .unset] [(.int p0)])) rfl (hb hby at_32)) ?_
        show own_Out p e below _ (s₁.setTop (mkF m 34 #[.val (.int p0), .val (.int p1), .val (.int (p1 &&& (3 : Int32))), .unset] [(.int (65535 : Int32)), (.int p0)]))
        refine own_of (fun _ k => XS.iand X0.here hx rfl (hb hby at_34) rfl k) ?_
        show own_Out p e below _ (s₁.setTop (mkF m 35 #[.val (.int p0), .val (.int p1), .val (.int (p1 &&& (3 : Int32))), .unset] [(.int (p0 &&& (65535 : Int32)))]))
        refine own_of (fun _ k => XS.istoreN X0.here hx rfl (hb hby at_35) rfl (l' := #[.val (.int p0), .val (.int p1), .val (.int (p1 &&& (3 : Int32))), .val (.int (p0 &&& (65535 : Int32)))]) rfl k) ?_
        show own_Out p e below _ (s₁.setTop (mkF m 36 #[.val (.int p0), .val (.int p1), .val (.int (p1 &&& (3 : Int32))), .val (.int (p0 &&& (65535 : Int32)))] []))
        refine own_of (fun _ k => XS.goto X0.here hx rfl (pc0 := 36) (pc' := 45) rfl (hb hby at_36) (by decide) (by decide) k) ?_
        show own_Out p e below _ (s₁.setTop (mkF m 45 #[.val (.int p0), .val (.int p1), .val (.int (p1 &&& (3 : Int32))), .val (.int (p0 &&& (65535 : Int32)))] []))
        refine own_of (fun _ k => XS.iloadN X0.here hx rfl (hb hby at_45) rfl k) ?_
        show own_Out p e below _ (s₁.setTop (mkF m 46 #[.val (.int p0), .val (.int p1), .val (.int (p1 &&& (3 : Int32))), .val (.int (p0 &&& (65535 : Int32)))] [(.int (p0 &&& (65535 : Int32)))]))
        obtain ⟨_, _, ⟨T10, L10, k10, n10⟩, -, X10, ⟨Lc10, hQ10, l10, y10, z10⟩, st10⟩ := Jvm.LawKit.callS X0 hx (y := (⟨"com/example/vine_labels/vinelabels/xmlinput/XmlCharacters", "isNameStart", "(I)Z"⟩ : MethodName)) hown (mvT hZ (hw _ (List.mem_of_getElem? (i := 0) rfl))) (mvT hZ (hw _ (List.mem_of_getElem? (i := 1) rfl))) (mvT hZ (hw _ (List.mem_of_getElem? (i := 2) rfl))) (mvT hZ (hw _ (List.mem_of_getElem? (i := 3) rfl))) (by decide) (backOf (W := 0) (rm1 l Z a0 hw [] (p0 &&& (65535 : Int32)) w cl h0 n0 Z0 S A hT) hZ (hw _ (List.mem_of_getElem? (i := 3) rfl)) (hw _ (List.mem_of_getElem? (i := 2) rfl)) (by decide) (by decide)) (g := (mkF m 46 #[.val (.int p0), .val (.int p1), .val (.int (p1 &&& (3 : Int32))), .val (.int (p0 &&& (65535 : Int32)))] [(.int (p0 &&& (65535 : Int32)))])) rfl (by rw [hml]; rfl) (argsL := [(.int (p0 &&& (65535 : Int32)))]) (rest := []) (lenOf pd_0 rfl) rfl (by show 2 * 0 + _ ≤ _; exact Nat.le_of_eq rfl) (hb hby at_46) (fun _ _ => ⟨rfl, e0, (by decide : 0 + 0 ≤ _), (by decide : 0 + 0 ≤ _)⟩)
        dsimp only [Pt.U, Pt.locs, Pt.cells, Pt.slots] at X10 l10 y10 z10 st10 hQ10
        subst l10 y10 z10
        obtain ⟨rfl, N10q, hh10⟩ := hQ10
        have N10 := Fr.app N0 N10q
        refine own_of st10 ?_
        show own_Out p e below _ (T10.setTop (mkF m 49 #[.val (.int p0), .val (.int p1), .val (.int (p1 &&& (3 : Int32))), .val (.int (p0 &&& (65535 : Int32)))] [(.int (f1 (p0 &&& (65535 : Int32))))]))
        refine own_of (fun _ k => XS.iloadN X10.here hx rfl (hb hby at_49) rfl k) ?_
        show own_Out p e below _ (T10.setTop (mkF m 50 #[.val (.int p0), .val (.int p1), .val (.int (p1 &&& (3 : Int32))), .val (.int (p0 &&& (65535 : Int32)))] [(.int (p0 &&& (65535 : Int32))), (.int (f1 (p0 &&& (65535 : Int32))))]))
        obtain ⟨_, _, ⟨T11, L11, k11, n11⟩, -, X11, ⟨Lc11, hQ11, l11, y11, z11⟩, st11⟩ := Jvm.LawKit.callS X10 hx (y := (⟨"com/example/vine_labels/vinelabels/xmlinput/XmlCharactersIsNameStartPinLaw", "reference", "(I)Z"⟩ : MethodName)) hown (mvT hZ (hw _ (List.mem_of_getElem? (i := 6) rfl))) (mvT hZ (hw _ (List.mem_of_getElem? (i := 7) rfl))) (mvT hZ (hw _ (List.mem_of_getElem? (i := 8) rfl))) (mvT hZ (hw _ (List.mem_of_getElem? (i := 9) rfl))) (by decide) (backOf (W := 1) (rm2 l Z a0 hw [] (p0 &&& (65535 : Int32)) h0 n0 Z0 ) hZ (hw _ (List.mem_of_getElem? (i := 9) rfl)) (hw _ (List.mem_of_getElem? (i := 8) rfl)) (by decide) (by decide)) (g := (mkF m 50 #[.val (.int p0), .val (.int p1), .val (.int (p1 &&& (3 : Int32))), .val (.int (p0 &&& (65535 : Int32)))] [(.int (p0 &&& (65535 : Int32))), (.int (f1 (p0 &&& (65535 : Int32))))])) rfl (by rw [hml]; rfl) (argsL := [(.int (p0 &&& (65535 : Int32)))]) (rest := [(.int (f1 (p0 &&& (65535 : Int32))))]) (lenOf pd_0 rfl) rfl (by show 2 * 0 + _ ≤ _; exact Nat.le_of_eq rfl) (hb hby at_50) (fun _ _ => ⟨rfl, hh10, (by decide : 0 + 0 ≤ _), (by decide : 0 + 0 ≤ _)⟩)
        dsimp only [Pt.U, Pt.locs, Pt.cells, Pt.slots] at X11 l11 y11 z11 st11 hQ11
        subst l11 y11 z11
        obtain ⟨rfl, N11q, hh11⟩ := hQ11
        have N11 := Fr.app N10 N11q
        refine own_of st11 ?_
        show own_Out p e below _ (T11.setTop (mkF m 53 #[.val (.int p0), .val (.int p1), .val (.int (p1 &&& (3 : Int32))), .val (.int (p0 &&& (65535 : Int32)))] [(.int (f2 (p0 &&& (65535 : Int32)))), (.int (f1 (p0 &&& (65535 : Int32))))]))
        by_cases hc53_12 : (f1 (p0 &&& (65535 : Int32))) = (f2 (p0 &&& (65535 : Int32)))
        · skip
          refine own_of (fun _ k => XS.icmpNo X11.here hx rfl (hb hby at_53) rfl (teq hc53_12).2 k) ?_
          show own_Out p e below _ (T11.setTop (mkF m 56 #[.val (.int p0), .val (.int p1), .val (.int (p1 &&& (3 : Int32))), .val (.int (p0 &&& (65535 : Int32)))] []))
          refine own_of (fun _ k => XS.iconst X11.here hx rfl (hb hby at_56) k) ?_
          show own_Out p e below _ (T11.setTop (mkF m 57 #[.val (.int p0), .val (.int p1), .val (.int (p1 &&& (3 : Int32))), .val (.int (p0 &&& (65535 : Int32)))] [(.int (1 : Int32))]))
          refine own_of (fun _ k => XS.goto X11.here hx rfl (pc0 := 57) (pc' := 61) rfl (hb hby at_57) (by decide) (by decide) k) ?_
          show own_Out p e below _ (T11.setTop (mkF m 61 #[.val (.int p0), .val (.int p1), .val (.int (p1 &&& (3 : Int32))), .val (.int (p0 &&& (65535 : Int32)))] [(.int (1 : Int32))]))
          exact own_outN X11 hx hlk (t := .boolean) hret (by simp) (hb hby at_61) (z' := (1 : Int32)) rfl (Q := Q0 Z p0 p1 w cl h0 n0) ⟨rfl, N11⟩ (by decide) (by decide)
        · skip
          refine own_of (fun _ k => XS.icmpYes X11.here hx rfl (pc0 := 53) (pc' := 60) rfl (hb hby at_53) rfl (feq hc53_12).2 (by decide) (by decide) k) ?_
          show own_Out p e below _ (T11.setTop (mkF m 60 #[.val (.int p0), .val (.int p1), .val (.int (p1 &&& (3 : Int32))), .val (.int (p0 &&& (65535 : Int32)))] []))
          refine own_of (fun _ k => XS.iconst X11.here hx rfl (hb hby at_60) k) ?_
          show own_Out p e below _ (T11.setTop (mkF m 61 #[.val (.int p0), .val (.int p1), .val (.int (p1 &&& (3 : Int32))), .val (.int (p0 &&& (65535 : Int32)))] [(.int (0 : Int32))]))
          exact (dead0_2 p0 p1 hc5_1 hc15_5 hc28_9 hc53_12).elim
      · skip
        refine own_of (fun _ k => XS.icmpYes X0.here hx rfl (pc0 := 28) (pc' := 39) rfl (hb hby at_28) rfl (feq hc28_9).2 (by decide) (by decide) k) ?_
        show own_Out p e below _ (s₁.setTop (mkF m 39 #[.val (.int p0), .val (.int p1), .val (.int (p1 &&& (3 : Int32))), .unset] []))
        refine own_of (fun _ k => XS.iloadN X0.here hx rfl (hb hby at_39) rfl k) ?_
        show own_Out p e below _ (s₁.setTop (mkF m 40 #[.val (.int p0), .val (.int p1), .val (.int (p1 &&& (3 : Int32))), .unset] [(.int p0)]))
        refine own_of (fun _ k => XS.sipush X0.here hx rfl (hb hby at_40) k) ?_
        show own_Out p e below _ (s₁.setTop (mkF m 43 #[.val (.int p0), .val (.int p1), .val (.int (p1 &&& (3 : Int32))), .unset] [(.int (16383 : Int32)), (.int p0)]))
        refine own_of (fun _ k => XS.iand X0.here hx rfl (hb hby at_43) rfl k) ?_
        show own_Out p e below _ (s₁.setTop (mkF m 44 #[.val (.int p0), .val (.int p1), .val (.int (p1 &&& (3 : Int32))), .unset] [(.int (p0 &&& (16383 : Int32)))]))
        refine own_of (fun _ k => XS.istoreN X0.here hx rfl (hb hby at_44) rfl (l' := #[.val (.int p0), .val (.int p1), .val (.int (p1 &&& (3 : Int32))), .val (.int (p0 &&& (16383 : Int32)))]) rfl k) ?_
        show own_Out p e below _ (s₁.setTop (mkF m 45 #[.val (.int p0), .val (.int p1), .val (.int (p1 &&& (3 : Int32))), .val (.int (p0 &&& (16383 : Int32)))] []))
        refine own_of (fun _ k => XS.iloadN X0.here hx rfl (hb hby at_45) rfl k) ?_
        show own_Out p e below _ (s₁.setTop (mkF m 46 #[.val (.int p0), .val (.int p1), .val (.int (p1 &&& (3 : Int32))), .val (.int (p0 &&& (16383 : Int32)))] [(.int (p0 &&& (16383 : Int32)))]))
        obtain ⟨_, _, ⟨T13, L13, k13, n13⟩, -, X13, ⟨Lc13, hQ13, l13, y13, z13⟩, st13⟩ := Jvm.LawKit.callS X0 hx (y := (⟨"com/example/vine_labels/vinelabels/xmlinput/XmlCharacters", "isNameStart", "(I)Z"⟩ : MethodName)) hown (mvT hZ (hw _ (List.mem_of_getElem? (i := 0) rfl))) (mvT hZ (hw _ (List.mem_of_getElem? (i := 1) rfl))) (mvT hZ (hw _ (List.mem_of_getElem? (i := 2) rfl))) (mvT hZ (hw _ (List.mem_of_getElem? (i := 3) rfl))) (by decide) (backOf (W := 0) (rm1 l Z a0 hw [] (p0 &&& (16383 : Int32)) w cl h0 n0 Z0 S A hT) hZ (hw _ (List.mem_of_getElem? (i := 3) rfl)) (hw _ (List.mem_of_getElem? (i := 2) rfl)) (by decide) (by decide)) (g := (mkF m 46 #[.val (.int p0), .val (.int p1), .val (.int (p1 &&& (3 : Int32))), .val (.int (p0 &&& (16383 : Int32)))] [(.int (p0 &&& (16383 : Int32)))])) rfl (by rw [hml]; rfl) (argsL := [(.int (p0 &&& (16383 : Int32)))]) (rest := []) (lenOf pd_0 rfl) rfl (by show 2 * 0 + _ ≤ _; exact Nat.le_of_eq rfl) (hb hby at_46) (fun _ _ => ⟨rfl, e0, (by decide : 0 + 0 ≤ _), (by decide : 0 + 0 ≤ _)⟩)
        dsimp only [Pt.U, Pt.locs, Pt.cells, Pt.slots] at X13 l13 y13 z13 st13 hQ13
        subst l13 y13 z13
        obtain ⟨rfl, N13q, hh13⟩ := hQ13
        have N13 := Fr.app N0 N13q
        refine own_of st13 ?_
        show own_Out p e below _ (T13.setTop (mkF m 49 #[.val (.int p0), .val (.int p1), .val (.int (p1 &&& (3 : Int32))), .val (.int (p0 &&& (16383 : Int32)))] [(.int (f1 (p0 &&& (16383 : Int32))))]))
        refine own_of (fun _ k => XS.iloadN X13.here hx rfl (hb hby at_49) rfl k) ?_
        show own_Out p e below _ (T13.setTop (mkF m 50 #[.val (.int p0), .val (.int p1), .val (.int (p1 &&& (3 : Int32))), .val (.int (p0 &&& (16383 : Int32)))] [(.int (p0 &&& (16383 : Int32))), (.int (f1 (p0 &&& (16383 : Int32))))]))
        obtain ⟨_, _, ⟨T14, L14, k14, n14⟩, -, X14, ⟨Lc14, hQ14, l14, y14, z14⟩, st14⟩ := Jvm.LawKit.callS X13 hx (y := (⟨"com/example/vine_labels/vinelabels/xmlinput/XmlCharactersIsNameStartPinLaw", "reference", "(I)Z"⟩ : MethodName)) hown (mvT hZ (hw _ (List.mem_of_getElem? (i := 6) rfl))) (mvT hZ (hw _ (List.mem_of_getElem? (i := 7) rfl))) (mvT hZ (hw _ (List.mem_of_getElem? (i := 8) rfl))) (mvT hZ (hw _ (List.mem_of_getElem? (i := 9) rfl))) (by decide) (backOf (W := 1) (rm2 l Z a0 hw [] (p0 &&& (16383 : Int32)) h0 n0 Z0 ) hZ (hw _ (List.mem_of_getElem? (i := 9) rfl)) (hw _ (List.mem_of_getElem? (i := 8) rfl)) (by decide) (by decide)) (g := (mkF m 50 #[.val (.int p0), .val (.int p1), .val (.int (p1 &&& (3 : Int32))), .val (.int (p0 &&& (16383 : Int32)))] [(.int (p0 &&& (16383 : Int32))), (.int (f1 (p0 &&& (16383 : Int32))))])) rfl (by rw [hml]; rfl) (argsL := [(.int (p0 &&& (16383 : Int32)))]) (rest := [(.int (f1 (p0 &&& (16383 : Int32))))]) (lenOf pd_0 rfl) rfl (by show 2 * 0 + _ ≤ _; exact Nat.le_of_eq rfl) (hb hby at_50) (fun _ _ => ⟨rfl, hh13, (by decide : 0 + 0 ≤ _), (by decide : 0 + 0 ≤ _)⟩)
        dsimp only [Pt.U, Pt.locs, Pt.cells, Pt.slots] at X14 l14 y14 z14 st14 hQ14
        subst l14 y14 z14
        obtain ⟨rfl, N14q, hh14⟩ := hQ14
        have N14 := Fr.app N13 N14q
        refine own_of st14 ?_
        show own_Out p e below _ (T14.setTop (mkF m 53 #[.val (.int p0), .val (.int p1), .val (.int (p1 &&& (3 : Int32))), .val (.int (p0 &&& (16383 : Int32)))] [(.int (f2 (p0 &&& (16383 : Int32)))), (.int (f1 (p0 &&& (16383 : Int32))))]))
        by_cases hc53_15 : (f1 (p0 &&& (16383 : Int32))) = (f2 (p0 &&& (16383 : Int32)))
        · skip
          refine own_of (fun _ k => XS.icmpNo X14.here hx rfl (hb hby at_53) rfl (teq hc53_15).2 k) ?_
          show own_Out p e below _ (T14.setTop (mkF m 56 #[.val (.int p0), .val (.int p1), .val (.int (p1 &&& (3 : Int32))), .val (.int (p0 &&& (16383 : Int32)))] []))
          refine own_of (fun _ k => XS.iconst X14.here hx rfl (hb hby at_56) k) ?_
          show own_Out p e below _ (T14.setTop (mkF m 57 #[.val (.int p0), .val (.int p1), .val (.int (p1 &&& (3 : Int32))), .val (.int (p0 &&& (16383 : Int32)))] [(.int (1 : Int32))]))
          refine own_of (fun _ k => XS.goto X14.here hx rfl (pc0 := 57) (pc' := 61) rfl (hb hby at_57) (by decide) (by decide) k) ?_
          show own_Out p e below _ (T14.setTop (mkF m 61 #[.val (.int p0), .val (.int p1), .val (.int (p1 &&& (3 : Int32))), .val (.int (p0 &&& (16383 : Int32)))] [(.int (1 : Int32))]))
          exact own_outN X14 hx hlk (t := .boolean) hret (by simp) (hb hby at_61) (z' := (1 : Int32)) rfl (Q := Q0 Z p0 p1 w cl h0 n0) ⟨rfl, N14⟩ (by decide) (by decide)
        · skip
          refine own_of (fun _ k => XS.icmpYes X14.here hx rfl (pc0 := 53) (pc' := 60) rfl (hb hby at_53) rfl (feq hc53_15).2 (by decide) (by decide) k) ?_
          show own_Out p e below _ (T14.setTop (mkF m 60 #[.val (.int p0), .val (.int p1), .val (.int (p1 &&& (3 : Int32))), .val (.int (p0 &&& (16383 : Int32)))] []))
          refine own_of (fun _ k => XS.iconst X14.here hx rfl (hb hby at_60) k) ?_
          show own_Out p e below _ (T14.setTop (mkF m 61 #[.val (.int p0), .val (.int p1), .val (.int (p1 &&& (3 : Int32))), .val (.int (p0 &&& (16383 : Int32)))] [(.int (0 : Int32))]))
          exact (dead0_3 p0 p1 hc5_1 hc15_5 hc28_9 hc53_15).elim
theorem own_len {args : Array Value} {s : State} {t : Term} {a : Addr} {cl : Cell} {ty : FieldType} {z : Int32} (ev : t.eval args s none [] s = some (.ref a)) (A : Arr s s.heap a cl ty) (h : (Term.length t).eval args s none [] s = some (.int z)) : cl.slots.size < 2 ^ 31 ∧ cl.slots.size.toInt32 = z := by
  have ha := A.fin (Vm.Alike.refl _)
  simp only [Term.eval, ev, ha, Option.bind_eq_bind, Option.bind_some] at h
  split at h
  · rename_i q
    exact ⟨q, by simpa using h⟩
  · cases h
theorem own_inb {n : Nat} {z j : Int32} (h31 : n < 2 ^ 31) (e : n.toInt32 = z) (h1 : ¬ j < 0) (h2 : j < z) : ¬ (j < 0 ∨ n ≤ j.toNatClampNeg) := by
  subst e
  have e1 : (n.toInt32).toInt = n := len_toInt h31
  rw [Int32.lt_iff_toInt_lt, e1] at h2
  have h0 : 0 ≤ j.toInt := by
    rw [Int32.lt_iff_toInt_lt] at h1
    have e0 : (0 : Int32).toInt = 0 := rfl
    omega
  rintro (q | q)
  · exact h1 q
  · simp only [Int32.toNatClampNeg] at q; omega

set_option maxRecDepth 65536 in
set_option maxHeartbeats 40000000 in
theorem comes_1 {Post : Tables → Env → Array Value → State → Outcome → State → Prop} (hpost : ∀ tb e args s v u, (limb_1_1.after args s (.returned v) u = true ∧ limb_1_2.after args s (.returned v) u = true ∧ True) → FrameEnd s (.returned v) u (Jvm.fieldLocs frame_1_writes args s ++ Jvm.arrayLocs frame_1_arrays args s ++ Jvm.staticLocs frame_1_statics s) 0 0 → Post tb e args s (.returned v) u) :
    ArmFor flags0 classFile x code maxLocals ret World_1 tables_1 room_1 Calls_1 rest_1 Pre_1 Post := by
  intro l hfl _ _ p e ha hc hk s m args below hf hA hF happ hP
  obtain ⟨hcalls, hrest, hpre⟩ := hP
  obtain ⟨-, -, -, hnamed, -, -, -, hat⟩ := (Spec.applies_iff hf).mp happ
  obtain ⟨hg, hn⟩ := and_e (Cond.before_iff.mp (show (Jvm.Cond.and given_1 narrow_1).before args s = true from hpre))
  obtain ⟨g1, g2⟩ := and_e hg
  obtain ⟨g3, g4⟩ := and_e g2
  obtain ⟨w0, w1, rfl⟩ : ∃ w0 w1 : Value, args = #[w0, w1] := by
    have hs : args.size = 2 := by simpa [Cond.value, given_1] using g1
    obtain ⟨L⟩ := args
    match L, hs with
    | [w0, w1], _ => exact ⟨w0, w1, rfl⟩
  have hw := fun d (hd : d ∈ tables_1) => atoms_spec (ws := Jvm.Cond.code x code maxLocals ret :: tables_1) hat d (List.mem_cons_of_mem _ hd)
  have hfit : Fit s := fun {y c} hc i hi => by
    obtain ⟨ha, rfl⟩ := Array.getElem?_eq_some_iff.mp hc
    have q := List.all_eq_true.mp ((Array.all_eq_true_iff_forall_mem.mp hF) _ (Array.getElem_mem ha)) i (List.mem_range.mpr hi)
    simpa [Array.getElem?_eq_getElem hi] using q
  obtain ⟨i0, ei0⟩ := is_v g3
  obtain rfl : w0 = (.int i0) := Option.some.inj ei0
  obtain ⟨i1, ei1⟩ := is_v g4
  obtain rfl : w1 = (.int i1) := Option.some.inj ei1
  have hn0 : narrow_1.value _ s none s [] = some true := hn
  obtain ⟨hn_0, hr_0⟩ := and_e hn0
  obtain ⟨hn_1, hr_1⟩ := and_e hr_0
  obtain ⟨hn_2, hr_2⟩ := and_e hr_1
  obtain ⟨hn_3, hr_3⟩ := and_e hr_2
  obtain ⟨hn_4, hr_4⟩ := and_e hr_3
  obtain ⟨hn_5, hr_5⟩ := and_e hr_4
  obtain ⟨hn_6, hr_6⟩ := and_e hr_5
  obtain ⟨hn_7, hr_7⟩ := and_e hr_6
  obtain ⟨hn_8, hr_8⟩ := and_e hr_7
  obtain ⟨hn_9, hr_9⟩ := and_e hr_8
  obtain ⟨hn_10, hr_10⟩ := and_e hr_9
  obtain ⟨hn_11, hr_11⟩ := and_e hr_10
  obtain ⟨hn_12, hr_12⟩ := and_e hr_11
  obtain ⟨w_ASCII, ev_w_ASCII⟩ := arr_v hn_0
  have S_w_ASCII : Sta s s.heap "com/example/vine_labels/vinelabels/xmlinput/XmlCharacters" "ASCII" "[B" (.ref w_ASCII) := Sta.start ev_w_ASCII (Or.inr ⟨(hw _ (List.mem_of_getElem? (i := 2) rfl)), (hw _ (List.mem_of_getElem? (i := 5) rfl))⟩)
  obtain ⟨cl_w_ASCII, A_w_ASCII⟩ := Arr.start ev_w_ASCII hn_0
  have L_w_ASCII := eqv_i (Term.int_eval (128)) hn_1
  have hsz : cl_w_ASCII.slots.size < 2 ^ 31 ∧ cl_w_ASCII.slots.size.toInt32 = 128 := own_len ev_w_ASCII A_w_ASCII L_w_ASCII
  have hT : ∀ j : Int32, ¬ j < (0 : Int32) → j < (128 : Int32) → ¬ (j < 0 ∨ cl_w_ASCII.slots.size ≤ j.toNatClampNeg) ∧ cl_w_ASCII.slots[j.toNatClampNeg]? = some (.int (own_tab j)) := fun j h1 h2 => by
    have hi := own_inb hsz.1 hsz.2 h1 h2
    exact ⟨hi, own_tab_at hn0 ev_w_ASCII A_w_ASCII j h1 (Nat.lt_of_not_le fun q => hi (Or.inr q))⟩
  obtain ⟨n, o, h1, h2, h3, _, L, rfl, ⟨rfl, N⟩, hq⟩ := rm0 l s _ hw tables_1 i0 i1 w_ASCII cl_w_ASCII s.heap s.heap.size (Nat.le_refl _) S_w_ASCII A_w_ASCII hT p e ha hc hk s m _ below hf ((Spec.applies_iff_loose hf).mp happ).1 ⟨rfl, State.Warmed39.refl s, rfl⟩ trivial
  refine ⟨n, _, h1, h2, h3, hpost _ _ _ _ _ _ ⟨Cond.after_iff.mpr rfl, Cond.after_iff.mpr (eq_i res_at (Term.int_eval (1)) rfl), trivial⟩ ⟨hq.1, hq.2.1, (hq.2.2.sift fun y hy => Or.inr (N y hy)).mono (by decide) (by decide)⟩⟩
theorem main_1_1 : Claimed_1_1 := comes_1 fun _ _ _ _ _ _ h hF => ⟨h.1, hF⟩
theorem main_1_2 : Claimed_1_2 := comes_1 fun _ _ _ _ _ _ h hF => ⟨h.2.1, hF⟩
end Jvm.Pilot.@@N@@
namespace Jvm.Pilot.@@N@@
open Jvm Jvm.ClassFile Sem Op Lib Jvm.Free Jvm.Stand Jvm.Pilot.@@N@@.Jvm.D
/-! MADE BY PROGRAM (witnessworld.py) out of the Statement's table words and the real class files: 9 classes; the members and pool entries that the words name. The judged class is class 1, her method 2. -/
namespace start1
open Jvm.ClassFile
def u (s : String) : CpInfo := .utf8 (stringToUtf16 s)
/-- a pool by its gaps: so many unusable entries, then the entry; so many at the end -/
def gap : Nat → List CpInfo → List CpInfo
  | 0, r => r
  | n + 1, r => .unusable :: gap n r
def poolList (es : List (Nat × CpInfo)) (last : Nat) : List CpInfo := es.foldr (fun e r => gap e.1 (e.2 :: r)) (gap last [])
def pool (es : List (Nat × CpInfo)) (last : Nat) : Array CpInfo := ⟨poolList es last⟩
def fileOf (pool : Array CpInfo) (this : Nat) (attrs : Array Attribute := #[]) (ms : Array MethodInfo := #[]) (fl : Nat := 33) (sup : Nat := 0) (ifs : Array Nat := #[]) (fds : Array FieldInfo := #[]) : ClassFile where
  minorVersion := 0
  majorVersion := 65
  constantPool := pool
  accessFlags := fl
  thisClass := this
  superClass := sup
  interfaces := ifs
  fields := fds
  methods := ms
  attributes := attrs
def plain (name : String) (sup : Option ClassId) : Class where
  name := name
  kind := .ordinary
  loader := none
  accessFlags := 33
  super := sup
  interfaces := #[]
  cf := none
  fields := #[]
  methods := #[]
  instanceTypes := #[]
  staticTypes := #[]
  resolved := #[]
  callSites := []
  init := .initialized
  statics := none
  mirror := none

def pool0 : Array CpInfo := pool [(5, u "<init>"), (0, u "()V"), (1, .class_ 10), (1, u "java/lang/Object")] 113

def k0m0 : Method := { name := "<init>", desc := "()V", sig := { parameters := [], returnType := none }, accessFlags := 1, code := none }
/-- java/lang/Object -/
def k0 : Class := { plain "java/lang/Object" none with
  accessFlags := 33
  interfaces := #[]
  cf := some (fileOf pool0 8 #[] #[{ accessFlags := 1, nameIndex := 5, descriptorIndex := 6, attributes := #[] }] 33 0 #[] #[])
  fields := #[]
  methods := #[k0m0]
  instanceTypes := #[]
  staticTypes := #[]
  resolved := Array.replicate 124 none
  statics := none }

def pool1 : Array CpInfo := pool [(2, .class_ 4), (1, u "java/lang/Object"), (0, u "<init>"), (0, u "()V"), (0, .integer 983039), (0, .integer 55296), (0, .integer 63743), (0, .integer 64976), (0, .integer 65007), (0, .integer 65534), (0, .integer 65535), (0, .integer 2097151), (0, .methodref 16 17), (0, .class_ 18), (0, .nameAndType 19 20), (0, u "com/example/vine_labels/vinelabels/xmlinput/XmlCharacters"), (0, u "isNameStart"), (0, u "(I)Z"), (0, .methodref 22 23), (0, .class_ 24), (0, .nameAndType 25 20), (0, u "com/example/vine_labels/vinelabels/xmlinput/XmlCharactersIsNameStartPinLaw"), (0, u "reference"), (3, u "law"), (0, u "(II)Z")] 2

def k1m0 : Method := { name := "<init>", desc := "()V", sig := { parameters := [], returnType := none }, accessFlags := 2, code := none }
def k1c1 : Code := { maxStack := 2, maxLocals := 2, code := method_2_code, exceptionTable := #[], attributes := #[] }
def k1m1 : Method := { name := "reference", desc := "(I)Z", sig := { parameters := [.int], returnType := some .boolean }, accessFlags := 10, code := some k1c1 }
def k1c2 : Code := { maxStack := 2, maxLocals := 4, code := code, exceptionTable := #[], attributes := #[] }
def k1m2 : Method := { name := "law", desc := "(II)Z", sig := { parameters := [.int, .int], returnType := some .boolean }, accessFlags := 9, code := some k1c2 }
/-- com/example/vine_labels/vinelabels/xmlinput/XmlCharactersIsNameStartPinLaw -/
def k1 : Class := { plain "com/example/vine_labels/vinelabels/xmlinput/XmlCharactersIsNameStartPinLaw" (some 0) with
  accessFlags := 49
  interfaces := #[]
  cf := some (fileOf pool1 22 #[] #[{ accessFlags := 2, nameIndex := 5, descriptorIndex := 6, attributes := #[] }, { accessFlags := 10, nameIndex := 25, descriptorIndex := 20, attributes := #[] }, { accessFlags := 9, nameIndex := 29, descriptorIndex := 30, attributes := #[] }] 49 2 #[] #[])
  fields := #[]
  methods := #[k1m0, k1m1, k1m2]
  instanceTypes := #[]
  staticTypes := #[]
  resolved := Array.replicate 33 none
  statics := none }

def pool2 : Array CpInfo := pool [(2, .class_ 4), (1, u "java/lang/Object"), (0, u "<init>"), (0, u "()V"), (1, .class_ 10), (1, u "com/example/vine_labels/vinelabels/xmlinput/XmlCharacters"), (0, u "KINDS"), (0, u "[B"), (0, .integer 55295), (1, .integer 65533), (0, .integer 65536), (1, .fieldref 8 19), (0, .nameAndType 20 12), (0, u "ASCII"), (0, .integer 63744), (0, .integer 64975), (0, .integer 65008), (0, .integer 983039), (2, u "isNameStart"), (0, u "(I)Z"), (20, u "PLAIN"), (0, u "B"), (2, u "SPACE"), (1, u "SPECIAL"), (1, u "NAME_START"), (0, u "I"), (0, u "NAME")] 13

def k2m0 : Method := { name := "<init>", desc := "()V", sig := { parameters := [], returnType := none }, accessFlags := 2, code := none }
def k2c1 : Code := { maxStack := 2, maxLocals := 1, code := prog_34_method_5_code, exceptionTable := #[], attributes := #[] }
def k2m1 : Method := { name := "isNameStart", desc := "(I)Z", sig := { parameters := [.int], returnType := some .boolean }, accessFlags := 8, code := some k2c1 }
/-- com/example/vine_labels/vinelabels/xmlinput/XmlCharacters -/
def k2 : Class := { plain "com/example/vine_labels/vinelabels/xmlinput/XmlCharacters" (some 0) with
  accessFlags := 32
  interfaces := #[]
  cf := some (fileOf pool2 8 #[] #[{ accessFlags := 2, nameIndex := 5, descriptorIndex := 6, attributes := #[] }, { accessFlags := 8, nameIndex := 27, descriptorIndex := 28, attributes := #[] }] 32 2 #[] #[{ accessFlags := 24, nameIndex := 49, descriptorIndex := 50, attributes := #[] }, { accessFlags := 24, nameIndex := 53, descriptorIndex := 50, attributes := #[] }, { accessFlags := 24, nameIndex := 55, descriptorIndex := 50, attributes := #[] }, { accessFlags := 26, nameIndex := 57, descriptorIndex := 58, attributes := #[] }, { accessFlags := 26, nameIndex := 59, descriptorIndex := 58, attributes := #[] }, { accessFlags := 26, nameIndex := 20, descriptorIndex := 12, attributes := #[] }, { accessFlags := 26, nameIndex := 11, descriptorIndex := 12, attributes := #[] }])
  fields := #[{ name := "PLAIN", type := .byte, accessFlags := 24, slot := 0, constantValue := 0 }, { name := "SPACE", type := .byte, accessFlags := 24, slot := 1, constantValue := 0 }, { name := "SPECIAL", type := .byte, accessFlags := 24, slot := 2, constantValue := 0 }, { name := "NAME_START", type := .int, accessFlags := 26, slot := 3, constantValue := 0 }, { name := "NAME", type := .int, accessFlags := 26, slot := 4, constantValue := 0 }, { name := "ASCII", type := (.array .byte), accessFlags := 26, slot := 5, constantValue := 0 }, { name := "KINDS", type := (.array .byte), accessFlags := 26, slot := 6, constantValue := 0 }]
  methods := #[k2m0, k2m1]
  instanceTypes := #[]
  staticTypes := #[.byte, .byte, .byte, .int, .int, (.array .byte), (.array .byte)]
  resolved := Array.replicate 73 none
  statics := some 0 }

def pool3 : Array CpInfo := pool [(1, u "java/lang/Cloneable"), (0, .class_ 1), (0, u "java/lang/Object"), (0, .class_ 3)] 3

/-- java/lang/Cloneable -/
def k3 : Class := { plain "java/lang/Cloneable" (some 0) with
  accessFlags := 1537
  interfaces := #[]
  cf := some (fileOf pool3 2 #[] #[] 1537 4 #[] #[])
  fields := #[]
  methods := #[]
  instanceTypes := #[]
  staticTypes := #[]
  resolved := Array.replicate 8 none
  statics := none }

def pool4 : Array CpInfo := pool [(1, u "java/io/Serializable"), (0, .class_ 1), (0, u "java/lang/Object"), (0, .class_ 3)] 3

/-- java/io/Serializable -/
def k4 : Class := { plain "java/io/Serializable" (some 0) with
  accessFlags := 1537
  interfaces := #[]
  cf := some (fileOf pool4 2 #[] #[] 1537 4 #[] #[])
  fields := #[]
  methods := #[]
  instanceTypes := #[]
  staticTypes := #[]
  resolved := Array.replicate 8 none
  statics := none }

/-- the primitive byte -/
def k5 : Class := { plain "byte" none with kind := .primitive 'B', accessFlags := 0x411 }
/-- [B -/
def k6 : Class := { plain "[B" (some 0) with kind := .array 5 .byte, interfaces := #[3, 4], accessFlags := 1041 }

/-- the primitive int -/
def k7 : Class := { plain "int" none with kind := .primitive 'I', accessFlags := 0x411 }
/-- [I -/
def k8 : Class := { plain "[I" (some 0) with kind := .array 7 .int, interfaces := #[3, 4], accessFlags := 1041 }

def heap : Heap := #[{ cls := 2, slots := #[.int 0, .int 0, .int 0, .int 0, .int 0, .ref 1, .null], vm := .statics 2 },
  { cls := 6, slots := #[.int 0, .int 0, .int 0, .int 0, .int 0, .int 0, .int 0, .int 0, .int 0, .int 0, .int 0, .int 0, .int 0, .int 0, .int 0, .int 0, .int 0, .int 0, .int 0, .int 0, .int 0, .int 0, .int 0, .int 0, .int 0, .int 0, .int 0, .int 0, .int 0, .int 0, .int 0, .int 0, .int 0, .int 0, .int 0, .int 0, .int 0, .int 0, .int 0, .int 0, .int 0, .int 0, .int 0, .int 0, .int 0, .int 2, .int 2, .int 0, .int 2, .int 2, .int 2, .int 2, .int 2, .int 2, .int 2, .int 2, .int 2, .int 2, .int 0, .int 0, .int 0, .int 0, .int 0, .int 0, .int 0, .int 3, .int 3, .int 3, .int 3, .int 3, .int 3, .int 3, .int 3, .int 3, .int 3, .int 3, .int 3, .int 3, .int 3, .int 3, .int 3, .int 3, .int 3, .int 3, .int 3, .int 3, .int 3, .int 3, .int 3, .int 3, .int 3, .int 0, .int 0, .int 0, .int 0, .int 3, .int 0, .int 3, .int 3, .int 3, .int 3, .int 3, .int 3, .int 3, .int 3, .int 3, .int 3, .int 3, .int 3, .int 3, .int 3, .int 3, .int 3, .int 3, .int 3, .int 3, .int 3, .int 3, .int 3, .int 3, .int 3, .int 3, .int 3, .int 0, .int 0, .int 0, .int 0, .int 0], vm := .none }]
def classes : Array Class := #[k0, k1, k2, k3, k4, k5, k6, k7, k8]
def interned : List (Array UInt16 × Addr) := []
def slotsUsed : Nat := 135
def theMethod : MethodId := ⟨1, 2⟩
def args0 : Array Value := #[.int 5, .int 1]
def aboutOver (below : List Frame) : State where
  vm := { classes := classes, interned := interned.toArray }
  heap := heap
  slotsUsed := slotsUsed
  threads := #[{ frames := .invoking theMethod args0 :: below }]
def below0 : List Frame := [.native { method := ⟨0, 0⟩, args := #[] }]
def about1 : State := aboutOver below0
def p0 : Program := .bare "" "" ""
def e0 : Env := launch0.env 0 0 0
theorem w_frames : about1.frames = Frame.invoking theMethod args0 :: below0 := rfl
set_option maxRecDepth 65536 in
theorem w_args : argsFit about1.vm theMethod args0 = true := by decide +kernel
set_option maxRecDepth 65536 in
theorem w_heap : heapFits about1 = true := by decide +kernel
set_option maxRecDepth 65536 in
theorem w_runnable : about1.curStatus? = some .runnable := by decide +kernel
set_option maxRecDepth 65536 in
theorem w_alone : about1.alone = true := by decide +kernel
set_option maxRecDepth 65536 in
theorem w_named : about1.methodNamed? x = some theMethod := by decide +kernel
set_option maxRecDepth 65536 in
theorem w_hears : about1.hears theMethod below0 = true := by decide +kernel
set_option maxRecDepth 65536 in
theorem w_ripe : about1.ripe theMethod args0 below0 = true := by decide +kernel
theorem w_running : about1.status = .running := rfl
set_option maxRecDepth 65536 in
theorem w_room : about1.hasRoom e0.platform room_1 = true :=
  launch0.hasRoom_least _ room_1 (by decide +kernel) (by decide +kernel) (by decide +kernel) (by decide +kernel) (by decide +kernel) (by decide +kernel)
theorem allAtoms_all (ts : List Jvm.Cond) (a : Array Jvm.Value) (st : Jvm.State) : (allAtoms ts).before a st = ts.all (fun c => c.before a st) := by
  induction ts with
  | nil => rfl
  | cons c t ih =>
    show (Jvm.Cond.and c (allAtoms t)).before a st = _
    rw [Jvm.Cond.before_and, ih, List.all_cons]
def words1 : List Jvm.Cond := Jvm.Cond.code x code maxLocals ret :: tables_1
/-- a 'code' word, met by the world's own term for the bytes: nothing is compared byte by byte -/
theorem code_word {y : MethodName} {bytes : ByteArray} {mx : Nat} {rt : Option FieldType} {a : Array Value} {s : State} {m : MethodId} {meth : Method} {c : Code} (h1 : s.methodNamed? y = some m) (h2 : s.vm.method? m = some meth) (h3 : meth.code = some c) (h4 : c.code = bytes)
    (h5 : (c.maxLocals == mx && c.exceptionTable.isEmpty && decide (c.maxStack ≤ mostOperands) && decide (meth.sig.returnType = rt) && !meth.locks && decide (parseMethodDescriptor y.desc = some meth.sig)) = true) : (Jvm.Cond.code y bytes mx rt).before a s = true := by
  simp only [Bool.and_eq_true, beq_iff_eq, Bool.not_eq_true', decide_eq_true_eq] at h5
  obtain ⟨⟨⟨⟨⟨g1, g2⟩, g3⟩, g4⟩, g5⟩, g6⟩ := h5
  simp [Cond.before, Cond.holds, Cond.value, h1, h2, h3, h4, g1, g2, g3, g4, g5, g6]
def isCode : Jvm.Cond → Bool
  | .code _ _ _ _ => true
  | _ => false
theorem all_split {L : List Jvm.Cond} {P : Jvm.Cond → Bool} (h1 : L.all (fun c => isCode c || P c) = true) (h2 : ∀ c ∈ L.filter isCode, P c = true) : L.all P = true := by
  refine List.all_eq_true.mpr fun c hc => ?_
  have h := List.all_eq_true.mp h1 c hc
  rcases Bool.eq_false_or_eq_true (isCode c) with hi | hi
  · exact h2 c (List.mem_filter.mpr ⟨hc, hi⟩)
  · simpa [hi] using h
set_option maxRecDepth 65536 in
theorem w_c0 : (Jvm.Cond.code x code maxLocals ret).before args0 about1 = true := code_word (m := ⟨1, 2⟩) (meth := k1m2) (c := k1c2) (by decide +kernel) rfl rfl rfl (by decide +kernel)
set_option maxRecDepth 65536 in
theorem w_c1 : (Jvm.Cond.code ({ cls := "com/example/vine_labels/vinelabels/xmlinput/XmlCharacters", name := "isNameStart", desc := "(I)Z" } : Jvm.MethodName) prog_34_method_5_code (1 : Nat) (Option.some Jvm.ClassFile.FieldType.boolean)).before args0 about1 = true := code_word (m := ⟨2, 1⟩) (meth := k2m1) (c := k2c1) (by decide +kernel) rfl rfl rfl (by decide +kernel)
set_option maxRecDepth 65536 in
theorem w_c2 : (Jvm.Cond.code ({ cls := "com/example/vine_labels/vinelabels/xmlinput/XmlCharactersIsNameStartPinLaw", name := "reference", desc := "(I)Z" } : Jvm.MethodName) method_2_code (2 : Nat) (Option.some Jvm.ClassFile.FieldType.boolean)).before args0 about1 = true := code_word (m := ⟨1, 1⟩) (meth := k1m1) (c := k1c1) (by decide +kernel) rfl rfl rfl (by decide +kernel)
def codes1 : List Jvm.Cond := [Jvm.Cond.code x code maxLocals ret, Jvm.Cond.code ({ cls := "com/example/vine_labels/vinelabels/xmlinput/XmlCharacters", name := "isNameStart", desc := "(I)Z" } : Jvm.MethodName) prog_34_method_5_code (1 : Nat) (Option.some Jvm.ClassFile.FieldType.boolean), Jvm.Cond.code ({ cls := "com/example/vine_labels/vinelabels/xmlinput/XmlCharactersIsNameStartPinLaw", name := "reference", desc := "(I)Z" } : Jvm.MethodName) method_2_code (2 : Nat) (Option.some Jvm.ClassFile.FieldType.boolean)]
set_option maxRecDepth 65536 in
theorem codes_eq : words1.filter isCode = codes1 := rfl
theorem w_codes : ∀ c ∈ words1.filter isCode, c.before args0 about1 = true := by
  rw [codes_eq]
  intro c hc
  simp only [codes1, List.mem_cons, List.not_mem_nil, or_false] at hc
  rcases hc with rfl | rfl | rfl
  · exact w_c0
  · exact w_c1
  · exact w_c2
set_option maxRecDepth 65536 in
theorem w_t1 : (words1.take 24).all (fun c => isCode c || c.before args0 about1) = true := by decide +kernel
set_option maxRecDepth 65536 in
theorem w_t2 : (words1.drop 24).all (fun c => isCode c || c.before args0 about1) = true := by decide +kernel
theorem w_tables : (allAtoms (Jvm.Cond.code x code maxLocals ret :: tables_1)).before args0 about1 = true := by
  rw [allAtoms_all]
  show words1.all (fun c => c.before args0 about1) = true
  refine all_split ?_ w_codes
  rw [← List.take_append_drop 24 words1, List.all_append, w_t1, w_t2]
  rfl
set_option maxRecDepth 65536 in
theorem w_case : (Jvm.Cond.and given_1 narrow_1).before args0 about1 = true := by decide +kernel
theorem w_applies : (headSpec (Jvm.Cond.code x code maxLocals ret :: tables_1) room_1).applies x e0.platform about1 = true :=
  (Spec.applies_iff w_frames).mpr ⟨w_running, w_runnable, w_alone, w_named, w_hears, w_ripe, w_room, w_tables⟩
theorem atStart : AtStart classFile x code maxLocals ret World_1 tables_1 room_1 Calls_1 rest_1 Pre_1 launch0 p0 e0 about1 theMethod args0 below0 :=
  ⟨lists_1, trivial, launch0.admits_env _ _ _, launch0.least_env, fairChoices_fair.cas, fairChoices_fair.clock, w_frames, w_args, w_heap, w_applies, trivial, trivial, w_case⟩
end start1
theorem witness_1 : WitnessClaimed_1 := ⟨start1.p0, start1.e0, start1.about1, start1.theMethod, start1.args0, start1.below0, start1.atStart⟩
end Jvm.Pilot.@@N@@
