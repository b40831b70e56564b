import JvmDerived
import JvmDerived.Pilot.@@N@@Statement
import JvmDerived.Pilot.@@N@@Code
set_option linter.unusedVariables false
set_option linter.unusedSimpArgs false
@@BLOCK:NumsL.lean.txt@@
namespace Jvm.RoadKit
open Sem ClassFile Op Lib Jvm.Stand Jvm.Free Jvm.LawKit
/-- from the state S the run comes to an end that P holds of -/
def own_Out (p : Program) (e : Env) (below : List Frame) (P : Outcome → State → Prop) (S : State) : Prop := ∃ s₂ o, Steps p.tables e below S s₂ ∧ s₂.status = .running ∧ Ended s₂ below o ∧ P o s₂
theorem own_of {p : Program} {e : Env} {below : List Frame} {P : Outcome → State → Prop} {S S' : State} (h : ∀ t, Steps p.tables e below S' t → Steps p.tables e below S t) (k : own_Out p e below P S') : own_Out p e below P S := by
  obtain ⟨a, b, c, d⟩ := k
  exact ⟨a, b, h a c, d⟩
section New
variable {p : Program} {l : Launch} {e : Env} {R : Room} {s : State} {m : MethodId} {args : Array Value} {below : List Frame} {meth : Method} {c : Code} {T : State} {locs : List Loc} {cells slots : Nat}
theorem own_retI (X : Stand p l e R s m args below meth c T locs cells slots) (hx : p.tables.exec = Jvm.exec) {pc : Nat} {Ls : Array Slot} {z : Int32} {rest : List Value} (hret : meth.sig.returnType = some .int) (hd : decode c.code pc = .ok (.ireturn, 1)) {fs : List Frame}
    (hl : ∀ (f : JFrame) (acts : List Action), f.method = m → f.locked = none → f.entered = [] → (doReturn e (T.setTop f) acts (some (.int z))).1 = T.setFrames fs) : Steps p.tables e below (T.setTop (mkF m pc Ls (.int z :: rest))) (T.setFrames fs) := retOut X hx hret rfl (Or.inl ⟨rfl, Or.inl rfl, z, rfl⟩) hd hl
theorem own_end (X : Stand p l e R s m args below meth c T locs cells slots) (hlk : meth.locks = false) {v : Option Value} (hv : meth.sig.returnType = none → v = none) {g : JFrame}
    (hs : ∀ fs, (∀ (f : JFrame) (acts : List Action), f.method = m → f.locked = none → f.entered = [] → (doReturn e (T.setTop f) acts v).1 = T.setFrames fs) → Steps p.tables e below (T.setTop g) (T.setFrames fs))
    {Q : Option Value → Heap → List Loc → Prop} (hQ : Q v T.heap locs) {C N : Nat} (hC : cells ≤ C) (hN : slots ≤ N) :
    own_Out p e below (fun o U' => ∃ v L, o = .returned v ∧ Q v U'.heap L ∧ FrameEnd s o U' L C N) (T.setTop g) := by
  obtain ⟨fs, hr, hrun, hended, hW, hsame⟩ := X.leave (v := v) hv hlk
  exact ⟨_, _, hs fs hr, hrun, hended, _, _, rfl, hQ, ⟨_, rfl⟩, hW, hsame.mono hC hN⟩
theorem own_outI (X : Stand p l e R s m args below meth c T locs cells slots) (hx : p.tables.exec = Jvm.exec) (hlk : meth.locks = false) {pc : Nat} {Ls : Array Slot} {z : Int32} {rest : List Value} (hret : meth.sig.returnType = some .int) (hd : decode c.code pc = .ok (.ireturn, 1))
    {Q : Option Value → Heap → List Loc → Prop} (hQ : Q (some (.int z)) T.heap locs) {C N : Nat} (hC : cells ≤ C) (hN : slots ≤ N) :
    own_Out p e below (fun o U' => ∃ v L, o = .returned v ∧ Q v U'.heap L ∧ FrameEnd s o U' L C N) (T.setTop (mkF m pc Ls (.int z :: rest))) :=
  own_end X hlk (fun h => by rw [hret] at h; cases h) (fun fs hr => own_retI X hx hret hd hr) hQ hC hN
theorem own_outN (X : Stand p l e R s m args below meth c T locs cells slots) (hx : p.tables.exec = Jvm.exec) (hlk : meth.locks = false) {pc : Nat} {Ls : Array Slot} {z z' : Int32} {t : FieldType} {rest : List Value} (hret : meth.sig.returnType = some t) (ht : t = .boolean ∨ t = .byte ∨ t = .char ∨ t = .short) (hd : decode c.code pc = .ok (.ireturn, 1)) (hz : nar t z = z')
    {Q : Option Value → Heap → List Loc → Prop} (hQ : Q (some (.int z')) T.heap locs) {C N : Nat} (hC : cells ≤ C) (hN : slots ≤ N) :
    own_Out p e below (fun o U' => ∃ v L, o = .returned v ∧ Q v U'.heap L ∧ FrameEnd s o U' L C N) (T.setTop (mkF m pc Ls (.int z :: rest))) :=
  own_end X hlk (fun h => by rw [hret] at h; cases h) (fun fs hr => retN X hx hret ht hd (by rw [hz]; exact hr)) hQ hC hN
theorem own_outL (X : Stand p l e R s m args below meth c T locs cells slots) (hx : p.tables.exec = Jvm.exec) (hlk : meth.locks = false) {pc : Nat} {Ls : Array Slot} {z : Int64} {rest : List Value} (hret : meth.sig.returnType = some .long) (hd : decode c.code pc = .ok (.lreturn, 1))
    {Q : Option Value → Heap → List Loc → Prop} (hQ : Q (some (.long z)) T.heap locs) {C N : Nat} (hC : cells ≤ C) (hN : slots ≤ N) :
    own_Out p e below (fun o U' => ∃ v L, o = .returned v ∧ Q v U'.heap L ∧ FrameEnd s o U' L C N) (T.setTop (mkF m pc Ls (.long z :: rest))) :=
  own_end X hlk (fun h => by rw [hret] at h; cases h) (fun fs hr => retOut X hx hret rfl (Or.inr (Or.inl ⟨rfl, rfl, z, rfl⟩)) hd hr) hQ hC hN
theorem own_outD (X : Stand p l e R s m args below meth c T locs cells slots) (hx : p.tables.exec = Jvm.exec) (hlk : meth.locks = false) {pc : Nat} {Ls : Array Slot} {z : UInt64} {rest : List Value} (hret : meth.sig.returnType = some .double) (hd : decode c.code pc = .ok (.dreturn, 1))
    {Q : Option Value → Heap → List Loc → Prop} (hQ : Q (some (.double z)) T.heap locs) {C N : Nat} (hC : cells ≤ C) (hN : slots ≤ N) :
    own_Out p e below (fun o U' => ∃ v L, o = .returned v ∧ Q v U'.heap L ∧ FrameEnd s o U' L C N) (T.setTop (mkF m pc Ls (.double z :: rest))) :=
  own_end X hlk (fun h => by rw [hret] at h; cases h) (fun fs hr => retOut X hx hret rfl (Or.inr (Or.inr (Or.inl ⟨rfl, rfl, z, rfl⟩))) hd hr) hQ hC hN
theorem own_outR (X : Stand p l e R s m args below meth c T locs cells slots) (hx : p.tables.exec = Jvm.exec) (hlk : meth.locks = false) {pc : Nat} {Ls : Array Slot} {w : Value} {t : FieldType} {rest : List Value} (hret : meth.sig.returnType = some t) (ht : t.isReference = true) (hw : w.isRef = true) (hn : narrow t w = w) (hd : decode c.code pc = .ok (.areturn, 1))
    {Q : Option Value → Heap → List Loc → Prop} (hQ : Q (some w) T.heap locs) {C N : Nat} (hC : cells ≤ C) (hN : slots ≤ N) :
    own_Out p e below (fun o U' => ∃ v L, o = .returned v ∧ Q v U'.heap L ∧ FrameEnd s o U' L C N) (T.setTop (mkF m pc Ls (w :: rest))) :=
  own_end X hlk (fun h => by rw [hret] at h; cases h) (fun fs hr => retOut X hx hret hn (Or.inr (Or.inr (Or.inr (Or.inr ⟨rfl, ht, hw⟩)))) hd hr) hQ hC hN
theorem own_outV (X : Stand p l e R s m args below meth c T locs cells slots) (hx : p.tables.exec = Jvm.exec) (hlk : meth.locks = false) {pc : Nat} {Ls : Array Slot} (hret : meth.sig.returnType = none) (hd : decode c.code pc = .ok (.return_, 1))
    {Q : Option Value → Heap → List Loc → Prop} (hQ : Q none T.heap locs) {C N : Nat} (hC : cells ≤ C) (hN : slots ≤ N) :
    own_Out p e below (fun o U' => ∃ v L, o = .returned v ∧ Q v U'.heap L ∧ FrameEnd s o U' L C N) (T.setTop (mkF m pc Ls [])) :=
  own_end X hlk (fun _ => rfl) (fun fs hr => X.returnOut hx hret hd hr) hQ hC hN
end New
theorem own_ltlt {x y : Int64} (h : x < y) : ifCond.holds .lt (lcmpW x y) = true ∧ ifCond.holds .ge (lcmpW x y) = false ∧ ifCond.holds .gt (lcmpW y x) = true ∧ ifCond.holds .le (lcmpW y x) = false := by
  have h1 : ¬ x > y := fun q => by rw [gt_iff_lt, Int64.lt_iff_toInt_lt] at q; rw [Int64.lt_iff_toInt_lt] at h; omega
  have h2 : ¬ x = y := fun q => by subst q; rw [Int64.lt_iff_toInt_lt] at h; omega
  have e1 : lcmpW x y = -1 := by simp only [lcmpW, if_neg h1, if_neg h2]
  have e2 : lcmpW y x = 1 := by simp only [lcmpW, if_pos (show y > x from h)]
  rw [e1, e2]; decide
theorem own_leq {x y : Int64} (h : x = y) : ifCond.holds .eq (lcmpW x y) = true ∧ ifCond.holds .ne (lcmpW x y) = false := by
  subst h
  have h1 : ¬ x > x := fun q => by rw [gt_iff_lt, Int64.lt_iff_toInt_lt] at q; omega
  have e1 : lcmpW x x = 0 := by simp only [lcmpW, if_neg h1, if_pos]
  rw [e1]; decide
theorem own_lfeq {x y : Int64} (h : ¬ x = y) : ifCond.holds .eq (lcmpW x y) = false ∧ ifCond.holds .ne (lcmpW x y) = true := by
  by_cases h1 : x > y
  · have e1 : lcmpW x y = 1 := by simp only [lcmpW, if_pos h1]
    rw [e1]; decide
  · have e1 : lcmpW x y = -1 := by simp only [lcmpW, if_neg h1, if_neg h]
    rw [e1]; decide
theorem own_lflt {x y : Int64} (h : ¬ x < y) : ifCond.holds .lt (lcmpW x y) = false ∧ ifCond.holds .ge (lcmpW x y) = true ∧ ifCond.holds .gt (lcmpW y x) = false ∧ ifCond.holds .le (lcmpW y x) = true := by
  by_cases h1 : x = y
  · subst h1
    have h1 : ¬ x > x := fun q => by rw [gt_iff_lt, Int64.lt_iff_toInt_lt] at q; omega
    have e1 : lcmpW x x = 0 := by simp only [lcmpW, if_neg h1, if_pos]
    rw [e1]; decide
  · have h2 : x > y := by
      rw [gt_iff_lt, Int64.lt_iff_toInt_lt]; rw [Int64.lt_iff_toInt_lt] at h
      have h3 : ¬ x.toInt = y.toInt := fun q => h1 (Int64.toInt_inj.mp q)
      omega
    have h3 : ¬ y > x := fun q => by rw [gt_iff_lt, Int64.lt_iff_toInt_lt] at q h2; omega
    have e1 : lcmpW x y = 1 := by simp only [lcmpW, if_pos h2]
    have e2 : lcmpW y x = -1 := by simp only [lcmpW, if_neg h3, if_neg (fun q => h1 (Eq.symm q))]
    rw [e1, e2]; decide
theorem own_staK0 {Z : State} {h h' : Heap} {C n d : String} {v : Value} (F : Sta Z h C n d v) (K : Keep h h' []) : Sta Z h' C n d v := by
  obtain ⟨cf, i, k, f, st, cell, h1, h2, h3, h4, h5, r⟩ := F
  exact ⟨cf, i, k, f, st, cell, h1, h2, h3, h4, K.2.1 st cell h5 nin0, r⟩
theorem own_staK1 {Z : State} {h h' : Heap} {C n d : String} {v : Value} {a : Addr} (F : Sta Z h C n d v) (K : Keep h h' [a]) (q : ∀ cell : Cell, h[a]? = some cell → cell.vm.isStatics = false) : Sta Z h' C n d v := by
  obtain ⟨cf, i, k, f, st, cell, h1, h2, h3, h4, h5, h6, h7⟩ := F
  have ne : st ≠ a := fun e => by subst e; rw [q _ h5] at h6; cases h6
  exact ⟨cf, i, k, f, st, cell, h1, h2, h3, h4, K.2.1 st cell h5 (ninS ne nin0), h6, h7⟩
theorem own_plainE {Z : State} {h : Heap} {a : Addr} {C : String} (E : Exa Z h a C) : ∀ cell : Cell, h[a]? = some cell → cell.vm.isStatics = false := fun cell hc => by
  obtain ⟨c, k, h1, -, -, h4, -⟩ := E; cases h1.symm.trans hc; exact h4
theorem own_plainV {Z : State} {h : Heap} {a : Addr} {k : ClassId} {ty : FieldType} {z : Int32} {vs : List Value} {dv : Value} (F : Arv Z h a k ty z vs dv) : ∀ cell : Cell, h[a]? = some cell → cell.vm.isStatics = false := fun cell hc => by
  obtain ⟨c, A, -⟩ := F; cases A.1.symm.trans hc; exact A.plain
section Bounds
variable {x a k : Int32} {u : Int}
theorem own_L1 (h : ¬ (x < a)) : a.toInt ≤ x.toInt := by rw [Int32.lt_iff_toInt_lt] at h; omega
theorem own_L2 (h : a < x) : a.toInt + 1 ≤ x.toInt := by rw [Int32.lt_iff_toInt_lt] at h; omega
theorem own_L3 (h : x = a) : a.toInt ≤ x.toInt := by subst h; omega
theorem own_U1 (h : x < a) : x.toInt ≤ a.toInt - 1 := by rw [Int32.lt_iff_toInt_lt] at h; omega
theorem own_U2 (h : ¬ (a < x)) : x.toInt ≤ a.toInt := by rw [Int32.lt_iff_toInt_lt] at h; omega
theorem own_U3 (h : x = a) : x.toInt ≤ a.toInt := by subst h; omega
theorem own_T1 (h : x.toInt ≤ u) (d : u < k.toInt) : x < k := by rw [Int32.lt_iff_toInt_lt]; omega
theorem own_T2 (h : u ≤ x.toInt) (d : k.toInt ≤ u) : ¬ (x < k) := by rw [Int32.lt_iff_toInt_lt]; omega
theorem own_T3 (h : u ≤ x.toInt) (d : k.toInt < u) : k < x := by rw [Int32.lt_iff_toInt_lt]; omega
theorem own_T4 (h : x.toInt ≤ u) (d : u ≤ k.toInt) : ¬ (k < x) := by rw [Int32.lt_iff_toInt_lt]; omega
theorem own_T5 (h : x.toInt ≤ u) (d : u < k.toInt) : ¬ (x = k) := fun q => by subst q; omega
theorem own_T6 (h : u ≤ x.toInt) (d : k.toInt < u) : ¬ (x = k) := fun q => by subst q; omega
theorem own_T7 {u' : Int} (h : u ≤ x.toInt) (h' : x.toInt ≤ u') (d : k.toInt ≤ u ∧ u' ≤ k.toInt) : x = k := Int32.toInt_inj.mp (by omega)
end Bounds
section Rel
theorem own_JR1 {a b : Int64} (h : a < b) : ¬ (b < a) := by rw [Int64.lt_iff_toInt_lt] at *; omega
theorem own_JR2 {a b : Int64} (h : a < b) : ¬ (a = b) := fun q => by subst q; rw [Int64.lt_iff_toInt_lt] at h; omega
theorem own_JR2' {a b : Int64} (h : a < b) : ¬ (b = a) := fun q => by subst q; rw [Int64.lt_iff_toInt_lt] at h; omega
theorem own_JR3 {a b : Int64} (h : a = b) : ¬ (a < b) := fun q => by subst h; rw [Int64.lt_iff_toInt_lt] at q; omega
theorem own_JR3' {a b : Int64} (h : a = b) : ¬ (b < a) := fun q => by subst h; rw [Int64.lt_iff_toInt_lt] at q; omega
theorem own_JR4 {a b : Int64} (h : ¬ (a < b)) (h' : ¬ (b < a)) : a = b := by rw [Int64.lt_iff_toInt_lt] at h h'; exact Int64.toInt_inj.mp (by omega)
theorem own_JR5 {a b : Int64} (h : ¬ (a < b)) (h' : ¬ (a = b)) : b < a := by rw [← Int64.toInt_inj] at h'; rw [Int64.lt_iff_toInt_lt] at *; omega
theorem own_JR5' {a b : Int64} (h : ¬ (a < b)) (h' : ¬ (b = a)) : b < a := by rw [← Int64.toInt_inj] at h'; rw [Int64.lt_iff_toInt_lt] at *; omega
theorem own_IR1 {a b : Int32} (h : a < b) : ¬ (b < a) := by rw [Int32.lt_iff_toInt_lt] at *; omega
theorem own_IR2 {a b : Int32} (h : a < b) : ¬ (a = b) := fun q => by subst q; rw [Int32.lt_iff_toInt_lt] at h; omega
theorem own_IR2' {a b : Int32} (h : a < b) : ¬ (b = a) := fun q => by subst q; rw [Int32.lt_iff_toInt_lt] at h; omega
theorem own_IR3 {a b : Int32} (h : a = b) : ¬ (a < b) := fun q => by subst h; rw [Int32.lt_iff_toInt_lt] at q; omega
theorem own_IR3' {a b : Int32} (h : a = b) : ¬ (b < a) := fun q => by subst h; rw [Int32.lt_iff_toInt_lt] at q; omega
theorem own_IR4 {a b : Int32} (h : ¬ (a < b)) (h' : ¬ (b < a)) : a = b := by rw [Int32.lt_iff_toInt_lt] at h h'; exact Int32.toInt_inj.mp (by omega)
theorem own_IR5 {a b : Int32} (h : ¬ (a < b)) (h' : ¬ (a = b)) : b < a := by rw [← Int32.toInt_inj] at h'; rw [Int32.lt_iff_toInt_lt] at *; omega
theorem own_IR5' {a b : Int32} (h : ¬ (a < b)) (h' : ¬ (b = a)) : b < a := by rw [← Int32.toInt_inj] at h'; rw [Int32.lt_iff_toInt_lt] at *; omega
end Rel
end Jvm.RoadKit
namespace Jvm.Pilot.@@N@@
open Jvm Jvm.ClassFile Sem Op Lib Jvm.Free Jvm.Stand Jvm.LawKit Jvm.RoadKit Bundle Jvm.Pilot.@@N@@.Jvm.D
def own_tab (j : Int32) : Int32 := if j < (9 : Int32) then (2 : Int32) else if j < (10 : Int32) then (1 : Int32) else if j < (11 : Int32) then (1 : Int32) else if j < (12 : Int32) then (2 : Int32) else if j < (13 : Int32) then (2 : Int32) else if j < (14 : Int32) then (1 : Int32) else if j < (32 : Int32) then (2 : Int32) else if j < (33 : Int32) then (1 : Int32) else if j < (34 : Int32) then (0 : Int32) else if j < (35 : Int32) then (2 : Int32) else if j < (36 : Int32) then (0 : Int32) else if j < (37 : Int32) then (0 : Int32) else if j < (38 : Int32) then (0 : Int32) else if j < (39 : Int32) then (2 : Int32) else if j < (40 : Int32) then (2 : Int32) else if j < (60 : Int32) then (0 : Int32) else if j < (61 : Int32) then (2 : Int32) else if j < (93 : Int32) then (0 : Int32) else if j < (94 : Int32) then (2 : Int32) else (0 : Int32)
theorem own_tab_all {args : Array Value} {Z : State} {t : Term} {a : Addr} {cl : Cell} {ty : FieldType} (ev : t.eval args Z none [] Z = some (.ref a)) (A : Arr Z Z.heap a cl ty) {G : Jvm.Cond} {j : Int32} (h : (Jvm.Cond.all t G).value args Z none Z [] = some true) (hl : j.toNatClampNeg < cl.slots.size) : G.value args Z none Z [j.toNatClampNeg] = some true := Cond.all_elim ev (A.fin (Vm.Alike.refl _)) h _ hl
theorem own_tab_el {args : Array Value} {Z : State} {t : Term} {a : Addr} {cl : Cell} {ty : FieldType} {j y : Int32} (ev : t.eval args Z none [j.toNatClampNeg] Z = some (.ref a)) (A : Arr Z Z.heap a cl ty) (hj : ¬ j < 0) (h : (Jvm.Cond.eq (.elem t (.index 0)) (.int y)).value args Z none Z [j.toNatClampNeg] = some true) : cl.slots[j.toNatClampNeg]? = some (.int y) := (elem_f ev (idx_at hj) (A.fin (Vm.Alike.refl _)) hj).symm.trans (eqv_i (Term.int_eval y) h)
theorem own_tab_el1 {args : Array Value} {Z : State} {t : Term} {a : Addr} {cl : Cell} {ty : FieldType} {j y : Int32} (ev : t.eval args Z none [] Z = some (.ref a)) (A : Arr Z Z.heap a cl ty) (hj : ¬ j < 0) (h : (Jvm.Cond.eq (.elem t (.int j)) (.int y)).value args Z none Z [] = some true) : cl.slots[j.toNatClampNeg]? = some (.int y) := (elem_f ev (Term.int_eval j) (A.fin (Vm.Alike.refl _)) hj).symm.trans (eqv_i (Term.int_eval y) h)
theorem own_tab_not_le {x y : Int32} (h : y < x) : ¬ x ≤ y := Int32.not_le.mpr h
theorem own_tab_mid {j k k' : Int32} (h1 : ¬ j < k) (h2 : j < k') (e : k'.toInt = k.toInt + 1) : j = k := by
  rw [Int32.lt_iff_toInt_lt] at h1 h2
  exact Int32.toInt_inj.mp (by omega)
theorem own_tab_at {args : Array Value} {s : State} {a : Addr} {cl : Cell} (hn : narrow_1.value args s none s [] = some true) (ev : (Jvm.Term.static "com/example/vine_labels/vinelabels/xmlinput/XmlCharacters" "KINDS" "[B").eval args s none [] s = some (.ref a)) (A : Arr s s.heap a cl .byte) (j : Int32) (hj : ¬ j < 0) (hl : j.toNatClampNeg < cl.slots.size) : cl.slots[j.toNatClampNeg]? = some (.int (own_tab j)) := by
  have hn0 : narrow_1.value _ s none s [] = some true := hn
  obtain ⟨hn_0, hr_0⟩ := and_e hn0
  obtain ⟨hn_1, hr_1⟩ := and_e hr_0
  obtain ⟨hn_2, hr_2⟩ := and_e hr_1
  obtain ⟨hn_3, hr_3⟩ := and_e hr_2
  obtain ⟨hn_4, hr_4⟩ := and_e hr_3
  obtain ⟨hn_5, hr_5⟩ := and_e hr_4
  obtain ⟨hn_6, hr_6⟩ := and_e hr_5
  obtain ⟨hn_7, hr_7⟩ := and_e hr_6
  obtain ⟨hn_8, hr_8⟩ := and_e hr_7
  obtain ⟨hn_9, hr_9⟩ := and_e hr_8
  obtain ⟨hn_10, hr_10⟩ := and_e hr_9
  obtain ⟨hn_11, hr_11⟩ := and_e hr_10
  obtain ⟨hn_12, hr_12⟩ := and_e hr_11
  obtain ⟨hn_13, hr_13⟩ := and_e hr_12
  obtain ⟨hn_14, hr_14⟩ := and_e hr_13
  obtain ⟨hn_15, hr_15⟩ := and_e hr_14
  obtain ⟨hn_16, hr_16⟩ := and_e hr_15
  obtain ⟨hn_17, hr_17⟩ := and_e hr_16
  obtain ⟨hn_18, hr_18⟩ := and_e hr_17
  obtain ⟨hn_19, hr_19⟩ := and_e hr_18
  obtain ⟨hn_20, hr_20⟩ := and_e hr_19
  by_cases c2 : j < (9 : Int32)
  · simp only [own_tab, if_pos c2]
    have h := own_tab_all (j := j) ev A hn_2 hl
    rw [Cond.or_of_right (nay (Cond.le_ints (Term.int_eval _) (idx_at hj)) (own_tab_not_le c2))] at h
    exact own_tab_el ev A hj h
  by_cases c3 : j < (10 : Int32)
  · simp only [own_tab, if_pos c3, if_neg c2]
    obtain rfl := own_tab_mid c2 c3 rfl
    exact own_tab_el1 ev A (by decide) hn_3
  by_cases c4 : j < (11 : Int32)
  · simp only [own_tab, if_pos c4, if_neg c2, if_neg c3]
    obtain rfl := own_tab_mid c3 c4 rfl
    exact own_tab_el1 ev A (by decide) hn_4
  by_cases c5 : j < (12 : Int32)
  · simp only [own_tab, if_pos c5, if_neg c2, if_neg c3, if_neg c4]
    obtain rfl := own_tab_mid c4 c5 rfl
    exact own_tab_el1 ev A (by decide) hn_5
  by_cases c6 : j < (13 : Int32)
  · simp only [own_tab, if_pos c6, if_neg c2, if_neg c3, if_neg c4, if_neg c5]
    obtain rfl := own_tab_mid c5 c6 rfl
    exact own_tab_el1 ev A (by decide) hn_6
  by_cases c7 : j < (14 : Int32)
  · simp only [own_tab, if_pos c7, if_neg c2, if_neg c3, if_neg c4, if_neg c5, if_neg c6]
    obtain rfl := own_tab_mid c6 c7 rfl
    exact own_tab_el1 ev A (by decide) hn_7
  by_cases c8 : j < (32 : Int32)
  · simp only [own_tab, if_pos c8, if_neg c2, if_neg c3, if_neg c4, if_neg c5, if_neg c6, if_neg c7]
    have h := own_tab_all (j := j) ev A hn_8 hl
    rw [Cond.or_of_right (nay (Cond.lt_ints (idx_at hj) (Term.int_eval _)) c7)] at h
    rw [Cond.or_of_right (nay (Cond.le_ints (Term.int_eval _) (idx_at hj)) (own_tab_not_le c8))] at h
    exact own_tab_el ev A hj h
  by_cases c9 : j < (33 : Int32)
  · simp only [own_tab, if_pos c9, if_neg c2, if_neg c3, if_neg c4, if_neg c5, if_neg c6, if_neg c7, if_neg c8]
    obtain rfl := own_tab_mid c8 c9 rfl
    exact own_tab_el1 ev A (by decide) hn_9
  by_cases c10 : j < (34 : Int32)
  · simp only [own_tab, if_pos c10, if_neg c2, if_neg c3, if_neg c4, if_neg c5, if_neg c6, if_neg c7, if_neg c8, if_neg c9]
    obtain rfl := own_tab_mid c9 c10 rfl
    exact own_tab_el1 ev A (by decide) hn_10
  by_cases c11 : j < (35 : Int32)
  · simp only [own_tab, if_pos c11, if_neg c2, if_neg c3, if_neg c4, if_neg c5, if_neg c6, if_neg c7, if_neg c8, if_neg c9, if_neg c10]
    obtain rfl := own_tab_mid c10 c11 rfl
    exact own_tab_el1 ev A (by decide) hn_11
  by_cases c12 : j < (36 : Int32)
  · simp only [own_tab, if_pos c12, if_neg c2, if_neg c3, if_neg c4, if_neg c5, if_neg c6, if_neg c7, if_neg c8, if_neg c9, if_neg c10, if_neg c11]
    obtain rfl := own_tab_mid c11 c12 rfl
    exact own_tab_el1 ev A (by decide) hn_12
  by_cases c13 : j < (37 : Int32)
  · simp only [own_tab, if_pos c13, if_neg c2, if_neg c3, if_neg c4, if_neg c5, if_neg c6, if_neg c7, if_neg c8, if_neg c9, if_neg c10, if_neg c11, if_neg c12]
    obtain rfl := own_tab_mid c12 c13 rfl
    exact own_tab_el1 ev A (by decide) hn_13
  by_cases c14 : j < (38 : Int32)
  · simp only [own_tab, if_pos c14, if_neg c2, if_neg c3, if_neg c4, if_neg c5, if_neg c6, if_neg c7, if_neg c8, if_neg c9, if_neg c10, if_neg c11, if_neg c12, if_neg c13]
    obtain rfl := own_tab_mid c13 c14 rfl
    exact own_tab_el1 ev A (by decide) hn_14
  by_cases c15 : j < (39 : Int32)
  · simp only [own_tab, if_pos c15, if_neg c2, if_neg c3, if_neg c4, if_neg c5, if_neg c6, if_neg c7, if_neg c8, if_neg c9, if_neg c10, if_neg c11, if_neg c12, if_neg c13, if_neg c14]
    obtain rfl := own_tab_mid c14 c15 rfl
    exact own_tab_el1 ev A (by decide) hn_15
  by_cases c16 : j < (40 : Int32)
  · simp only [own_tab, if_pos c16, if_neg c2, if_neg c3, if_neg c4, if_neg c5, if_neg c6, if_neg c7, if_neg c8, if_neg c9, if_neg c10, if_neg c11, if_neg c12, if_neg c13, if_neg c14, if_neg c15]
    obtain rfl := own_tab_mid c15 c16 rfl
    exact own_tab_el1 ev A (by decide) hn_16
  by_cases c17 : j < (60 : Int32)
  · simp only [own_tab, if_pos c17, if_neg c2, if_neg c3, if_neg c4, if_neg c5, if_neg c6, if_neg c7, if_neg c8, if_neg c9, if_neg c10, if_neg c11, if_neg c12, if_neg c13, if_neg c14, if_neg c15, if_neg c16]
    have h := own_tab_all (j := j) ev A hn_17 hl
    rw [Cond.or_of_right (nay (Cond.lt_ints (idx_at hj) (Term.int_eval _)) c16)] at h
    rw [Cond.or_of_right (nay (Cond.le_ints (Term.int_eval _) (idx_at hj)) (own_tab_not_le c17))] at h
    exact own_tab_el ev A hj h
  by_cases c18 : j < (61 : Int32)
  · simp only [own_tab, if_pos c18, if_neg c2, if_neg c3, if_neg c4, if_neg c5, if_neg c6, if_neg c7, if_neg c8, if_neg c9, if_neg c10, if_neg c11, if_neg c12, if_neg c13, if_neg c14, if_neg c15, if_neg c16, if_neg c17]
    obtain rfl := own_tab_mid c17 c18 rfl
    exact own_tab_el1 ev A (by decide) hn_18
  by_cases c19 : j < (93 : Int32)
  · simp only [own_tab, if_pos c19, if_neg c2, if_neg c3, if_neg c4, if_neg c5, if_neg c6, if_neg c7, if_neg c8, if_neg c9, if_neg c10, if_neg c11, if_neg c12, if_neg c13, if_neg c14, if_neg c15, if_neg c16, if_neg c17, if_neg c18]
    have h := own_tab_all (j := j) ev A hn_19 hl
    rw [Cond.or_of_right (nay (Cond.lt_ints (idx_at hj) (Term.int_eval _)) c18)] at h
    rw [Cond.or_of_right (nay (Cond.le_ints (Term.int_eval _) (idx_at hj)) (own_tab_not_le c19))] at h
    exact own_tab_el ev A hj h
  by_cases c20 : j < (94 : Int32)
  · simp only [own_tab, if_pos c20, if_neg c2, if_neg c3, if_neg c4, if_neg c5, if_neg c6, if_neg c7, if_neg c8, if_neg c9, if_neg c10, if_neg c11, if_neg c12, if_neg c13, if_neg c14, if_neg c15, if_neg c16, if_neg c17, if_neg c18, if_neg c19]
    obtain rfl := own_tab_mid c19 c20 rfl
    exact own_tab_el1 ev A (by decide) hn_20
  simp only [own_tab, if_neg c2, if_neg c3, if_neg c4, if_neg c5, if_neg c6, if_neg c7, if_neg c8, if_neg c9, if_neg c10, if_neg c11, if_neg c12, if_neg c13, if_neg c14, if_neg c15, if_neg c16, if_neg c17, if_neg c18, if_neg c19, if_neg c20]
  have h := own_tab_all (j := j) ev A hr_20 hl
  rw [Cond.or_of_right (nay (Cond.lt_ints (idx_at hj) (Term.int_eval _)) c20)] at h
  exact own_tab_el ev A hj h
theorem own_tab_P {P : Int32 → Prop} (h0 : P 0) (h1 : P 1) (h2 : P 2) (j : Int32) : P (own_tab j) := by
  by_cases c2 : j < (9 : Int32)
  · simp only [own_tab, if_pos c2]; exact h2
  by_cases c3 : j < (10 : Int32)
  · simp only [own_tab, if_pos c3, if_neg c2]; exact h1
  by_cases c4 : j < (11 : Int32)
  · simp only [own_tab, if_pos c4, if_neg c2, if_neg c3]; exact h1
  by_cases c5 : j < (12 : Int32)
  · simp only [own_tab, if_pos c5, if_neg c2, if_neg c3, if_neg c4]; exact h2
  by_cases c6 : j < (13 : Int32)
  · simp only [own_tab, if_pos c6, if_neg c2, if_neg c3, if_neg c4, if_neg c5]; exact h2
  by_cases c7 : j < (14 : Int32)
  · simp only [own_tab, if_pos c7, if_neg c2, if_neg c3, if_neg c4, if_neg c5, if_neg c6]; exact h1
  by_cases c8 : j < (32 : Int32)
  · simp only [own_tab, if_pos c8, if_neg c2, if_neg c3, if_neg c4, if_neg c5, if_neg c6, if_neg c7]; exact h2
  by_cases c9 : j < (33 : Int32)
  · simp only [own_tab, if_pos c9, if_neg c2, if_neg c3, if_neg c4, if_neg c5, if_neg c6, if_neg c7, if_neg c8]; exact h1
  by_cases c10 : j < (34 : Int32)
  · simp only [own_tab, if_pos c10, if_neg c2, if_neg c3, if_neg c4, if_neg c5, if_neg c6, if_neg c7, if_neg c8, if_neg c9]; exact h0
  by_cases c11 : j < (35 : Int32)
  · simp only [own_tab, if_pos c11, if_neg c2, if_neg c3, if_neg c4, if_neg c5, if_neg c6, if_neg c7, if_neg c8, if_neg c9, if_neg c10]; exact h2
  by_cases c12 : j < (36 : Int32)
  · simp only [own_tab, if_pos c12, if_neg c2, if_neg c3, if_neg c4, if_neg c5, if_neg c6, if_neg c7, if_neg c8, if_neg c9, if_neg c10, if_neg c11]; exact h0
  by_cases c13 : j < (37 : Int32)
  · simp only [own_tab, if_pos c13, if_neg c2, if_neg c3, if_neg c4, if_neg c5, if_neg c6, if_neg c7, if_neg c8, if_neg c9, if_neg c10, if_neg c11, if_neg c12]; exact h0
  by_cases c14 : j < (38 : Int32)
  · simp only [own_tab, if_pos c14, if_neg c2, if_neg c3, if_neg c4, if_neg c5, if_neg c6, if_neg c7, if_neg c8, if_neg c9, if_neg c10, if_neg c11, if_neg c12, if_neg c13]; exact h0
  by_cases c15 : j < (39 : Int32)
  · simp only [own_tab, if_pos c15, if_neg c2, if_neg c3, if_neg c4, if_neg c5, if_neg c6, if_neg c7, if_neg c8, if_neg c9, if_neg c10, if_neg c11, if_neg c12, if_neg c13, if_neg c14]; exact h2
  by_cases c16 : j < (40 : Int32)
  · simp only [own_tab, if_pos c16, if_neg c2, if_neg c3, if_neg c4, if_neg c5, if_neg c6, if_neg c7, if_neg c8, if_neg c9, if_neg c10, if_neg c11, if_neg c12, if_neg c13, if_neg c14, if_neg c15]; exact h2
  by_cases c17 : j < (60 : Int32)
  · simp only [own_tab, if_pos c17, if_neg c2, if_neg c3, if_neg c4, if_neg c5, if_neg c6, if_neg c7, if_neg c8, if_neg c9, if_neg c10, if_neg c11, if_neg c12, if_neg c13, if_neg c14, if_neg c15, if_neg c16]; exact h0
  by_cases c18 : j < (61 : Int32)
  · simp only [own_tab, if_pos c18, if_neg c2, if_neg c3, if_neg c4, if_neg c5, if_neg c6, if_neg c7, if_neg c8, if_neg c9, if_neg c10, if_neg c11, if_neg c12, if_neg c13, if_neg c14, if_neg c15, if_neg c16, if_neg c17]; exact h2
  by_cases c19 : j < (93 : Int32)
  · simp only [own_tab, if_pos c19, if_neg c2, if_neg c3, if_neg c4, if_neg c5, if_neg c6, if_neg c7, if_neg c8, if_neg c9, if_neg c10, if_neg c11, if_neg c12, if_neg c13, if_neg c14, if_neg c15, if_neg c16, if_neg c17, if_neg c18]; exact h0
  by_cases c20 : j < (94 : Int32)
  · simp only [own_tab, if_pos c20, if_neg c2, if_neg c3, if_neg c4, if_neg c5, if_neg c6, if_neg c7, if_neg c8, if_neg c9, if_neg c10, if_neg c11, if_neg c12, if_neg c13, if_neg c14, if_neg c15, if_neg c16, if_neg c17, if_neg c18, if_neg c19]; exact h2
  simp only [own_tab, if_neg c2, if_neg c3, if_neg c4, if_neg c5, if_neg c6, if_neg c7, if_neg c8, if_neg c9, if_neg c10, if_neg c11, if_neg c12, if_neg c13, if_neg c14, if_neg c15, if_neg c16, if_neg c17, if_neg c18, if_neg c19, if_neg c20]; exact h0
theorem d2_0 : decode prog_34_method_3_code 0 = .ok (.iload_n 0, 1) := by decide +kernel
theorem d2_1 : decode prog_34_method_3_code 1 = .ok (.bipush 32, 2) := by decide +kernel
theorem d2_3 : decode prog_34_method_3_code 3 = .ok (.if_icmp .eq 21, 3) := by decide +kernel
theorem d2_6 : decode prog_34_method_3_code 6 = .ok (.iload_n 0, 1) := by decide +kernel
theorem d2_7 : decode prog_34_method_3_code 7 = .ok (.bipush 10, 2) := by decide +kernel
theorem d2_9 : decode prog_34_method_3_code 9 = .ok (.if_icmp .eq 15, 3) := by decide +kernel
theorem d2_12 : decode prog_34_method_3_code 12 = .ok (.iload_n 0, 1) := by decide +kernel
theorem d2_13 : decode prog_34_method_3_code 13 = .ok (.bipush 9, 2) := by decide +kernel
theorem d2_15 : decode prog_34_method_3_code 15 = .ok (.if_icmp .eq 9, 3) := by decide +kernel
theorem d2_18 : decode prog_34_method_3_code 18 = .ok (.iload_n 0, 1) := by decide +kernel
theorem d2_19 : decode prog_34_method_3_code 19 = .ok (.bipush 13, 2) := by decide +kernel
theorem d2_21 : decode prog_34_method_3_code 21 = .ok (.if_icmp .ne 7, 3) := by decide +kernel
theorem d2_24 : decode prog_34_method_3_code 24 = .ok (.iconst 1, 1) := by decide +kernel
theorem d2_25 : decode prog_34_method_3_code 25 = .ok (.goto 4, 3) := by decide +kernel
theorem d2_28 : decode prog_34_method_3_code 28 = .ok (.iconst 0, 1) := by decide +kernel
theorem d2_29 : decode prog_34_method_3_code 29 = .ok (.ireturn, 1) := by decide +kernel
theorem pn_0 : plainName "com/example/vine_labels/vinelabels/xmlinput/XmlCharacters" = true := by first | (simp [plainName, overriddenIn]; done) | decide +kernel
theorem ef_2 (m : MethodId) (x0 : Int32) : entryFrame m #[(.int x0)] 1 = mkF m 0 #[.val (.int x0)] [] := by first | (simp [entryFrame, mkF, argsToLocals, Value.category]; done) | rfl
def f2 (p0 : Int32) : Int32 := if p0 = (32 : Int32) then (1 : Int32)
  else if p0 = (10 : Int32) then (1 : Int32)
    else if p0 = (9 : Int32) then (1 : Int32)
      else if p0 = (13 : Int32) then (1 : Int32)
        else (0 : Int32)
def Q2 (Z : State) (p0 : Int32) (h0 : Heap) (n0 : Nat) (v : Option Value) (h : Heap) (L : List Loc) : Prop := v = some (.int (f2 p0)) ∧ Fr n0 L ∧ h = h0
set_option maxRecDepth 65536 in
set_option maxHeartbeats 40000000 in
theorem rm2 (l : Launch) (Z : State) (a0 : Array Value) (hw : ∀ d ∈ tables_1, d.before a0 Z = true) (ws : List Jvm.Cond) (p0 : Int32) (h0 : Heap) (n0 : Nat) (Z0 : n0 ≤ h0.size) :
    MetFree l (⟨"com/example/vine_labels/vinelabels/xmlinput/XmlCharacters", "isWhiteSpace", "(I)Z"⟩ : MethodName) (head1 (Jvm.Cond.code (⟨"com/example/vine_labels/vinelabels/xmlinput/XmlCharacters", "isWhiteSpace", "(I)Z"⟩ : MethodName) prog_34_method_3_code 1 (some .boolean) :: ws) ({ frames := 0, cells := 0, slots := 0, locals := 0 } : Room)) (fun a U => a = #[(.int p0)] ∧ Z.Warmed39 U.vm ∧ U.heap = h0) (fun _ _ _ _ _ => True) (fun _ U o U' => ∃ v L, o = .returned v ∧ Q2 Z p0 h0 n0 v U'.heap L ∧ FrameEnd U o U' L ({ frames := 0, cells := 0, slots := 0, locals := 0 } : Room).cells ({ frames := 0, cells := 0, slots := 0, locals := 0 } : Room).slots) := by
  refine MetFree.of_bodySF (plainFor_of_name pn_0) hisR ?_
  intro p e s m args below meth c s₁ Bd hml0 hP hK
  obtain ⟨rfl, hZ, hh⟩ := hP
  have hx := Bd.exec
  have hby := Bd.bytes
  have hml : c.maxLocals = 1 := hml0
  have hown : s.vm.findClass "com/example/vine_labels/vinelabels/xmlinput/XmlCharacters" = some m.cls := findClass_of_methodNamed Bd.named
  have hnm := (name_of_methodNamed Bd.named Bd.method).1
  have X0 : Stand p l e ({ frames := 0, cells := 0, slots := 0, locals := 0 } : Room) s m #[(.int p0)] below meth c s₁ [] 0 0 := Stand.of_body Bd
  have e0 : s₁.heap = h0 := by rw [← hh, Bd.state]; rfl
  have N0 := Fr.nil n0
  have hret := Bd.returns
  have hlk := BodyLoose.notSynchronized Bd
  show own_Out p e below (fun o U' => ∃ v L, o = .returned v ∧ Q2 Z p0 h0 n0 v U'.heap L ∧ FrameEnd s o U' L ({ frames := 0, cells := 0, slots := 0, locals := 0 } : Room).cells ({ frames := 0, cells := 0, slots := 0, locals := 0 } : Room).slots) (s₁.setTop (entryFrame m #[(.int p0)] 1))
  refine own_of (fun t k => castTop (ef_2 m p0) k) ?_
  show own_Out p e below _ (s₁.setTop (mkF m 0 #[.val (.int p0)] []))
  refine own_of (fun _ k => XS.iloadN X0.here hx rfl (hb hby d2_0) rfl k) ?_
  show own_Out p e below _ (s₁.setTop (mkF m 1 #[.val (.int p0)] [(.int p0)]))
  refine own_of (fun _ k => XS.bipush X0.here hx rfl (hb hby d2_1) k) ?_
  show own_Out p e below _ (s₁.setTop (mkF m 3 #[.val (.int p0)] [(.int (32 : Int32)), (.int p0)]))
  by_cases hc3_1 : p0 = (32 : Int32)
  · skip
    refine own_of (fun _ k => XS.icmpYes X0.here hx rfl (pc0 := 3) (pc' := 24) rfl (hb hby d2_3) rfl (teq hc3_1).1 (by decide) (by decide) k) ?_
    show own_Out p e below _ (s₁.setTop (mkF m 24 #[.val (.int p0)] []))
    refine own_of (fun _ k => XS.iconst X0.here hx rfl (hb hby d2_24) k) ?_
    show own_Out p e below _ (s₁.setTop (mkF m 25 #[.val (.int p0)] [(.int (1 : Int32))]))
    refine own_of (fun _ k => XS.goto X0.here hx rfl (pc0 := 25) (pc' := 29) rfl (hb hby d2_25) (by decide) (by decide) k) ?_
    show own_Out p e below _ (s₁.setTop (mkF m 29 #[.val (.int p0)] [(.int (1 : Int32))]))
    exact own_outN X0 hx hlk (t := .boolean) hret (by simp) (hb hby d2_29) (z' := (1 : Int32)) rfl (Q := Q2 Z p0 h0 n0) ⟨by simp only [f2, if_pos hc3_1], N0, e0⟩ (by decide) (by decide)
  · skip
    refine own_of (fun _ k => XS.icmpNo X0.here hx rfl (hb hby d2_3) rfl (feq hc3_1).1 k) ?_
    show own_Out p e below _ (s₁.setTop (mkF m 6 #[.val (.int p0)] []))
    refine own_of (fun _ k => XS.iloadN X0.here hx rfl (hb hby d2_6) rfl k) ?_
    show own_Out p e below _ (s₁.setTop (mkF m 7 #[.val (.int p0)] [(.int p0)]))
    refine own_of (fun _ k => XS.bipush X0.here hx rfl (hb hby d2_7) k) ?_
    show own_Out p e below _ (s₁.setTop (mkF m 9 #[.val (.int p0)] [(.int (10 : Int32)), (.int p0)]))
    by_cases hc9_2 : p0 = (10 : Int32)
    · skip
      refine own_of (fun _ k => XS.icmpYes X0.here hx rfl (pc0 := 9) (pc' := 24) rfl (hb hby d2_9) rfl (teq hc9_2).1 (by decide) (by decide) k) ?_
      show own_Out p e below _ (s₁.setTop (mkF m 24 #[.val (.int p0)] []))
      refine own_of (fun _ k => XS.iconst X0.here hx rfl (hb hby d2_24) k) ?_
      show own_Out p e below _ (s₁.setTop (mkF m 25 #[.val (.int p0)] [(.int (1 : Int32))]))
      refine own_of (fun _ k => XS.goto X0.here hx rfl (pc0 := 25) (pc' := 29) rfl (hb hby d2_25) (by decide) (by decide) k) ?_
      show own_Out p e below _ (s₁.setTop (mkF m 29 #[.val (.int p0)] [(.int (1 : Int32))]))
      exact own_outN X0 hx hlk (t := .boolean) hret (by simp) (hb hby d2_29) (z' := (1 : Int32)) rfl (Q := Q2 Z p0 h0 n0) ⟨by simp only [f2, if_neg hc3_1, if_pos hc9_2], N0, e0⟩ (by decide) (by decide)
    · skip
      refine own_of (fun _ k => XS.icmpNo X0.here hx rfl (hb hby d2_9) rfl (feq hc9_2).1 k) ?_
      show own_Out p e below _ (s₁.setTop (mkF m 12 #[.val (.int p0)] []))
      refine own_of (fun _ k => XS.iloadN X0.here hx rfl (hb hby d2_12) rfl k) ?_
      show own_Out p e below _ (s₁.setTop (mkF m 13 #[.val (.int p0)] [(.int p0)]))
      refine own_of (fun _ k => XS.bipush X0.here hx rfl (hb hby d2_13) k) ?_
      show own_Out p e below _ (s₁.setTop (mkF m 15 #[.val (.int p0)] [(.int (9 : Int32)), (.int p0)]))
      by_cases hc15_3 : p0 = (9 : Int32)
      · skip
        refine own_of (fun _ k => XS.icmpYes X0.here hx rfl (pc0 := 15) (pc' := 24) rfl (hb hby d2_15) rfl (teq hc15_3).1 (by decide) (by decide) k) ?_
        show own_Out p e below _ (s₁.setTop (mkF m 24 #[.val (.int p0)] []))
        refine own_of (fun _ k => XS.iconst X0.here hx rfl (hb hby d2_24) k) ?_
        show own_Out p e below _ (s₁.setTop (mkF m 25 #[.val (.int p0)] [(.int (1 : Int32))]))
        refine own_of (fun _ k => XS.goto X0.here hx rfl (pc0 := 25) (pc' := 29) rfl (hb hby d2_25) (by decide) (by decide) k) ?_
        show own_Out p e below _ (s₁.setTop (mkF m 29 #[.val (.int p0)] [(.int (1 : Int32))]))
        exact own_outN X0 hx hlk (t := .boolean) hret (by simp) (hb hby d2_29) (z' := (1 : Int32)) rfl (Q := Q2 Z p0 h0 n0) ⟨by simp only [f2, if_neg hc3_1, if_neg hc9_2, if_pos hc15_3], N0, e0⟩ (by decide) (by decide)
      · skip
        refine own_of (fun _ k => XS.icmpNo X0.here hx rfl (hb hby d2_15) rfl (feq hc15_3).1 k) ?_
        show own_Out p e below _ (s₁.setTop (mkF m 18 #[.val (.int p0)] []))
        refine own_of (fun _ k => XS.iloadN X0.here hx rfl (hb hby d2_18) rfl k) ?_
        show own_Out p e below _ (s₁.setTop (mkF m 19 #[.val (.int p0)] [(.int p0)]))
        refine own_of (fun _ k => XS.bipush X0.here hx rfl (hb hby d2_19) k) ?_
        show own_Out p e below _ (s₁.setTop (mkF m 21 #[.val (.int p0)] [(.int (13 : Int32)), (.int p0)]))
        by_cases hc21_4 : p0 = (13 : Int32)
        · skip
          refine own_of (fun _ k => XS.icmpNo X0.here hx rfl (hb hby d2_21) rfl (teq hc21_4).2 k) ?_
          show own_Out p e below _ (s₁.setTop (mkF m 24 #[.val (.int p0)] []))
          refine own_of (fun _ k => XS.iconst X0.here hx rfl (hb hby d2_24) k) ?_
          show own_Out p e below _ (s₁.setTop (mkF m 25 #[.val (.int p0)] [(.int (1 : Int32))]))
          refine own_of (fun _ k => XS.goto X0.here hx rfl (pc0 := 25) (pc' := 29) rfl (hb hby d2_25) (by decide) (by decide) k) ?_
          show own_Out p e below _ (s₁.setTop (mkF m 29 #[.val (.int p0)] [(.int (1 : Int32))]))
          exact own_outN X0 hx hlk (t := .boolean) hret (by simp) (hb hby d2_29) (z' := (1 : Int32)) rfl (Q := Q2 Z p0 h0 n0) ⟨by simp only [f2, if_neg hc3_1, if_neg hc9_2, if_neg hc15_3, if_pos hc21_4], N0, e0⟩ (by decide) (by decide)
        · skip
          refine own_of (fun _ k => XS.icmpYes X0.here hx rfl (pc0 := 21) (pc' := 28) rfl (hb hby d2_21) rfl (feq hc21_4).2 (by decide) (by decide) k) ?_
          show own_Out p e below _ (s₁.setTop (mkF m 28 #[.val (.int p0)] []))
          refine own_of (fun _ k => XS.iconst X0.here hx rfl (hb hby d2_28) k) ?_
          show own_Out p e below _ (s₁.setTop (mkF m 29 #[.val (.int p0)] [(.int (0 : Int32))]))
          exact own_outN X0 hx hlk (t := .boolean) hret (by simp) (hb hby d2_29) (z' := (0 : Int32)) rfl (Q := Q2 Z p0 h0 n0) ⟨by simp only [f2, if_neg hc3_1, if_neg hc9_2, if_neg hc15_3, if_neg hc21_4], N0, e0⟩ (by decide) (by decide)
theorem d3_0 : decode method_2_code 0 = .ok (.iload_n 0, 1) := by decide +kernel
theorem d3_1 : decode method_2_code 1 = .ok (.bipush 32, 2) := by decide +kernel
theorem d3_3 : decode method_2_code 3 = .ok (.if_icmp .ne 5, 3) := by decide +kernel
theorem d3_6 : decode method_2_code 6 = .ok (.iconst 1, 1) := by decide +kernel
theorem d3_7 : decode method_2_code 7 = .ok (.ireturn, 1) := by decide +kernel
theorem d3_8 : decode method_2_code 8 = .ok (.iload_n 0, 1) := by decide +kernel
theorem d3_9 : decode method_2_code 9 = .ok (.bipush 9, 2) := by decide +kernel
theorem d3_11 : decode method_2_code 11 = .ok (.if_icmp .lt 9, 3) := by decide +kernel
theorem d3_14 : decode method_2_code 14 = .ok (.iload_n 0, 1) := by decide +kernel
theorem d3_15 : decode method_2_code 15 = .ok (.bipush 13, 2) := by decide +kernel
theorem d3_17 : decode method_2_code 17 = .ok (.if_icmp .le 5, 3) := by decide +kernel
theorem d3_20 : decode method_2_code 20 = .ok (.iconst 0, 1) := by decide +kernel
theorem d3_21 : decode method_2_code 21 = .ok (.ireturn, 1) := by decide +kernel
theorem d3_22 : decode method_2_code 22 = .ok (.iload_n 0, 1) := by decide +kernel
theorem d3_23 : decode method_2_code 23 = .ok (.bipush 11, 2) := by decide +kernel
theorem d3_25 : decode method_2_code 25 = .ok (.if_icmp .eq 13, 3) := by decide +kernel
theorem d3_28 : decode method_2_code 28 = .ok (.iload_n 0, 1) := by decide +kernel
theorem d3_29 : decode method_2_code 29 = .ok (.bipush 12, 2) := by decide +kernel
theorem d3_31 : decode method_2_code 31 = .ok (.if_icmp .eq 7, 3) := by decide +kernel
theorem d3_34 : decode method_2_code 34 = .ok (.iconst 1, 1) := by decide +kernel
theorem d3_35 : decode method_2_code 35 = .ok (.goto 4, 3) := by decide +kernel
theorem d3_38 : decode method_2_code 38 = .ok (.iconst 0, 1) := by decide +kernel
theorem d3_39 : decode method_2_code 39 = .ok (.ireturn, 1) := by decide +kernel
theorem pn_1 : plainName "com/example/vine_labels/vinelabels/xmlinput/XmlCharactersIsWhiteSpacePinLaw" = true := by first | (simp [plainName, overriddenIn]; done) | decide +kernel
theorem ef_3 (m : MethodId) (x0 : Int32) : entryFrame m #[(.int x0)] 1 = mkF m 0 #[.val (.int x0)] [] := by first | (simp [entryFrame, mkF, argsToLocals, Value.category]; done) | rfl
def f3 (p0 : Int32) : Int32 := if p0 = (32 : Int32) then (1 : Int32)
  else if p0 < (9 : Int32) then (0 : Int32)
    else if (13 : Int32) < p0 then (0 : Int32)
      else if p0 = (11 : Int32) then (0 : Int32)
        else if p0 = (12 : Int32) then (0 : Int32)
          else (1 : Int32)
def Q3 (Z : State) (p0 : Int32) (h0 : Heap) (n0 : Nat) (v : Option Value) (h : Heap) (L : List Loc) : Prop := v = some (.int (f3 p0)) ∧ Fr n0 L ∧ h = h0
set_option maxRecDepth 65536 in
set_option maxHeartbeats 40000000 in
theorem rm3 (l : Launch) (Z : State) (a0 : Array Value) (hw : ∀ d ∈ tables_1, d.before a0 Z = true) (ws : List Jvm.Cond) (p0 : Int32) (h0 : Heap) (n0 : Nat) (Z0 : n0 ≤ h0.size) :
    MetFree l (⟨"com/example/vine_labels/vinelabels/xmlinput/XmlCharactersIsWhiteSpacePinLaw", "reference", "(I)Z"⟩ : MethodName) (head1 (Jvm.Cond.code (⟨"com/example/vine_labels/vinelabels/xmlinput/XmlCharactersIsWhiteSpacePinLaw", "reference", "(I)Z"⟩ : MethodName) method_2_code 1 (some .boolean) :: ws) ({ frames := 0, cells := 0, slots := 0, locals := 0 } : Room)) (fun a U => a = #[(.int p0)] ∧ Z.Warmed39 U.vm ∧ U.heap = h0) (fun _ _ _ _ _ => True) (fun _ U o U' => ∃ v L, o = .returned v ∧ Q3 Z p0 h0 n0 v U'.heap L ∧ FrameEnd U o U' L ({ frames := 0, cells := 0, slots := 0, locals := 0 } : Room).cells ({ frames := 0, cells := 0, slots := 0, locals := 0 } : Room).slots) := by
  refine MetFree.of_bodySF (plainFor_of_name pn_1) hisR ?_
  intro p e s m args below meth c s₁ Bd hml0 hP hK
  obtain ⟨rfl, hZ, hh⟩ := hP
  have hx := Bd.exec
  have hby := Bd.bytes
  have hml : c.maxLocals = 1 := hml0
  have hown : s.vm.findClass "com/example/vine_labels/vinelabels/xmlinput/XmlCharactersIsWhiteSpacePinLaw" = some m.cls := findClass_of_methodNamed Bd.named
  have hnm := (name_of_methodNamed Bd.named Bd.method).1
  have X0 : Stand p l e ({ frames := 0, cells := 0, slots := 0, locals := 0 } : Room) s m #[(.int p0)] below meth c s₁ [] 0 0 := Stand.of_body Bd
  have e0 : s₁.heap = h0 := by rw [← hh, Bd.state]; rfl
  have N0 := Fr.nil n0
  have hret := Bd.returns
  have hlk := BodyLoose.notSynchronized Bd
  show own_Out p e below (fun o U' => ∃ v L, o = .returned v ∧ Q3 Z p0 h0 n0 v U'.heap L ∧ FrameEnd s o U' L ({ frames := 0, cells := 0, slots := 0, locals := 0 } : Room).cells ({ frames := 0, cells := 0, slots := 0, locals := 0 } : Room).slots) (s₁.setTop (entryFrame m #[(.int p0)] 1))
  refine own_of (fun t k => castTop (ef_3 m p0) k) ?_
  show own_Out p e below _ (s₁.setTop (mkF m 0 #[.val (.int p0)] []))
  refine own_of (fun _ k => XS.iloadN X0.here hx rfl (hb hby d3_0) rfl k) ?_
  show own_Out p e below _ (s₁.setTop (mkF m 1 #[.val (.int p0)] [(.int p0)]))
  refine own_of (fun _ k => XS.bipush X0.here hx rfl (hb hby d3_1) k) ?_
  show own_Out p e below _ (s₁.setTop (mkF m 3 #[.val (.int p0)] [(.int (32 : Int32)), (.int p0)]))
  by_cases hc3_1 : p0 = (32 : Int32)
  · skip
    refine own_of (fun _ k => XS.icmpNo X0.here hx rfl (hb hby d3_3) rfl (teq hc3_1).2 k) ?_
    show own_Out p e below _ (s₁.setTop (mkF m 6 #[.val (.int p0)] []))
    refine own_of (fun _ k => XS.iconst X0.here hx rfl (hb hby d3_6) k) ?_
    show own_Out p e below _ (s₁.setTop (mkF m 7 #[.val (.int p0)] [(.int (1 : Int32))]))
    exact own_outN X0 hx hlk (t := .boolean) hret (by simp) (hb hby d3_7) (z' := (1 : Int32)) rfl (Q := Q3 Z p0 h0 n0) ⟨by simp only [f3, if_pos hc3_1], N0, e0⟩ (by decide) (by decide)
  · skip
    refine own_of (fun _ k => XS.icmpYes X0.here hx rfl (pc0 := 3) (pc' := 8) rfl (hb hby d3_3) rfl (feq hc3_1).2 (by decide) (by decide) k) ?_
    show own_Out p e below _ (s₁.setTop (mkF m 8 #[.val (.int p0)] []))
    refine own_of (fun _ k => XS.iloadN X0.here hx rfl (hb hby d3_8) rfl k) ?_
    show own_Out p e below _ (s₁.setTop (mkF m 9 #[.val (.int p0)] [(.int p0)]))
    refine own_of (fun _ k => XS.bipush X0.here hx rfl (hb hby d3_9) k) ?_
    show own_Out p e below _ (s₁.setTop (mkF m 11 #[.val (.int p0)] [(.int (9 : Int32)), (.int p0)]))
    by_cases hc11_2 : p0 < (9 : Int32)
    · skip
      refine own_of (fun _ k => XS.icmpYes X0.here hx rfl (pc0 := 11) (pc' := 20) rfl (hb hby d3_11) rfl (tlt hc11_2).1 (by decide) (by decide) k) ?_
      show own_Out p e below _ (s₁.setTop (mkF m 20 #[.val (.int p0)] []))
      refine own_of (fun _ k => XS.iconst X0.here hx rfl (hb hby d3_20) k) ?_
      show own_Out p e below _ (s₁.setTop (mkF m 21 #[.val (.int p0)] [(.int (0 : Int32))]))
      exact own_outN X0 hx hlk (t := .boolean) hret (by simp) (hb hby d3_21) (z' := (0 : Int32)) rfl (Q := Q3 Z p0 h0 n0) ⟨by simp only [f3, if_neg hc3_1, if_pos hc11_2], N0, e0⟩ (by decide) (by decide)
    · skip
      refine own_of (fun _ k => XS.icmpNo X0.here hx rfl (hb hby d3_11) rfl (flt hc11_2).1 k) ?_
      show own_Out p e below _ (s₁.setTop (mkF m 14 #[.val (.int p0)] []))
      refine own_of (fun _ k => XS.iloadN X0.here hx rfl (hb hby d3_14) rfl k) ?_
      show own_Out p e below _ (s₁.setTop (mkF m 15 #[.val (.int p0)] [(.int p0)]))
      refine own_of (fun _ k => XS.bipush X0.here hx rfl (hb hby d3_15) k) ?_
      show own_Out p e below _ (s₁.setTop (mkF m 17 #[.val (.int p0)] [(.int (13 : Int32)), (.int p0)]))
      by_cases hc17_3 : (13 : Int32) < p0
      · skip
        refine own_of (fun _ k => XS.icmpNo X0.here hx rfl (hb hby d3_17) rfl (tlt hc17_3).2.2.2 k) ?_
        show own_Out p e below _ (s₁.setTop (mkF m 20 #[.val (.int p0)] []))
        refine own_of (fun _ k => XS.iconst X0.here hx rfl (hb hby d3_20) k) ?_
        show own_Out p e below _ (s₁.setTop (mkF m 21 #[.val (.int p0)] [(.int (0 : Int32))]))
        exact own_outN X0 hx hlk (t := .boolean) hret (by simp) (hb hby d3_21) (z' := (0 : Int32)) rfl (Q := Q3 Z p0 h0 n0) ⟨by simp only [f3, if_neg hc3_1, if_neg hc11_2, if_pos hc17_3], N0, e0⟩ (by decide) (by decide)
      · skip
        refine own_of (fun _ k => XS.icmpYes X0.here hx rfl (pc0 := 17) (pc' := 22) rfl (hb hby d3_17) rfl (flt hc17_3).2.2.2 (by decide) (by decide) k) ?_
        show own_Out p e below _ (s₁.setTop (mkF m 22 #[.val (.int p0)] []))
        refine own_of (fun _ k => XS.iloadN X0.here hx rfl (hb hby d3_22) rfl k) ?_
        show own_Out p e below _ (s₁.setTop (mkF m 23 #[.val (.int p0)] [(.int p0)]))
        refine own_of (fun _ k => XS.bipush X0.here hx rfl (hb hby d3_23) k) ?_
        show own_Out p e below _ (s₁.setTop (mkF m 25 #[.val (.int p0)] [(.int (11 : Int32)), (.int p0)]))
        by_cases hc25_4 : p0 = (11 : Int32)
        · skip
          refine own_of (fun _ k => XS.icmpYes X0.here hx rfl (pc0 := 25) (pc' := 38) rfl (hb hby d3_25) rfl (teq hc25_4).1 (by decide) (by decide) k) ?_
          show own_Out p e below _ (s₁.setTop (mkF m 38 #[.val (.int p0)] []))
          refine own_of (fun _ k => XS.iconst X0.here hx rfl (hb hby d3_38) k) ?_
          show own_Out p e below _ (s₁.setTop (mkF m 39 #[.val (.int p0)] [(.int (0 : Int32))]))
          exact own_outN X0 hx hlk (t := .boolean) hret (by simp) (hb hby d3_39) (z' := (0 : Int32)) rfl (Q := Q3 Z p0 h0 n0) ⟨by simp only [f3, if_neg hc3_1, if_neg hc11_2, if_neg hc17_3, if_pos hc25_4], N0, e0⟩ (by decide) (by decide)
        · skip
          refine own_of (fun _ k => XS.icmpNo X0.here hx rfl (hb hby d3_25) rfl (feq hc25_4).1 k) ?_
          show own_Out p e below _ (s₁.setTop (mkF m 28 #[.val (.int p0)] []))
          refine own_of (fun _ k => XS.iloadN X0.here hx rfl (hb hby d3_28) rfl k) ?_
          show own_Out p e below _ (s₁.setTop (mkF m 29 #[.val (.int p0)] [(.int p0)]))
          refine own_of (fun _ k => XS.bipush X0.here hx rfl (hb hby d3_29) k) ?_
          show own_Out p e below _ (s₁.setTop (mkF m 31 #[.val (.int p0)] [(.int (12 : Int32)), (.int p0)]))
          by_cases hc31_5 : p0 = (12 : Int32)
          · skip
            refine own_of (fun _ k => XS.icmpYes X0.here hx rfl (pc0 := 31) (pc' := 38) rfl (hb hby d3_31) rfl (teq hc31_5).1 (by decide) (by decide) k) ?_
            show own_Out p e below _ (s₁.setTop (mkF m 38 #[.val (.int p0)] []))
            refine own_of (fun _ k => XS.iconst X0.here hx rfl (hb hby d3_38) k) ?_
            show own_Out p e below _ (s₁.setTop (mkF m 39 #[.val (.int p0)] [(.int (0 : Int32))]))
            exact own_outN X0 hx hlk (t := .boolean) hret (by simp) (hb hby d3_39) (z' := (0 : Int32)) rfl (Q := Q3 Z p0 h0 n0) ⟨by simp only [f3, if_neg hc3_1, if_neg hc11_2, if_neg hc17_3, if_neg hc25_4, if_pos hc31_5], N0, e0⟩ (by decide) (by decide)
          · skip
            refine own_of (fun _ k => XS.icmpNo X0.here hx rfl (hb hby d3_31) rfl (feq hc31_5).1 k) ?_
            show own_Out p e below _ (s₁.setTop (mkF m 34 #[.val (.int p0)] []))
            refine own_of (fun _ k => XS.iconst X0.here hx rfl (hb hby d3_34) k) ?_
            show own_Out p e below _ (s₁.setTop (mkF m 35 #[.val (.int p0)] [(.int (1 : Int32))]))
            refine own_of (fun _ k => XS.goto X0.here hx rfl (pc0 := 35) (pc' := 39) rfl (hb hby d3_35) (by decide) (by decide) k) ?_
            show own_Out p e below _ (s₁.setTop (mkF m 39 #[.val (.int p0)] [(.int (1 : Int32))]))
            exact own_outN X0 hx hlk (t := .boolean) hret (by simp) (hb hby d3_39) (z' := (1 : Int32)) rfl (Q := Q3 Z p0 h0 n0) ⟨by simp only [f3, if_neg hc3_1, if_neg hc11_2, if_neg hc17_3, if_neg hc25_4, if_neg hc31_5], N0, e0⟩ (by decide) (by decide)
theorem own_byte (j : Int32) : nar .byte (own_tab j) = own_tab j := own_tab_P (P := fun x => nar .byte x = x) rfl rfl rfl j
theorem own_i2c {c : Int32} (h1 : ¬ c < (0 : Int32)) (h2 : c < (128 : Int32)) : (c.toUInt32.toUInt16.toUInt32.toInt32) = c := by
  have h := c_i2c c
  rw [Int32.lt_iff_toInt_lt] at h1 h2
  have e0 : (0 : Int32).toInt = 0 := rfl
  have e1 : (128 : Int32).toInt = 128 := rfl
  exact Int32.toInt_inj.mp (by omega)
theorem d4_0 : decode prog_34_method_2_code 0 = .ok (.getstatic 7, 3) := by decide +kernel
theorem d4_3 : decode prog_34_method_2_code 3 = .ok (.iload_n 0, 1) := by decide +kernel
theorem d4_4 : decode prog_34_method_2_code 4 = .ok (.baload, 1) := by decide +kernel
theorem d4_5 : decode prog_34_method_2_code 5 = .ok (.ireturn, 1) := by decide +kernel
theorem ef_4 (m : MethodId) (x0 : Int32) : entryFrame m #[(.int x0)] 1 = mkF m 0 #[.val (.int x0)] [] := by first | (simp [entryFrame, mkF, argsToLocals, Value.category]; done) | rfl
def Q4 (Z : State) (p0 : Int32) (w : Addr) (cl : Cell) (h0 : Heap) (n0 : Nat) (v : Option Value) (h : Heap) (L : List Loc) : Prop := v = some (.int (own_tab p0)) ∧ Fr n0 L ∧ h = h0
set_option maxRecDepth 65536 in
set_option maxHeartbeats 40000000 in
theorem rm4 (l : Launch) (Z : State) (a0 : Array Value) (hw : ∀ d ∈ tables_1, d.before a0 Z = true) (ws : List Jvm.Cond) (p0 : Int32) (w : Addr) (cl : Cell) (h0 : Heap) (n0 : Nat) (Z0 : n0 ≤ h0.size) (S : Sta Z h0 "com/example/vine_labels/vinelabels/xmlinput/XmlCharacters" "KINDS" "[B" (.ref w)) (A : Arr Z h0 w cl .byte) (hin : ¬ (p0 < 0 ∨ cl.slots.size ≤ p0.toNatClampNeg)) (hat : cl.slots[p0.toNatClampNeg]? = some (.int (own_tab p0))) (hby0 : nar .byte (own_tab p0) = own_tab p0) :
    MetFree l (⟨"com/example/vine_labels/vinelabels/xmlinput/XmlCharacters", "kind", "(C)B"⟩ : MethodName) (head1 (Jvm.Cond.code (⟨"com/example/vine_labels/vinelabels/xmlinput/XmlCharacters", "kind", "(C)B"⟩ : MethodName) prog_34_method_2_code 1 (some .byte) :: ws) ({ frames := 0, cells := 0, slots := 0, locals := 0 } : Room)) (fun a U => a = #[(.int p0)] ∧ Z.Warmed39 U.vm ∧ U.heap = h0) (fun _ _ _ _ _ => True) (fun _ U o U' => ∃ v L, o = .returned v ∧ Q4 Z p0 w cl h0 n0 v U'.heap L ∧ FrameEnd U o U' L ({ frames := 0, cells := 0, slots := 0, locals := 0 } : Room).cells ({ frames := 0, cells := 0, slots := 0, locals := 0 } : Room).slots) := by
  refine MetFree.of_bodySF (plainFor_of_name pn_0) hisR ?_
  intro p e s m args below meth c s₁ Bd hml0 hP hK
  obtain ⟨rfl, hZ, hh⟩ := hP
  have hx := Bd.exec
  have hby := Bd.bytes
  have hml : c.maxLocals = 1 := hml0
  have hown : s.vm.findClass "com/example/vine_labels/vinelabels/xmlinput/XmlCharacters" = some m.cls := findClass_of_methodNamed Bd.named
  have hnm := (name_of_methodNamed Bd.named Bd.method).1
  have X0 : Stand p l e ({ frames := 0, cells := 0, slots := 0, locals := 0 } : Room) s m #[(.int p0)] below meth c s₁ [] 0 0 := Stand.of_body Bd
  have e0 : s₁.heap = h0 := by rw [← hh, Bd.state]; rfl
  have N0 := Fr.nil n0
  have hret := Bd.returns
  have hlk := BodyLoose.notSynchronized Bd
  show own_Out p e below (fun o U' => ∃ v L, o = .returned v ∧ Q4 Z p0 w cl h0 n0 v U'.heap L ∧ FrameEnd s o U' L ({ frames := 0, cells := 0, slots := 0, locals := 0 } : Room).cells ({ frames := 0, cells := 0, slots := 0, locals := 0 } : Room).slots) (s₁.setTop (entryFrame m #[(.int p0)] 1))
  refine own_of (fun t k => castTop (ef_4 m p0) k) ?_
  show own_Out p e below _ (s₁.setTop (mkF m 0 #[.val (.int p0)] []))
  obtain ⟨T1, X1, e1, st1⟩ := getS2 X0 hx hZ hown (host := "") (Or.inl (hw _ (List.mem_of_getElem? (i := 14) rfl))) Via.refl e0 S (g := (mkF m 0 #[.val (.int p0)] [])) rfl (hb hby d4_0)
  refine own_of st1 ?_
  show own_Out p e below _ (T1.setTop (mkF m 3 #[.val (.int p0)] [(.ref w)]))
  refine own_of (fun _ k => XS.iloadN X1.here hx rfl (hb hby d4_3) rfl k) ?_
  show own_Out p e below _ (T1.setTop (mkF m 4 #[.val (.int p0)] [(.int p0), (.ref w)]))
  refine own_of (X1.baloadBytes hx (j := p0) (v := (.int (own_tab p0))) (by rw [e1]; exact A.1) (State.isArrayOf_alike hZ.alike A.2.1) A.2.2 hin hat (g := (mkF m 4 #[.val (.int p0)] [(.int p0), (.ref w)])) rfl rfl (hb hby d4_4)) ?_
  show own_Out p e below _ (T1.setTop (mkF m 5 #[.val (.int p0)] [(.int (own_tab p0))]))
  exact own_outN X1 hx hlk (t := .byte) hret (by simp) (hb hby d4_5) (z' := (own_tab p0)) hby0 (Q := Q4 Z p0 w cl h0 n0) ⟨rfl, N0, e1⟩ (by decide) (by decide)
theorem pd_0 : parseMethodDescriptor "(I)Z" = some ⟨[.int], some .boolean⟩ := by decide +kernel
theorem pd_1 : parseMethodDescriptor "(C)B" = some ⟨[.char], some .byte⟩ := by decide +kernel
theorem d1_0 : decode method_3_code 0 = .ok (.iload_n 0, 1) := by decide +kernel
theorem d1_1 : decode method_3_code 1 = .ok (.invokestatic 7, 3) := by decide +kernel
theorem d1_4 : decode method_3_code 4 = .ok (.istore_n 1, 1) := by decide +kernel
theorem d1_5 : decode method_3_code 5 = .ok (.iload_n 1, 1) := by decide +kernel
theorem d1_6 : decode method_3_code 6 = .ok (.iload_n 0, 1) := by decide +kernel
theorem d1_7 : decode method_3_code 7 = .ok (.invokestatic 13, 3) := by decide +kernel
theorem d1_10 : decode method_3_code 10 = .ok (.if_icmp .eq 5, 3) := by decide +kernel
theorem d1_13 : decode method_3_code 13 = .ok (.iconst 0, 1) := by decide +kernel
theorem d1_14 : decode method_3_code 14 = .ok (.ireturn, 1) := by decide +kernel
theorem d1_15 : decode method_3_code 15 = .ok (.iload_n 0, 1) := by decide +kernel
theorem d1_16 : decode method_3_code 16 = .ok (.ifCond .lt 32, 3) := by decide +kernel
theorem d1_19 : decode method_3_code 19 = .ok (.iload_n 0, 1) := by decide +kernel
theorem d1_20 : decode method_3_code 20 = .ok (.sipush 128, 3) := by decide +kernel
theorem d1_23 : decode method_3_code 23 = .ok (.if_icmp .ge 25, 3) := by decide +kernel
theorem d1_26 : decode method_3_code 26 = .ok (.iload_n 0, 1) := by decide +kernel
theorem d1_27 : decode method_3_code 27 = .ok (.i2c, 1) := by decide +kernel
theorem d1_28 : decode method_3_code 28 = .ok (.invokestatic 18, 3) := by decide +kernel
theorem d1_31 : decode method_3_code 31 = .ok (.iconst 1, 1) := by decide +kernel
theorem d1_32 : decode method_3_code 32 = .ok (.if_icmp .ne 7, 3) := by decide +kernel
theorem d1_35 : decode method_3_code 35 = .ok (.iconst 1, 1) := by decide +kernel
theorem d1_36 : decode method_3_code 36 = .ok (.goto 4, 3) := by decide +kernel
theorem d1_39 : decode method_3_code 39 = .ok (.iconst 0, 1) := by decide +kernel
theorem d1_40 : decode method_3_code 40 = .ok (.istore_n 2, 1) := by decide +kernel
theorem d1_41 : decode method_3_code 41 = .ok (.iload_n 1, 1) := by decide +kernel
theorem d1_42 : decode method_3_code 42 = .ok (.iload_n 2, 1) := by decide +kernel
theorem d1_43 : decode method_3_code 43 = .ok (.if_icmp .eq 5, 3) := by decide +kernel
theorem d1_46 : decode method_3_code 46 = .ok (.iconst 0, 1) := by decide +kernel
theorem d1_47 : decode method_3_code 47 = .ok (.ireturn, 1) := by decide +kernel
theorem d1_48 : decode method_3_code 48 = .ok (.iconst 1, 1) := by decide +kernel
theorem d1_49 : decode method_3_code 49 = .ok (.ireturn, 1) := by decide +kernel
theorem ef_1 (m : MethodId) (x0 : Int32) : entryFrame m #[(.int x0)] 3 = mkF m 0 #[.val (.int x0), .unset, .unset] [] := by first | (simp [entryFrame, mkF, argsToLocals, Value.category]; done) | rfl
def f1 (p0 : Int32) : Int32 := if (f2 p0) = (f3 p0) then (if p0 < (0 : Int32) then (1 : Int32)
    else if p0 < (128 : Int32) then (if (own_tab (p0.toUInt32.toUInt16.toUInt32.toInt32)) = (1 : Int32) then (if (f2 p0) = (1 : Int32) then (1 : Int32)
          else (0 : Int32))
        else if (f2 p0) = (0 : Int32) then (1 : Int32)
          else (0 : Int32))
      else (1 : Int32))
  else (0 : Int32)
def Q1 (Z : State) (p0 : Int32) (w : Addr) (cl : Cell) (h0 : Heap) (n0 : Nat) (v : Option Value) (h : Heap) (L : List Loc) : Prop := v = some (.int (f1 p0)) ∧ Fr n0 L ∧ h = h0
set_option maxRecDepth 65536 in
set_option maxHeartbeats 40000000 in
theorem rm1 (l : Launch) (Z : State) (a0 : Array Value) (hw : ∀ d ∈ tables_1, d.before a0 Z = true) (ws : List Jvm.Cond) (p0 : Int32) (w : Addr) (cl : Cell) (h0 : Heap) (n0 : Nat) (Z0 : n0 ≤ h0.size) (S : Sta Z h0 "com/example/vine_labels/vinelabels/xmlinput/XmlCharacters" "KINDS" "[B" (.ref w)) (A : Arr Z h0 w cl .byte) (hT : ∀ j : Int32, ¬ j < (0 : Int32) → j < (128 : Int32) → ¬ (j < 0 ∨ cl.slots.size ≤ j.toNatClampNeg) ∧ cl.slots[j.toNatClampNeg]? = some (.int (own_tab j))) :
    MetFree l (⟨"com/example/vine_labels/vinelabels/xmlinput/XmlCharactersIsWhiteSpacePinLaw", "one", "(I)Z"⟩ : MethodName) (head1 (Jvm.Cond.code (⟨"com/example/vine_labels/vinelabels/xmlinput/XmlCharactersIsWhiteSpacePinLaw", "one", "(I)Z"⟩ : MethodName) method_3_code 3 (some .boolean) :: ws) ({ frames := 1, cells := 0, slots := 0, locals := 13 } : Room)) (fun a U => a = #[(.int p0)] ∧ Z.Warmed39 U.vm ∧ U.heap = h0) (fun _ _ _ _ _ => True) (fun _ U o U' => ∃ v L, o = .returned v ∧ Q1 Z p0 w cl h0 n0 v U'.heap L ∧ FrameEnd U o U' L ({ frames := 1, cells := 0, slots := 0, locals := 13 } : Room).cells ({ frames := 1, cells := 0, slots := 0, locals := 13 } : Room).slots) := by
  refine MetFree.of_bodySF (plainFor_of_name pn_1) hisR ?_
  intro p e s m args below meth c s₁ Bd hml0 hP hK
  obtain ⟨rfl, hZ, hh⟩ := hP
  have hx := Bd.exec
  have hby := Bd.bytes
  have hml : c.maxLocals = 3 := hml0
  have hown : s.vm.findClass "com/example/vine_labels/vinelabels/xmlinput/XmlCharactersIsWhiteSpacePinLaw" = some m.cls := findClass_of_methodNamed Bd.named
  have hnm := (name_of_methodNamed Bd.named Bd.method).1
  have X0 : Stand p l e ({ frames := 1, cells := 0, slots := 0, locals := 13 } : Room) s m #[(.int p0)] below meth c s₁ [] 0 0 := Stand.of_body Bd
  have e0 : s₁.heap = h0 := by rw [← hh, Bd.state]; rfl
  have N0 := Fr.nil n0
  have hret := Bd.returns
  have hlk := BodyLoose.notSynchronized Bd
  show own_Out p e below (fun o U' => ∃ v L, o = .returned v ∧ Q1 Z p0 w cl h0 n0 v U'.heap L ∧ FrameEnd s o U' L ({ frames := 1, cells := 0, slots := 0, locals := 13 } : Room).cells ({ frames := 1, cells := 0, slots := 0, locals := 13 } : Room).slots) (s₁.setTop (entryFrame m #[(.int p0)] 3))
  refine own_of (fun t k => castTop (ef_1 m p0) k) ?_
  show own_Out p e below _ (s₁.setTop (mkF m 0 #[.val (.int p0), .unset, .unset] []))
  refine own_of (fun _ k => XS.iloadN X0.here hx rfl (hb hby d1_0) rfl k) ?_
  show own_Out p e below _ (s₁.setTop (mkF m 1 #[.val (.int p0), .unset, .unset] [(.int p0)]))
  obtain ⟨_, _, ⟨T1, L1, k1, n1⟩, -, X1, ⟨Lc1, hQ1, l1, y1, z1⟩, st1⟩ := Jvm.LawKit.callS X0 hx (y := (⟨"com/example/vine_labels/vinelabels/xmlinput/XmlCharacters", "isWhiteSpace", "(I)Z"⟩ : MethodName)) hown (mvT hZ (hw _ (List.mem_of_getElem? (i := 4) rfl))) (mvT hZ (hw _ (List.mem_of_getElem? (i := 5) rfl))) (mvT hZ (hw _ (List.mem_of_getElem? (i := 6) rfl))) (mvT hZ (hw _ (List.mem_of_getElem? (i := 7) rfl))) (by decide) (backOf (W := 0) (rm2 l Z a0 hw [] p0 h0 n0 Z0 ) hZ (hw _ (List.mem_of_getElem? (i := 7) rfl)) (hw _ (List.mem_of_getElem? (i := 6) rfl)) (by decide) (by decide)) (g := (mkF m 1 #[.val (.int p0), .unset, .unset] [(.int p0)])) rfl (by rw [hml]; rfl) (argsL := [(.int p0)]) (rest := []) (lenOf pd_0 rfl) rfl (by show 2 * 0 + _ ≤ _; exact Nat.le_of_eq rfl) (hb hby d1_1) (fun _ _ => ⟨rfl, e0, (by decide : 0 + 0 ≤ _), (by decide : 0 + 0 ≤ _)⟩)
  dsimp only [Pt.U, Pt.locs, Pt.cells, Pt.slots] at X1 l1 y1 z1 st1 hQ1
  subst l1 y1 z1
  obtain ⟨rfl, N1q, hh1⟩ := hQ1
  have N1 := Fr.app N0 N1q
  refine own_of st1 ?_
  show own_Out p e below _ (T1.setTop (mkF m 4 #[.val (.int p0), .unset, .unset] [(.int (f2 p0))]))
  refine own_of (fun _ k => XS.istoreN X1.here hx rfl (hb hby d1_4) rfl (l' := #[.val (.int p0), .val (.int (f2 p0)), .unset]) rfl k) ?_
  show own_Out p e below _ (T1.setTop (mkF m 5 #[.val (.int p0), .val (.int (f2 p0)), .unset] []))
  refine own_of (fun _ k => XS.iloadN X1.here hx rfl (hb hby d1_5) rfl k) ?_
  show own_Out p e below _ (T1.setTop (mkF m 6 #[.val (.int p0), .val (.int (f2 p0)), .unset] [(.int (f2 p0))]))
  refine own_of (fun _ k => XS.iloadN X1.here hx rfl (hb hby d1_6) rfl k) ?_
  show own_Out p e below _ (T1.setTop (mkF m 7 #[.val (.int p0), .val (.int (f2 p0)), .unset] [(.int p0), (.int (f2 p0))]))
  obtain ⟨_, _, ⟨T2, L2, k2, n2⟩, -, X2, ⟨Lc2, hQ2, l2, y2, z2⟩, st2⟩ := Jvm.LawKit.callS X1 hx (y := (⟨"com/example/vine_labels/vinelabels/xmlinput/XmlCharactersIsWhiteSpacePinLaw", "reference", "(I)Z"⟩ : MethodName)) hown (mvT hZ (hw _ (List.mem_of_getElem? (i := 8) rfl))) (mvT hZ (hw _ (List.mem_of_getElem? (i := 9) rfl))) (mvT hZ (hw _ (List.mem_of_getElem? (i := 2) rfl))) (mvT hZ (hw _ (List.mem_of_getElem? (i := 10) rfl))) (by decide) (backOf (W := 1) (rm3 l Z a0 hw [] p0 h0 n0 Z0 ) hZ (hw _ (List.mem_of_getElem? (i := 10) rfl)) (hw _ (List.mem_of_getElem? (i := 2) rfl)) (by decide) (by decide)) (g := (mkF m 7 #[.val (.int p0), .val (.int (f2 p0)), .unset] [(.int p0), (.int (f2 p0))])) rfl (by rw [hml]; rfl) (argsL := [(.int p0)]) (rest := [(.int (f2 p0))]) (lenOf pd_0 rfl) rfl (by show 2 * 0 + _ ≤ _; exact Nat.le_of_eq rfl) (hb hby d1_7) (fun _ _ => ⟨rfl, hh1, (by decide : 0 + 0 ≤ _), (by decide : 0 + 0 ≤ _)⟩)
  dsimp only [Pt.U, Pt.locs, Pt.cells, Pt.slots] at X2 l2 y2 z2 st2 hQ2
  subst l2 y2 z2
  obtain ⟨rfl, N2q, hh2⟩ := hQ2
  have N2 := Fr.app N1 N2q
  refine own_of st2 ?_
  show own_Out p e below _ (T2.setTop (mkF m 10 #[.val (.int p0), .val (.int (f2 p0)), .unset] [(.int (f3 p0)), (.int (f2 p0))]))
  by_cases hc10_3 : (f2 p0) = (f3 p0)
  · skip
    refine own_of (fun _ k => XS.icmpYes X2.here hx rfl (pc0 := 10) (pc' := 15) rfl (hb hby d1_10) rfl (teq hc10_3).1 (by decide) (by decide) k) ?_
    show own_Out p e below _ (T2.setTop (mkF m 15 #[.val (.int p0), .val (.int (f2 p0)), .unset] []))
    refine own_of (fun _ k => XS.iloadN X2.here hx rfl (hb hby d1_15) rfl k) ?_
    show own_Out p e below _ (T2.setTop (mkF m 16 #[.val (.int p0), .val (.int (f2 p0)), .unset] [(.int p0)]))
    by_cases hc16_4 : p0 < (0 : Int32)
    · skip
      refine own_of (fun _ k => XS.ifYes X2.here hx rfl (pc0 := 16) (pc' := 48) rfl (hb hby d1_16) rfl ((if0 _ _).trans (tlt hc16_4).1) (by decide) (by decide) k) ?_
      show own_Out p e below _ (T2.setTop (mkF m 48 #[.val (.int p0), .val (.int (f2 p0)), .unset] []))
      refine own_of (fun _ k => XS.iconst X2.here hx rfl (hb hby d1_48) k) ?_
      show own_Out p e below _ (T2.setTop (mkF m 49 #[.val (.int p0), .val (.int (f2 p0)), .unset] [(.int (1 : Int32))]))
      exact own_outN X2 hx hlk (t := .boolean) hret (by simp) (hb hby d1_49) (z' := (1 : Int32)) rfl (Q := Q1 Z p0 w cl h0 n0) ⟨by simp only [f1, if_pos hc10_3, if_pos hc16_4], N2, hh2⟩ (by decide) (by decide)
    · skip
      refine own_of (fun _ k => XS.ifNo X2.here hx rfl (hb hby d1_16) rfl ((if0 _ _).trans (flt hc16_4).1) k) ?_
      show own_Out p e below _ (T2.setTop (mkF m 19 #[.val (.int p0), .val (.int (f2 p0)), .unset] []))
      refine own_of (fun _ k => XS.iloadN X2.here hx rfl (hb hby d1_19) rfl k) ?_
      show own_Out p e below _ (T2.setTop (mkF m 20 #[.val (.int p0), .val (.int (f2 p0)), .unset] [(.int p0)]))
      refine own_of (fun _ k => XS.sipush X2.here hx rfl (hb hby d1_20) k) ?_
      show own_Out p e below _ (T2.setTop (mkF m 23 #[.val (.int p0), .val (.int (f2 p0)), .unset] [(.int (128 : Int32)), (.int p0)]))
      by_cases hc23_5 : p0 < (128 : Int32)
      · skip
        refine own_of (fun _ k => XS.icmpNo X2.here hx rfl (hb hby d1_23) rfl (tlt hc23_5).2.1 k) ?_
        show own_Out p e below _ (T2.setTop (mkF m 26 #[.val (.int p0), .val (.int (f2 p0)), .unset] []))
        have hg1 : ¬ (p0.toUInt32.toUInt16.toUInt32.toInt32) < (0 : Int32) := by rw [own_i2c hc16_4 hc23_5]; exact hc16_4
        have hg2 : (p0.toUInt32.toUInt16.toUInt32.toInt32) < (128 : Int32) := by rw [own_i2c hc16_4 hc23_5]; exact hc23_5
        refine own_of (fun _ k => XS.iloadN X2.here hx rfl (hb hby d1_26) rfl k) ?_
        show own_Out p e below _ (T2.setTop (mkF m 27 #[.val (.int p0), .val (.int (f2 p0)), .unset] [(.int p0)]))
        refine own_of (fun _ k => XS.i2c X2.here hx rfl (hb hby d1_27) rfl k) ?_
        show own_Out p e below _ (T2.setTop (mkF m 28 #[.val (.int p0), .val (.int (f2 p0)), .unset] [(.int (p0.toUInt32.toUInt16.toUInt32.toInt32))]))
        obtain ⟨_, _, ⟨T6, L6, k6, n6⟩, -, X6, ⟨Lc6, hQ6, l6, y6, z6⟩, st6⟩ := Jvm.LawKit.callS X2 hx (y := (⟨"com/example/vine_labels/vinelabels/xmlinput/XmlCharacters", "kind", "(C)B"⟩ : MethodName)) hown (mvT hZ (hw _ (List.mem_of_getElem? (i := 11) rfl))) (mvT hZ (hw _ (List.mem_of_getElem? (i := 12) rfl))) (mvT hZ (hw _ (List.mem_of_getElem? (i := 6) rfl))) (mvT hZ (hw _ (List.mem_of_getElem? (i := 13) rfl))) (by decide) (backOf (W := 0) (rm4 l Z a0 hw [] (p0.toUInt32.toUInt16.toUInt32.toInt32) w cl h0 n0 Z0 S A (hT (p0.toUInt32.toUInt16.toUInt32.toInt32) hg1 hg2).1 (hT (p0.toUInt32.toUInt16.toUInt32.toInt32) hg1 hg2).2 (own_byte (p0.toUInt32.toUInt16.toUInt32.toInt32))) hZ (hw _ (List.mem_of_getElem? (i := 13) rfl)) (hw _ (List.mem_of_getElem? (i := 6) rfl)) (by decide) (by decide)) (g := (mkF m 28 #[.val (.int p0), .val (.int (f2 p0)), .unset] [(.int (p0.toUInt32.toUInt16.toUInt32.toInt32))])) rfl (by rw [hml]; rfl) (argsL := [(.int (p0.toUInt32.toUInt16.toUInt32.toInt32))]) (rest := []) (lenOf pd_1 rfl) rfl (by show 2 * 0 + _ ≤ _; exact Nat.le_of_eq rfl) (hb hby d1_28) (fun _ _ => ⟨rfl, hh2, (by decide : 0 + 0 ≤ _), (by decide : 0 + 0 ≤ _)⟩)
        dsimp only [Pt.U, Pt.locs, Pt.cells, Pt.slots] at X6 l6 y6 z6 st6 hQ6
        subst l6 y6 z6
        obtain ⟨rfl, N6q, hh6⟩ := hQ6
        have N6 := Fr.app N2 N6q
        refine own_of st6 ?_
        show own_Out p e below _ (T6.setTop (mkF m 31 #[.val (.int p0), .val (.int (f2 p0)), .unset] [(.int (own_tab (p0.toUInt32.toUInt16.toUInt32.toInt32)))]))
        refine own_of (fun _ k => XS.iconst X6.here hx rfl (hb hby d1_31) k) ?_
        show own_Out p e below _ (T6.setTop (mkF m 32 #[.val (.int p0), .val (.int (f2 p0)), .unset] [(.int (1 : Int32)), (.int (own_tab (p0.toUInt32.toUInt16.toUInt32.toInt32)))]))
        by_cases hc32_7 : (own_tab (p0.toUInt32.toUInt16.toUInt32.toInt32)) = (1 : Int32)
        · skip
          refine own_of (fun _ k => XS.icmpNo X6.here hx rfl (hb hby d1_32) rfl (teq hc32_7).2 k) ?_
          show own_Out p e below _ (T6.setTop (mkF m 35 #[.val (.int p0), .val (.int (f2 p0)), .unset] []))
          refine own_of (fun _ k => XS.iconst X6.here hx rfl (hb hby d1_35) k) ?_
          show own_Out p e below _ (T6.setTop (mkF m 36 #[.val (.int p0), .val (.int (f2 p0)), .unset] [(.int (1 : Int32))]))
          refine own_of (fun _ k => XS.goto X6.here hx rfl (pc0 := 36) (pc' := 40) rfl (hb hby d1_36) (by decide) (by decide) k) ?_
          show own_Out p e below _ (T6.setTop (mkF m 40 #[.val (.int p0), .val (.int (f2 p0)), .unset] [(.int (1 : Int32))]))
          refine own_of (fun _ k => XS.istoreN X6.here hx rfl (hb hby d1_40) rfl (l' := #[.val (.int p0), .val (.int (f2 p0)), .val (.int (1 : Int32))]) rfl k) ?_
          show own_Out p e below _ (T6.setTop (mkF m 41 #[.val (.int p0), .val (.int (f2 p0)), .val (.int (1 : Int32))] []))
          refine own_of (fun _ k => XS.iloadN X6.here hx rfl (hb hby d1_41) rfl k) ?_
          show own_Out p e below _ (T6.setTop (mkF m 42 #[.val (.int p0), .val (.int (f2 p0)), .val (.int (1 : Int32))] [(.int (f2 p0))]))
          refine own_of (fun _ k => XS.iloadN X6.here hx rfl (hb hby d1_42) rfl k) ?_
          show own_Out p e below _ (T6.setTop (mkF m 43 #[.val (.int p0), .val (.int (f2 p0)), .val (.int (1 : Int32))] [(.int (1 : Int32)), (.int (f2 p0))]))
          by_cases hc43_8 : (f2 p0) = (1 : Int32)
          · skip
            refine own_of (fun _ k => XS.icmpYes X6.here hx rfl (pc0 := 43) (pc' := 48) rfl (hb hby d1_43) rfl (teq hc43_8).1 (by decide) (by decide) k) ?_
            show own_Out p e below _ (T6.setTop (mkF m 48 #[.val (.int p0), .val (.int (f2 p0)), .val (.int (1 : Int32))] []))
            refine own_of (fun _ k => XS.iconst X6.here hx rfl (hb hby d1_48) k) ?_
            show own_Out p e below _ (T6.setTop (mkF m 49 #[.val (.int p0), .val (.int (f2 p0)), .val (.int (1 : Int32))] [(.int (1 : Int32))]))
            exact own_outN X6 hx hlk (t := .boolean) hret (by simp) (hb hby d1_49) (z' := (1 : Int32)) rfl (Q := Q1 Z p0 w cl h0 n0) ⟨by simp only [f1, if_pos hc10_3, if_neg hc16_4, if_pos hc23_5, if_pos hc32_7, if_pos hc43_8], N6, hh6⟩ (by decide) (by decide)
          · skip
            refine own_of (fun _ k => XS.icmpNo X6.here hx rfl (hb hby d1_43) rfl (feq hc43_8).1 k) ?_
            show own_Out p e below _ (T6.setTop (mkF m 46 #[.val (.int p0), .val (.int (f2 p0)), .val (.int (1 : Int32))] []))
            refine own_of (fun _ k => XS.iconst X6.here hx rfl (hb hby d1_46) k) ?_
            show own_Out p e below _ (T6.setTop (mkF m 47 #[.val (.int p0), .val (.int (f2 p0)), .val (.int (1 : Int32))] [(.int (0 : Int32))]))
            exact own_outN X6 hx hlk (t := .boolean) hret (by simp) (hb hby d1_47) (z' := (0 : Int32)) rfl (Q := Q1 Z p0 w cl h0 n0) ⟨by simp only [f1, if_pos hc10_3, if_neg hc16_4, if_pos hc23_5, if_pos hc32_7, if_neg hc43_8], N6, hh6⟩ (by decide) (by decide)
        · skip
          refine own_of (fun _ k => XS.icmpYes X6.here hx rfl (pc0 := 32) (pc' := 39) rfl (hb hby d1_32) rfl (feq hc32_7).2 (by decide) (by decide) k) ?_
          show own_Out p e below _ (T6.setTop (mkF m 39 #[.val (.int p0), .val (.int (f2 p0)), .unset] []))
          refine own_of (fun _ k => XS.iconst X6.here hx rfl (hb hby d1_39) k) ?_
          show own_Out p e below _ (T6.setTop (mkF m 40 #[.val (.int p0), .val (.int (f2 p0)), .unset] [(.int (0 : Int32))]))
          refine own_of (fun _ k => XS.istoreN X6.here hx rfl (hb hby d1_40) rfl (l' := #[.val (.int p0), .val (.int (f2 p0)), .val (.int (0 : Int32))]) rfl k) ?_
          show own_Out p e below _ (T6.setTop (mkF m 41 #[.val (.int p0), .val (.int (f2 p0)), .val (.int (0 : Int32))] []))
          refine own_of (fun _ k => XS.iloadN X6.here hx rfl (hb hby d1_41) rfl k) ?_
          show own_Out p e below _ (T6.setTop (mkF m 42 #[.val (.int p0), .val (.int (f2 p0)), .val (.int (0 : Int32))] [(.int (f2 p0))]))
          refine own_of (fun _ k => XS.iloadN X6.here hx rfl (hb hby d1_42) rfl k) ?_
          show own_Out p e below _ (T6.setTop (mkF m 43 #[.val (.int p0), .val (.int (f2 p0)), .val (.int (0 : Int32))] [(.int (0 : Int32)), (.int (f2 p0))]))
          by_cases hc43_9 : (f2 p0) = (0 : Int32)
          · skip
            refine own_of (fun _ k => XS.icmpYes X6.here hx rfl (pc0 := 43) (pc' := 48) rfl (hb hby d1_43) rfl (teq hc43_9).1 (by decide) (by decide) k) ?_
            show own_Out p e below _ (T6.setTop (mkF m 48 #[.val (.int p0), .val (.int (f2 p0)), .val (.int (0 : Int32))] []))
            refine own_of (fun _ k => XS.iconst X6.here hx rfl (hb hby d1_48) k) ?_
            show own_Out p e below _ (T6.setTop (mkF m 49 #[.val (.int p0), .val (.int (f2 p0)), .val (.int (0 : Int32))] [(.int (1 : Int32))]))
            exact own_outN X6 hx hlk (t := .boolean) hret (by simp) (hb hby d1_49) (z' := (1 : Int32)) rfl (Q := Q1 Z p0 w cl h0 n0) ⟨by simp only [f1, if_pos hc10_3, if_neg hc16_4, if_pos hc23_5, if_neg hc32_7, if_pos hc43_9], N6, hh6⟩ (by decide) (by decide)
          · skip
            refine own_of (fun _ k => XS.icmpNo X6.here hx rfl (hb hby d1_43) rfl (feq hc43_9).1 k) ?_
            show own_Out p e below _ (T6.setTop (mkF m 46 #[.val (.int p0), .val (.int (f2 p0)), .val (.int (0 : Int32))] []))
            refine own_of (fun _ k => XS.iconst X6.here hx rfl (hb hby d1_46) k) ?_
            show own_Out p e below _ (T6.setTop (mkF m 47 #[.val (.int p0), .val (.int (f2 p0)), .val (.int (0 : Int32))] [(.int (0 : Int32))]))
            exact own_outN X6 hx hlk (t := .boolean) hret (by simp) (hb hby d1_47) (z' := (0 : Int32)) rfl (Q := Q1 Z p0 w cl h0 n0) ⟨by simp only [f1, if_pos hc10_3, if_neg hc16_4, if_pos hc23_5, if_neg hc32_7, if_neg hc43_9], N6, hh6⟩ (by decide) (by decide)
      · skip
        refine own_of (fun _ k => XS.icmpYes X2.here hx rfl (pc0 := 23) (pc' := 48) rfl (hb hby d1_23) rfl (flt hc23_5).2.1 (by decide) (by decide) k) ?_
        show own_Out p e below _ (T2.setTop (mkF m 48 #[.val (.int p0), .val (.int (f2 p0)), .unset] []))
        refine own_of (fun _ k => XS.iconst X2.here hx rfl (hb hby d1_48) k) ?_
        show own_Out p e below _ (T2.setTop (mkF m 49 #[.val (.int p0), .val (.int (f2 p0)), .unset] [(.int (1 : Int32))]))
        exact own_outN X2 hx hlk (t := .boolean) hret (by simp) (hb hby d1_49) (z' := (1 : Int32)) rfl (Q := Q1 Z p0 w cl h0 n0) ⟨by simp only [f1, if_pos hc10_3, if_neg hc16_4, if_neg hc23_5], N2, hh2⟩ (by decide) (by decide)
  · skip
    refine own_of (fun _ k => XS.icmpNo X2.here hx rfl (hb hby d1_10) rfl (feq hc10_3).1 k) ?_
    show own_Out p e below _ (T2.setTop (mkF m 13 #[.val (.int p0), .val (.int (f2 p0)), .unset] []))
    refine own_of (fun _ k => XS.iconst X2.here hx rfl (hb hby d1_13) k) ?_
    show own_Out p e below _ (T2.setTop (mkF m 14 #[.val (.int p0), .val (.int (f2 p0)), .unset] [(.int (0 : Int32))]))
    exact own_outN X2 hx hlk (t := .boolean) hret (by simp) (hb hby d1_14) (z' := (0 : Int32)) rfl (Q := Q1 Z p0 w cl h0 n0) ⟨by simp only [f1, if_neg hc10_3], N2, hh2⟩ (by decide) (by decide)
theorem ef_0 (m : MethodId) (x0 : Int32) (x1 : Int32) : entryFrame m #[(.int x0), (.int x1)] maxLocals = mkF m 0 #[.val (.int x0), .val (.int x1)] [] := by first | (simp [entryFrame, mkF, argsToLocals, Value.category, maxLocals]; done) | rfl
theorem own_small : ∀ n : Fin 128, f1 (Int32.ofNat n.val) = 1 := by decide +kernel
theorem own_ws {c : Int32} (h : c < (0 : Int32) ∨ ¬ c < (128 : Int32)) : f2 c = 0 ∧ f3 c = 0 := by
  have L : ∀ k : Int32, c < k ↔ c.toInt < k.toInt := fun k => Int32.lt_iff_toInt_lt
  have L' : ∀ k : Int32, k < c ↔ k.toInt < c.toInt := fun k => Int32.lt_iff_toInt_lt
  have n0 : (0 : Int32).toInt = 0 := rfl
  have n9 : (9 : Int32).toInt = 9 := rfl
  have n13 : (13 : Int32).toInt = 13 := rfl
  have n128 : (128 : Int32).toInt = 128 := rfl
  have hc : c.toInt < 0 ∨ 128 ≤ c.toInt := by rcases h with h | h <;> rw [L] at h <;> omega
  have hne : ∀ k : Int32, 0 ≤ k.toInt → k.toInt < 128 → ¬ c = k := fun k h1 h2 q => by subst q; omega
  refine ⟨by simp only [f2, if_neg (hne 32 (by decide) (by decide)), if_neg (hne 10 (by decide) (by decide)), if_neg (hne 9 (by decide) (by decide)), if_neg (hne 13 (by decide) (by decide))], ?_⟩
  by_cases q : c < (9 : Int32)
  · simp only [f3, if_neg (hne 32 (by decide) (by decide)), if_pos q]
  · have q2 : (13 : Int32) < c := by rw [L']; rw [L] at q; omega
    simp only [f3, if_neg (hne 32 (by decide) (by decide)), if_neg q, if_pos q2]
theorem own_main (c : Int32) : f1 c = 1 := by
  have L : ∀ k : Int32, c < k ↔ c.toInt < k.toInt := fun k => Int32.lt_iff_toInt_lt
  have n0 : (0 : Int32).toInt = 0 := rfl
  have n128 : (128 : Int32).toInt = 128 := rfl
  by_cases h0 : c < (0 : Int32)
  · have h := own_ws (Or.inl h0)
    simp only [f1, h.1, h.2, if_pos h0, if_true]
  by_cases h1 : c < (128 : Int32)
  · rw [L] at h0 h1
    have h := own_small ⟨c.toInt.toNat, by omega⟩
    have e : Int32.ofNat c.toInt.toNat = c := by
      rw [← Int32.toInt_inj, Int32.toInt_ofNat_of_lt (by omega)]; omega
    simpa only [e] using h
  · have h := own_ws (Or.inr h1)
    simp only [f1, h.1, h.2, if_neg h0, if_neg h1, if_true]
theorem dead0_0 (p0 : Int32) (p1 : Int32) (hc4_2 : (f1 p0) = (0 : Int32)) : False := by
  rw [own_main] at hc4_2; exact absurd hc4_2 (by decide)
theorem dead0_1 (p0 : Int32) (p1 : Int32) (hc4_2 : ¬ ((f1 p0) = (0 : Int32))) (hc14_4 : (f1 (p1 &&& (63 : Int32))) = (0 : Int32)) : False := by
  rw [own_main] at hc14_4; exact absurd hc14_4 (by decide)
def Q0 (Z : State) (p0 : Int32) (p1 : Int32) (w : Addr) (cl : Cell) (h0 : Heap) (n0 : Nat) (v : Option Value) (h : Heap) (L : List Loc) : Prop := v = some (.int 1) ∧ Fr n0 L
set_option maxRecDepth 65536 in
set_option maxHeartbeats 40000000 in
theorem rm0 (l : Launch) (Z : State) (a0 : Array Value) (hw : ∀ d ∈ tables_1, d.before a0 Z = true) (ws : List Jvm.Cond) (p0 : Int32) (p1 : Int32) (w : Addr) (cl : Cell) (h0 : Heap) (n0 : Nat) (Z0 : n0 ≤ h0.size) (S : Sta Z h0 "com/example/vine_labels/vinelabels/xmlinput/XmlCharacters" "KINDS" "[B" (.ref w)) (A : Arr Z h0 w cl .byte) (hT : ∀ j : Int32, ¬ j < (0 : Int32) → j < (128 : Int32) → ¬ (j < 0 ∨ cl.slots.size ≤ j.toNatClampNeg) ∧ cl.slots[j.toNatClampNeg]? = some (.int (own_tab j))) :
    MetFree l x (head1 (Jvm.Cond.code x code maxLocals ret :: ws) room_1) (fun a U => a = #[(.int p0), (.int p1)] ∧ Z.Warmed39 U.vm ∧ U.heap = h0) (fun _ _ _ _ _ => True) (fun _ U o U' => ∃ v L, o = .returned v ∧ Q0 Z p0 p1 w cl h0 n0 v U'.heap L ∧ FrameEnd U o U' L 0 0) := by
  refine MetFree.of_bodySF (plainFor_of_name pn_1) hisR ?_
  intro p e s m args below meth c s₁ Bd hml0 hP hK
  obtain ⟨rfl, hZ, hh⟩ := hP
  have hx := Bd.exec
  have hby := Bd.bytes
  have hml : c.maxLocals = 2 := hml0
  have hown : s.vm.findClass "com/example/vine_labels/vinelabels/xmlinput/XmlCharactersIsWhiteSpacePinLaw" = some m.cls := findClass_of_methodNamed Bd.named
  have hnm := (name_of_methodNamed Bd.named Bd.method).1
  have X0 : Stand p l e room_1 s m #[(.int p0), (.int p1)] below meth c s₁ [] 0 0 := Stand.of_body Bd
  have e0 : s₁.heap = h0 := by rw [← hh, Bd.state]; rfl
  have N0 := Fr.nil n0
  have hret := Bd.returns
  have hlk := BodyLoose.notSynchronized Bd
  show own_Out p e below (fun o U' => ∃ v L, o = .returned v ∧ Q0 Z p0 p1 w cl h0 n0 v U'.heap L ∧ FrameEnd s o U' L 0 0) (s₁.setTop (entryFrame m #[(.int p0), (.int p1)] maxLocals))
  refine own_of (fun t k => castTop (ef_0 m p0 p1) k) ?_
  show own_Out p e below _ (s₁.setTop (mkF m 0 #[.val (.int p0), .val (.int p1)] []))
  refine own_of (fun _ k => XS.iloadN X0.here hx rfl (hb hby at_0) rfl k) ?_
  show own_Out p e below _ (s₁.setTop (mkF m 1 #[.val (.int p0), .val (.int p1)] [(.int p0)]))
  obtain ⟨_, _, ⟨T1, L1, k1, n1⟩, -, X1, ⟨Lc1, hQ1, l1, y1, z1⟩, st1⟩ := Jvm.LawKit.callS X0 hx (y := (⟨"com/example/vine_labels/vinelabels/xmlinput/XmlCharactersIsWhiteSpacePinLaw", "one", "(I)Z"⟩ : MethodName)) hown (mvT hZ (hw _ (List.mem_of_getElem? (i := 0) rfl))) (mvT hZ (hw _ (List.mem_of_getElem? (i := 1) rfl))) (mvT hZ (hw _ (List.mem_of_getElem? (i := 2) rfl))) (mvT hZ (hw _ (List.mem_of_getElem? (i := 3) rfl))) (by decide) (backOf (W := 0) (rm1 l Z a0 hw [] p0 w cl h0 n0 Z0 S A hT) hZ (hw _ (List.mem_of_getElem? (i := 3) rfl)) (hw _ (List.mem_of_getElem? (i := 2) rfl)) (by decide) (by decide)) (g := (mkF m 1 #[.val (.int p0), .val (.int p1)] [(.int p0)])) rfl (by rw [hml]; rfl) (argsL := [(.int p0)]) (rest := []) (lenOf pd_0 rfl) rfl (by show 2 * 0 + _ ≤ _; exact Nat.le_of_eq rfl) (hb hby at_1) (fun _ _ => ⟨rfl, e0, (by decide : 0 + 0 ≤ _), (by decide : 0 + 0 ≤ _)⟩)
  dsimp only [Pt.U, Pt.locs, Pt.cells, Pt.slots] at X1 l1 y1 z1 st1 hQ1
  subst l1 y1 z1
  obtain ⟨rfl, N1q, hh1⟩ := hQ1
  have N1 := Fr.app N0 N1q
  refine own_of st1 ?_
  show own_Out p e below _ (T1.setTop (mkF m 4 #[.val (.int p0), .val (.int p1)] [(.int (f1 p0))]))
  by_cases hc4_2 : (f1 p0) = (0 : Int32)
  · skip
    exact (dead0_0 p0 p1 hc4_2).elim
  · skip
    refine own_of (fun _ k => XS.ifNo X1.here hx rfl (hb hby at_4) rfl ((if0 _ _).trans (feq hc4_2).1) k) ?_
    show own_Out p e below _ (T1.setTop (mkF m 7 #[.val (.int p0), .val (.int p1)] []))
    refine own_of (fun _ k => XS.iloadN X1.here hx rfl (hb hby at_7) rfl k) ?_
    show own_Out p e below _ (T1.setTop (mkF m 8 #[.val (.int p0), .val (.int p1)] [(.int p1)]))
    refine own_of (fun _ k => XS.bipush X1.here hx rfl (hb hby at_8) k) ?_
    show own_Out p e below _ (T1.setTop (mkF m 10 #[.val (.int p0), .val (.int p1)] [(.int (63 : Int32)), (.int p1)]))
    refine own_of (fun _ k => XS.iand X1.here hx rfl (hb hby at_10) rfl k) ?_
    show own_Out p e below _ (T1.setTop (mkF m 11 #[.val (.int p0), .val (.int p1)] [(.int (p1 &&& (63 : Int32)))]))
    obtain ⟨_, _, ⟨T3, L3, k3, n3⟩, -, X3, ⟨Lc3, hQ3, l3, y3, z3⟩, st3⟩ := Jvm.LawKit.callS X1 hx (y := (⟨"com/example/vine_labels/vinelabels/xmlinput/XmlCharactersIsWhiteSpacePinLaw", "one", "(I)Z"⟩ : MethodName)) hown (mvT hZ (hw _ (List.mem_of_getElem? (i := 0) rfl))) (mvT hZ (hw _ (List.mem_of_getElem? (i := 1) rfl))) (mvT hZ (hw _ (List.mem_of_getElem? (i := 2) rfl))) (mvT hZ (hw _ (List.mem_of_getElem? (i := 3) rfl))) (by decide) (backOf (W := 0) (rm1 l Z a0 hw [] (p1 &&& (63 : Int32)) w cl h0 n0 Z0 S A hT) hZ (hw _ (List.mem_of_getElem? (i := 3) rfl)) (hw _ (List.mem_of_getElem? (i := 2) rfl)) (by decide) (by decide)) (g := (mkF m 11 #[.val (.int p0), .val (.int p1)] [(.int (p1 &&& (63 : Int32)))])) rfl (by rw [hml]; rfl) (argsL := [(.int (p1 &&& (63 : Int32)))]) (rest := []) (lenOf pd_0 rfl) rfl (by show 2 * 0 + _ ≤ _; exact Nat.le_of_eq rfl) (hb hby at_11) (fun _ _ => ⟨rfl, hh1, (by decide : 0 + 0 ≤ _), (by decide : 0 + 0 ≤ _)⟩)
    dsimp only [Pt.U, Pt.locs, Pt.cells, Pt.slots] at X3 l3 y3 z3 st3 hQ3
    subst l3 y3 z3
    obtain ⟨rfl, N3q, hh3⟩ := hQ3
    have N3 := Fr.app N1 N3q
    refine own_of st3 ?_
    show own_Out p e below _ (T3.setTop (mkF m 14 #[.val (.int p0), .val (.int p1)] [(.int (f1 (p1 &&& (63 : Int32))))]))
    by_cases hc14_4 : (f1 (p1 &&& (63 : Int32))) = (0 : Int32)
    · skip
      exact (dead0_1 p0 p1 hc4_2 hc14_4).elim
    · skip
      refine own_of (fun _ k => XS.ifNo X3.here hx rfl (hb hby at_14) rfl ((if0 _ _).trans (feq hc14_4).1) k) ?_
      show own_Out p e below _ (T3.setTop (mkF m 17 #[.val (.int p0), .val (.int p1)] []))
      refine own_of (fun _ k => XS.iconst X3.here hx rfl (hb hby at_17) k) ?_
      show own_Out p e below _ (T3.setTop (mkF m 18 #[.val (.int p0), .val (.int p1)] [(.int (1 : Int32))]))
      refine own_of (fun _ k => XS.goto X3.here hx rfl (pc0 := 18) (pc' := 22) rfl (hb hby at_18) (by decide) (by decide) k) ?_
      show own_Out p e below _ (T3.setTop (mkF m 22 #[.val (.int p0), .val (.int p1)] [(.int (1 : Int32))]))
      exact own_outN X3 hx hlk (t := .boolean) hret (by simp) (hb hby at_22) (z' := (1 : Int32)) rfl (Q := Q0 Z p0 p1 w cl h0 n0) ⟨rfl, N3⟩ (by decide) (by decide)
theorem own_len {args : Array Value} {s : State} {t : Term} {a : Addr} {cl : Cell} {ty : FieldType} {z : Int32} (ev : t.eval args s none [] s = some (.ref a)) (A : Arr s s.heap a cl ty) (h : (Term.length t).eval args s none [] s = some (.int z)) : cl.slots.size < 2 ^ 31 ∧ cl.slots.size.toInt32 = z := by
  have ha := A.fin (Vm.Alike.refl _)
  simp only [Term.eval, ev, ha, Option.bind_eq_bind, Option.bind_some] at h
  split at h
  · rename_i q
    exact ⟨q, by simpa using h⟩
  · cases h
theorem own_inb {n : Nat} {z j : Int32} (h31 : n < 2 ^ 31) (e : n.toInt32 = z) (h1 : ¬ j < 0) (h2 : j < z) : ¬ (j < 0 ∨ n ≤ j.toNatClampNeg) := by
  subst e
  have e1 : (n.toInt32).toInt = n := len_toInt h31
  rw [Int32.lt_iff_toInt_lt, e1] at h2
  have h0 : 0 ≤ j.toInt := by
    rw [Int32.lt_iff_toInt_lt] at h1
    have e0 : (0 : Int32).toInt = 0 := rfl
    omega
  rintro (q | q)
  · exact h1 q
  · simp only [Int32.toNatClampNeg] at q; omega

set_option maxRecDepth 65536 in
set_option maxHeartbeats 40000000 in
theorem comes_1 {Post : Tables → Env → Array Value → State → Outcome → State → Prop} (hpost : ∀ tb e args s v u, (limb_1_1.after args s (.returned v) u = true ∧ limb_1_2.after args s (.returned v) u = true ∧ True) → FrameEnd s (.returned v) u (Jvm.fieldLocs frame_1_writes args s ++ Jvm.arrayLocs frame_1_arrays args s ++ Jvm.staticLocs frame_1_statics s) 0 0 → Post tb e args s (.returned v) u) :
    ArmFor flags0 classFile x code maxLocals ret World_1 tables_1 room_1 Calls_1 rest_1 Pre_1 Post := by
  intro l hfl _ _ p e ha hc hk s m args below hf hA hF happ hP
  obtain ⟨hcalls, hrest, hpre⟩ := hP
  obtain ⟨-, -, -, hnamed, -, -, -, hat⟩ := (Spec.applies_iff hf).mp happ
  obtain ⟨hg, hn⟩ := and_e (Cond.before_iff.mp (show (Jvm.Cond.and given_1 narrow_1).before args s = true from hpre))
  obtain ⟨g1, g2⟩ := and_e hg
  obtain ⟨g3, g4⟩ := and_e g2
  obtain ⟨w0, w1, rfl⟩ : ∃ w0 w1 : Value, args = #[w0, w1] := by
    have hs : args.size = 2 := by simpa [Cond.value, given_1] using g1
    obtain ⟨L⟩ := args
    match L, hs with
    | [w0, w1], _ => exact ⟨w0, w1, rfl⟩
  have hw := fun d (hd : d ∈ tables_1) => atoms_spec (ws := Jvm.Cond.code x code maxLocals ret :: tables_1) hat d (List.mem_cons_of_mem _ hd)
  have hfit : Fit s := fun {y c} hc i hi => by
    obtain ⟨ha, rfl⟩ := Array.getElem?_eq_some_iff.mp hc
    have q := List.all_eq_true.mp ((Array.all_eq_true_iff_forall_mem.mp hF) _ (Array.getElem_mem ha)) i (List.mem_range.mpr hi)
    simpa [Array.getElem?_eq_getElem hi] using q
  obtain ⟨i0, ei0⟩ := is_v g3
  obtain rfl : w0 = (.int i0) := Option.some.inj ei0
  obtain ⟨i1, ei1⟩ := is_v g4
  obtain rfl : w1 = (.int i1) := Option.some.inj ei1
  have hn0 : narrow_1.value _ s none s [] = some true := hn
  obtain ⟨hn_0, hr_0⟩ := and_e hn0
  obtain ⟨hn_1, hr_1⟩ := and_e hr_0
  obtain ⟨hn_2, hr_2⟩ := and_e hr_1
  obtain ⟨hn_3, hr_3⟩ := and_e hr_2
  obtain ⟨hn_4, hr_4⟩ := and_e hr_3
  obtain ⟨hn_5, hr_5⟩ := and_e hr_4
  obtain ⟨hn_6, hr_6⟩ := and_e hr_5
  obtain ⟨hn_7, hr_7⟩ := and_e hr_6
  obtain ⟨hn_8, hr_8⟩ := and_e hr_7
  obtain ⟨hn_9, hr_9⟩ := and_e hr_8
  obtain ⟨hn_10, hr_10⟩ := and_e hr_9
  obtain ⟨hn_11, hr_11⟩ := and_e hr_10
  obtain ⟨hn_12, hr_12⟩ := and_e hr_11
  obtain ⟨hn_13, hr_13⟩ := and_e hr_12
  obtain ⟨hn_14, hr_14⟩ := and_e hr_13
  obtain ⟨hn_15, hr_15⟩ := and_e hr_14
  obtain ⟨hn_16, hr_16⟩ := and_e hr_15
  obtain ⟨hn_17, hr_17⟩ := and_e hr_16
  obtain ⟨hn_18, hr_18⟩ := and_e hr_17
  obtain ⟨hn_19, hr_19⟩ := and_e hr_18
  obtain ⟨hn_20, hr_20⟩ := and_e hr_19
  obtain ⟨w_KINDS, ev_w_KINDS⟩ := arr_v hn_0
  have S_w_KINDS : Sta s s.heap "com/example/vine_labels/vinelabels/xmlinput/XmlCharacters" "KINDS" "[B" (.ref w_KINDS) := Sta.start ev_w_KINDS (Or.inr ⟨(hw _ (List.mem_of_getElem? (i := 6) rfl)), (hw _ (List.mem_of_getElem? (i := 15) rfl))⟩)
  obtain ⟨cl_w_KINDS, A_w_KINDS⟩ := Arr.start ev_w_KINDS hn_0
  have L_w_KINDS := eqv_i (Term.int_eval (128)) hn_1
  have hsz : cl_w_KINDS.slots.size < 2 ^ 31 ∧ cl_w_KINDS.slots.size.toInt32 = 128 := own_len ev_w_KINDS A_w_KINDS L_w_KINDS
  have hT : ∀ j : Int32, ¬ j < (0 : Int32) → j < (128 : Int32) → ¬ (j < 0 ∨ cl_w_KINDS.slots.size ≤ j.toNatClampNeg) ∧ cl_w_KINDS.slots[j.toNatClampNeg]? = some (.int (own_tab j)) := fun j h1 h2 => by
    have hi := own_inb hsz.1 hsz.2 h1 h2
    exact ⟨hi, own_tab_at hn0 ev_w_KINDS A_w_KINDS j h1 (Nat.lt_of_not_le fun q => hi (Or.inr q))⟩
  obtain ⟨n, o, h1, h2, h3, _, L, rfl, ⟨rfl, N⟩, hq⟩ := rm0 l s _ hw tables_1 i0 i1 w_KINDS cl_w_KINDS s.heap s.heap.size (Nat.le_refl _) S_w_KINDS A_w_KINDS hT p e ha hc hk s m _ below hf ((Spec.applies_iff_loose hf).mp happ).1 ⟨rfl, State.Warmed39.refl s, rfl⟩ trivial
  refine ⟨n, _, h1, h2, h3, hpost _ _ _ _ _ _ ⟨Cond.after_iff.mpr rfl, Cond.after_iff.mpr (eq_i res_at (Term.int_eval (1)) rfl), trivial⟩ ⟨hq.1, hq.2.1, (hq.2.2.sift fun y hy => Or.inr (N y hy)).mono (by decide) (by decide)⟩⟩
theorem main_1_1 : Claimed_1_1 := comes_1 fun _ _ _ _ _ _ h hF => ⟨h.1, hF⟩
theorem main_1_2 : Claimed_1_2 := comes_1 fun _ _ _ _ _ _ h hF => ⟨h.2.1, hF⟩
end Jvm.Pilot.@@N@@
namespace Jvm.Pilot.@@N@@
open Jvm Jvm.ClassFile Sem Op Lib Jvm.Free Jvm.Stand Jvm.Pilot.@@N@@.Jvm.D
/-! MADE BY PROGRAM (witnessworld.py) out of the Statement's table words and the real class files: 9 classes; the members and pool entries that the words name. The judged class is class 1, her method 3. -/
namespace start1
open Jvm.ClassFile
def u (s : String) : CpInfo := .utf8 (stringToUtf16 s)
/-- a pool by its gaps: so many unusable entries, then the entry; so many at the end -/
def gap : Nat → List CpInfo → List CpInfo
  | 0, r => r
  | n + 1, r => .unusable :: gap n r
def poolList (es : List (Nat × CpInfo)) (last : Nat) : List CpInfo := es.foldr (fun e r => gap e.1 (e.2 :: r)) (gap last [])
def pool (es : List (Nat × CpInfo)) (last : Nat) : Array CpInfo := ⟨poolList es last⟩
def fileOf (pool : Array CpInfo) (this : Nat) (attrs : Array Attribute := #[]) (ms : Array MethodInfo := #[]) (fl : Nat := 33) (sup : Nat := 0) (ifs : Array Nat := #[]) (fds : Array FieldInfo := #[]) : ClassFile where
  minorVersion := 0
  majorVersion := 65
  constantPool := pool
  accessFlags := fl
  thisClass := this
  superClass := sup
  interfaces := ifs
  fields := fds
  methods := ms
  attributes := attrs
def plain (name : String) (sup : Option ClassId) : Class where
  name := name
  kind := .ordinary
  loader := none
  accessFlags := 33
  super := sup
  interfaces := #[]
  cf := none
  fields := #[]
  methods := #[]
  instanceTypes := #[]
  staticTypes := #[]
  resolved := #[]
  callSites := []
  init := .initialized
  statics := none
  mirror := none

def pool0 : Array CpInfo := pool [(5, u "<init>"), (0, u "()V"), (1, .class_ 10), (1, u "java/lang/Object")] 113

def k0m0 : Method := { name := "<init>", desc := "()V", sig := { parameters := [], returnType := none }, accessFlags := 1, code := none }
/-- java/lang/Object -/
def k0 : Class := { plain "java/lang/Object" none with
  accessFlags := 33
  interfaces := #[]
  cf := some (fileOf pool0 8 #[] #[{ accessFlags := 1, nameIndex := 5, descriptorIndex := 6, attributes := #[] }] 33 0 #[] #[])
  fields := #[]
  methods := #[k0m0]
  instanceTypes := #[]
  staticTypes := #[]
  resolved := Array.replicate 124 none
  statics := none }

def pool1 : Array CpInfo := pool [(2, .class_ 4), (1, u "java/lang/Object"), (0, u "<init>"), (0, u "()V"), (0, .methodref 8 9), (0, .class_ 10), (0, .nameAndType 11 12), (0, u "com/example/vine_labels/vinelabels/xmlinput/XmlCharacters"), (0, u "isWhiteSpace"), (0, u "(I)Z"), (0, .methodref 14 15), (0, .class_ 16), (0, .nameAndType 17 12), (0, u "com/example/vine_labels/vinelabels/xmlinput/XmlCharactersIsWhiteSpacePinLaw"), (0, u "reference"), (0, .methodref 8 19), (0, .nameAndType 20 21), (0, u "kind"), (0, u "(C)B"), (0, .methodref 14 23), (0, .nameAndType 24 12), (0, u "one"), (3, u "law"), (0, u "(II)Z")] 2

def k1m0 : Method := { name := "<init>", desc := "()V", sig := { parameters := [], returnType := none }, accessFlags := 2, code := none }
def k1c1 : Code := { maxStack := 2, maxLocals := 1, code := method_2_code, exceptionTable := #[], attributes := #[] }
def k1m1 : Method := { name := "reference", desc := "(I)Z", sig := { parameters := [.int], returnType := some .boolean }, accessFlags := 10, code := some k1c1 }
def k1c2 : Code := { maxStack := 2, maxLocals := 3, code := method_3_code, exceptionTable := #[], attributes := #[] }
def k1m2 : Method := { name := "one", desc := "(I)Z", sig := { parameters := [.int], returnType := some .boolean }, accessFlags := 10, code := some k1c2 }
def k1c3 : Code := { maxStack := 2, maxLocals := 2, code := code, exceptionTable := #[], attributes := #[] }
def k1m3 : Method := { name := "law", desc := "(II)Z", sig := { parameters := [.int, .int], returnType := some .boolean }, accessFlags := 9, code := some k1c3 }
/-- com/example/vine_labels/vinelabels/xmlinput/XmlCharactersIsWhiteSpacePinLaw -/
def k1 : Class := { plain "com/example/vine_labels/vinelabels/xmlinput/XmlCharactersIsWhiteSpacePinLaw" (some 0) with
  accessFlags := 49
  interfaces := #[]
  cf := some (fileOf pool1 14 #[] #[{ accessFlags := 2, nameIndex := 5, descriptorIndex := 6, attributes := #[] }, { accessFlags := 10, nameIndex := 17, descriptorIndex := 12, attributes := #[] }, { accessFlags := 10, nameIndex := 24, descriptorIndex := 12, attributes := #[] }, { accessFlags := 9, nameIndex := 28, descriptorIndex := 29, attributes := #[] }] 49 2 #[] #[])
  fields := #[]
  methods := #[k1m0, k1m1, k1m2, k1m3]
  instanceTypes := #[]
  staticTypes := #[]
  resolved := Array.replicate 32 none
  statics := none }

def pool2 : Array CpInfo := pool [(2, .class_ 4), (1, u "java/lang/Object"), (0, u "<init>"), (0, u "()V"), (0, .fieldref 8 9), (0, .class_ 10), (0, .nameAndType 11 12), (0, u "com/example/vine_labels/vinelabels/xmlinput/XmlCharacters"), (0, u "KINDS"), (0, u "[B"), (7, u "ASCII"), (7, u "(I)Z"), (20, u "PLAIN"), (0, u "B"), (2, u "SPACE"), (1, u "SPECIAL"), (1, u "NAME_START"), (0, u "I"), (0, u "NAME"), (2, u "kind"), (0, u "(C)B"), (0, u "isWhiteSpace")] 8

def k2m0 : Method := { name := "<init>", desc := "()V", sig := { parameters := [], returnType := none }, accessFlags := 2, code := none }
def k2c1 : Code := { maxStack := 2, maxLocals := 1, code := prog_34_method_2_code, exceptionTable := #[], attributes := #[] }
def k2m1 : Method := { name := "kind", desc := "(C)B", sig := { parameters := [.char], returnType := some .byte }, accessFlags := 8, code := some k2c1 }
def k2c2 : Code := { maxStack := 2, maxLocals := 1, code := prog_34_method_3_code, exceptionTable := #[], attributes := #[] }
def k2m2 : Method := { name := "isWhiteSpace", desc := "(I)Z", sig := { parameters := [.int], returnType := some .boolean }, accessFlags := 8, code := some k2c2 }
/-- com/example/vine_labels/vinelabels/xmlinput/XmlCharacters -/
def k2 : Class := { plain "com/example/vine_labels/vinelabels/xmlinput/XmlCharacters" (some 0) with
  accessFlags := 32
  interfaces := #[]
  cf := some (fileOf pool2 8 #[] #[{ accessFlags := 2, nameIndex := 5, descriptorIndex := 6, attributes := #[] }, { accessFlags := 8, nameIndex := 62, descriptorIndex := 63, attributes := #[] }, { accessFlags := 8, nameIndex := 64, descriptorIndex := 28, attributes := #[] }] 32 2 #[] #[{ accessFlags := 24, nameIndex := 49, descriptorIndex := 50, attributes := #[] }, { accessFlags := 24, nameIndex := 53, descriptorIndex := 50, attributes := #[] }, { accessFlags := 24, nameIndex := 55, descriptorIndex := 50, attributes := #[] }, { accessFlags := 26, nameIndex := 57, descriptorIndex := 58, attributes := #[] }, { accessFlags := 26, nameIndex := 59, descriptorIndex := 58, attributes := #[] }, { accessFlags := 26, nameIndex := 20, descriptorIndex := 12, attributes := #[] }, { accessFlags := 26, nameIndex := 11, descriptorIndex := 12, attributes := #[] }])
  fields := #[{ name := "PLAIN", type := .byte, accessFlags := 24, slot := 0, constantValue := 0 }, { name := "SPACE", type := .byte, accessFlags := 24, slot := 1, constantValue := 0 }, { name := "SPECIAL", type := .byte, accessFlags := 24, slot := 2, constantValue := 0 }, { name := "NAME_START", type := .int, accessFlags := 26, slot := 3, constantValue := 0 }, { name := "NAME", type := .int, accessFlags := 26, slot := 4, constantValue := 0 }, { name := "ASCII", type := (.array .byte), accessFlags := 26, slot := 5, constantValue := 0 }, { name := "KINDS", type := (.array .byte), accessFlags := 26, slot := 6, constantValue := 0 }]
  methods := #[k2m0, k2m1, k2m2]
  instanceTypes := #[]
  staticTypes := #[.byte, .byte, .byte, .int, .int, (.array .byte), (.array .byte)]
  resolved := Array.replicate 73 none
  statics := some 0 }

def pool3 : Array CpInfo := pool [(1, u "java/lang/Cloneable"), (0, .class_ 1), (0, u "java/lang/Object"), (0, .class_ 3)] 3

/-- java/lang/Cloneable -/
def k3 : Class := { plain "java/lang/Cloneable" (some 0) with
  accessFlags := 1537
  interfaces := #[]
  cf := some (fileOf pool3 2 #[] #[] 1537 4 #[] #[])
  fields := #[]
  methods := #[]
  instanceTypes := #[]
  staticTypes := #[]
  resolved := Array.replicate 8 none
  statics := none }

def pool4 : Array CpInfo := pool [(1, u "java/io/Serializable"), (0, .class_ 1), (0, u "java/lang/Object"), (0, .class_ 3)] 3

/-- java/io/Serializable -/
def k4 : Class := { plain "java/io/Serializable" (some 0) with
  accessFlags := 1537
  interfaces := #[]
  cf := some (fileOf pool4 2 #[] #[] 1537 4 #[] #[])
  fields := #[]
  methods := #[]
  instanceTypes := #[]
  staticTypes := #[]
  resolved := Array.replicate 8 none
  statics := none }

/-- the primitive byte -/
def k5 : Class := { plain "byte" none with kind := .primitive 'B', accessFlags := 0x411 }
/-- [B -/
def k6 : Class := { plain "[B" (some 0) with kind := .array 5 .byte, interfaces := #[3, 4], accessFlags := 1041 }

/-- the primitive int -/
def k7 : Class := { plain "int" none with kind := .primitive 'I', accessFlags := 0x411 }
/-- [I -/
def k8 : Class := { plain "[I" (some 0) with kind := .array 7 .int, interfaces := #[3, 4], accessFlags := 1041 }

def heap : Heap := #[{ cls := 2, slots := #[.int 0, .int 0, .int 0, .int 0, .int 0, .null, .ref 1], vm := .statics 2 },
  { cls := 6, slots := #[.int 2, .int 2, .int 2, .int 2, .int 2, .int 2, .int 2, .int 2, .int 2, .int 1, .int 1, .int 2, .int 2, .int 1, .int 2, .int 2, .int 2, .int 2, .int 2, .int 2, .int 2, .int 2, .int 2, .int 2, .int 2, .int 2, .int 2, .int 2, .int 2, .int 2, .int 2, .int 2, .int 1, .int 0, .int 2, .int 0, .int 0, .int 0, .int 2, .int 2, .int 0, .int 0, .int 0, .int 0, .int 0, .int 0, .int 0, .int 0, .int 0, .int 0, .int 0, .int 0, .int 0, .int 0, .int 0, .int 0, .int 0, .int 0, .int 0, .int 0, .int 2, .int 0, .int 0, .int 0, .int 0, .int 0, .int 0, .int 0, .int 0, .int 0, .int 0, .int 0, .int 0, .int 0, .int 0, .int 0, .int 0, .int 0, .int 0, .int 0, .int 0, .int 0, .int 0, .int 0, .int 0, .int 0, .int 0, .int 0, .int 0, .int 0, .int 0, .int 0, .int 0, .int 2, .int 0, .int 0, .int 0, .int 0, .int 0, .int 0, .int 0, .int 0, .int 0, .int 0, .int 0, .int 0, .int 0, .int 0, .int 0, .int 0, .int 0, .int 0, .int 0, .int 0, .int 0, .int 0, .int 0, .int 0, .int 0, .int 0, .int 0, .int 0, .int 0, .int 0, .int 0, .int 0, .int 0, .int 0], vm := .none }]
def classes : Array Class := #[k0, k1, k2, k3, k4, k5, k6, k7, k8]
def interned : List (Array UInt16 × Addr) := []
def slotsUsed : Nat := 135
def theMethod : MethodId := ⟨1, 3⟩
def args0 : Array Value := #[.int 5, .int 1]
def aboutOver (below : List Frame) : State where
  vm := { classes := classes, interned := interned.toArray }
  heap := heap
  slotsUsed := slotsUsed
  threads := #[{ frames := .invoking theMethod args0 :: below }]
def below0 : List Frame := [.native { method := ⟨0, 0⟩, args := #[] }]
def about1 : State := aboutOver below0
def p0 : Program := .bare "" "" ""
def e0 : Env := launch0.env 0 0 0
theorem w_frames : about1.frames = Frame.invoking theMethod args0 :: below0 := rfl
set_option maxRecDepth 65536 in
theorem w_args : argsFit about1.vm theMethod args0 = true := by decide +kernel
set_option maxRecDepth 65536 in
theorem w_heap : heapFits about1 = true := by decide +kernel
set_option maxRecDepth 65536 in
theorem w_runnable : about1.curStatus? = some .runnable := by decide +kernel
set_option maxRecDepth 65536 in
theorem w_alone : about1.alone = true := by decide +kernel
set_option maxRecDepth 65536 in
theorem w_named : about1.methodNamed? x = some theMethod := by decide +kernel
set_option maxRecDepth 65536 in
theorem w_hears : about1.hears theMethod below0 = true := by decide +kernel
set_option maxRecDepth 65536 in
theorem w_ripe : about1.ripe theMethod args0 below0 = true := by decide +kernel
theorem w_running : about1.status = .running := rfl
set_option maxRecDepth 65536 in
theorem w_room : about1.hasRoom e0.platform room_1 = true :=
  launch0.hasRoom_least _ room_1 (by decide +kernel) (by decide +kernel) (by decide +kernel) (by decide +kernel) (by decide +kernel) (by decide +kernel)
theorem allAtoms_all (ts : List Jvm.Cond) (a : Array Jvm.Value) (st : Jvm.State) : (allAtoms ts).before a st = ts.all (fun c => c.before a st) := by
  induction ts with
  | nil => rfl
  | cons c t ih =>
    show (Jvm.Cond.and c (allAtoms t)).before a st = _
    rw [Jvm.Cond.before_and, ih, List.all_cons]
def words1 : List Jvm.Cond := Jvm.Cond.code x code maxLocals ret :: tables_1
/-- a 'code' word, met by the world's own term for the bytes: nothing is compared byte by byte -/
theorem code_word {y : MethodName} {bytes : ByteArray} {mx : Nat} {rt : Option FieldType} {a : Array Value} {s : State} {m : MethodId} {meth : Method} {c : Code} (h1 : s.methodNamed? y = some m) (h2 : s.vm.method? m = some meth) (h3 : meth.code = some c) (h4 : c.code = bytes)
    (h5 : (c.maxLocals == mx && c.exceptionTable.isEmpty && decide (c.maxStack ≤ mostOperands) && decide (meth.sig.returnType = rt) && !meth.locks && decide (parseMethodDescriptor y.desc = some meth.sig)) = true) : (Jvm.Cond.code y bytes mx rt).before a s = true := by
  simp only [Bool.and_eq_true, beq_iff_eq, Bool.not_eq_true', decide_eq_true_eq] at h5
  obtain ⟨⟨⟨⟨⟨g1, g2⟩, g3⟩, g4⟩, g5⟩, g6⟩ := h5
  simp [Cond.before, Cond.holds, Cond.value, h1, h2, h3, h4, g1, g2, g3, g4, g5, g6]
def isCode : Jvm.Cond → Bool
  | .code _ _ _ _ => true
  | _ => false
theorem all_split {L : List Jvm.Cond} {P : Jvm.Cond → Bool} (h1 : L.all (fun c => isCode c || P c) = true) (h2 : ∀ c ∈ L.filter isCode, P c = true) : L.all P = true := by
  refine List.all_eq_true.mpr fun c hc => ?_
  have h := List.all_eq_true.mp h1 c hc
  rcases Bool.eq_false_or_eq_true (isCode c) with hi | hi
  · exact h2 c (List.mem_filter.mpr ⟨hc, hi⟩)
  · simpa [hi] using h
set_option maxRecDepth 65536 in
theorem w_c0 : (Jvm.Cond.code x code maxLocals ret).before args0 about1 = true := code_word (m := ⟨1, 3⟩) (meth := k1m3) (c := k1c3) (by decide +kernel) rfl rfl rfl (by decide +kernel)
set_option maxRecDepth 65536 in
theorem w_c1 : (Jvm.Cond.code ({ cls := "com/example/vine_labels/vinelabels/xmlinput/XmlCharactersIsWhiteSpacePinLaw", name := "one", desc := "(I)Z" } : Jvm.MethodName) method_3_code (3 : Nat) (Option.some Jvm.ClassFile.FieldType.boolean)).before args0 about1 = true := code_word (m := ⟨1, 2⟩) (meth := k1m2) (c := k1c2) (by decide +kernel) rfl rfl rfl (by decide +kernel)
set_option maxRecDepth 65536 in
theorem w_c2 : (Jvm.Cond.code ({ cls := "com/example/vine_labels/vinelabels/xmlinput/XmlCharacters", name := "isWhiteSpace", desc := "(I)Z" } : Jvm.MethodName) prog_34_method_3_code (1 : Nat) (Option.some Jvm.ClassFile.FieldType.boolean)).before args0 about1 = true := code_word (m := ⟨2, 2⟩) (meth := k2m2) (c := k2c2) (by decide +kernel) rfl rfl rfl (by decide +kernel)
set_option maxRecDepth 65536 in
theorem w_c3 : (Jvm.Cond.code ({ cls := "com/example/vine_labels/vinelabels/xmlinput/XmlCharactersIsWhiteSpacePinLaw", name := "reference", desc := "(I)Z" } : Jvm.MethodName) method_2_code (1 : Nat) (Option.some Jvm.ClassFile.FieldType.boolean)).before args0 about1 = true := code_word (m := ⟨1, 1⟩) (meth := k1m1) (c := k1c1) (by decide +kernel) rfl rfl rfl (by decide +kernel)
set_option maxRecDepth 65536 in
theorem w_c4 : (Jvm.Cond.code ({ cls := "com/example/vine_labels/vinelabels/xmlinput/XmlCharacters", name := "kind", desc := "(C)B" } : Jvm.MethodName) prog_34_method_2_code (1 : Nat) (Option.some Jvm.ClassFile.FieldType.byte)).before args0 about1 = true := code_word (m := ⟨2, 1⟩) (meth := k2m1) (c := k2c1) (by decide +kernel) rfl rfl rfl (by decide +kernel)
def codes1 : List Jvm.Cond := [Jvm.Cond.code x code maxLocals ret, Jvm.Cond.code ({ cls := "com/example/vine_labels/vinelabels/xmlinput/XmlCharactersIsWhiteSpacePinLaw", name := "one", desc := "(I)Z" } : Jvm.MethodName) method_3_code (3 : Nat) (Option.some Jvm.ClassFile.FieldType.boolean), Jvm.Cond.code ({ cls := "com/example/vine_labels/vinelabels/xmlinput/XmlCharacters", name := "isWhiteSpace", desc := "(I)Z" } : Jvm.MethodName) prog_34_method_3_code (1 : Nat) (Option.some Jvm.ClassFile.FieldType.boolean), Jvm.Cond.code ({ cls := "com/example/vine_labels/vinelabels/xmlinput/XmlCharactersIsWhiteSpacePinLaw", name := "reference", desc := "(I)Z" } : Jvm.MethodName) method_2_code (1 : Nat) (Option.some Jvm.ClassFile.FieldType.boolean), Jvm.Cond.code ({ cls := "com/example/vine_labels/vinelabels/xmlinput/XmlCharacters", name := "kind", desc := "(C)B" } : Jvm.MethodName) prog_34_method_2_code (1 : Nat) (Option.some Jvm.ClassFile.FieldType.byte)]
set_option maxRecDepth 65536 in
theorem codes_eq : words1.filter isCode = codes1 := rfl
theorem w_codes : ∀ c ∈ words1.filter isCode, c.before args0 about1 = true := by
  rw [codes_eq]
  intro c hc
  simp only [codes1, List.mem_cons, List.not_mem_nil, or_false] at hc
  rcases hc with rfl | rfl | rfl | rfl | rfl
  · exact w_c0
  · exact w_c1
  · exact w_c2
  · exact w_c3
  · exact w_c4
set_option maxRecDepth 65536 in
theorem w_t1 : words1.all (fun c => isCode c || c.before args0 about1) = true := by decide +kernel
theorem w_tables : (allAtoms (Jvm.Cond.code x code maxLocals ret :: tables_1)).before args0 about1 = true := by
  rw [allAtoms_all]
  show words1.all (fun c => c.before args0 about1) = true
  refine all_split ?_ w_codes
  rw [w_t1]
set_option maxRecDepth 65536 in
theorem w_case : (Jvm.Cond.and given_1 narrow_1).before args0 about1 = true := by decide +kernel
theorem w_applies : (headSpec (Jvm.Cond.code x code maxLocals ret :: tables_1) room_1).applies x e0.platform about1 = true :=
  (Spec.applies_iff w_frames).mpr ⟨w_running, w_runnable, w_alone, w_named, w_hears, w_ripe, w_room, w_tables⟩
theorem atStart : AtStart classFile x code maxLocals ret World_1 tables_1 room_1 Calls_1 rest_1 Pre_1 launch0 p0 e0 about1 theMethod args0 below0 :=
  ⟨lists_1, trivial, launch0.admits_env _ _ _, launch0.least_env, fairChoices_fair.cas, fairChoices_fair.clock, w_frames, w_args, w_heap, w_applies, trivial, trivial, w_case⟩
end start1
theorem witness_1 : WitnessClaimed_1 := ⟨start1.p0, start1.e0, start1.about1, start1.theMethod, start1.args0, start1.below0, start1.atStart⟩
end Jvm.Pilot.@@N@@
