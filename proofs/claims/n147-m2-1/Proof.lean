import JvmDerived
import JvmDerived.Pilot.@@N@@Statement
import JvmDerived.Pilot.@@N@@Code
set_option linter.unusedVariables false
set_option linter.unusedSimpArgs false
@@BLOCK:NumsL.lean.txt@@
namespace Jvm.RoadKit
open Sem ClassFile Op Lib Jvm.Stand Jvm.Free Jvm.LawKit
/-- from the state S the run comes to an end that P holds of -/
def own_Out (p : Program) (e : Env) (below : List Frame) (P : Outcome → State → Prop) (S : State) : Prop := ∃ s₂ o, Steps p.tables e below S s₂ ∧ s₂.status = .running ∧ Ended s₂ below o ∧ P o s₂
theorem own_of {p : Program} {e : Env} {below : List Frame} {P : Outcome → State → Prop} {S S' : State} (h : ∀ t, Steps p.tables e below S' t → Steps p.tables e below S t) (k : own_Out p e below P S') : own_Out p e below P S := by
  obtain ⟨a, b, c, d⟩ := k
  exact ⟨a, b, h a c, d⟩
section New
variable {p : Program} {l : Launch} {e : Env} {R : Room} {s : State} {m : MethodId} {args : Array Value} {below : List Frame} {meth : Method} {c : Code} {T : State} {locs : List Loc} {cells slots : Nat}
theorem own_retI (X : Stand p l e R s m args below meth c T locs cells slots) (hx : p.tables.exec = Jvm.exec) {pc : Nat} {Ls : Array Slot} {z : Int32} {rest : List Value} (hret : meth.sig.returnType = some .int) (hd : decode c.code pc = .ok (.ireturn, 1)) {fs : List Frame}
    (hl : ∀ (f : JFrame) (acts : List Action), f.method = m → f.locked = none → f.entered = [] → (doReturn e (T.setTop f) acts (some (.int z))).1 = T.setFrames fs) : Steps p.tables e below (T.setTop (mkF m pc Ls (.int z :: rest))) (T.setFrames fs) := retOut X hx hret rfl (Or.inl ⟨rfl, Or.inl rfl, z, rfl⟩) hd hl
theorem own_end (X : Stand p l e R s m args below meth c T locs cells slots) (hlk : meth.locks = false) {v : Option Value} (hv : meth.sig.returnType = none → v = none) {g : JFrame}
    (hs : ∀ fs, (∀ (f : JFrame) (acts : List Action), f.method = m → f.locked = none → f.entered = [] → (doReturn e (T.setTop f) acts v).1 = T.setFrames fs) → Steps p.tables e below (T.setTop g) (T.setFrames fs))
    {Q : Option Value → Heap → List Loc → Prop} (hQ : Q v T.heap locs) {C N : Nat} (hC : cells ≤ C) (hN : slots ≤ N) :
    own_Out p e below (fun o U' => ∃ v L, o = .returned v ∧ Q v U'.heap L ∧ FrameEnd s o U' L C N) (T.setTop g) := by
  obtain ⟨fs, hr, hrun, hended, hW, hsame⟩ := X.leave (v := v) hv hlk
  exact ⟨_, _, hs fs hr, hrun, hended, _, _, rfl, hQ, ⟨_, rfl⟩, hW, hsame.mono hC hN⟩
theorem own_endW {vm₁ : Vm} (X : Stand p l e R (s.setVm vm₁) m args below meth c T locs cells slots) {n : Nat} (hS : s.Since vm₁ n) (hn : n ≤ T.heap.size) (hlk : meth.locks = false) {v : Option Value} (hv : meth.sig.returnType = none → v = none) {g : JFrame}
    (hs : ∀ fs, (∀ (f : JFrame) (acts : List Action), f.method = m → f.locked = none → f.entered = [] → (doReturn e (T.setTop f) acts v).1 = T.setFrames fs) → Steps p.tables e below (T.setTop g) (T.setFrames fs))
    {Q : Option Value → Heap → List Loc → Prop} (hQ : Q v T.heap locs) {C N : Nat} (hC : cells ≤ C) (hN : slots ≤ N) :
    own_Out p e below (fun o U' => ∃ v L, o = .returned v ∧ Q v U'.heap L ∧ ReturnedEndW s o U' L C N) (T.setTop g) := by
  obtain ⟨fs, hr, hrun, hended, hE⟩ := X.leaveW hS hn (v := v) hv hlk
  exact ⟨_, _, hs fs hr, hrun, hended, _, _, rfl, hQ, hE.1, hE.2.1, hE.2.2.1, hE.2.2.2.mono hC hN⟩
theorem own_outNW {vm₁ : Vm} (X : Stand p l e R (s.setVm vm₁) m args below meth c T locs cells slots) {n : Nat} (hS : s.Since vm₁ n) (hn : n ≤ T.heap.size) (hx : p.tables.exec = Jvm.exec) (hlk : meth.locks = false) {pc : Nat} {Ls : Array Slot} {z z' : Int32} {t : FieldType} {rest : List Value} (hret : meth.sig.returnType = some t) (ht : t = .boolean ∨ t = .byte ∨ t = .char ∨ t = .short) (hd : decode c.code pc = .ok (.ireturn, 1)) (hz : nar t z = z')
    {Q : Option Value → Heap → List Loc → Prop} (hQ : Q (some (.int z')) T.heap locs) {C N : Nat} (hC : cells ≤ C) (hN : slots ≤ N) :
    own_Out p e below (fun o U' => ∃ v L, o = .returned v ∧ Q v U'.heap L ∧ ReturnedEndW s o U' L C N) (T.setTop (mkF m pc Ls (.int z :: rest))) :=
  own_endW X hS hn hlk (fun h => by rw [hret] at h; cases h) (fun fs hr => retN X hx hret ht hd (by rw [hz]; exact hr)) hQ hC hN
theorem own_outVW {vm₁ : Vm} (X : Stand p l e R (s.setVm vm₁) m args below meth c T locs cells slots) {n : Nat} (hS : s.Since vm₁ n) (hn : n ≤ T.heap.size) (hx : p.tables.exec = Jvm.exec) (hlk : meth.locks = false) {pc : Nat} {Ls : Array Slot} (hret : meth.sig.returnType = none) (hd : decode c.code pc = .ok (.return_, 1))
    {Q : Option Value → Heap → List Loc → Prop} (hQ : Q none T.heap locs) {C N : Nat} (hC : cells ≤ C) (hN : slots ≤ N) :
    own_Out p e below (fun o U' => ∃ v L, o = .returned v ∧ Q v U'.heap L ∧ ReturnedEndW s o U' L C N) (T.setTop (mkF m pc Ls [])) :=
  own_endW X hS hn hlk (fun _ => rfl) (fun fs hr => X.returnOut hx hret hd hr) hQ hC hN
theorem own_outI (X : Stand p l e R s m args below meth c T locs cells slots) (hx : p.tables.exec = Jvm.exec) (hlk : meth.locks = false) {pc : Nat} {Ls : Array Slot} {z : Int32} {rest : List Value} (hret : meth.sig.returnType = some .int) (hd : decode c.code pc = .ok (.ireturn, 1))
    {Q : Option Value → Heap → List Loc → Prop} (hQ : Q (some (.int z)) T.heap locs) {C N : Nat} (hC : cells ≤ C) (hN : slots ≤ N) :
    own_Out p e below (fun o U' => ∃ v L, o = .returned v ∧ Q v U'.heap L ∧ FrameEnd s o U' L C N) (T.setTop (mkF m pc Ls (.int z :: rest))) :=
  own_end X hlk (fun h => by rw [hret] at h; cases h) (fun fs hr => own_retI X hx hret hd hr) hQ hC hN
theorem own_outN (X : Stand p l e R s m args below meth c T locs cells slots) (hx : p.tables.exec = Jvm.exec) (hlk : meth.locks = false) {pc : Nat} {Ls : Array Slot} {z z' : Int32} {t : FieldType} {rest : List Value} (hret : meth.sig.returnType = some t) (ht : t = .boolean ∨ t = .byte ∨ t = .char ∨ t = .short) (hd : decode c.code pc = .ok (.ireturn, 1)) (hz : nar t z = z')
    {Q : Option Value → Heap → List Loc → Prop} (hQ : Q (some (.int z')) T.heap locs) {C N : Nat} (hC : cells ≤ C) (hN : slots ≤ N) :
    own_Out p e below (fun o U' => ∃ v L, o = .returned v ∧ Q v U'.heap L ∧ FrameEnd s o U' L C N) (T.setTop (mkF m pc Ls (.int z :: rest))) :=
  own_end X hlk (fun h => by rw [hret] at h; cases h) (fun fs hr => retN X hx hret ht hd (by rw [hz]; exact hr)) hQ hC hN
theorem own_outR (X : Stand p l e R s m args below meth c T locs cells slots) (hx : p.tables.exec = Jvm.exec) (hlk : meth.locks = false) {pc : Nat} {Ls : Array Slot} {w : Value} {t : FieldType} {rest : List Value} (hret : meth.sig.returnType = some t) (ht : t.isReference = true) (hw : w.isRef = true) (hn : narrow t w = w) (hd : decode c.code pc = .ok (.areturn, 1))
    {Q : Option Value → Heap → List Loc → Prop} (hQ : Q (some w) T.heap locs) {C N : Nat} (hC : cells ≤ C) (hN : slots ≤ N) :
    own_Out p e below (fun o U' => ∃ v L, o = .returned v ∧ Q v U'.heap L ∧ FrameEnd s o U' L C N) (T.setTop (mkF m pc Ls (w :: rest))) :=
  own_end X hlk (fun h => by rw [hret] at h; cases h) (fun fs hr => retOut X hx hret hn (Or.inr (Or.inr (Or.inr (Or.inr ⟨rfl, ht, hw⟩)))) hd hr) hQ hC hN
theorem own_outV (X : Stand p l e R s m args below meth c T locs cells slots) (hx : p.tables.exec = Jvm.exec) (hlk : meth.locks = false) {pc : Nat} {Ls : Array Slot} (hret : meth.sig.returnType = none) (hd : decode c.code pc = .ok (.return_, 1))
    {Q : Option Value → Heap → List Loc → Prop} (hQ : Q none T.heap locs) {C N : Nat} (hC : cells ≤ C) (hN : slots ≤ N) :
    own_Out p e below (fun o U' => ∃ v L, o = .returned v ∧ Q v U'.heap L ∧ FrameEnd s o U' L C N) (T.setTop (mkF m pc Ls [])) :=
  own_end X hlk (fun _ => rfl) (fun fs hr => X.returnOut hx hret hd hr) hQ hC hN
end New
theorem own_leq {x y : Int64} (h : x = y) : ifCond.holds .eq (lcmpW x y) = true ∧ ifCond.holds .ne (lcmpW x y) = false := by
  subst h
  have h1 : ¬ x > x := fun q => by rw [gt_iff_lt, Int64.lt_iff_toInt_lt] at q; omega
  have e1 : lcmpW x x = 0 := by simp only [lcmpW, if_neg h1, if_pos]
  rw [e1]; decide
theorem own_lfeq {x y : Int64} (h : ¬ x = y) : ifCond.holds .eq (lcmpW x y) = false ∧ ifCond.holds .ne (lcmpW x y) = true := by
  by_cases h1 : x > y
  · have e1 : lcmpW x y = 1 := by simp only [lcmpW, if_pos h1]
    rw [e1]; decide
  · have e1 : lcmpW x y = -1 := by simp only [lcmpW, if_neg h1, if_neg h]
    rw [e1]; decide
theorem own_staK0 {Z : State} {h h' : Heap} {C n d : String} {v : Value} (F : Sta Z h C n d v) (K : Keep h h' []) : Sta Z h' C n d v := by
  obtain ⟨cf, i, k, f, st, cell, h1, h2, h3, h4, h5, r⟩ := F
  exact ⟨cf, i, k, f, st, cell, h1, h2, h3, h4, K.2.1 st cell h5 nin0, r⟩
theorem own_staK1 {Z : State} {h h' : Heap} {C n d : String} {v : Value} {a : Addr} (F : Sta Z h C n d v) (K : Keep h h' [a]) (q : ∀ cell : Cell, h[a]? = some cell → cell.vm.isStatics = false) : Sta Z h' C n d v := by
  obtain ⟨cf, i, k, f, st, cell, h1, h2, h3, h4, h5, h6, h7⟩ := F
  have ne : st ≠ a := fun e => by subst e; rw [q _ h5] at h6; cases h6
  exact ⟨cf, i, k, f, st, cell, h1, h2, h3, h4, K.2.1 st cell h5 (ninS ne nin0), h6, h7⟩
theorem own_plainE {Z : State} {h : Heap} {a : Addr} {C : String} (E : Exa Z h a C) : ∀ cell : Cell, h[a]? = some cell → cell.vm.isStatics = false := fun cell hc => by
  obtain ⟨c, k, h1, -, -, h4, -⟩ := E; cases h1.symm.trans hc; exact h4
section Bounds
variable {x a k : Int32} {u : Int}
theorem own_U1 (h : x < a) : x.toInt ≤ a.toInt - 1 := by rw [Int32.lt_iff_toInt_lt] at h; omega
theorem own_T1 (h : x.toInt ≤ u) (d : u < k.toInt) : x < k := by rw [Int32.lt_iff_toInt_lt]; omega
end Bounds
section Rel
end Rel
end Jvm.RoadKit
namespace Jvm.RoadKit
open Sem ClassFile Op Lib Jvm.Stand Jvm.Free Jvm.LawKit
section Short
variable {p : Program} {l : Launch} {e : Env} {R : Room} {s : State} {m : MethodId} {args : Array Value} {below : List Frame} {meth : Method} {c : Code} {T : State} {locs : List Loc} {cells slots : Nat} {P : Outcome → State → Prop} {bytes : ByteArray} {pc q : Nat} {ls l' : Array Slot} {st : List Value}
theorem o_iloadN (X : Stand p l e R s m args below meth c T locs cells slots) (hx : p.tables.exec = Jvm.exec) (hby : c.code = bytes) {k : Fin 4} {v : Int32} (hd : decode bytes pc = .ok (.iload_n k, 1)) (hl : ls[k.val]? = some (.val (.int v))) (hq : pc + 1 = q) (hr : own_Out p e below P (T.setTop (mkF m q ls (.int v :: st)))) : own_Out p e below P (T.setTop (mkF m pc ls (st))) := by
  subst hq; exact own_of (fun _ k => XS.iloadN X.here hx rfl (hb hby hd) hl k) hr
theorem o_iload (X : Stand p l e R s m args below meth c T locs cells slots) (hx : p.tables.exec = Jvm.exec) (hby : c.code = bytes) {k : Nat} {v : Int32} (hd : decode bytes pc = .ok (.iload k, 2)) (hl : ls[k]? = some (.val (.int v))) (hq : pc + 2 = q) (hr : own_Out p e below P (T.setTop (mkF m q ls (.int v :: st)))) : own_Out p e below P (T.setTop (mkF m pc ls (st))) := by
  subst hq; exact own_of (fun _ k => XS.iload X.here hx rfl (hb hby hd) hl k) hr
theorem o_istoreN (X : Stand p l e R s m args below meth c T locs cells slots) (hx : p.tables.exec = Jvm.exec) (hby : c.code = bytes) {k : Fin 4} {x : Int32} (hd : decode bytes pc = .ok (.istore_n k, 1)) (hl : storeLocals ls k.val (.int x) = some l') (hq : pc + 1 = q) (hr : own_Out p e below P (T.setTop (mkF m q l' (st)))) : own_Out p e below P (T.setTop (mkF m pc ls (.int x :: st))) := by
  subst hq; exact own_of (fun _ k => XS.istoreN X.here hx rfl (hb hby hd) rfl hl k) hr
theorem o_istore (X : Stand p l e R s m args below meth c T locs cells slots) (hx : p.tables.exec = Jvm.exec) (hby : c.code = bytes) {k : Nat} {x : Int32} (hd : decode bytes pc = .ok (.istore k, 2)) (hl : storeLocals ls k (.int x) = some l') (hq : pc + 2 = q) (hr : own_Out p e below P (T.setTop (mkF m q l' (st)))) : own_Out p e below P (T.setTop (mkF m pc ls (.int x :: st))) := by
  subst hq; exact own_of (fun _ k => XS.istore X.here hx rfl (hb hby hd) rfl hl k) hr
theorem o_lloadN (X : Stand p l e R s m args below meth c T locs cells slots) (hx : p.tables.exec = Jvm.exec) (hby : c.code = bytes) {k : Fin 4} {v : Int64} (hd : decode bytes pc = .ok (.lload_n k, 1)) (hl : ls[k.val]? = some (.val (.long v))) (hq : pc + 1 = q) (hr : own_Out p e below P (T.setTop (mkF m q ls (.long v :: st)))) : own_Out p e below P (T.setTop (mkF m pc ls (st))) := by
  subst hq; exact own_of (fun _ k => XS.lloadN X.here hx rfl (hb hby hd) hl k) hr
theorem o_lload (X : Stand p l e R s m args below meth c T locs cells slots) (hx : p.tables.exec = Jvm.exec) (hby : c.code = bytes) {k : Nat} {v : Int64} (hd : decode bytes pc = .ok (.lload k, 2)) (hl : ls[k]? = some (.val (.long v))) (hq : pc + 2 = q) (hr : own_Out p e below P (T.setTop (mkF m q ls (.long v :: st)))) : own_Out p e below P (T.setTop (mkF m pc ls (st))) := by
  subst hq; exact own_of (fun _ k => XS.lload X.here hx rfl (hb hby hd) hl k) hr
theorem o_lstore (X : Stand p l e R s m args below meth c T locs cells slots) (hx : p.tables.exec = Jvm.exec) (hby : c.code = bytes) {k : Nat} {x : Int64} (hd : decode bytes pc = .ok (.lstore k, 2)) (hl : storeLocals ls k (.long x) = some l') (hq : pc + 2 = q) (hr : own_Out p e below P (T.setTop (mkF m q l' (st)))) : own_Out p e below P (T.setTop (mkF m pc ls (.long x :: st))) := by
  subst hq; exact own_of (fun _ k => XS.lstore X.here hx rfl (hb hby hd) rfl hl k) hr
theorem o_aloadN (X : Stand p l e R s m args below meth c T locs cells slots) (hx : p.tables.exec = Jvm.exec) (hby : c.code = bytes) {k : Fin 4} {v : Value} (hd : decode bytes pc = .ok (.aload_n k, 1)) (hl : ls[k.val]? = some (.val v)) (hv : v.isRef = true) (hq : pc + 1 = q) (hr : own_Out p e below P (T.setTop (mkF m q ls (v :: st)))) : own_Out p e below P (T.setTop (mkF m pc ls (st))) := by
  subst hq; exact own_of (fun _ k => XS.aloadN X.here hx rfl (hb hby hd) hl hv k) hr
theorem o_aload (X : Stand p l e R s m args below meth c T locs cells slots) (hx : p.tables.exec = Jvm.exec) (hby : c.code = bytes) {k : Nat} {v : Value} (hd : decode bytes pc = .ok (.aload k, 2)) (hl : ls[k]? = some (.val v)) (hv : v.isRef = true) (hq : pc + 2 = q) (hr : own_Out p e below P (T.setTop (mkF m q ls (v :: st)))) : own_Out p e below P (T.setTop (mkF m pc ls (st))) := by
  subst hq; exact own_of (fun _ k => XS.aload X.here hx rfl (hb hby hd) hl hv k) hr
theorem o_astoreN (X : Stand p l e R s m args below meth c T locs cells slots) (hx : p.tables.exec = Jvm.exec) (hby : c.code = bytes) {k : Fin 4} {x : Value} (hd : decode bytes pc = .ok (.astore_n k, 1)) (hv : x.isRef = true) (hl : storeLocals ls k.val x = some l') (hq : pc + 1 = q) (hr : own_Out p e below P (T.setTop (mkF m q l' (st)))) : own_Out p e below P (T.setTop (mkF m pc ls (x :: st))) := by
  subst hq; exact own_of (fun _ k => XS.astoreN X.here hx rfl (hb hby hd) rfl hv hl k) hr
theorem o_astore (X : Stand p l e R s m args below meth c T locs cells slots) (hx : p.tables.exec = Jvm.exec) (hby : c.code = bytes) {k : Nat} {x : Value} (hd : decode bytes pc = .ok (.astore k, 2)) (hv : x.isRef = true) (hl : storeLocals ls k x = some l') (hq : pc + 2 = q) (hr : own_Out p e below P (T.setTop (mkF m q l' (st)))) : own_Out p e below P (T.setTop (mkF m pc ls (x :: st))) := by
  subst hq; exact own_of (fun _ k => XS.astore X.here hx rfl (hb hby hd) rfl hv hl k) hr
theorem o_iinc (X : Stand p l e R s m args below meth c T locs cells slots) (hx : p.tables.exec = Jvm.exec) (hby : c.code = bytes) {k : Nat} {cst : Int} {x : Int32} (hd : decode bytes pc = .ok (.iinc k cst, 3)) (hl : ls[k]? = some (.val (.int x))) (hl' : storeLocals ls k (.int (x + Int32.ofInt cst)) = some l') (hq : pc + 3 = q) (hr : own_Out p e below P (T.setTop (mkF m q l' (st)))) : own_Out p e below P (T.setTop (mkF m pc ls (st))) := by
  subst hq; exact own_of (fun _ k => XS.iinc X.here hx rfl (hb hby hd) hl hl' k) hr
theorem o_iconst (X : Stand p l e R s m args below meth c T locs cells slots) (hx : p.tables.exec = Jvm.exec) (hby : c.code = bytes) {i : Int} {z : Int32} (hd : decode bytes pc = .ok (.iconst i, 1)) (hz : Int32.ofInt i = z) (hq : pc + 1 = q) (hr : own_Out p e below P (T.setTop (mkF m q ls (.int z :: st)))) : own_Out p e below P (T.setTop (mkF m pc ls (st))) := by
  subst hq; exact own_of (fun _ k => XS.iconst X.here hx rfl (hb hby hd) (by rw [hz]; exact k)) hr
theorem o_bipush (X : Stand p l e R s m args below meth c T locs cells slots) (hx : p.tables.exec = Jvm.exec) (hby : c.code = bytes) {i : Int} {z : Int32} (hd : decode bytes pc = .ok (.bipush i, 2)) (hz : (Int8.ofInt i).toInt32 = z) (hq : pc + 2 = q) (hr : own_Out p e below P (T.setTop (mkF m q ls (.int z :: st)))) : own_Out p e below P (T.setTop (mkF m pc ls (st))) := by
  subst hq; exact own_of (fun _ k => XS.bipush X.here hx rfl (hb hby hd) (by rw [hz]; exact k)) hr
theorem o_sipush (X : Stand p l e R s m args below meth c T locs cells slots) (hx : p.tables.exec = Jvm.exec) (hby : c.code = bytes) {i : Int} {z : Int32} (hd : decode bytes pc = .ok (.sipush i, 3)) (hz : (Int16.ofInt i).toInt32 = z) (hq : pc + 3 = q) (hr : own_Out p e below P (T.setTop (mkF m q ls (.int z :: st)))) : own_Out p e below P (T.setTop (mkF m pc ls (st))) := by
  subst hq; exact own_of (fun _ k => XS.sipush X.here hx rfl (hb hby hd) (by rw [hz]; exact k)) hr
theorem o_lconst (X : Stand p l e R s m args below meth c T locs cells slots) (hx : p.tables.exec = Jvm.exec) (hby : c.code = bytes) {i : Fin 2} {z : Int64} (hd : decode bytes pc = .ok (.lconst i, 1)) (hz : Int64.ofNat i = z) (hq : pc + 1 = q) (hr : own_Out p e below P (T.setTop (mkF m q ls (.long z :: st)))) : own_Out p e below P (T.setTop (mkF m pc ls (st))) := by
  subst hq; exact own_of (fun _ k => XS.lconst X.here hx rfl (hb hby hd) (by rw [hz]; exact k)) hr
theorem o_aconst_null (X : Stand p l e R s m args below meth c T locs cells slots) (hx : p.tables.exec = Jvm.exec) (hby : c.code = bytes)  (hd : decode bytes pc = .ok (.aconst_null, 1))  (hq : pc + 1 = q) (hr : own_Out p e below P (T.setTop (mkF m q ls (.null :: st)))) : own_Out p e below P (T.setTop (mkF m pc ls (st))) := by
  subst hq; exact own_of (fun _ k => XS.aconstNull X.here hx rfl (hb hby hd) k) hr
theorem o_isub (X : Stand p l e R s m args below meth c T locs cells slots) (hx : p.tables.exec = Jvm.exec) (hby : c.code = bytes) {x y z : Int32} (hd : decode bytes pc = .ok (.isub, 1)) (hz : x - y = z) (hq : pc + 1 = q) (hr : own_Out p e below P (T.setTop (mkF m q ls (.int z :: st)))) : own_Out p e below P (T.setTop (mkF m pc ls (.int y :: .int x :: st))) := by
  subst hq; exact own_of (fun _ k => XS.isub X.here hx rfl (hb hby hd) rfl (by rw [hz]; exact k)) hr
theorem o_iand (X : Stand p l e R s m args below meth c T locs cells slots) (hx : p.tables.exec = Jvm.exec) (hby : c.code = bytes) {x y z : Int32} (hd : decode bytes pc = .ok (.iand, 1)) (hz : x &&& y = z) (hq : pc + 1 = q) (hr : own_Out p e below P (T.setTop (mkF m q ls (.int z :: st)))) : own_Out p e below P (T.setTop (mkF m pc ls (.int y :: .int x :: st))) := by
  subst hq; exact own_of (fun _ k => XS.iand X.here hx rfl (hb hby hd) rfl (by rw [hz]; exact k)) hr
theorem o_lxor (X : Stand p l e R s m args below meth c T locs cells slots) (hx : p.tables.exec = Jvm.exec) (hby : c.code = bytes) {x y z : Int64} (hd : decode bytes pc = .ok (.lxor, 1)) (hz : x ^^^ y = z) (hq : pc + 1 = q) (hr : own_Out p e below P (T.setTop (mkF m q ls (.long z :: st)))) : own_Out p e below P (T.setTop (mkF m pc ls (.long y :: .long x :: st))) := by
  subst hq; exact own_of (fun _ k => XS.lxor X.here hx rfl (hb hby hd) rfl (by rw [hz]; exact k)) hr
theorem o_iushr (X : Stand p l e R s m args below meth c T locs cells slots) (hx : p.tables.exec = Jvm.exec) (hby : c.code = bytes) {x z : Int32} {y : Int32} (hd : decode bytes pc = .ok (.iushr, 1)) (hz : ((x.toUInt32 >>> (y &&& 31).toUInt32).toInt32) = z) (hq : pc + 1 = q) (hr : own_Out p e below P (T.setTop (mkF m q ls (.int z :: st)))) : own_Out p e below P (T.setTop (mkF m pc ls (.int y :: .int x :: st))) := by
  subst hq; exact own_of (fun _ k => XS.iushr X.here hx rfl (hb hby hd) rfl (by rw [hz]; exact k)) hr
theorem o_i2b (X : Stand p l e R s m args below meth c T locs cells slots) (hx : p.tables.exec = Jvm.exec) (hby : c.code = bytes) {x : Int32} {z : Int32} (hd : decode bytes pc = .ok (.i2b, 1)) (hz : x.toInt8.toInt32 = z) (hq : pc + 1 = q) (hr : own_Out p e below P (T.setTop (mkF m q ls (.int z :: st)))) : own_Out p e below P (T.setTop (mkF m pc ls (.int x :: st))) := by
  subst hq; exact own_of (fun _ k => XS.i2b X.here hx rfl (hb hby hd) rfl (by rw [hz]; exact k)) hr
theorem o_i2c (X : Stand p l e R s m args below meth c T locs cells slots) (hx : p.tables.exec = Jvm.exec) (hby : c.code = bytes) {x : Int32} {z : Int32} (hd : decode bytes pc = .ok (.i2c, 1)) (hz : x.toUInt32.toUInt16.toUInt32.toInt32 = z) (hq : pc + 1 = q) (hr : own_Out p e below P (T.setTop (mkF m q ls (.int z :: st)))) : own_Out p e below P (T.setTop (mkF m pc ls (.int x :: st))) := by
  subst hq; exact own_of (fun _ k => XS.i2c X.here hx rfl (hb hby hd) rfl (by rw [hz]; exact k)) hr
theorem o_lcmp (X : Stand p l e R s m args below meth c T locs cells slots) (hx : p.tables.exec = Jvm.exec) (hby : c.code = bytes) {x y : Int64} (hd : decode bytes pc = .ok (.lcmp, 1))  (hq : pc + 1 = q) (hr : own_Out p e below P (T.setTop (mkF m q ls (.int (lcmpW x y) :: st)))) : own_Out p e below P (T.setTop (mkF m pc ls (.long y :: .long x :: st))) := by
  subst hq; exact own_of (fun _ k => XS.lcmp X.here hx rfl (hb hby hd) rfl k) hr
theorem o_irem (X : Stand p l e R s m args below meth c T locs cells slots) (hx : p.tables.exec = Jvm.exec) (hby : c.code = bytes) {x y : Int32} (hd : decode bytes pc = .ok (.irem, 1)) (hy : y ≠ 0) (hq : pc + 1 = q) (hr : own_Out p e below P (T.setTop (mkF m q ls (.int (x % y) :: st)))) : own_Out p e below P (T.setTop (mkF m pc ls (.int y :: .int x :: st))) := by
  subst hq; exact own_of (fun _ k => iremM X hx rfl (hb hby hd) rfl hy k) hr
theorem o_goto (X : Stand p l e R s m args below meth c T locs cells slots) (hx : p.tables.exec = Jvm.exec) (hby : c.code = bytes) {o : Int} (hd : decode bytes pc = .ok (.goto o, 3))  (ho : 0 ≤ (pc : Int) + o) (hq : ((pc : Int) + o).toNat = q) (hr : own_Out p e below P (T.setTop (mkF m q ls (st)))) : own_Out p e below P (T.setTop (mkF m pc ls (st))) := by
  exact own_of (fun _ k => XS.goto X.here hx rfl rfl (hb hby hd) ho hq k) hr
theorem o_ifY (X : Stand p l e R s m args below meth c T locs cells slots) (hx : p.tables.exec = Jvm.exec) (hby : c.code = bytes) {cd : ClassFile.Cond} {x : Int32} {o : Int} (hd : decode bytes pc = .ok (.ifCond cd o, 3)) (hc : ifCond.holds cd x = true) (ho : 0 ≤ (pc : Int) + o) (hq : ((pc : Int) + o).toNat = q) (hr : own_Out p e below P (T.setTop (mkF m q ls (st)))) : own_Out p e below P (T.setTop (mkF m pc ls (.int x :: st))) := by
  exact own_of (fun _ k => XS.ifYes X.here hx rfl rfl (hb hby hd) rfl hc ho hq k) hr
theorem o_ifN (X : Stand p l e R s m args below meth c T locs cells slots) (hx : p.tables.exec = Jvm.exec) (hby : c.code = bytes) {cd : ClassFile.Cond} {x : Int32} {o : Int} (hd : decode bytes pc = .ok (.ifCond cd o, 3)) (hc : ifCond.holds cd x = false) (hq : pc + 3 = q) (hr : own_Out p e below P (T.setTop (mkF m q ls (st)))) : own_Out p e below P (T.setTop (mkF m pc ls (.int x :: st))) := by
  subst hq; exact own_of (fun _ k => XS.ifNo X.here hx rfl (hb hby hd) rfl hc k) hr
theorem o_icY (X : Stand p l e R s m args below meth c T locs cells slots) (hx : p.tables.exec = Jvm.exec) (hby : c.code = bytes) {cd : ClassFile.Cond} {x y : Int32} {o : Int} (hd : decode bytes pc = .ok (.if_icmp cd o, 3)) (hc : if_icmp.holds cd x y = true) (ho : 0 ≤ (pc : Int) + o) (hq : ((pc : Int) + o).toNat = q) (hr : own_Out p e below P (T.setTop (mkF m q ls (st)))) : own_Out p e below P (T.setTop (mkF m pc ls (.int y :: .int x :: st))) := by
  exact own_of (fun _ k => XS.icmpYes X.here hx rfl rfl (hb hby hd) rfl hc ho hq k) hr
theorem o_icN (X : Stand p l e R s m args below meth c T locs cells slots) (hx : p.tables.exec = Jvm.exec) (hby : c.code = bytes) {cd : ClassFile.Cond} {x y : Int32} {o : Int} (hd : decode bytes pc = .ok (.if_icmp cd o, 3)) (hc : if_icmp.holds cd x y = false) (hq : pc + 3 = q) (hr : own_Out p e below P (T.setTop (mkF m q ls (st)))) : own_Out p e below P (T.setTop (mkF m pc ls (.int y :: .int x :: st))) := by
  subst hq; exact own_of (fun _ k => XS.icmpNo X.here hx rfl (hb hby hd) rfl hc k) hr
theorem o_dup (X : Stand p l e R s m args below meth c T locs cells slots) (hx : p.tables.exec = Jvm.exec) (hby : c.code = bytes) {x : Value} (hd : decode bytes pc = .ok (.dup, 1)) (hc : x.category = 1) (hq : pc + 1 = q) (hr : own_Out p e below P (T.setTop (mkF m q ls (x :: x :: st)))) : own_Out p e below P (T.setTop (mkF m pc ls (x :: st))) := by
  subst hq; exact own_of (fun _ k => XS.dup X.here hx rfl (hb hby hd) rfl hc k) hr
variable {Z : State} {a0 : Array Value} {h : Heap}
theorem o_getF (X : Stand p l e R s m args below meth c T locs cells slots) (hx : p.tables.exec = Jvm.exec) (hZ : Z.Warmed39 s.vm) {own R0 O n d : String} (hown : s.vm.findClass own = some m.cls) (hby : c.code = bytes) {i : Nat} (w : (Cond.fieldLink own i R0 n d).before a0 Z = true) (via : Via Z R0 O n d) (eT : T.heap = h) {a : Addr} {v : Value} (F : Fld Z h a O n d v) (hd : decode bytes pc = .ok (.getfield i, 3)) (hq : pc + 3 = q)
    (hr : ∀ T', Stand p l e R s m args below meth c T' locs cells slots → T'.heap = h → own_Out p e below P (T'.setTop (mkF m q ls (v :: st)))) : own_Out p e below P (T.setTop (mkF m pc ls (.ref a :: st))) := by
  subst hq
  obtain ⟨T', X', e', t⟩ := getF X hx hZ hown (host := "") (Or.inl w) via eT F (g := mkF m pc ls (.ref a :: st)) rfl rfl (hb hby hd)
  exact own_of t (hr T' X' e')
theorem o_len (X : Stand p l e R s m args below meth c T locs cells slots) (hx : p.tables.exec = Jvm.exec) (hZ : Z.Warmed39 s.vm) (hby : c.code = bytes) (eT : T.heap = h) {a : Addr} {cl : Cell} {ty : FieldType} (A : Arr Z h a cl ty) {z : Int32} (S : cl.slots.size = z.toNatClampNeg) (N : ¬ z < 0) (hd : decode bytes pc = .ok (.arraylength, 1)) (hq : pc + 1 = q)
    (hr : own_Out p e below P (T.setTop (mkF m q ls (.int z :: st)))) : own_Out p e below P (T.setTop (mkF m pc ls (.ref a :: st))) := by
  subst hq
  refine own_of (X.arraylength hx (by rw [eT]; exact A.1) (State.isArrayOf_alike hZ.alike A.2.1) (g := mkF m pc ls (.ref a :: st)) rfl rfl (hb hby hd)) ?_
  rw [len_of S N]; exact hr
variable {a : Addr} {k : ClassId} {z j : Int32} {vs : List Value} {dv v : Value} {ty : FieldType}
theorem o_nin {c : Cell} (S : c.slots.size = z.toNatClampNeg) (hj : ¬ j < 0 ∧ j < z) : j.toNatClampNeg < c.slots.size := Nat.lt_of_not_le fun q => inb_of S hj (Or.inr q)
theorem o_caV (X : Stand p l e R s m args below meth c T locs cells slots) (hx : p.tables.exec = Jvm.exec) (hby : c.code = bytes) (hZ : Z.Warmed39 s.vm) (eT : T.heap = h) (V : Arv Z h a k .char z vs dv) (hj : ¬ j < 0 ∧ j < z) (hv : vs.getD j.toNatClampNeg dv = v) (hd : decode bytes pc = .ok (.caload, 1)) (hq : pc + 1 = q)
    (hr : own_Out p e below P (T.setTop (mkF m q ls (v :: st)))) : own_Out p e below P (T.setTop (mkF m pc ls (.int j :: .ref a :: st))) := by
  obtain ⟨cl, A, q1, S, N, H, G⟩ := V
  subst hq
  exact own_of (X.caload hx (by rw [eT]; exact A.1) (State.isArrayOf_alike hZ.alike A.2.1) A.2.2 (inb_of S hj) ((H _ (o_nin S hj)).trans (by rw [hv])) (g := mkF m pc ls (.int j :: .ref a :: st)) rfl rfl (hb hby hd)) hr
theorem o_baV (X : Stand p l e R s m args below meth c T locs cells slots) (hx : p.tables.exec = Jvm.exec) (hby : c.code = bytes) (hZ : Z.Warmed39 s.vm) (eT : T.heap = h) (V : Arv Z h a k .byte z vs dv) (hj : ¬ j < 0 ∧ j < z) (hv : vs.getD j.toNatClampNeg dv = v) (hd : decode bytes pc = .ok (.baload, 1)) (hq : pc + 1 = q)
    (hr : own_Out p e below P (T.setTop (mkF m q ls (v :: st)))) : own_Out p e below P (T.setTop (mkF m pc ls (.int j :: .ref a :: st))) := by
  obtain ⟨cl, A, q1, S, N, H, G⟩ := V
  subst hq
  exact own_of (X.baloadBytes hx (by rw [eT]; exact A.1) (State.isArrayOf_alike hZ.alike A.2.1) A.2.2 (inb_of S hj) ((H _ (o_nin S hj)).trans (by rw [hv])) (g := mkF m pc ls (.int j :: .ref a :: st)) rfl rfl (hb hby hd)) hr
theorem o_lenV (X : Stand p l e R s m args below meth c T locs cells slots) (hx : p.tables.exec = Jvm.exec) (hby : c.code = bytes) (hZ : Z.Warmed39 s.vm) (eT : T.heap = h) (V : Arv Z h a k ty z vs dv) (hd : decode bytes pc = .ok (.arraylength, 1)) (hq : pc + 1 = q)
    (hr : own_Out p e below P (T.setTop (mkF m q ls (.int z :: st)))) : own_Out p e below P (T.setTop (mkF m pc ls (.ref a :: st))) := by
  obtain ⟨cl, A, q1, S, N, H, G⟩ := V
  exact o_len X hx hZ hby eT A S N hd hq hr
end Short
end Jvm.RoadKit
namespace Jvm.Pilot.@@N@@
open Jvm Jvm.ClassFile Sem Op Lib Jvm.Free Jvm.Stand Jvm.LawKit Jvm.RoadKit Bundle Jvm.Pilot.@@N@@.Jvm.D
theorem w_ {a0 : Array Value} {Z : State} (hw : ∀ d ∈ tables_1, d.before a0 Z = true) (i : Nat) {d : Jvm.Cond} (h : tables_1[i]? = some d) : d.before a0 Z = true := hw _ (List.mem_of_getElem? h)
theorem own_i2c {c : Int32} (h : 0 ≤ c.toInt ∧ c.toInt < 65536) : c.toUInt32.toUInt16.toUInt32.toInt32 = c := by
  apply Int32.toInt_inj.mp
  have a := c_i2c c; omega
theorem own_cc {c : Int32} (h : 0 ≤ c.toInt ∧ c.toInt < 65536) : (((((((c >>> ((0 : Int32) &&& 31)).toInt8.toInt32).toInt8.toInt32) &&& (255 : Int32)) <<< ((0 : Int32) &&& 31)) ||| (((((c >>> ((8 : Int32) &&& 31)).toInt8.toInt32).toInt8.toInt32) &&& (255 : Int32)) <<< ((8 : Int32) &&& 31))).toUInt32.toUInt16.toUInt32.toInt32) = c := by
  obtain ⟨h0, h1⟩ := h
  apply Int32.toInt_inj.mp
  have s1 := c_ishr c 0 0 (by decide)
  have s2 := c_ishr c 8 8 (by decide)
  generalize (c >>> ((0 : Int32) &&& 31)) = u at *
  generalize (c >>> ((8 : Int32) &&& 31)) = w at *
  have a1 := c_i2b u
  have a2 := c_i2b (u.toInt8.toInt32)
  have b1 := c_i2b w
  have b2 := c_i2b (w.toInt8.toInt32)
  generalize (u.toInt8.toInt32).toInt8.toInt32 = x at *
  generalize (w.toInt8.toInt32).toInt8.toInt32 = y at *
  have a3 := c_mask x 255 8 (by decide) (by decide)
  have b3 := c_mask y 255 8 (by decide) (by decide)
  generalize (x &&& (255 : Int32)) = x1 at *
  generalize (y &&& (255 : Int32)) = y1 at *
  have a4 := c_ishl x1 0 0 (by decide)
  have b4 := c_ishl y1 8 8 (by decide)
  have ra := rng32 (x1 <<< ((0 : Int32) &&& 31))
  have rb := rng32 (y1 <<< ((8 : Int32) &&& 31))
  generalize (x1 <<< ((0 : Int32) &&& 31)) = x2 at *
  generalize (y1 <<< ((8 : Int32) &&& 31)) = y2 at *
  have hx2 : 0 ≤ x2.toInt ∧ x2.toInt < 256 := by omega
  have hy2 : y2.toInt % 256 = 0 := by omega
  have o := c_or' x2 y2 8 (by decide) 256 rfl hy2 hx2.1 hx2.2
  have ro := rng32 (x2 ||| y2)
  have z1 := c_i2c (x2 ||| y2)
  omega
theorem own_wS {a0 : Array Value} {Z : State} (hw : ∀ d ∈ tables_1, d.before a0 Z = true) : ∀ d ∈ Bundle.stringAtoms, d.before a0 Z = true := by
  intro d hd
  simp only [Bundle.stringAtoms, List.mem_cons, List.not_mem_nil, or_false] at hd
  rcases hd with rfl | rfl | rfl | rfl | rfl | rfl | rfl
  · exact (hw _ (List.mem_of_getElem? (i := 6) rfl))
  · exact (hw _ (List.mem_of_getElem? (i := 5) rfl))
  · exact (hw _ (List.mem_of_getElem? (i := 19) rfl))
  · exact (hw _ (List.mem_of_getElem? (i := 20) rfl))
  · exact (hw _ (List.mem_of_getElem? (i := 21) rfl))
  · exact (hw _ (List.mem_of_getElem? (i := 22) rfl))
  · exact (hw _ (List.mem_of_getElem? (i := 23) rfl))
def EL1 : List (String × Nat) := [("java/lang/String", 7)]
theorem own_mem : (("java/lang/String", 7) : String × Nat) ∈ EL1 := List.mem_singleton.mpr rfl
theorem own_ht : (∀ c ∈ "".toList, c.toNat < 256) ∧ "".toList.map (fun c => Value.int (Jvm.Lit.byteI c.toNat.toUInt16)) = [] := by
  have e : "".toList = [] := by decide +kernel
  rw [e]; exact ⟨fun c hc => (by cases hc), rfl⟩
theorem own_EW {a0 : Array Value} {Z : State} (hw : ∀ d ∈ tables_1, d.before a0 Z = true) : EW Z a0 EL1 := EW.cons (w_ hw 18 rfl) own_ht.1 EW.nil
theorem own_safeV {Z : State} {EL : List (String × Nat)} {vm : Vm} {h : Heap} {x : Addr} {k : ClassId} {z : Int32} {vs : List Value} {dv : Value} (hal : Z.vm.Alike vm) (A : Arv Z h x k .char z vs dv) : Safe Z EL vm h x := by
  obtain ⟨cl, A, -⟩ := A; exact Safe.arr hal A nofun
theorem own_safeN {Z : State} {EL : List (String × Nat)} {vm : Vm} {h : Heap} {x : Addr} (hal : Z.vm.Alike vm) (E : Exa Z h x "java/lang/String") (F : Fld Z h x "java/lang/String" "value" "[B" .null) : Safe Z EL vm h x := fun B => by
  obtain ⟨p, -, u, a, -, q, -, G, rfl | rfl⟩ := B
  · obtain ⟨cell, cf, k, i, f, e1, e2, -, -, -, -, e7⟩ := F
    cases (show h[q.sa]? = some q.sC from G.ha).symm.trans e1
    obtain ⟨cS, ⟨⟨-, -, -, ⟨cv, kv, iv, s4, -⟩, -, -, -, s8, -⟩, -⟩, -⟩ := G
    obtain ⟨kv', z4⟩ := ff_back (U := Wst Z vm h) hal s4
    have e4 := z4.symm.trans e2
    simp only [Option.some.injEq, Prod.mk.injEq] at e4
    rw [← e4.2.2.2, s8] at e7
    cases e7
  · obtain ⟨cell, k, e1, e2, e3, -, -⟩ := E
    cases (show h[q.sd]? = some q.SA from G.hd).symm.trans e1
    obtain ⟨cS, -, -, f, -⟩ := G
    have f' : vm.findClass "[B" = some q.SA.cls := f
    rw [hal.findClass] at f'
    obtain ⟨k1, q1, q2⟩ := Vm.findClass_spec f'
    obtain ⟨k2, q3, q4⟩ := Vm.findClass_spec e2
    cases q1.symm.trans q3
    exact absurd (q2.symm.trans q4) (by decide)
theorem own_all0 (P : Addr → Prop) : ∀ x ∈ ([] : List Addr), P x := fun x hx => by cases hx
theorem own_all1 {P : Addr → Prop} {a : Addr} (h : P a) : ∀ x ∈ [a], P x := fun x hx => by cases List.mem_singleton.mp hx; exact h
section NewH
variable {p : Program} {l : Launch} {e : Env} {R : Room} {s : State} {m : MethodId} {args : Array Value} {below : List Frame} {meth : Method} {c : Code} {T : State} {locs : List Loc} {cells slots : Nat} {Z : State} {EL : List (String × Nat)} {h0 h : Heap}
theorem own_endH {vm₁ : Vm} (X : Stand p l e R (s.setVm vm₁) m args below meth c T locs cells slots) {n : Nat} (hS : s.Since vm₁ n) (hn : n ≤ T.heap.size) (hlk : meth.locks = false) {v : Option Value} (hv : meth.sig.returnType = none → v = none) {g : JFrame}
    (hs : ∀ fs, (∀ (f : JFrame) (acts : List Action), f.method = m → f.locked = none → f.entered = [] → (doReturn e (T.setTop f) acts v).1 = T.setFrames fs) → Steps p.tables e below (T.setTop g) (T.setFrames fs))
    {Q : Option Value → Heap → List Loc → Prop} (hQ : Q v T.heap locs) (hh : s.heap = h0) (eT : T.heap = h) (hC : CHr Z EL s.vm h0 T.vm h) {C N : Nat} (hC' : cells ≤ C) (hN : slots ≤ N) :
    own_Out p e below (fun o U' => ∃ v L, o = .returned v ∧ Q v U'.heap L ∧ CHr Z EL s.vm s.heap U'.vm U'.heap ∧ ReturnedEndW s o U' L C N) (T.setTop g) := by
  obtain ⟨fs, hr, hrun, hended, hE⟩ := X.leaveW hS hn (v := v) hv hlk
  subst hh eT
  exact ⟨_, _, hs fs hr, hrun, hended, _, _, rfl, hQ, hC, hE.1, hE.2.1, hE.2.2.1, hE.2.2.2.mono hC' hN⟩
theorem own_outVH {vm₁ : Vm} (X : Stand p l e R (s.setVm vm₁) m args below meth c T locs cells slots) {n : Nat} (hS : s.Since vm₁ n) (hn : n ≤ T.heap.size) (hx : p.tables.exec = Jvm.exec) (hlk : meth.locks = false) {pc : Nat} {Ls : Array Slot} (hret : meth.sig.returnType = none) (hd : decode c.code pc = .ok (.return_, 1))
    {Q : Option Value → Heap → List Loc → Prop} (hQ : Q none T.heap locs) (hh : s.heap = h0) (eT : T.heap = h) (hC : CHr Z EL s.vm h0 T.vm h) {C N : Nat} (hC' : cells ≤ C) (hN : slots ≤ N) :
    own_Out p e below (fun o U' => ∃ v L, o = .returned v ∧ Q v U'.heap L ∧ CHr Z EL s.vm s.heap U'.vm U'.heap ∧ ReturnedEndW s o U' L C N) (T.setTop (mkF m pc Ls [])) :=
  own_endH X hS hn hlk (fun _ => rfl) (fun fs hr => X.returnOut hx hret hd hr) hQ hh eT hC hC' hN
theorem own_outRH {vm₁ : Vm} (X : Stand p l e R (s.setVm vm₁) m args below meth c T locs cells slots) {n : Nat} (hS : s.Since vm₁ n) (hn : n ≤ T.heap.size) (hx : p.tables.exec = Jvm.exec) (hlk : meth.locks = false) {pc : Nat} {Ls : Array Slot} {w : Value} {t : FieldType} {rest : List Value} (hret : meth.sig.returnType = some t) (ht : t.isReference = true) (hw : w.isRef = true) (hnw : narrow t w = w) (hd : decode c.code pc = .ok (.areturn, 1))
    {Q : Option Value → Heap → List Loc → Prop} (hQ : Q (some w) T.heap locs) (hh : s.heap = h0) (eT : T.heap = h) (hC : CHr Z EL s.vm h0 T.vm h) {C N : Nat} (hC' : cells ≤ C) (hN : slots ≤ N) :
    own_Out p e below (fun o U' => ∃ v L, o = .returned v ∧ Q v U'.heap L ∧ CHr Z EL s.vm s.heap U'.vm U'.heap ∧ ReturnedEndW s o U' L C N) (T.setTop (mkF m pc Ls (w :: rest))) :=
  own_endH X hS hn hlk (fun h => by rw [hret] at h; cases h) (fun fs hr => retOut X hx hret hnw (Or.inr (Or.inr (Or.inr (Or.inr ⟨rfl, ht, hw⟩)))) hd hr) hQ hh eT hC hC' hN
end NewH
def bl (n u0 u1 : Int32) : List Value := if n = 0 then [] else if n = 1 then [.int u0] else [.int u0, .int u1]
theorem own_arv0 {Z : State} {h : Heap} {b : Addr} {k : ClassId} {n u0 u1 : Int32} (e : n = (0 : Int32)) (V : Arv Z h b k .byte (0 : Int32) [] (.int 0)) : Arv Z h b k .byte n (bl n u0 u1) (.int 0) := by subst e; exact V
theorem own_arv1 {Z : State} {h : Heap} {b : Addr} {k : ClassId} {n u0 u1 : Int32} (e : n = (1 : Int32)) (V : Arv Z h b k .byte (1 : Int32) [.int u0] (.int 0)) : Arv Z h b k .byte n (bl n u0 u1) (.int 0) := by subst e; exact V
theorem own_arv2 {Z : State} {h : Heap} {b : Addr} {k : ClassId} {n u0 u1 : Int32} (e : n = 0 ∨ n = 1 ∨ n = 2) (e0 : ¬ (n = (0 : Int32))) (e1 : ¬ (n = (1 : Int32))) (V : Arv Z h b k .byte (2 : Int32) [.int u0, .int u1] (.int 0)) : Arv Z h b k .byte n (bl n u0 u1) (.int 0) := by
  rcases e with e | e | e
  · exact absurd e e0
  · exact absurd e e1
  · subst e; exact V
theorem own_wd {c : Int32} (h : 0 ≤ c.toInt ∧ c.toInt < 256) : 0 ≤ c.toInt ∧ c.toInt < 65536 := ⟨h.1, by omega⟩
theorem own_nb {c : Int32} (h : 0 ≤ c.toInt ∧ c.toInt < 256) : ¬ ((255 : Int32) < c) := by
  have n255 : (255 : Int32).toInt = 255 := rfl
  rw [Int32.lt_iff_toInt_lt]; omega
theorem d12_0 : decode jdk_52_method_21_code 0 = .ok (.iconst 0, 1) := by decide +kernel
theorem d12_1 : decode jdk_52_method_21_code 1 = .ok (.istore 5, 2) := by decide +kernel
theorem d12_3 : decode jdk_52_method_21_code 3 = .ok (.iload 5, 2) := by decide +kernel
theorem d12_5 : decode jdk_52_method_21_code 5 = .ok (.iload 4, 2) := by decide +kernel
theorem d12_7 : decode jdk_52_method_21_code 7 = .ok (.if_icmp .ge 37, 3) := by decide +kernel
theorem d12_10 : decode jdk_52_method_21_code 10 = .ok (.aload_n 0, 1) := by decide +kernel
theorem d12_11 : decode jdk_52_method_21_code 11 = .ok (.iload_n 1, 1) := by decide +kernel
theorem d12_12 : decode jdk_52_method_21_code 12 = .ok (.caload, 1) := by decide +kernel
theorem d12_13 : decode jdk_52_method_21_code 13 = .ok (.istore 6, 2) := by decide +kernel
theorem d12_15 : decode jdk_52_method_21_code 15 = .ok (.iload 6, 2) := by decide +kernel
theorem d12_17 : decode jdk_52_method_21_code 17 = .ok (.sipush 255, 3) := by decide +kernel
theorem d12_20 : decode jdk_52_method_21_code 20 = .ok (.if_icmp .le 6, 3) := by decide +kernel
theorem d12_26 : decode jdk_52_method_21_code 26 = .ok (.aload_n 2, 1) := by decide +kernel
theorem d12_27 : decode jdk_52_method_21_code 27 = .ok (.iload_n 3, 1) := by decide +kernel
theorem d12_28 : decode jdk_52_method_21_code 28 = .ok (.iload 6, 2) := by decide +kernel
theorem d12_30 : decode jdk_52_method_21_code 30 = .ok (.i2b, 1) := by decide +kernel
theorem d12_31 : decode jdk_52_method_21_code 31 = .ok (.bastore, 1) := by decide +kernel
theorem d12_32 : decode jdk_52_method_21_code 32 = .ok (.iinc 1 1, 3) := by decide +kernel
theorem d12_35 : decode jdk_52_method_21_code 35 = .ok (.iinc 3 1, 3) := by decide +kernel
theorem d12_38 : decode jdk_52_method_21_code 38 = .ok (.iinc 5 1, 3) := by decide +kernel
theorem d12_41 : decode jdk_52_method_21_code 41 = .ok (.goto (-38), 3) := by decide +kernel
theorem d12_44 : decode jdk_52_method_21_code 44 = .ok (.iload 4, 2) := by decide +kernel
theorem d12_46 : decode jdk_52_method_21_code 46 = .ok (.ireturn, 1) := by decide +kernel
theorem pn_0 : plainName "java/lang/StringUTF16" = true := by first | (simp [plainName, overriddenIn]; done) | decide +kernel
theorem ef_12n1l (m : MethodId) (x0 x2 : Addr) : entryFrame m #[(.ref x0), (.int 0), (.ref x2), (.int 0), (.int 1)] 7 = mkF m 0 #[.val (.ref x0), .val (.int 0), .val (.ref x2), .val (.int 0), .val (.int 1), .unset, .unset] [] := by first | (simp [entryFrame, mkF, argsToLocals, Value.category]; done) | rfl
def Q12n1l (Z : State) (o0 o2 : Addr) (k0 k2 : ClassId) (c0 : Int32) (h0 : Heap) (n0 : Nat) (v : Option Value) (h : Heap) (L : List Loc) : Prop := v = some (.int 1) ∧ Fr n0 L ∧ Keep h0 h [o2] ∧ Arv Z h o2 k2 .byte (1 : Int32) [(.int ((c0.toInt8.toInt32).toInt8.toInt32))] (.int 0)
set_option maxRecDepth 65536 in
set_option maxHeartbeats 40000000 in
theorem rm12n1l (l : Launch) (Z : State) (a0 : Array Value) (hw : ∀ d ∈ tables_1, d.before a0 Z = true) (ws : List Jvm.Cond) (o0 o2 : Addr) (k0 k2 : ClassId) (c0 : Int32) (h0 : Heap) (n0 : Nat) (Z0 : n0 ≤ h0.size) (V0 : Arv Z h0 o0 k0 .char (1 : Int32) [(.int c0)] (.int 0)) (V2 : Arv Z h0 o2 k2 .byte (1 : Int32) [(.int 0)] (.int 0)) (g_o2 : n0 ≤ o2) (n02 : o0 ≠ o2) (hb0 : ¬ ((255 : Int32) < c0)) :
    MetFree l (⟨"java/lang/StringUTF16", "compress", "([CI[BII)I"⟩ : MethodName) (head1 (Jvm.Cond.code (⟨"java/lang/StringUTF16", "compress", "([CI[BII)I"⟩ : MethodName) jdk_52_method_21_code 7 (some .int) :: ws) (⟨0, 0, 0, 0⟩ : Room)) (fun a U => a = #[(.ref o0), (.int 0), (.ref o2), (.int 0), (.int 1)] ∧ Z.Warmed39 U.vm ∧ U.heap = h0) (fun _ _ _ _ _ => True) (fun _ U o U' => ∃ v L, o = .returned v ∧ Q12n1l Z o0 o2 k0 k2 c0 h0 n0 v U'.heap L ∧ FrameEnd U o U' L (⟨0, 0, 0, 0⟩ : Room).cells (⟨0, 0, 0, 0⟩ : Room).slots) := by
  refine MetFree.of_bodySF (plainFor_of_name pn_0) hisR ?_
  intro p e s m args below meth c s₁ Bd hml0 hP hK
  obtain ⟨rfl, hZ, hh⟩ := hP
  have hx := Bd.exec
  have hby := Bd.bytes
  have hml : c.maxLocals = 7 := hml0
  have hown : s.vm.findClass "java/lang/StringUTF16" = some m.cls := findClass_of_methodNamed Bd.named
  have hnm := (name_of_methodNamed Bd.named Bd.method).1
  have X0 : Stand p l e (⟨0, 0, 0, 0⟩ : Room) s m #[(.ref o0), (.int 0), (.ref o2), (.int 0), (.int 1)] below meth c s₁ [] 0 0 := Stand.of_body Bd
  have e0 : s₁.heap = h0 := by rw [← hh, Bd.state]; rfl
  have N0 := Fr.nil n0
  have hret := Bd.returns
  have hlk := BodyLoose.notSynchronized Bd
  show own_Out p e below (fun o U' => ∃ v L, o = .returned v ∧ Q12n1l Z o0 o2 k0 k2 c0 h0 n0 v U'.heap L ∧ FrameEnd s o U' L (⟨0, 0, 0, 0⟩ : Room).cells (⟨0, 0, 0, 0⟩ : Room).slots) (s₁.setTop (entryFrame m #[(.ref o0), (.int 0), (.ref o2), (.int 0), (.int 1)] 7))
  refine own_of (fun t k => castTop (ef_12n1l m o0 o2) k) ?_
  show own_Out p e below _ (s₁.setTop (mkF m 0 #[rv o0, iv 0, rv o2, iv 0, iv 1, .unset, .unset] []))
  refine o_iconst X0 hx hby d12_0 (z := 0) rfl (q := 1) rfl ?_
  refine o_istore X0 hx hby d12_1 (l' := #[rv o0, iv 0, rv o2, iv 0, iv 1, iv 0, .unset]) rfl (q := 3) rfl ?_
  refine o_iload X0 hx hby d12_3 rfl (q := 5) rfl ?_
  refine o_iload X0 hx hby d12_5 rfl (q := 7) rfl ?_
  refine o_icN X0 hx hby d12_7 (tlt (by decide : (0 : Int32) < (1 : Int32))).2.1 (q := 10) rfl ?_
  refine o_aloadN X0 hx hby d12_10 rfl rfl (q := 11) rfl ?_
  refine o_iloadN X0 hx hby d12_11 rfl (q := 12) rfl ?_
  refine o_caV X0 hx hby hZ e0 V0 ⟨by decide, by decide⟩ (v := .int c0) rfl d12_12 (q := 13) rfl ?_
  refine o_istore X0 hx hby d12_13 (l' := #[rv o0, iv 0, rv o2, iv 0, iv 1, iv 0, iv c0]) rfl (q := 15) rfl ?_
  refine o_iload X0 hx hby d12_15 rfl (q := 17) rfl ?_
  refine o_sipush X0 hx hby d12_17 (z := 255) rfl (q := 20) rfl ?_
  refine o_icY X0 hx hby d12_20 (flt hb0).2.2.2 (by decide) (q := 26) (by decide) ?_
  refine o_aloadN X0 hx hby d12_26 rfl rfl (q := 27) rfl ?_
  refine o_iloadN X0 hx hby d12_27 rfl (q := 28) rfl ?_
  refine o_iload X0 hx hby d12_28 rfl (q := 30) rfl ?_
  refine o_i2b X0 hx hby d12_30 rfl (q := 31) rfl ?_
  obtain ⟨cl1, Ar1, q1, S1, N1', H1, G1⟩ := id V2
  have hin2 : ¬ ((0 : Int32) < 0 ∨ cl1.slots.size ≤ ((0 : Int32)).toNatClampNeg) := inb_of S1 ⟨by decide, by decide⟩
  obtain ⟨T2, h2, X2, e2, W2, st2⟩ := stB X0 hx hZ e0 Ar1 (j := (0 : Int32)) hin2 (g := (mkF m 31 #[rv o0, iv 0, rv o2, iv 0, iv 1, iv 0, iv c0] [.int (c0.toInt8.toInt32), .int 0, .ref o2])) rfl rfl (hb hby d12_31)
  have V2 := Arv.set Ar1 q1 S1 N1' H1 G1 (fits_nar_byte _) W2 0 rfl (Nat.le_of_ble_eq_true rfl)
  refine own_of st2 ?_
  show own_Out p e below _ (T2.setTop (mkF m 32 #[rv o0, iv 0, rv o2, iv 0, iv 1, iv 0, iv c0] []))
  refine o_iinc X2 hx hby d12_32 rfl (l' := #[rv o0, iv 1, rv o2, iv 0, iv 1, iv 0, iv c0]) rfl (q := 35) rfl ?_
  refine o_iinc X2 hx hby d12_35 rfl (l' := #[rv o0, iv 1, rv o2, iv 1, iv 1, iv 0, iv c0]) rfl (q := 38) rfl ?_
  refine o_iinc X2 hx hby d12_38 rfl (l' := #[rv o0, iv 1, rv o2, iv 1, iv 1, iv 1, iv c0]) rfl (q := 41) rfl ?_
  refine o_goto X2 hx hby d12_41 (by decide) (q := 3) (by decide) ?_
  refine o_iload X2 hx hby d12_3 rfl (q := 5) rfl ?_
  refine o_iload X2 hx hby d12_5 rfl (q := 7) rfl ?_
  refine o_icY X2 hx hby d12_7 (flt (by decide : ¬ ((1 : Int32) < (1 : Int32)))).2.1 (by decide) (q := 44) (by decide) ?_
  refine o_iload X2 hx hby d12_44 rfl (q := 46) rfl ?_
  have qz3 := ((Keep.refl h0 [o2]).wr W2 (Or.inl (List.mem_of_getElem? (i := 0) rfl)))
  exact own_outI X2 hx hlk hret (hb hby d12_46) (Q := Q12n1l Z o0 o2 k0 k2 c0 h0 n0) (by rw [e2]; exact ⟨rfl, (Fr.snoc X2 N0 g_o2), qz3, V2⟩) (by decide) (by decide)
theorem pd_0 : parseMethodDescriptor "([CI[BII)I" = some ⟨[(.array .char), .int, (.array .byte), .int, .int], some .int⟩ := by decide +kernel
theorem d11_0 : decode jdk_52_method_16_code 0 = .ok (.iload_n 2, 1) := by decide +kernel
theorem d11_1 : decode jdk_52_method_16_code 1 = .ok (.newarray .byte, 2) := by decide +kernel
theorem d11_3 : decode jdk_52_method_16_code 3 = .ok (.astore_n 3, 1) := by decide +kernel
theorem d11_4 : decode jdk_52_method_16_code 4 = .ok (.aload_n 0, 1) := by decide +kernel
theorem d11_5 : decode jdk_52_method_16_code 5 = .ok (.iload_n 1, 1) := by decide +kernel
theorem d11_6 : decode jdk_52_method_16_code 6 = .ok (.aload_n 3, 1) := by decide +kernel
theorem d11_7 : decode jdk_52_method_16_code 7 = .ok (.iconst 0, 1) := by decide +kernel
theorem d11_8 : decode jdk_52_method_16_code 8 = .ok (.iload_n 2, 1) := by decide +kernel
theorem d11_9 : decode jdk_52_method_16_code 9 = .ok (.invokestatic 115, 3) := by decide +kernel
theorem d11_12 : decode jdk_52_method_16_code 12 = .ok (.istore 4, 2) := by decide +kernel
theorem d11_14 : decode jdk_52_method_16_code 14 = .ok (.iload 4, 2) := by decide +kernel
theorem d11_16 : decode jdk_52_method_16_code 16 = .ok (.iload_n 2, 1) := by decide +kernel
theorem d11_17 : decode jdk_52_method_16_code 17 = .ok (.if_icmp .eq 40, 3) := by decide +kernel
theorem d11_57 : decode jdk_52_method_16_code 57 = .ok (.aload_n 3, 1) := by decide +kernel
theorem d11_58 : decode jdk_52_method_16_code 58 = .ok (.areturn, 1) := by decide +kernel
theorem ef_11n1l (m : MethodId) (x0 : Addr) : entryFrame m #[(.ref x0), (.int 0), (.int 1)] 6 = mkF m 0 #[.val (.ref x0), .val (.int 0), .val (.int 1), .unset, .unset, .unset] [] := by first | (simp [entryFrame, mkF, argsToLocals, Value.category]; done) | rfl
def Q11n1l (Z : State) (o0 : Addr) (k0 : ClassId) (c0 : Int32) (h0 : Heap) (n0 : Nat) (v : Option Value) (h : Heap) (L : List Loc) : Prop := ∃ (b : Addr) (k : ClassId), v = some (.ref b) ∧ Fr n0 L ∧ Keep h0 h [] ∧ Arv Z h b k .byte (1 : Int32) [(.int ((c0.toInt8.toInt32).toInt8.toInt32))] (.int 0) ∧ n0 ≤ b ∧ h0.size ≤ b
set_option maxRecDepth 65536 in
set_option maxHeartbeats 40000000 in
theorem rm11n1l (l : Launch) (Z : State) (a0 : Array Value) (hw : ∀ d ∈ tables_1, d.before a0 Z = true) (ws : List Jvm.Cond) (o0 : Addr) (k0 : ClassId) (c0 : Int32) (h0 : Heap) (n0 : Nat) (Z0 : n0 ≤ h0.size) (V0 : Arv Z h0 o0 k0 .char (1 : Int32) [(.int c0)] (.int 0)) (hb0 : ¬ ((255 : Int32) < c0)) :
    MetFree l (⟨"java/lang/StringUTF16", "compress", "([CII)[B"⟩ : MethodName) (head1 (Jvm.Cond.code (⟨"java/lang/StringUTF16", "compress", "([CII)[B"⟩ : MethodName) jdk_52_method_16_code 6 (some (.array .byte)) :: ws) (⟨1, 1, 1, 18⟩ : Room)) (fun a U => a = #[(.ref o0), (.int 0), (.int 1)] ∧ Z.Warmed39 U.vm ∧ U.heap = h0) (fun _ _ _ _ _ => True) (fun _ U o U' => ∃ v L, o = .returned v ∧ Q11n1l Z o0 k0 c0 h0 n0 v U'.heap L ∧ FrameEnd U o U' L (⟨1, 1, 1, 18⟩ : Room).cells (⟨1, 1, 1, 18⟩ : Room).slots) := by
  refine MetFree.of_bodySF (plainFor_of_name pn_0) hisR ?_
  intro p e s m args below meth c s₁ Bd hml0 hP hK
  obtain ⟨rfl, hZ, hh⟩ := hP
  have hx := Bd.exec
  have hby := Bd.bytes
  have hml : c.maxLocals = 6 := hml0
  have hown : s.vm.findClass "java/lang/StringUTF16" = some m.cls := findClass_of_methodNamed Bd.named
  have hnm := (name_of_methodNamed Bd.named Bd.method).1
  have X0 : Stand p l e (⟨1, 1, 1, 18⟩ : Room) s m #[(.ref o0), (.int 0), (.int 1)] below meth c s₁ [] 0 0 := Stand.of_body Bd
  have e0 : s₁.heap = h0 := by rw [← hh, Bd.state]; rfl
  have N0 := Fr.nil n0
  have hret := Bd.returns
  have hlk := BodyLoose.notSynchronized Bd
  show own_Out p e below (fun o U' => ∃ v L, o = .returned v ∧ Q11n1l Z o0 k0 c0 h0 n0 v U'.heap L ∧ FrameEnd s o U' L (⟨1, 1, 1, 18⟩ : Room).cells (⟨1, 1, 1, 18⟩ : Room).slots) (s₁.setTop (entryFrame m #[(.ref o0), (.int 0), (.int 1)] 6))
  refine own_of (fun t k => castTop (ef_11n1l m o0) k) ?_
  show own_Out p e below _ (s₁.setTop (mkF m 0 #[rv o0, iv 0, iv 1, .unset, .unset, .unset] []))
  refine o_iloadN X0 hx hby d11_0 rfl (q := 1) rfl ?_
  obtain ⟨T1, h1, k1, X1, e1, E1, A1, st1⟩ := newP X0 hx hZ (w_ hw 19 rfl) e0 (g := (mkF m 1 #[rv o0, iv 0, iv 1, .unset, .unset, .unset] [.int 1])) rfl (hb hby d11_1) rfl (by decide) (cap := 1) (by decide) (by decide) (by decide) (by decide)
  obtain ⟨b1, g1⟩ : ∃ z, z = h0.size := ⟨_, rfl⟩
  rw [← g1] at A1 st1
  have g_b1 : n0 ≤ b1 := Nat.le_trans Z0 (Nat.le_of_eq g1.symm)
  have sz_b1 : h0.size ≤ b1 := Nat.le_trans (Nat.le_refl h0.size) (Nat.le_of_eq g1.symm)
  have V_b1 : Arv Z h1 b1 k1 .byte (1 : Int32) [(.int 0)] (.int 0) := (Arv.new A1 (by decide)).pad (pad_rep [] (.int 0) 1)
  refine own_of st1 ?_
  show own_Out p e below _ (T1.setTop (mkF m 3 #[rv o0, iv 0, iv 1, .unset, .unset, .unset] [.ref b1]))
  refine o_astoreN X1 hx hby d11_3 rfl (l' := #[rv o0, iv 0, iv 1, rv b1, .unset, .unset]) rfl (q := 4) rfl ?_
  refine o_aloadN X1 hx hby d11_4 rfl rfl (q := 5) rfl ?_
  refine o_iloadN X1 hx hby d11_5 rfl (q := 6) rfl ?_
  refine o_aloadN X1 hx hby d11_6 rfl rfl (q := 7) rfl ?_
  refine o_iconst X1 hx hby d11_7 (z := 0) rfl (q := 8) rfl ?_
  refine o_iloadN X1 hx hby d11_8 rfl (q := 9) rfl ?_
  have ne_o0_b1 : o0 ≠ b1 := Nat.ne_of_lt (Nat.lt_of_lt_of_le V0.lt sz_b1)
  have qz3 := (V0.ext E1)
  have qz4 := (Nat.le_trans Z0 E1.1)
  obtain ⟨_, _, ⟨T2, L2, k2, n2⟩, -, X2, ⟨Lc2, hQ2, l2, y2, z2⟩, st2⟩ := Jvm.LawKit.callS X1 hx (y := (⟨"java/lang/StringUTF16", "compress", "([CI[BII)I"⟩ : MethodName)) hown (mvT hZ (w_ hw 73 rfl)) (mvT hZ (w_ hw 74 rfl)) (mvT hZ (w_ hw 71 rfl)) (mvT hZ (w_ hw 75 rfl)) (by decide) (backOf (W := 0) (rm12n1l l Z a0 hw [] o0 b1 k0 k1 c0 h1 n0 qz4 qz3 V_b1 g_b1 ne_o0_b1 hb0) hZ (w_ hw 75 rfl) (w_ hw 71 rfl) (by decide) (by decide)) (g := (mkF m 9 #[rv o0, iv 0, iv 1, rv b1, .unset, .unset] [.int 1, .int 0, .ref b1, .int 0, .ref o0])) rfl (by rw [hml]; rfl) (argsL := [(.ref o0), (.int 0), (.ref b1), (.int 0), (.int 1)]) (rest := []) (lenOf pd_0 rfl) rfl (by show 2 * 0 + _ ≤ _; exact Nat.le_of_eq rfl) (hb hby d11_9) (fun _ _ => ⟨rfl, e1, (by decide : 1 + 0 ≤ _), (by decide : 1 + 0 ≤ _)⟩)
  dsimp only [Pt.U, Pt.locs, Pt.cells, Pt.slots] at X2 l2 y2 z2 st2 hQ2
  subst l2 y2 z2
  obtain ⟨rfl, N2q, K2, V2⟩ := hQ2
  have N2 := Fr.app N0 N2q
  refine own_of st2 ?_
  show own_Out p e below _ (T2.setTop (mkF m 12 #[rv o0, iv 0, iv 1, rv b1, .unset, .unset] [.int 1]))
  refine o_istore X2 hx hby d11_12 (l' := #[rv o0, iv 0, iv 1, rv b1, iv 1, .unset]) rfl (q := 14) rfl ?_
  refine o_iload X2 hx hby d11_14 rfl (q := 16) rfl ?_
  refine o_iloadN X2 hx hby d11_16 rfl (q := 17) rfl ?_
  refine o_icY X2 hx hby d11_17 (teq (by decide : (1 : Int32) = (1 : Int32))).1 (by decide) (q := 57) (by decide) ?_
  refine o_aloadN X2 hx hby d11_57 rfl rfl (q := 58) rfl ?_
  have qz5 := (((Keep.refl h0 []).ext E1).trans K2 (allS (Or.inr sz_b1) all0))
  exact own_outR X2 hx hlk hret rfl rfl rfl (hb hby d11_58) (Q := Q11n1l Z o0 k0 c0 h0 n0) ⟨b1, k1, rfl, N2, qz5, V2, g_b1, sz_b1⟩ (by decide) (by decide)
theorem d13_0 : decode jdk_52_method_15_code 0 = .ok (.iload_n 1, 1) := by decide +kernel
theorem d13_1 : decode jdk_52_method_15_code 1 = .ok (.aload_n 0, 1) := by decide +kernel
theorem d13_2 : decode jdk_52_method_15_code 2 = .ok (.arraylength, 1) := by decide +kernel
theorem d13_3 : decode jdk_52_method_15_code 3 = .ok (.isub, 1) := by decide +kernel
theorem d13_4 : decode jdk_52_method_15_code 4 = .ok (.bipush 31, 2) := by decide +kernel
theorem d13_6 : decode jdk_52_method_15_code 6 = .ok (.iushr, 1) := by decide +kernel
theorem d13_7 : decode jdk_52_method_15_code 7 = .ok (.i2b, 1) := by decide +kernel
theorem d13_8 : decode jdk_52_method_15_code 8 = .ok (.ireturn, 1) := by decide +kernel
theorem ef_13v0n1 (m : MethodId) (x0 : Addr) : entryFrame m #[(.ref x0), (.int 1)] 2 = mkF m 0 #[.val (.ref x0), .val (.int 1)] [] := by first | (simp [entryFrame, mkF, argsToLocals, Value.category]; done) | rfl
def Q13v0n1 (Z : State) (o0 : Addr) (k : ClassId) (u0 : Int32) (h0 : Heap) (n0 : Nat) (v : Option Value) (h : Heap) (L : List Loc) : Prop := v = some (.int 0) ∧ Fr n0 L ∧ h = h0
set_option maxRecDepth 65536 in
set_option maxHeartbeats 40000000 in
theorem rm13v0n1 (l : Launch) (Z : State) (a0 : Array Value) (hw : ∀ d ∈ tables_1, d.before a0 Z = true) (ws : List Jvm.Cond) (o0 : Addr) (k : ClassId) (u0 : Int32) (h0 : Heap) (n0 : Nat) (Z0 : n0 ≤ h0.size) (V : Arv Z h0 o0 k .byte (1 : Int32) [(.int u0)] (.int 0)) :
    MetFree l (⟨"java/lang/StringUTF16", "coderFromArrayLen", "([BI)B"⟩ : MethodName) (head1 (Jvm.Cond.code (⟨"java/lang/StringUTF16", "coderFromArrayLen", "([BI)B"⟩ : MethodName) jdk_52_method_15_code 2 (some .byte) :: ws) (⟨0, 0, 0, 0⟩ : Room)) (fun a U => a = #[(.ref o0), (.int 1)] ∧ Z.Warmed39 U.vm ∧ U.heap = h0) (fun _ _ _ _ _ => True) (fun _ U o U' => ∃ v L, o = .returned v ∧ Q13v0n1 Z o0 k u0 h0 n0 v U'.heap L ∧ FrameEnd U o U' L (⟨0, 0, 0, 0⟩ : Room).cells (⟨0, 0, 0, 0⟩ : Room).slots) := by
  refine MetFree.of_bodySF (plainFor_of_name pn_0) hisR ?_
  intro p e s m args below meth c s₁ Bd hml0 hP hK
  obtain ⟨rfl, hZ, hh⟩ := hP
  have hx := Bd.exec
  have hby := Bd.bytes
  have hml : c.maxLocals = 2 := hml0
  have hown : s.vm.findClass "java/lang/StringUTF16" = some m.cls := findClass_of_methodNamed Bd.named
  have hnm := (name_of_methodNamed Bd.named Bd.method).1
  have X0 : Stand p l e (⟨0, 0, 0, 0⟩ : Room) s m #[(.ref o0), (.int 1)] below meth c s₁ [] 0 0 := Stand.of_body Bd
  have e0 : s₁.heap = h0 := by rw [← hh, Bd.state]; rfl
  have N0 := Fr.nil n0
  have hret := Bd.returns
  have hlk := BodyLoose.notSynchronized Bd
  show own_Out p e below (fun o U' => ∃ v L, o = .returned v ∧ Q13v0n1 Z o0 k u0 h0 n0 v U'.heap L ∧ FrameEnd s o U' L (⟨0, 0, 0, 0⟩ : Room).cells (⟨0, 0, 0, 0⟩ : Room).slots) (s₁.setTop (entryFrame m #[(.ref o0), (.int 1)] 2))
  refine own_of (fun t k => castTop (ef_13v0n1 m o0) k) ?_
  show own_Out p e below _ (s₁.setTop (mkF m 0 #[rv o0, iv 1] []))
  refine o_iloadN X0 hx hby d13_0 rfl (q := 1) rfl ?_
  refine o_aloadN X0 hx hby d13_1 rfl rfl (q := 2) rfl ?_
  refine o_lenV X0 hx hby hZ e0 V d13_2 (q := 3) rfl ?_
  refine o_isub X0 hx hby d13_3 (z := 0) rfl (q := 4) rfl ?_
  refine o_bipush X0 hx hby d13_4 (z := 31) rfl (q := 6) rfl ?_
  refine o_iushr X0 hx hby d13_6 (z := 0) rfl (q := 7) rfl ?_
  refine o_i2b X0 hx hby d13_7 (z := 0) rfl (q := 8) rfl ?_
  exact own_outN X0 hx hlk (t := .byte) hret (by simp) (hb hby d13_8) (z' := (0 : Int32)) rfl (Q := Q13v0n1 Z o0 k u0 h0 n0) ⟨rfl, N0, e0⟩ (by decide) (by decide)
theorem pd_1 : parseMethodDescriptor "([CII)[B" = some ⟨[(.array .char), .int, .int], some (.array .byte)⟩ := by decide +kernel
theorem pd_2 : parseMethodDescriptor "([BI)B" = some ⟨[(.array .byte), .int], some .byte⟩ := by decide +kernel
theorem d3_0 : decode jdk_42_method_149_code 0 = .ok (.aload_n 0, 1) := by decide +kernel
theorem d3_1 : decode jdk_42_method_149_code 1 = .ok (.invokespecial 1, 3) := by decide +kernel
theorem d3_4 : decode jdk_42_method_149_code 4 = .ok (.iload_n 3, 1) := by decide +kernel
theorem d3_5 : decode jdk_42_method_149_code 5 = .ok (.ifCond .ne 22, 3) := by decide +kernel
theorem d3_27 : decode jdk_42_method_149_code 27 = .ok (.getstatic 38, 3) := by decide +kernel
theorem d3_30 : decode jdk_42_method_149_code 30 = .ok (.ifCond .eq 28, 3) := by decide +kernel
theorem d3_33 : decode jdk_42_method_149_code 33 = .ok (.aload_n 1, 1) := by decide +kernel
theorem d3_34 : decode jdk_42_method_149_code 34 = .ok (.iload_n 2, 1) := by decide +kernel
theorem d3_35 : decode jdk_42_method_149_code 35 = .ok (.iload_n 3, 1) := by decide +kernel
theorem d3_36 : decode jdk_42_method_149_code 36 = .ok (.invokestatic 177, 3) := by decide +kernel
theorem d3_39 : decode jdk_42_method_149_code 39 = .ok (.astore 5, 2) := by decide +kernel
theorem d3_41 : decode jdk_42_method_149_code 41 = .ok (.aload_n 0, 1) := by decide +kernel
theorem d3_42 : decode jdk_42_method_149_code 42 = .ok (.aload 5, 2) := by decide +kernel
theorem d3_44 : decode jdk_42_method_149_code 44 = .ok (.iload_n 3, 1) := by decide +kernel
theorem d3_45 : decode jdk_42_method_149_code 45 = .ok (.invokestatic 47, 3) := by decide +kernel
theorem d3_48 : decode jdk_42_method_149_code 48 = .ok (.putfield 15, 3) := by decide +kernel
theorem d3_51 : decode jdk_42_method_149_code 51 = .ok (.aload_n 0, 1) := by decide +kernel
theorem d3_52 : decode jdk_42_method_149_code 52 = .ok (.aload 5, 2) := by decide +kernel
theorem d3_54 : decode jdk_42_method_149_code 54 = .ok (.putfield 9, 3) := by decide +kernel
theorem d3_57 : decode jdk_42_method_149_code 57 = .ok (.return_, 1) := by decide +kernel
theorem pn_1 : plainName "java/lang/String" = true := by first | (simp [plainName, overriddenIn]; done) | decide +kernel
theorem ef_3n1l (m : MethodId) (x0 x1 : Addr) : entryFrame m #[(.ref x0), (.ref x1), (.int 0), (.int 1), .null] 6 = mkF m 0 #[.val (.ref x0), .val (.ref x1), .val (.int 0), .val (.int 1), .val .null, .unset] [] := by first | (simp [entryFrame, mkF, argsToLocals, Value.category]; done) | rfl
def Q3n1l (Z : State) (o0 o1 : Addr) (k1 : ClassId) (c0 cs : Int32) (h0 : Heap) (n0 : Nat) (v : Option Value) (h : Heap) (L : List Loc) : Prop := ∃ (b : Addr) (k : ClassId), v = none ∧ Fr n0 L ∧ Keep h0 h [o0] ∧ Exa Z h o0 "java/lang/String" ∧ Fld Z h o0 "java/lang/String" "value" "[B" (.ref b) ∧ Fld Z h o0 "java/lang/String" "coder" "B" (.int 0) ∧ Arv Z h b k .byte (1 : Int32) [(.int ((c0.toInt8.toInt32).toInt8.toInt32))] (.int 0) ∧ n0 ≤ b ∧ h0.size ≤ b
set_option maxRecDepth 65536 in
set_option maxHeartbeats 40000000 in
theorem rm3n1l (l : Launch) (Z : State) (a0 : Array Value) (hw : ∀ d ∈ tables_1, d.before a0 Z = true) (ws : List Jvm.Cond) (o0 o1 : Addr) (k1 : ClassId) (c0 cs : Int32) (h0 : Heap) (n0 : Nat) (Z0 : n0 ≤ h0.size) (E : Exa Z h0 o0 "java/lang/String") (F_value : Fld Z h0 o0 "java/lang/String" "value" "[B" .null) (F_coder : Fld Z h0 o0 "java/lang/String" "coder" "B" (.int 0)) (g_o0 : n0 ≤ o0) (V1 : Arv Z h0 o1 k1 .char (1 : Int32) [(.int c0)] (.int 0)) (n10 : o1 ≠ o0) (S_cs : Sta Z h0 "java/lang/String" "COMPACT_STRINGS" "Z" (.int cs)) (hcs : ¬ (cs = (0 : Int32))) (hb0 : ¬ ((255 : Int32) < c0)) :
    MetFree l (⟨"java/lang/String", "<init>", "([CIILjava/lang/Void;)V"⟩ : MethodName) (head1 (Jvm.Cond.code (⟨"java/lang/String", "<init>", "([CIILjava/lang/Void;)V"⟩ : MethodName) jdk_42_method_149_code 6 none :: ws) (⟨2, 1, 1, 35⟩ : Room)) (fun a U => a = #[(.ref o0), (.ref o1), (.int 0), (.int 1), .null] ∧ Z.Warmed39 U.vm ∧ U.heap = h0) (fun _ _ _ _ _ => True) (fun _ U o U' => ∃ v L, o = .returned v ∧ Q3n1l Z o0 o1 k1 c0 cs h0 n0 v U'.heap L ∧ FrameEnd U o U' L (⟨2, 1, 1, 35⟩ : Room).cells (⟨2, 1, 1, 35⟩ : Room).slots) := by
  refine MetFree.of_bodySF (plainFor_of_name pn_1) hisR ?_
  intro p e s m args below meth c s₁ Bd hml0 hP hK
  obtain ⟨rfl, hZ, hh⟩ := hP
  have hx := Bd.exec
  have hby := Bd.bytes
  have hml : c.maxLocals = 6 := hml0
  have hown : s.vm.findClass "java/lang/String" = some m.cls := findClass_of_methodNamed Bd.named
  have hnm := (name_of_methodNamed Bd.named Bd.method).1
  have X0 : Stand p l e (⟨2, 1, 1, 35⟩ : Room) s m #[(.ref o0), (.ref o1), (.int 0), (.int 1), .null] below meth c s₁ [] 0 0 := Stand.of_body Bd
  have e0 : s₁.heap = h0 := by rw [← hh, Bd.state]; rfl
  have N0 := Fr.nil n0
  have hret := Bd.returns
  have hlk := BodyLoose.notSynchronized Bd
  show own_Out p e below (fun o U' => ∃ v L, o = .returned v ∧ Q3n1l Z o0 o1 k1 c0 cs h0 n0 v U'.heap L ∧ FrameEnd s o U' L (⟨2, 1, 1, 35⟩ : Room).cells (⟨2, 1, 1, 35⟩ : Room).slots) (s₁.setTop (entryFrame m #[(.ref o0), (.ref o1), (.int 0), (.int 1), .null] 6))
  refine own_of (fun t k => castTop (ef_3n1l m o0 o1) k) ?_
  show own_Out p e below _ (s₁.setTop (mkF m 0 #[rv o0, rv o1, iv 0, iv 1, .val (.null), .unset] []))
  refine o_aloadN X0 hx hby d3_0 rfl rfl (q := 1) rfl ?_
  obtain ⟨T1, X1, e1, st1⟩ := initO X0 hx hZ hown (w_ hw 15 rfl) (w_ hw 16 rfl) (w_ hw 17 rfl) e0 (g := (mkF m 1 #[rv o0, rv o1, iv 0, iv 1, .val (.null), .unset] [.ref o0])) rfl (by rw [hml]; rfl) rfl (hb hby d3_1) (by decide) (W := 0) (by show 2 * 0 + _ ≤ _; exact Nat.le_of_eq rfl) (by decide)
  refine own_of st1 ?_
  show own_Out p e below _ (T1.setTop (mkF m 4 #[rv o0, rv o1, iv 0, iv 1, .val (.null), .unset] []))
  refine o_iloadN X1 hx hby d3_4 rfl (q := 5) rfl ?_
  refine o_ifY X1 hx hby d3_5 ((if0 _ _).trans (feq (by decide : ¬ ((1 : Int32) = (0 : Int32)))).2) (by decide) (q := 27) (by decide) ?_
  obtain ⟨T2, X2, e2, st2⟩ := getS2 X1 hx hZ hown (host := "") (Or.inl (w_ hw 64 rfl)) Via.refl e1 S_cs (g := (mkF m 27 #[rv o0, rv o1, iv 0, iv 1, .val (.null), .unset] [])) rfl (hb hby d3_27)
  refine own_of st2 ?_
  show own_Out p e below _ (T2.setTop (mkF m 30 #[rv o0, rv o1, iv 0, iv 1, .val (.null), .unset] [.int cs]))
  refine o_ifN X2 hx hby d3_30 ((if0 _ _).trans (feq hcs).1) (q := 33) rfl ?_
  refine o_aloadN X2 hx hby d3_33 rfl rfl (q := 34) rfl ?_
  refine o_iloadN X2 hx hby d3_34 rfl (q := 35) rfl ?_
  refine o_iloadN X2 hx hby d3_35 rfl (q := 36) rfl ?_
  obtain ⟨_, _, ⟨T3, L3, k3, n3⟩, -, X3, ⟨Lc3, hQ3, l3, y3, z3⟩, st3⟩ := Jvm.LawKit.callS X2 hx (y := (⟨"java/lang/StringUTF16", "compress", "([CII)[B"⟩ : MethodName)) hown (mvT hZ (w_ hw 69 rfl)) (mvT hZ (w_ hw 70 rfl)) (mvT hZ (w_ hw 71 rfl)) (mvT hZ (w_ hw 72 rfl)) (by decide) (backOf (W := 0) (rm11n1l l Z a0 hw [] o1 k1 c0 h0 n0 Z0 V1 hb0) hZ (w_ hw 72 rfl) (w_ hw 71 rfl) (by decide) (by decide)) (g := (mkF m 36 #[rv o0, rv o1, iv 0, iv 1, .val (.null), .unset] [.int 1, .int 0, .ref o1])) rfl (by rw [hml]; rfl) (argsL := [(.ref o1), (.int 0), (.int 1)]) (rest := []) (lenOf pd_1 rfl) rfl (by show 2 * 0 + _ ≤ _; exact Nat.le_of_eq rfl) (hb hby d3_36) (fun _ _ => ⟨rfl, e2, (by decide : 0 + 1 ≤ _), (by decide : 0 + 1 ≤ _)⟩)
  dsimp only [Pt.U, Pt.locs, Pt.cells, Pt.slots] at X3 l3 y3 z3 st3 hQ3
  subst l3 y3 z3
  obtain ⟨b3, k3, rfl, N3q, K3, V3, hgb_3, hsb_3⟩ := hQ3
  have N3 := Fr.app N0 N3q
  have sz_b3 : h0.size ≤ b3 := Nat.le_trans (Nat.le_refl h0.size) hsb_3
  refine own_of st3 ?_
  show own_Out p e below _ (T3.setTop (mkF m 39 #[rv o0, rv o1, iv 0, iv 1, .val (.null), .unset] [.ref b3]))
  refine o_astore X3 hx hby d3_39 rfl (l' := #[rv o0, rv o1, iv 0, iv 1, .val (.null), rv b3]) rfl (q := 41) rfl ?_
  refine o_aloadN X3 hx hby d3_41 rfl rfl (q := 42) rfl ?_
  refine o_aload X3 hx hby d3_42 rfl rfl (q := 44) rfl ?_
  refine o_iloadN X3 hx hby d3_44 rfl (q := 45) rfl ?_
  have qz5 := (Nat.le_trans Z0 K3.1)
  obtain ⟨_, _, ⟨T4, L4, k4, n4⟩, -, X4, ⟨Lc4, hQ4, l4, y4, z4⟩, st4⟩ := Jvm.LawKit.callS X3 hx (y := (⟨"java/lang/StringUTF16", "coderFromArrayLen", "([BI)B"⟩ : MethodName)) hown (mvT hZ (w_ hw 76 rfl)) (mvT hZ (w_ hw 77 rfl)) (mvT hZ (w_ hw 71 rfl)) (mvT hZ (w_ hw 78 rfl)) (by decide) (backOf (W := 1) (rm13v0n1 l Z a0 hw [] b3 k3 ((c0.toInt8.toInt32).toInt8.toInt32) T3.heap n0 qz5 V3) hZ (w_ hw 78 rfl) (w_ hw 71 rfl) (by decide) (by decide)) (g := (mkF m 45 #[rv o0, rv o1, iv 0, iv 1, .val (.null), rv b3] [.int 1, .ref b3, .ref o0])) rfl (by rw [hml]; rfl) (argsL := [(.ref b3), (.int 1)]) (rest := [(.ref o0)]) (lenOf pd_2 rfl) rfl (by show 2 * 0 + _ ≤ _; exact Nat.le_of_eq rfl) (hb hby d3_45) (fun _ _ => ⟨rfl, rfl, (by decide : 1 + 0 ≤ _), (by decide : 1 + 0 ≤ _)⟩)
  dsimp only [Pt.U, Pt.locs, Pt.cells, Pt.slots] at X4 l4 y4 z4 st4 hQ4
  subst l4 y4 z4
  obtain ⟨rfl, N4q, hh4⟩ := hQ4
  have N4 := Fr.app N3 N4q
  refine own_of st4 ?_
  show own_Out p e below _ (T4.setTop (mkF m 48 #[rv o0, rv o1, iv 0, iv 1, .val (.null), rv b3] [.int 0, .ref o0]))
  have qz7 := (F_coder.keep K3 nin0)
  have qz8 := (E.keep K3)
  obtain ⟨T6, h6, X6, e6, W6, st6⟩ := putFN X4 hx hZ hown (w_ hw 25 rfl) Via.refl hh4 qz7 qz8 (Or.inr ⟨(w_ hw 21 rfl), rfl, hnm⟩) (w_ hw 5 rfl) (ty := .byte) (v' := (.int 0)) (by decide) rfl rfl (g := (mkF m 48 #[rv o0, rv o1, iv 0, iv 1, .val (.null), rv b3] [.int 0, .ref o0])) rfl rfl (hb hby d3_48)
  have qz9 := (F_coder.keep K3 nin0)
  have Fw6 := qz9.same W6
  refine own_of st6 ?_
  show own_Out p e below _ (T6.setTop (mkF m 51 #[rv o0, rv o1, iv 0, iv 1, .val (.null), rv b3] []))
  refine o_aloadN X6 hx hby d3_51 rfl rfl (q := 52) rfl ?_
  refine o_aload X6 hx hby d3_52 rfl rfl (q := 54) rfl ?_
  have qz11 := ((F_value.keep K3 nin0).other W6 (Or.inr (slot_ne (Or.inr (w_ hw 20 rfl)) (Or.inr (w_ hw 21 rfl)) (by decide) (t := (.array .byte)) (t' := .byte) (by decide) (by decide))))
  have qz12 := (qz8.wr W6)
  obtain ⟨T10, h10, X10, e10, W10, st10⟩ := putF X6 hx hZ hown (host := "") (Or.inl (w_ hw 24 rfl)) Via.refl e6 qz11 qz12 (Or.inr ⟨(w_ hw 20 rfl), rfl, hnm⟩) (w_ hw 5 rfl) (ty := (.array .byte)) (by decide) rfl rfl (g := (mkF m 54 #[rv o0, rv o1, iv 0, iv 1, .val (.null), rv b3] [.ref b3, .ref o0])) rfl rfl (hb hby d3_54)
  have qz13 := ((F_value.keep K3 nin0).other W6 (Or.inr (slot_ne (Or.inr (w_ hw 20 rfl)) (Or.inr (w_ hw 21 rfl)) (by decide) (t := (.array .byte)) (t' := .byte) (by decide) (by decide))))
  have Fw10 := qz13.same W10
  refine own_of st10 ?_
  show own_Out p e below _ (T10.setTop (mkF m 57 #[rv o0, rv o1, iv 0, iv 1, .val (.null), rv b3] []))
  have qz14 := ((((Keep.refl h0 [o0]).trans K3 all0).wr W6 (Or.inl (List.mem_of_getElem? (i := 0) rfl))).wr W10 (Or.inl (List.mem_of_getElem? (i := 0) rfl)))
  have qz15 := (qz12.wr W10)
  have qz16 := (Fw6.other W10 (Or.inr (slot_ne (Or.inr (w_ hw 21 rfl)) (Or.inr (w_ hw 20 rfl)) (by decide) (t := .byte) (t' := (.array .byte)) (by decide) (by decide))))
  have ne_o0_b3 : o0 ≠ b3 := Nat.ne_of_lt (Nat.lt_of_lt_of_le E.lt sz_b3)
  have qz17 := ((V3.other W6 (Ne.symm ne_o0_b3)).other W10 (Ne.symm ne_o0_b3))
  exact own_outV X10 hx hlk hret (hb hby d3_57) (Q := Q3n1l Z o0 o1 k1 c0 cs h0 n0) (by rw [e10]; exact ⟨b3, k3, rfl, (Fr.snoc X10 (Fr.snoc X6 N4 g_o0) g_o0), qz14, qz15, Fw10, qz16, qz17, hgb_3, sz_b3⟩) (by decide) (by decide)
theorem pd_3 : parseMethodDescriptor "([CIILjava/lang/Void;)V" = some ⟨[(.array .char), .int, .int, (.object "java/lang/Void")], none⟩ := by decide +kernel
theorem d2_0 : decode jdk_42_method_3_code 0 = .ok (.aload_n 0, 1) := by decide +kernel
theorem d2_1 : decode jdk_42_method_3_code 1 = .ok (.aload_n 1, 1) := by decide +kernel
theorem d2_2 : decode jdk_42_method_3_code 2 = .ok (.iconst 0, 1) := by decide +kernel
theorem d2_3 : decode jdk_42_method_3_code 3 = .ok (.aload_n 1, 1) := by decide +kernel
theorem d2_4 : decode jdk_42_method_3_code 4 = .ok (.arraylength, 1) := by decide +kernel
theorem d2_5 : decode jdk_42_method_3_code 5 = .ok (.aconst_null, 1) := by decide +kernel
theorem d2_6 : decode jdk_42_method_3_code 6 = .ok (.invokespecial 27, 3) := by decide +kernel
theorem d2_9 : decode jdk_42_method_3_code 9 = .ok (.return_, 1) := by decide +kernel
theorem ef_2n1l (m : MethodId) (x0 x1 : Addr) : entryFrame m #[(.ref x0), (.ref x1)] 2 = mkF m 0 #[.val (.ref x0), .val (.ref x1)] [] := by first | (simp [entryFrame, mkF, argsToLocals, Value.category]; done) | rfl
def Q2n1l (Z : State) (o0 o1 : Addr) (k1 : ClassId) (c0 cs : Int32) (h0 : Heap) (n0 : Nat) (v : Option Value) (h : Heap) (L : List Loc) : Prop := ∃ (b : Addr) (k : ClassId), v = none ∧ Fr n0 L ∧ Keep h0 h [o0] ∧ Exa Z h o0 "java/lang/String" ∧ Fld Z h o0 "java/lang/String" "value" "[B" (.ref b) ∧ Fld Z h o0 "java/lang/String" "coder" "B" (.int 0) ∧ Arv Z h b k .byte (1 : Int32) [(.int ((c0.toInt8.toInt32).toInt8.toInt32))] (.int 0) ∧ n0 ≤ b ∧ h0.size ≤ b
set_option maxRecDepth 65536 in
set_option maxHeartbeats 40000000 in
theorem rm2n1l (l : Launch) (Z : State) (a0 : Array Value) (hw : ∀ d ∈ tables_1, d.before a0 Z = true) (ws : List Jvm.Cond) (o0 o1 : Addr) (k1 : ClassId) (c0 cs : Int32) (h0 : Heap) (n0 : Nat) (Z0 : n0 ≤ h0.size) (E : Exa Z h0 o0 "java/lang/String") (F_value : Fld Z h0 o0 "java/lang/String" "value" "[B" .null) (F_coder : Fld Z h0 o0 "java/lang/String" "coder" "B" (.int 0)) (g_o0 : n0 ≤ o0) (V1 : Arv Z h0 o1 k1 .char (1 : Int32) [(.int c0)] (.int 0)) (n10 : o1 ≠ o0) (S_cs : Sta Z h0 "java/lang/String" "COMPACT_STRINGS" "Z" (.int cs)) (hcs : ¬ (cs = (0 : Int32))) (hb0 : ¬ ((255 : Int32) < c0)) :
    MetFree l (⟨"java/lang/String", "<init>", "([C)V"⟩ : MethodName) (head1 (Jvm.Cond.code (⟨"java/lang/String", "<init>", "([C)V"⟩ : MethodName) jdk_42_method_3_code 2 none :: ws) (⟨3, 1, 1, 52⟩ : Room)) (fun a U => a = #[(.ref o0), (.ref o1)] ∧ Z.Warmed39 U.vm ∧ U.heap = h0) (fun _ _ _ _ _ => True) (fun _ U o U' => ∃ v L, o = .returned v ∧ Q2n1l Z o0 o1 k1 c0 cs h0 n0 v U'.heap L ∧ FrameEnd U o U' L (⟨3, 1, 1, 52⟩ : Room).cells (⟨3, 1, 1, 52⟩ : Room).slots) := by
  refine MetFree.of_bodySF (plainFor_of_name pn_1) hisR ?_
  intro p e s m args below meth c s₁ Bd hml0 hP hK
  obtain ⟨rfl, hZ, hh⟩ := hP
  have hx := Bd.exec
  have hby := Bd.bytes
  have hml : c.maxLocals = 2 := hml0
  have hown : s.vm.findClass "java/lang/String" = some m.cls := findClass_of_methodNamed Bd.named
  have hnm := (name_of_methodNamed Bd.named Bd.method).1
  have X0 : Stand p l e (⟨3, 1, 1, 52⟩ : Room) s m #[(.ref o0), (.ref o1)] below meth c s₁ [] 0 0 := Stand.of_body Bd
  have e0 : s₁.heap = h0 := by rw [← hh, Bd.state]; rfl
  have N0 := Fr.nil n0
  have hret := Bd.returns
  have hlk := BodyLoose.notSynchronized Bd
  show own_Out p e below (fun o U' => ∃ v L, o = .returned v ∧ Q2n1l Z o0 o1 k1 c0 cs h0 n0 v U'.heap L ∧ FrameEnd s o U' L (⟨3, 1, 1, 52⟩ : Room).cells (⟨3, 1, 1, 52⟩ : Room).slots) (s₁.setTop (entryFrame m #[(.ref o0), (.ref o1)] 2))
  refine own_of (fun t k => castTop (ef_2n1l m o0 o1) k) ?_
  show own_Out p e below _ (s₁.setTop (mkF m 0 #[rv o0, rv o1] []))
  refine o_aloadN X0 hx hby d2_0 rfl rfl (q := 1) rfl ?_
  refine o_aloadN X0 hx hby d2_1 rfl rfl (q := 2) rfl ?_
  refine o_iconst X0 hx hby d2_2 (z := 0) rfl (q := 3) rfl ?_
  refine o_aloadN X0 hx hby d2_3 rfl rfl (q := 4) rfl ?_
  refine o_lenV X0 hx hby hZ e0 V1 d2_4 (q := 5) rfl ?_
  refine o_aconst_null X0 hx hby d2_5 (q := 6) rfl ?_
  obtain ⟨_, _, ⟨T1, L1, k1, n1⟩, -, X1, ⟨Lc1, hQ1, l1, y1, z1⟩, st1⟩ := X0.specialBack hx (y := (⟨"java/lang/String", "<init>", "([CIILjava/lang/Void;)V"⟩ : MethodName)) rfl hown (mvT hZ (w_ hw 11 rfl)) (mvT hZ (w_ hw 12 rfl)) (mvT hZ (w_ hw 14 rfl)) (by decide) (backOf (W := 0) (rm3n1l l Z a0 hw [] o0 o1 k1 c0 cs h0 n0 Z0 E F_value F_coder g_o0 V1 n10 S_cs hcs hb0) hZ (w_ hw 14 rfl) (w_ hw 6 rfl) (by decide) (by decide)) (g := (mkF m 6 #[rv o0, rv o1] [.null, .int 1, .int 0, .ref o1, .ref o0])) rfl (by rw [hml]; rfl) (Steps.refl _) (a := o0) (argsL := [(.ref o1), (.int 0), (.int 1), .null]) (rest := []) (lenOf pd_3 rfl) rfl (by show 2 * 0 + _ ≤ _; exact Nat.le_of_eq rfl) (hb hby d2_6) (fun _ _ => ⟨rfl, e0, (by decide : 0 + 1 ≤ _), (by decide : 0 + 1 ≤ _)⟩)
  dsimp only [Pt.U, Pt.locs, Pt.cells, Pt.slots] at X1 l1 y1 z1 st1 hQ1
  subst l1 y1 z1
  obtain ⟨b1, k1, rfl, N1q, K1, E1, Fv1, Fc1, V1, hgb_1, hsb_1⟩ := hQ1
  have N1 := Fr.app N0 N1q
  have sz_b1 : h0.size ≤ b1 := Nat.le_trans (Nat.le_refl h0.size) hsb_1
  refine own_of (fun _ k => st1.trans k) ?_
  show own_Out p e below _ (T1.setTop (mkF m 9 #[rv o0, rv o1] []))
  have qz2 := ((Keep.refl h0 [o0]).trans K1 (allS (Or.inl (List.mem_of_getElem? (i := 0) rfl)) all0))
  exact own_outV X1 hx hlk hret (hb hby d2_9) (Q := Q2n1l Z o0 o1 k1 c0 cs h0 n0) ⟨b1, k1, rfl, N1, qz2, E1, Fv1, Fc1, V1, hgb_1, sz_b1⟩ (by decide) (by decide)
theorem ef_12n2l (m : MethodId) (x0 x2 : Addr) : entryFrame m #[(.ref x0), (.int 0), (.ref x2), (.int 0), (.int 2)] 7 = mkF m 0 #[.val (.ref x0), .val (.int 0), .val (.ref x2), .val (.int 0), .val (.int 2), .unset, .unset] [] := by first | (simp [entryFrame, mkF, argsToLocals, Value.category]; done) | rfl
def Q12n2l (Z : State) (o0 o2 : Addr) (k0 k2 : ClassId) (c0 c1 : Int32) (h0 : Heap) (n0 : Nat) (v : Option Value) (h : Heap) (L : List Loc) : Prop := v = some (.int 2) ∧ Fr n0 L ∧ Keep h0 h [o2] ∧ Arv Z h o2 k2 .byte (2 : Int32) [(.int ((c0.toInt8.toInt32).toInt8.toInt32)), (.int ((c1.toInt8.toInt32).toInt8.toInt32))] (.int 0)
set_option maxRecDepth 65536 in
set_option maxHeartbeats 40000000 in
theorem rm12n2l (l : Launch) (Z : State) (a0 : Array Value) (hw : ∀ d ∈ tables_1, d.before a0 Z = true) (ws : List Jvm.Cond) (o0 o2 : Addr) (k0 k2 : ClassId) (c0 c1 : Int32) (h0 : Heap) (n0 : Nat) (Z0 : n0 ≤ h0.size) (V0 : Arv Z h0 o0 k0 .char (2 : Int32) [(.int c0), (.int c1)] (.int 0)) (V2 : Arv Z h0 o2 k2 .byte (2 : Int32) [(.int 0), (.int 0)] (.int 0)) (g_o2 : n0 ≤ o2) (n02 : o0 ≠ o2) (hb0 : ¬ ((255 : Int32) < c0)) (hb1 : ¬ ((255 : Int32) < c1)) :
    MetFree l (⟨"java/lang/StringUTF16", "compress", "([CI[BII)I"⟩ : MethodName) (head1 (Jvm.Cond.code (⟨"java/lang/StringUTF16", "compress", "([CI[BII)I"⟩ : MethodName) jdk_52_method_21_code 7 (some .int) :: ws) (⟨0, 0, 0, 0⟩ : Room)) (fun a U => a = #[(.ref o0), (.int 0), (.ref o2), (.int 0), (.int 2)] ∧ Z.Warmed39 U.vm ∧ U.heap = h0) (fun _ _ _ _ _ => True) (fun _ U o U' => ∃ v L, o = .returned v ∧ Q12n2l Z o0 o2 k0 k2 c0 c1 h0 n0 v U'.heap L ∧ FrameEnd U o U' L (⟨0, 0, 0, 0⟩ : Room).cells (⟨0, 0, 0, 0⟩ : Room).slots) := by
  refine MetFree.of_bodySF (plainFor_of_name pn_0) hisR ?_
  intro p e s m args below meth c s₁ Bd hml0 hP hK
  obtain ⟨rfl, hZ, hh⟩ := hP
  have hx := Bd.exec
  have hby := Bd.bytes
  have hml : c.maxLocals = 7 := hml0
  have hown : s.vm.findClass "java/lang/StringUTF16" = some m.cls := findClass_of_methodNamed Bd.named
  have hnm := (name_of_methodNamed Bd.named Bd.method).1
  have X0 : Stand p l e (⟨0, 0, 0, 0⟩ : Room) s m #[(.ref o0), (.int 0), (.ref o2), (.int 0), (.int 2)] below meth c s₁ [] 0 0 := Stand.of_body Bd
  have e0 : s₁.heap = h0 := by rw [← hh, Bd.state]; rfl
  have N0 := Fr.nil n0
  have hret := Bd.returns
  have hlk := BodyLoose.notSynchronized Bd
  show own_Out p e below (fun o U' => ∃ v L, o = .returned v ∧ Q12n2l Z o0 o2 k0 k2 c0 c1 h0 n0 v U'.heap L ∧ FrameEnd s o U' L (⟨0, 0, 0, 0⟩ : Room).cells (⟨0, 0, 0, 0⟩ : Room).slots) (s₁.setTop (entryFrame m #[(.ref o0), (.int 0), (.ref o2), (.int 0), (.int 2)] 7))
  refine own_of (fun t k => castTop (ef_12n2l m o0 o2) k) ?_
  show own_Out p e below _ (s₁.setTop (mkF m 0 #[rv o0, iv 0, rv o2, iv 0, iv 2, .unset, .unset] []))
  refine o_iconst X0 hx hby d12_0 (z := 0) rfl (q := 1) rfl ?_
  refine o_istore X0 hx hby d12_1 (l' := #[rv o0, iv 0, rv o2, iv 0, iv 2, iv 0, .unset]) rfl (q := 3) rfl ?_
  refine o_iload X0 hx hby d12_3 rfl (q := 5) rfl ?_
  refine o_iload X0 hx hby d12_5 rfl (q := 7) rfl ?_
  refine o_icN X0 hx hby d12_7 (tlt (by decide : (0 : Int32) < (2 : Int32))).2.1 (q := 10) rfl ?_
  refine o_aloadN X0 hx hby d12_10 rfl rfl (q := 11) rfl ?_
  refine o_iloadN X0 hx hby d12_11 rfl (q := 12) rfl ?_
  refine o_caV X0 hx hby hZ e0 V0 ⟨by decide, by decide⟩ (v := .int c0) rfl d12_12 (q := 13) rfl ?_
  refine o_istore X0 hx hby d12_13 (l' := #[rv o0, iv 0, rv o2, iv 0, iv 2, iv 0, iv c0]) rfl (q := 15) rfl ?_
  refine o_iload X0 hx hby d12_15 rfl (q := 17) rfl ?_
  refine o_sipush X0 hx hby d12_17 (z := 255) rfl (q := 20) rfl ?_
  refine o_icY X0 hx hby d12_20 (flt hb0).2.2.2 (by decide) (q := 26) (by decide) ?_
  refine o_aloadN X0 hx hby d12_26 rfl rfl (q := 27) rfl ?_
  refine o_iloadN X0 hx hby d12_27 rfl (q := 28) rfl ?_
  refine o_iload X0 hx hby d12_28 rfl (q := 30) rfl ?_
  refine o_i2b X0 hx hby d12_30 rfl (q := 31) rfl ?_
  obtain ⟨cl1, Ar1, q1, S1, N1', H1, G1⟩ := id V2
  have hin2 : ¬ ((0 : Int32) < 0 ∨ cl1.slots.size ≤ ((0 : Int32)).toNatClampNeg) := inb_of S1 ⟨by decide, by decide⟩
  obtain ⟨T2, h2, X2, e2, W2, st2⟩ := stB X0 hx hZ e0 Ar1 (j := (0 : Int32)) hin2 (g := (mkF m 31 #[rv o0, iv 0, rv o2, iv 0, iv 2, iv 0, iv c0] [.int (c0.toInt8.toInt32), .int 0, .ref o2])) rfl rfl (hb hby d12_31)
  have V2 := Arv.set Ar1 q1 S1 N1' H1 G1 (fits_nar_byte _) W2 0 rfl (Nat.le_of_ble_eq_true rfl)
  refine own_of st2 ?_
  show own_Out p e below _ (T2.setTop (mkF m 32 #[rv o0, iv 0, rv o2, iv 0, iv 2, iv 0, iv c0] []))
  refine o_iinc X2 hx hby d12_32 rfl (l' := #[rv o0, iv 1, rv o2, iv 0, iv 2, iv 0, iv c0]) rfl (q := 35) rfl ?_
  refine o_iinc X2 hx hby d12_35 rfl (l' := #[rv o0, iv 1, rv o2, iv 1, iv 2, iv 0, iv c0]) rfl (q := 38) rfl ?_
  refine o_iinc X2 hx hby d12_38 rfl (l' := #[rv o0, iv 1, rv o2, iv 1, iv 2, iv 1, iv c0]) rfl (q := 41) rfl ?_
  refine o_goto X2 hx hby d12_41 (by decide) (q := 3) (by decide) ?_
  refine o_iload X2 hx hby d12_3 rfl (q := 5) rfl ?_
  refine o_iload X2 hx hby d12_5 rfl (q := 7) rfl ?_
  refine o_icN X2 hx hby d12_7 (tlt (by decide : (1 : Int32) < (2 : Int32))).2.1 (q := 10) rfl ?_
  refine o_aloadN X2 hx hby d12_10 rfl rfl (q := 11) rfl ?_
  refine o_iloadN X2 hx hby d12_11 rfl (q := 12) rfl ?_
  have qz3 := (V0.other W2 n02)
  refine o_caV X2 hx hby hZ e2 qz3 ⟨by decide, by decide⟩ (v := .int c1) rfl d12_12 (q := 13) rfl ?_
  refine o_istore X2 hx hby d12_13 (l' := #[rv o0, iv 1, rv o2, iv 1, iv 2, iv 1, iv c1]) rfl (q := 15) rfl ?_
  refine o_iload X2 hx hby d12_15 rfl (q := 17) rfl ?_
  refine o_sipush X2 hx hby d12_17 (z := 255) rfl (q := 20) rfl ?_
  refine o_icY X2 hx hby d12_20 (flt hb1).2.2.2 (by decide) (q := 26) (by decide) ?_
  refine o_aloadN X2 hx hby d12_26 rfl rfl (q := 27) rfl ?_
  refine o_iloadN X2 hx hby d12_27 rfl (q := 28) rfl ?_
  refine o_iload X2 hx hby d12_28 rfl (q := 30) rfl ?_
  refine o_i2b X2 hx hby d12_30 rfl (q := 31) rfl ?_
  obtain ⟨cl4, Ar4, q4, S4, N4', H4, G4⟩ := id V2
  have hin5 : ¬ ((1 : Int32) < 0 ∨ cl4.slots.size ≤ ((1 : Int32)).toNatClampNeg) := inb_of S4 ⟨by decide, by decide⟩
  obtain ⟨T5, h5, X5, e5, W5, st5⟩ := stB X2 hx hZ e2 Ar4 (j := (1 : Int32)) hin5 (g := (mkF m 31 #[rv o0, iv 1, rv o2, iv 1, iv 2, iv 1, iv c1] [.int (c1.toInt8.toInt32), .int 1, .ref o2])) rfl rfl (hb hby d12_31)
  have V5 := Arv.set Ar4 q4 S4 N4' H4 G4 (fits_nar_byte _) W5 1 rfl (Nat.le_of_ble_eq_true rfl)
  refine own_of st5 ?_
  show own_Out p e below _ (T5.setTop (mkF m 32 #[rv o0, iv 1, rv o2, iv 1, iv 2, iv 1, iv c1] []))
  refine o_iinc X5 hx hby d12_32 rfl (l' := #[rv o0, iv 2, rv o2, iv 1, iv 2, iv 1, iv c1]) rfl (q := 35) rfl ?_
  refine o_iinc X5 hx hby d12_35 rfl (l' := #[rv o0, iv 2, rv o2, iv 2, iv 2, iv 1, iv c1]) rfl (q := 38) rfl ?_
  refine o_iinc X5 hx hby d12_38 rfl (l' := #[rv o0, iv 2, rv o2, iv 2, iv 2, iv 2, iv c1]) rfl (q := 41) rfl ?_
  refine o_goto X5 hx hby d12_41 (by decide) (q := 3) (by decide) ?_
  refine o_iload X5 hx hby d12_3 rfl (q := 5) rfl ?_
  refine o_iload X5 hx hby d12_5 rfl (q := 7) rfl ?_
  refine o_icY X5 hx hby d12_7 (flt (by decide : ¬ ((2 : Int32) < (2 : Int32)))).2.1 (by decide) (q := 44) (by decide) ?_
  refine o_iload X5 hx hby d12_44 rfl (q := 46) rfl ?_
  have qz6 := (((Keep.refl h0 [o2]).wr W2 (Or.inl (List.mem_of_getElem? (i := 0) rfl))).wr W5 (Or.inl (List.mem_of_getElem? (i := 0) rfl)))
  exact own_outI X5 hx hlk hret (hb hby d12_46) (Q := Q12n2l Z o0 o2 k0 k2 c0 c1 h0 n0) (by rw [e5]; exact ⟨rfl, (Fr.snoc X5 (Fr.snoc X2 N0 g_o2) g_o2), qz6, V5⟩) (by decide) (by decide)
theorem ef_11n2l (m : MethodId) (x0 : Addr) : entryFrame m #[(.ref x0), (.int 0), (.int 2)] 6 = mkF m 0 #[.val (.ref x0), .val (.int 0), .val (.int 2), .unset, .unset, .unset] [] := by first | (simp [entryFrame, mkF, argsToLocals, Value.category]; done) | rfl
def Q11n2l (Z : State) (o0 : Addr) (k0 : ClassId) (c0 c1 : Int32) (h0 : Heap) (n0 : Nat) (v : Option Value) (h : Heap) (L : List Loc) : Prop := ∃ (b : Addr) (k : ClassId), v = some (.ref b) ∧ Fr n0 L ∧ Keep h0 h [] ∧ Arv Z h b k .byte (2 : Int32) [(.int ((c0.toInt8.toInt32).toInt8.toInt32)), (.int ((c1.toInt8.toInt32).toInt8.toInt32))] (.int 0) ∧ n0 ≤ b ∧ h0.size ≤ b
set_option maxRecDepth 65536 in
set_option maxHeartbeats 40000000 in
theorem rm11n2l (l : Launch) (Z : State) (a0 : Array Value) (hw : ∀ d ∈ tables_1, d.before a0 Z = true) (ws : List Jvm.Cond) (o0 : Addr) (k0 : ClassId) (c0 c1 : Int32) (h0 : Heap) (n0 : Nat) (Z0 : n0 ≤ h0.size) (V0 : Arv Z h0 o0 k0 .char (2 : Int32) [(.int c0), (.int c1)] (.int 0)) (hb0 : ¬ ((255 : Int32) < c0)) (hb1 : ¬ ((255 : Int32) < c1)) :
    MetFree l (⟨"java/lang/StringUTF16", "compress", "([CII)[B"⟩ : MethodName) (head1 (Jvm.Cond.code (⟨"java/lang/StringUTF16", "compress", "([CII)[B"⟩ : MethodName) jdk_52_method_16_code 6 (some (.array .byte)) :: ws) (⟨1, 1, 2, 18⟩ : Room)) (fun a U => a = #[(.ref o0), (.int 0), (.int 2)] ∧ Z.Warmed39 U.vm ∧ U.heap = h0) (fun _ _ _ _ _ => True) (fun _ U o U' => ∃ v L, o = .returned v ∧ Q11n2l Z o0 k0 c0 c1 h0 n0 v U'.heap L ∧ FrameEnd U o U' L (⟨1, 1, 2, 18⟩ : Room).cells (⟨1, 1, 2, 18⟩ : Room).slots) := by
  refine MetFree.of_bodySF (plainFor_of_name pn_0) hisR ?_
  intro p e s m args below meth c s₁ Bd hml0 hP hK
  obtain ⟨rfl, hZ, hh⟩ := hP
  have hx := Bd.exec
  have hby := Bd.bytes
  have hml : c.maxLocals = 6 := hml0
  have hown : s.vm.findClass "java/lang/StringUTF16" = some m.cls := findClass_of_methodNamed Bd.named
  have hnm := (name_of_methodNamed Bd.named Bd.method).1
  have X0 : Stand p l e (⟨1, 1, 2, 18⟩ : Room) s m #[(.ref o0), (.int 0), (.int 2)] below meth c s₁ [] 0 0 := Stand.of_body Bd
  have e0 : s₁.heap = h0 := by rw [← hh, Bd.state]; rfl
  have N0 := Fr.nil n0
  have hret := Bd.returns
  have hlk := BodyLoose.notSynchronized Bd
  show own_Out p e below (fun o U' => ∃ v L, o = .returned v ∧ Q11n2l Z o0 k0 c0 c1 h0 n0 v U'.heap L ∧ FrameEnd s o U' L (⟨1, 1, 2, 18⟩ : Room).cells (⟨1, 1, 2, 18⟩ : Room).slots) (s₁.setTop (entryFrame m #[(.ref o0), (.int 0), (.int 2)] 6))
  refine own_of (fun t k => castTop (ef_11n2l m o0) k) ?_
  show own_Out p e below _ (s₁.setTop (mkF m 0 #[rv o0, iv 0, iv 2, .unset, .unset, .unset] []))
  refine o_iloadN X0 hx hby d11_0 rfl (q := 1) rfl ?_
  obtain ⟨T1, h1, k1, X1, e1, E1, A1, st1⟩ := newP X0 hx hZ (w_ hw 19 rfl) e0 (g := (mkF m 1 #[rv o0, iv 0, iv 2, .unset, .unset, .unset] [.int 2])) rfl (hb hby d11_1) rfl (by decide) (cap := 2) (by decide) (by decide) (by decide) (by decide)
  obtain ⟨b1, g1⟩ : ∃ z, z = h0.size := ⟨_, rfl⟩
  rw [← g1] at A1 st1
  have g_b1 : n0 ≤ b1 := Nat.le_trans Z0 (Nat.le_of_eq g1.symm)
  have sz_b1 : h0.size ≤ b1 := Nat.le_trans (Nat.le_refl h0.size) (Nat.le_of_eq g1.symm)
  have V_b1 : Arv Z h1 b1 k1 .byte (2 : Int32) [(.int 0), (.int 0)] (.int 0) := (Arv.new A1 (by decide)).pad (pad_rep [] (.int 0) 2)
  refine own_of st1 ?_
  show own_Out p e below _ (T1.setTop (mkF m 3 #[rv o0, iv 0, iv 2, .unset, .unset, .unset] [.ref b1]))
  refine o_astoreN X1 hx hby d11_3 rfl (l' := #[rv o0, iv 0, iv 2, rv b1, .unset, .unset]) rfl (q := 4) rfl ?_
  refine o_aloadN X1 hx hby d11_4 rfl rfl (q := 5) rfl ?_
  refine o_iloadN X1 hx hby d11_5 rfl (q := 6) rfl ?_
  refine o_aloadN X1 hx hby d11_6 rfl rfl (q := 7) rfl ?_
  refine o_iconst X1 hx hby d11_7 (z := 0) rfl (q := 8) rfl ?_
  refine o_iloadN X1 hx hby d11_8 rfl (q := 9) rfl ?_
  have ne_o0_b1 : o0 ≠ b1 := Nat.ne_of_lt (Nat.lt_of_lt_of_le V0.lt sz_b1)
  have qz3 := (V0.ext E1)
  have qz4 := (Nat.le_trans Z0 E1.1)
  obtain ⟨_, _, ⟨T2, L2, k2, n2⟩, -, X2, ⟨Lc2, hQ2, l2, y2, z2⟩, st2⟩ := Jvm.LawKit.callS X1 hx (y := (⟨"java/lang/StringUTF16", "compress", "([CI[BII)I"⟩ : MethodName)) hown (mvT hZ (w_ hw 73 rfl)) (mvT hZ (w_ hw 74 rfl)) (mvT hZ (w_ hw 71 rfl)) (mvT hZ (w_ hw 75 rfl)) (by decide) (backOf (W := 0) (rm12n2l l Z a0 hw [] o0 b1 k0 k1 c0 c1 h1 n0 qz4 qz3 V_b1 g_b1 ne_o0_b1 hb0 hb1) hZ (w_ hw 75 rfl) (w_ hw 71 rfl) (by decide) (by decide)) (g := (mkF m 9 #[rv o0, iv 0, iv 2, rv b1, .unset, .unset] [.int 2, .int 0, .ref b1, .int 0, .ref o0])) rfl (by rw [hml]; rfl) (argsL := [(.ref o0), (.int 0), (.ref b1), (.int 0), (.int 2)]) (rest := []) (lenOf pd_0 rfl) rfl (by show 2 * 0 + _ ≤ _; exact Nat.le_of_eq rfl) (hb hby d11_9) (fun _ _ => ⟨rfl, e1, (by decide : 1 + 0 ≤ _), (by decide : 2 + 0 ≤ _)⟩)
  dsimp only [Pt.U, Pt.locs, Pt.cells, Pt.slots] at X2 l2 y2 z2 st2 hQ2
  subst l2 y2 z2
  obtain ⟨rfl, N2q, K2, V2⟩ := hQ2
  have N2 := Fr.app N0 N2q
  refine own_of st2 ?_
  show own_Out p e below _ (T2.setTop (mkF m 12 #[rv o0, iv 0, iv 2, rv b1, .unset, .unset] [.int 2]))
  refine o_istore X2 hx hby d11_12 (l' := #[rv o0, iv 0, iv 2, rv b1, iv 2, .unset]) rfl (q := 14) rfl ?_
  refine o_iload X2 hx hby d11_14 rfl (q := 16) rfl ?_
  refine o_iloadN X2 hx hby d11_16 rfl (q := 17) rfl ?_
  refine o_icY X2 hx hby d11_17 (teq (by decide : (2 : Int32) = (2 : Int32))).1 (by decide) (q := 57) (by decide) ?_
  refine o_aloadN X2 hx hby d11_57 rfl rfl (q := 58) rfl ?_
  have qz5 := (((Keep.refl h0 []).ext E1).trans K2 (allS (Or.inr sz_b1) all0))
  exact own_outR X2 hx hlk hret rfl rfl rfl (hb hby d11_58) (Q := Q11n2l Z o0 k0 c0 c1 h0 n0) ⟨b1, k1, rfl, N2, qz5, V2, g_b1, sz_b1⟩ (by decide) (by decide)
theorem ef_13v0n2 (m : MethodId) (x0 : Addr) : entryFrame m #[(.ref x0), (.int 2)] 2 = mkF m 0 #[.val (.ref x0), .val (.int 2)] [] := by first | (simp [entryFrame, mkF, argsToLocals, Value.category]; done) | rfl
def Q13v0n2 (Z : State) (o0 : Addr) (k : ClassId) (u0 u1 : Int32) (h0 : Heap) (n0 : Nat) (v : Option Value) (h : Heap) (L : List Loc) : Prop := v = some (.int 0) ∧ Fr n0 L ∧ h = h0
set_option maxRecDepth 65536 in
set_option maxHeartbeats 40000000 in
theorem rm13v0n2 (l : Launch) (Z : State) (a0 : Array Value) (hw : ∀ d ∈ tables_1, d.before a0 Z = true) (ws : List Jvm.Cond) (o0 : Addr) (k : ClassId) (u0 u1 : Int32) (h0 : Heap) (n0 : Nat) (Z0 : n0 ≤ h0.size) (V : Arv Z h0 o0 k .byte (2 : Int32) [(.int u0), (.int u1)] (.int 0)) :
    MetFree l (⟨"java/lang/StringUTF16", "coderFromArrayLen", "([BI)B"⟩ : MethodName) (head1 (Jvm.Cond.code (⟨"java/lang/StringUTF16", "coderFromArrayLen", "([BI)B"⟩ : MethodName) jdk_52_method_15_code 2 (some .byte) :: ws) (⟨0, 0, 0, 0⟩ : Room)) (fun a U => a = #[(.ref o0), (.int 2)] ∧ Z.Warmed39 U.vm ∧ U.heap = h0) (fun _ _ _ _ _ => True) (fun _ U o U' => ∃ v L, o = .returned v ∧ Q13v0n2 Z o0 k u0 u1 h0 n0 v U'.heap L ∧ FrameEnd U o U' L (⟨0, 0, 0, 0⟩ : Room).cells (⟨0, 0, 0, 0⟩ : Room).slots) := by
  refine MetFree.of_bodySF (plainFor_of_name pn_0) hisR ?_
  intro p e s m args below meth c s₁ Bd hml0 hP hK
  obtain ⟨rfl, hZ, hh⟩ := hP
  have hx := Bd.exec
  have hby := Bd.bytes
  have hml : c.maxLocals = 2 := hml0
  have hown : s.vm.findClass "java/lang/StringUTF16" = some m.cls := findClass_of_methodNamed Bd.named
  have hnm := (name_of_methodNamed Bd.named Bd.method).1
  have X0 : Stand p l e (⟨0, 0, 0, 0⟩ : Room) s m #[(.ref o0), (.int 2)] below meth c s₁ [] 0 0 := Stand.of_body Bd
  have e0 : s₁.heap = h0 := by rw [← hh, Bd.state]; rfl
  have N0 := Fr.nil n0
  have hret := Bd.returns
  have hlk := BodyLoose.notSynchronized Bd
  show own_Out p e below (fun o U' => ∃ v L, o = .returned v ∧ Q13v0n2 Z o0 k u0 u1 h0 n0 v U'.heap L ∧ FrameEnd s o U' L (⟨0, 0, 0, 0⟩ : Room).cells (⟨0, 0, 0, 0⟩ : Room).slots) (s₁.setTop (entryFrame m #[(.ref o0), (.int 2)] 2))
  refine own_of (fun t k => castTop (ef_13v0n2 m o0) k) ?_
  show own_Out p e below _ (s₁.setTop (mkF m 0 #[rv o0, iv 2] []))
  refine o_iloadN X0 hx hby d13_0 rfl (q := 1) rfl ?_
  refine o_aloadN X0 hx hby d13_1 rfl rfl (q := 2) rfl ?_
  refine o_lenV X0 hx hby hZ e0 V d13_2 (q := 3) rfl ?_
  refine o_isub X0 hx hby d13_3 (z := 0) rfl (q := 4) rfl ?_
  refine o_bipush X0 hx hby d13_4 (z := 31) rfl (q := 6) rfl ?_
  refine o_iushr X0 hx hby d13_6 (z := 0) rfl (q := 7) rfl ?_
  refine o_i2b X0 hx hby d13_7 (z := 0) rfl (q := 8) rfl ?_
  exact own_outN X0 hx hlk (t := .byte) hret (by simp) (hb hby d13_8) (z' := (0 : Int32)) rfl (Q := Q13v0n2 Z o0 k u0 u1 h0 n0) ⟨rfl, N0, e0⟩ (by decide) (by decide)
theorem ef_3n2l (m : MethodId) (x0 x1 : Addr) : entryFrame m #[(.ref x0), (.ref x1), (.int 0), (.int 2), .null] 6 = mkF m 0 #[.val (.ref x0), .val (.ref x1), .val (.int 0), .val (.int 2), .val .null, .unset] [] := by first | (simp [entryFrame, mkF, argsToLocals, Value.category]; done) | rfl
def Q3n2l (Z : State) (o0 o1 : Addr) (k1 : ClassId) (c0 c1 cs : Int32) (h0 : Heap) (n0 : Nat) (v : Option Value) (h : Heap) (L : List Loc) : Prop := ∃ (b : Addr) (k : ClassId), v = none ∧ Fr n0 L ∧ Keep h0 h [o0] ∧ Exa Z h o0 "java/lang/String" ∧ Fld Z h o0 "java/lang/String" "value" "[B" (.ref b) ∧ Fld Z h o0 "java/lang/String" "coder" "B" (.int 0) ∧ Arv Z h b k .byte (2 : Int32) [(.int ((c0.toInt8.toInt32).toInt8.toInt32)), (.int ((c1.toInt8.toInt32).toInt8.toInt32))] (.int 0) ∧ n0 ≤ b ∧ h0.size ≤ b
set_option maxRecDepth 65536 in
set_option maxHeartbeats 40000000 in
theorem rm3n2l (l : Launch) (Z : State) (a0 : Array Value) (hw : ∀ d ∈ tables_1, d.before a0 Z = true) (ws : List Jvm.Cond) (o0 o1 : Addr) (k1 : ClassId) (c0 c1 cs : Int32) (h0 : Heap) (n0 : Nat) (Z0 : n0 ≤ h0.size) (E : Exa Z h0 o0 "java/lang/String") (F_value : Fld Z h0 o0 "java/lang/String" "value" "[B" .null) (F_coder : Fld Z h0 o0 "java/lang/String" "coder" "B" (.int 0)) (g_o0 : n0 ≤ o0) (V1 : Arv Z h0 o1 k1 .char (2 : Int32) [(.int c0), (.int c1)] (.int 0)) (n10 : o1 ≠ o0) (S_cs : Sta Z h0 "java/lang/String" "COMPACT_STRINGS" "Z" (.int cs)) (hcs : ¬ (cs = (0 : Int32))) (hb0 : ¬ ((255 : Int32) < c0)) (hb1 : ¬ ((255 : Int32) < c1)) :
    MetFree l (⟨"java/lang/String", "<init>", "([CIILjava/lang/Void;)V"⟩ : MethodName) (head1 (Jvm.Cond.code (⟨"java/lang/String", "<init>", "([CIILjava/lang/Void;)V"⟩ : MethodName) jdk_42_method_149_code 6 none :: ws) (⟨2, 1, 2, 35⟩ : Room)) (fun a U => a = #[(.ref o0), (.ref o1), (.int 0), (.int 2), .null] ∧ Z.Warmed39 U.vm ∧ U.heap = h0) (fun _ _ _ _ _ => True) (fun _ U o U' => ∃ v L, o = .returned v ∧ Q3n2l Z o0 o1 k1 c0 c1 cs h0 n0 v U'.heap L ∧ FrameEnd U o U' L (⟨2, 1, 2, 35⟩ : Room).cells (⟨2, 1, 2, 35⟩ : Room).slots) := by
  refine MetFree.of_bodySF (plainFor_of_name pn_1) hisR ?_
  intro p e s m args below meth c s₁ Bd hml0 hP hK
  obtain ⟨rfl, hZ, hh⟩ := hP
  have hx := Bd.exec
  have hby := Bd.bytes
  have hml : c.maxLocals = 6 := hml0
  have hown : s.vm.findClass "java/lang/String" = some m.cls := findClass_of_methodNamed Bd.named
  have hnm := (name_of_methodNamed Bd.named Bd.method).1
  have X0 : Stand p l e (⟨2, 1, 2, 35⟩ : Room) s m #[(.ref o0), (.ref o1), (.int 0), (.int 2), .null] below meth c s₁ [] 0 0 := Stand.of_body Bd
  have e0 : s₁.heap = h0 := by rw [← hh, Bd.state]; rfl
  have N0 := Fr.nil n0
  have hret := Bd.returns
  have hlk := BodyLoose.notSynchronized Bd
  show own_Out p e below (fun o U' => ∃ v L, o = .returned v ∧ Q3n2l Z o0 o1 k1 c0 c1 cs h0 n0 v U'.heap L ∧ FrameEnd s o U' L (⟨2, 1, 2, 35⟩ : Room).cells (⟨2, 1, 2, 35⟩ : Room).slots) (s₁.setTop (entryFrame m #[(.ref o0), (.ref o1), (.int 0), (.int 2), .null] 6))
  refine own_of (fun t k => castTop (ef_3n2l m o0 o1) k) ?_
  show own_Out p e below _ (s₁.setTop (mkF m 0 #[rv o0, rv o1, iv 0, iv 2, .val (.null), .unset] []))
  refine o_aloadN X0 hx hby d3_0 rfl rfl (q := 1) rfl ?_
  obtain ⟨T1, X1, e1, st1⟩ := initO X0 hx hZ hown (w_ hw 15 rfl) (w_ hw 16 rfl) (w_ hw 17 rfl) e0 (g := (mkF m 1 #[rv o0, rv o1, iv 0, iv 2, .val (.null), .unset] [.ref o0])) rfl (by rw [hml]; rfl) rfl (hb hby d3_1) (by decide) (W := 0) (by show 2 * 0 + _ ≤ _; exact Nat.le_of_eq rfl) (by decide)
  refine own_of st1 ?_
  show own_Out p e below _ (T1.setTop (mkF m 4 #[rv o0, rv o1, iv 0, iv 2, .val (.null), .unset] []))
  refine o_iloadN X1 hx hby d3_4 rfl (q := 5) rfl ?_
  refine o_ifY X1 hx hby d3_5 ((if0 _ _).trans (feq (by decide : ¬ ((2 : Int32) = (0 : Int32)))).2) (by decide) (q := 27) (by decide) ?_
  obtain ⟨T2, X2, e2, st2⟩ := getS2 X1 hx hZ hown (host := "") (Or.inl (w_ hw 64 rfl)) Via.refl e1 S_cs (g := (mkF m 27 #[rv o0, rv o1, iv 0, iv 2, .val (.null), .unset] [])) rfl (hb hby d3_27)
  refine own_of st2 ?_
  show own_Out p e below _ (T2.setTop (mkF m 30 #[rv o0, rv o1, iv 0, iv 2, .val (.null), .unset] [.int cs]))
  refine o_ifN X2 hx hby d3_30 ((if0 _ _).trans (feq hcs).1) (q := 33) rfl ?_
  refine o_aloadN X2 hx hby d3_33 rfl rfl (q := 34) rfl ?_
  refine o_iloadN X2 hx hby d3_34 rfl (q := 35) rfl ?_
  refine o_iloadN X2 hx hby d3_35 rfl (q := 36) rfl ?_
  obtain ⟨_, _, ⟨T3, L3, k3, n3⟩, -, X3, ⟨Lc3, hQ3, l3, y3, z3⟩, st3⟩ := Jvm.LawKit.callS X2 hx (y := (⟨"java/lang/StringUTF16", "compress", "([CII)[B"⟩ : MethodName)) hown (mvT hZ (w_ hw 69 rfl)) (mvT hZ (w_ hw 70 rfl)) (mvT hZ (w_ hw 71 rfl)) (mvT hZ (w_ hw 72 rfl)) (by decide) (backOf (W := 0) (rm11n2l l Z a0 hw [] o1 k1 c0 c1 h0 n0 Z0 V1 hb0 hb1) hZ (w_ hw 72 rfl) (w_ hw 71 rfl) (by decide) (by decide)) (g := (mkF m 36 #[rv o0, rv o1, iv 0, iv 2, .val (.null), .unset] [.int 2, .int 0, .ref o1])) rfl (by rw [hml]; rfl) (argsL := [(.ref o1), (.int 0), (.int 2)]) (rest := []) (lenOf pd_1 rfl) rfl (by show 2 * 0 + _ ≤ _; exact Nat.le_of_eq rfl) (hb hby d3_36) (fun _ _ => ⟨rfl, e2, (by decide : 0 + 1 ≤ _), (by decide : 0 + 2 ≤ _)⟩)
  dsimp only [Pt.U, Pt.locs, Pt.cells, Pt.slots] at X3 l3 y3 z3 st3 hQ3
  subst l3 y3 z3
  obtain ⟨b3, k3, rfl, N3q, K3, V3, hgb_3, hsb_3⟩ := hQ3
  have N3 := Fr.app N0 N3q
  have sz_b3 : h0.size ≤ b3 := Nat.le_trans (Nat.le_refl h0.size) hsb_3
  refine own_of st3 ?_
  show own_Out p e below _ (T3.setTop (mkF m 39 #[rv o0, rv o1, iv 0, iv 2, .val (.null), .unset] [.ref b3]))
  refine o_astore X3 hx hby d3_39 rfl (l' := #[rv o0, rv o1, iv 0, iv 2, .val (.null), rv b3]) rfl (q := 41) rfl ?_
  refine o_aloadN X3 hx hby d3_41 rfl rfl (q := 42) rfl ?_
  refine o_aload X3 hx hby d3_42 rfl rfl (q := 44) rfl ?_
  refine o_iloadN X3 hx hby d3_44 rfl (q := 45) rfl ?_
  have qz5 := (Nat.le_trans Z0 K3.1)
  obtain ⟨_, _, ⟨T4, L4, k4, n4⟩, -, X4, ⟨Lc4, hQ4, l4, y4, z4⟩, st4⟩ := Jvm.LawKit.callS X3 hx (y := (⟨"java/lang/StringUTF16", "coderFromArrayLen", "([BI)B"⟩ : MethodName)) hown (mvT hZ (w_ hw 76 rfl)) (mvT hZ (w_ hw 77 rfl)) (mvT hZ (w_ hw 71 rfl)) (mvT hZ (w_ hw 78 rfl)) (by decide) (backOf (W := 1) (rm13v0n2 l Z a0 hw [] b3 k3 ((c0.toInt8.toInt32).toInt8.toInt32) ((c1.toInt8.toInt32).toInt8.toInt32) T3.heap n0 qz5 V3) hZ (w_ hw 78 rfl) (w_ hw 71 rfl) (by decide) (by decide)) (g := (mkF m 45 #[rv o0, rv o1, iv 0, iv 2, .val (.null), rv b3] [.int 2, .ref b3, .ref o0])) rfl (by rw [hml]; rfl) (argsL := [(.ref b3), (.int 2)]) (rest := [(.ref o0)]) (lenOf pd_2 rfl) rfl (by show 2 * 0 + _ ≤ _; exact Nat.le_of_eq rfl) (hb hby d3_45) (fun _ _ => ⟨rfl, rfl, (by decide : 1 + 0 ≤ _), (by decide : 2 + 0 ≤ _)⟩)
  dsimp only [Pt.U, Pt.locs, Pt.cells, Pt.slots] at X4 l4 y4 z4 st4 hQ4
  subst l4 y4 z4
  obtain ⟨rfl, N4q, hh4⟩ := hQ4
  have N4 := Fr.app N3 N4q
  refine own_of st4 ?_
  show own_Out p e below _ (T4.setTop (mkF m 48 #[rv o0, rv o1, iv 0, iv 2, .val (.null), rv b3] [.int 0, .ref o0]))
  have qz7 := (F_coder.keep K3 nin0)
  have qz8 := (E.keep K3)
  obtain ⟨T6, h6, X6, e6, W6, st6⟩ := putFN X4 hx hZ hown (w_ hw 25 rfl) Via.refl hh4 qz7 qz8 (Or.inr ⟨(w_ hw 21 rfl), rfl, hnm⟩) (w_ hw 5 rfl) (ty := .byte) (v' := (.int 0)) (by decide) rfl rfl (g := (mkF m 48 #[rv o0, rv o1, iv 0, iv 2, .val (.null), rv b3] [.int 0, .ref o0])) rfl rfl (hb hby d3_48)
  have qz9 := (F_coder.keep K3 nin0)
  have Fw6 := qz9.same W6
  refine own_of st6 ?_
  show own_Out p e below _ (T6.setTop (mkF m 51 #[rv o0, rv o1, iv 0, iv 2, .val (.null), rv b3] []))
  refine o_aloadN X6 hx hby d3_51 rfl rfl (q := 52) rfl ?_
  refine o_aload X6 hx hby d3_52 rfl rfl (q := 54) rfl ?_
  have qz11 := ((F_value.keep K3 nin0).other W6 (Or.inr (slot_ne (Or.inr (w_ hw 20 rfl)) (Or.inr (w_ hw 21 rfl)) (by decide) (t := (.array .byte)) (t' := .byte) (by decide) (by decide))))
  have qz12 := (qz8.wr W6)
  obtain ⟨T10, h10, X10, e10, W10, st10⟩ := putF X6 hx hZ hown (host := "") (Or.inl (w_ hw 24 rfl)) Via.refl e6 qz11 qz12 (Or.inr ⟨(w_ hw 20 rfl), rfl, hnm⟩) (w_ hw 5 rfl) (ty := (.array .byte)) (by decide) rfl rfl (g := (mkF m 54 #[rv o0, rv o1, iv 0, iv 2, .val (.null), rv b3] [.ref b3, .ref o0])) rfl rfl (hb hby d3_54)
  have qz13 := ((F_value.keep K3 nin0).other W6 (Or.inr (slot_ne (Or.inr (w_ hw 20 rfl)) (Or.inr (w_ hw 21 rfl)) (by decide) (t := (.array .byte)) (t' := .byte) (by decide) (by decide))))
  have Fw10 := qz13.same W10
  refine own_of st10 ?_
  show own_Out p e below _ (T10.setTop (mkF m 57 #[rv o0, rv o1, iv 0, iv 2, .val (.null), rv b3] []))
  have qz14 := ((((Keep.refl h0 [o0]).trans K3 all0).wr W6 (Or.inl (List.mem_of_getElem? (i := 0) rfl))).wr W10 (Or.inl (List.mem_of_getElem? (i := 0) rfl)))
  have qz15 := (qz12.wr W10)
  have qz16 := (Fw6.other W10 (Or.inr (slot_ne (Or.inr (w_ hw 21 rfl)) (Or.inr (w_ hw 20 rfl)) (by decide) (t := .byte) (t' := (.array .byte)) (by decide) (by decide))))
  have ne_o0_b3 : o0 ≠ b3 := Nat.ne_of_lt (Nat.lt_of_lt_of_le E.lt sz_b3)
  have qz17 := ((V3.other W6 (Ne.symm ne_o0_b3)).other W10 (Ne.symm ne_o0_b3))
  exact own_outV X10 hx hlk hret (hb hby d3_57) (Q := Q3n2l Z o0 o1 k1 c0 c1 cs h0 n0) (by rw [e10]; exact ⟨b3, k3, rfl, (Fr.snoc X10 (Fr.snoc X6 N4 g_o0) g_o0), qz14, qz15, Fw10, qz16, qz17, hgb_3, sz_b3⟩) (by decide) (by decide)
theorem ef_2n2l (m : MethodId) (x0 x1 : Addr) : entryFrame m #[(.ref x0), (.ref x1)] 2 = mkF m 0 #[.val (.ref x0), .val (.ref x1)] [] := by first | (simp [entryFrame, mkF, argsToLocals, Value.category]; done) | rfl
def Q2n2l (Z : State) (o0 o1 : Addr) (k1 : ClassId) (c0 c1 cs : Int32) (h0 : Heap) (n0 : Nat) (v : Option Value) (h : Heap) (L : List Loc) : Prop := ∃ (b : Addr) (k : ClassId), v = none ∧ Fr n0 L ∧ Keep h0 h [o0] ∧ Exa Z h o0 "java/lang/String" ∧ Fld Z h o0 "java/lang/String" "value" "[B" (.ref b) ∧ Fld Z h o0 "java/lang/String" "coder" "B" (.int 0) ∧ Arv Z h b k .byte (2 : Int32) [(.int ((c0.toInt8.toInt32).toInt8.toInt32)), (.int ((c1.toInt8.toInt32).toInt8.toInt32))] (.int 0) ∧ n0 ≤ b ∧ h0.size ≤ b
set_option maxRecDepth 65536 in
set_option maxHeartbeats 40000000 in
theorem rm2n2l (l : Launch) (Z : State) (a0 : Array Value) (hw : ∀ d ∈ tables_1, d.before a0 Z = true) (ws : List Jvm.Cond) (o0 o1 : Addr) (k1 : ClassId) (c0 c1 cs : Int32) (h0 : Heap) (n0 : Nat) (Z0 : n0 ≤ h0.size) (E : Exa Z h0 o0 "java/lang/String") (F_value : Fld Z h0 o0 "java/lang/String" "value" "[B" .null) (F_coder : Fld Z h0 o0 "java/lang/String" "coder" "B" (.int 0)) (g_o0 : n0 ≤ o0) (V1 : Arv Z h0 o1 k1 .char (2 : Int32) [(.int c0), (.int c1)] (.int 0)) (n10 : o1 ≠ o0) (S_cs : Sta Z h0 "java/lang/String" "COMPACT_STRINGS" "Z" (.int cs)) (hcs : ¬ (cs = (0 : Int32))) (hb0 : ¬ ((255 : Int32) < c0)) (hb1 : ¬ ((255 : Int32) < c1)) :
    MetFree l (⟨"java/lang/String", "<init>", "([C)V"⟩ : MethodName) (head1 (Jvm.Cond.code (⟨"java/lang/String", "<init>", "([C)V"⟩ : MethodName) jdk_42_method_3_code 2 none :: ws) (⟨3, 1, 2, 52⟩ : Room)) (fun a U => a = #[(.ref o0), (.ref o1)] ∧ Z.Warmed39 U.vm ∧ U.heap = h0) (fun _ _ _ _ _ => True) (fun _ U o U' => ∃ v L, o = .returned v ∧ Q2n2l Z o0 o1 k1 c0 c1 cs h0 n0 v U'.heap L ∧ FrameEnd U o U' L (⟨3, 1, 2, 52⟩ : Room).cells (⟨3, 1, 2, 52⟩ : Room).slots) := by
  refine MetFree.of_bodySF (plainFor_of_name pn_1) hisR ?_
  intro p e s m args below meth c s₁ Bd hml0 hP hK
  obtain ⟨rfl, hZ, hh⟩ := hP
  have hx := Bd.exec
  have hby := Bd.bytes
  have hml : c.maxLocals = 2 := hml0
  have hown : s.vm.findClass "java/lang/String" = some m.cls := findClass_of_methodNamed Bd.named
  have hnm := (name_of_methodNamed Bd.named Bd.method).1
  have X0 : Stand p l e (⟨3, 1, 2, 52⟩ : Room) s m #[(.ref o0), (.ref o1)] below meth c s₁ [] 0 0 := Stand.of_body Bd
  have e0 : s₁.heap = h0 := by rw [← hh, Bd.state]; rfl
  have N0 := Fr.nil n0
  have hret := Bd.returns
  have hlk := BodyLoose.notSynchronized Bd
  show own_Out p e below (fun o U' => ∃ v L, o = .returned v ∧ Q2n2l Z o0 o1 k1 c0 c1 cs h0 n0 v U'.heap L ∧ FrameEnd s o U' L (⟨3, 1, 2, 52⟩ : Room).cells (⟨3, 1, 2, 52⟩ : Room).slots) (s₁.setTop (entryFrame m #[(.ref o0), (.ref o1)] 2))
  refine own_of (fun t k => castTop (ef_2n2l m o0 o1) k) ?_
  show own_Out p e below _ (s₁.setTop (mkF m 0 #[rv o0, rv o1] []))
  refine o_aloadN X0 hx hby d2_0 rfl rfl (q := 1) rfl ?_
  refine o_aloadN X0 hx hby d2_1 rfl rfl (q := 2) rfl ?_
  refine o_iconst X0 hx hby d2_2 (z := 0) rfl (q := 3) rfl ?_
  refine o_aloadN X0 hx hby d2_3 rfl rfl (q := 4) rfl ?_
  refine o_lenV X0 hx hby hZ e0 V1 d2_4 (q := 5) rfl ?_
  refine o_aconst_null X0 hx hby d2_5 (q := 6) rfl ?_
  obtain ⟨_, _, ⟨T1, L1, k1, n1⟩, -, X1, ⟨Lc1, hQ1, l1, y1, z1⟩, st1⟩ := X0.specialBack hx (y := (⟨"java/lang/String", "<init>", "([CIILjava/lang/Void;)V"⟩ : MethodName)) rfl hown (mvT hZ (w_ hw 11 rfl)) (mvT hZ (w_ hw 12 rfl)) (mvT hZ (w_ hw 14 rfl)) (by decide) (backOf (W := 0) (rm3n2l l Z a0 hw [] o0 o1 k1 c0 c1 cs h0 n0 Z0 E F_value F_coder g_o0 V1 n10 S_cs hcs hb0 hb1) hZ (w_ hw 14 rfl) (w_ hw 6 rfl) (by decide) (by decide)) (g := (mkF m 6 #[rv o0, rv o1] [.null, .int 2, .int 0, .ref o1, .ref o0])) rfl (by rw [hml]; rfl) (Steps.refl _) (a := o0) (argsL := [(.ref o1), (.int 0), (.int 2), .null]) (rest := []) (lenOf pd_3 rfl) rfl (by show 2 * 0 + _ ≤ _; exact Nat.le_of_eq rfl) (hb hby d2_6) (fun _ _ => ⟨rfl, e0, (by decide : 0 + 1 ≤ _), (by decide : 0 + 2 ≤ _)⟩)
  dsimp only [Pt.U, Pt.locs, Pt.cells, Pt.slots] at X1 l1 y1 z1 st1 hQ1
  subst l1 y1 z1
  obtain ⟨b1, k1, rfl, N1q, K1, E1, Fv1, Fc1, V1, hgb_1, hsb_1⟩ := hQ1
  have N1 := Fr.app N0 N1q
  have sz_b1 : h0.size ≤ b1 := Nat.le_trans (Nat.le_refl h0.size) hsb_1
  refine own_of (fun _ k => st1.trans k) ?_
  show own_Out p e below _ (T1.setTop (mkF m 9 #[rv o0, rv o1] []))
  have qz2 := ((Keep.refl h0 [o0]).trans K1 (allS (Or.inl (List.mem_of_getElem? (i := 0) rfl)) all0))
  exact own_outV X1 hx hlk hret (hb hby d2_9) (Q := Q2n2l Z o0 o1 k1 c0 c1 cs h0 n0) ⟨b1, k1, rfl, N1, qz2, E1, Fv1, Fc1, V1, hgb_1, sz_b1⟩ (by decide) (by decide)
theorem d3_8 : decode jdk_42_method_149_code 8 = .ok (.aload_n 0, 1) := by decide +kernel
theorem d3_9 : decode jdk_42_method_149_code 9 = .ok (.ldc 7, 2) := by decide +kernel
theorem d3_11 : decode jdk_42_method_149_code 11 = .ok (.getfield 9, 3) := by decide +kernel
theorem d3_14 : decode jdk_42_method_149_code 14 = .ok (.putfield 9, 3) := by decide +kernel
theorem d3_17 : decode jdk_42_method_149_code 17 = .ok (.aload_n 0, 1) := by decide +kernel
theorem d3_18 : decode jdk_42_method_149_code 18 = .ok (.ldc 7, 2) := by decide +kernel
theorem d3_20 : decode jdk_42_method_149_code 20 = .ok (.getfield 15, 3) := by decide +kernel
theorem d3_23 : decode jdk_42_method_149_code 23 = .ok (.putfield 15, 3) := by decide +kernel
theorem d3_26 : decode jdk_42_method_149_code 26 = .ok (.return_, 1) := by decide +kernel
theorem ef_3n0 (m : MethodId) (x0 x1 : Addr) : entryFrame m #[(.ref x0), (.ref x1), (.int 0), (.int 0), .null] 6 = mkF m 0 #[.val (.ref x0), .val (.ref x1), .val (.int 0), .val (.int 0), .val .null, .unset] [] := by first | (simp [entryFrame, mkF, argsToLocals, Value.category]; done) | rfl
def Q3n0 (Z : State) (o0 o1 : Addr) (k1 : ClassId) (h0 : Heap) (n0 : Nat) (v : Option Value) (h : Heap) (L : List Loc) : Prop := ∃ (b : Addr) (k : ClassId), v = none ∧ Fr n0 L ∧ Keep h0 h [o0] ∧ Exa Z h o0 "java/lang/String" ∧ Fld Z h o0 "java/lang/String" "value" "[B" (.ref b) ∧ Fld Z h o0 "java/lang/String" "coder" "B" (.int 0) ∧ Arv Z h b k .byte (0 : Int32) [] (.int 0)
set_option maxRecDepth 65536 in
set_option maxHeartbeats 40000000 in
theorem rm3n0 (l : Launch) (Z : State) (a0 : Array Value) (hw : ∀ d ∈ tables_1, d.before a0 Z = true) (ws : List Jvm.Cond) (o0 o1 : Addr) (k1 : ClassId) (h0 : Heap) (n0 : Nat) (Z0 : n0 ≤ h0.size) (E : Exa Z h0 o0 "java/lang/String") (F_value : Fld Z h0 o0 "java/lang/String" "value" "[B" .null) (F_coder : Fld Z h0 o0 "java/lang/String" "coder" "B" (.int 0)) (g_o0 : n0 ≤ o0) (V1 : Arv Z h0 o1 k1 .char (0 : Int32) [] (.int 0)) :
    MetFree l (⟨"java/lang/String", "<init>", "([CIILjava/lang/Void;)V"⟩ : MethodName) (head1 (Jvm.Cond.code (⟨"java/lang/String", "<init>", "([CIILjava/lang/Void;)V"⟩ : MethodName) jdk_42_method_149_code 6 none :: ws) (⟨1, 2, 4, 12⟩ : Room)) (fun a U => a = #[(.ref o0), (.ref o1), (.int 0), (.int 0), .null] ∧ Z.Warmed39 U.vm ∧ U.heap = h0 ∧ CHv Z EL1 U.vm h0) (fun _ _ _ _ _ => True) (fun _ U o U' => ∃ v L, o = .returned v ∧ Q3n0 Z o0 o1 k1 h0 n0 v U'.heap L ∧ CHr Z EL1 U.vm U.heap U'.vm U'.heap ∧ ReturnedEndW U o U' L (⟨1, 2, 4, 12⟩ : Room).cells (⟨1, 2, 4, 12⟩ : Room).slots) := by
  refine MetFree.of_bodySF (plainFor_of_name pn_1) hisR ?_
  intro p e s m args below meth c s₁ Bd hml0 hP hK
  obtain ⟨rfl, hZ, hh, hC⟩ := hP
  have hx := Bd.exec
  have hby := Bd.bytes
  have hml : c.maxLocals = 6 := hml0
  have hown : s.vm.findClass "java/lang/String" = some m.cls := findClass_of_methodNamed Bd.named
  have hnm := (name_of_methodNamed Bd.named Bd.method).1
  have X0 : Stand p l e (⟨1, 2, 4, 12⟩ : Room) s m #[(.ref o0), (.ref o1), (.int 0), (.int 0), .null] below meth c s₁ [] 0 0 := Stand.of_body Bd
  have e0 : s₁.heap = h0 := by rw [← hh, Bd.state]; rfl
  have N0 := Fr.nil n0
  have hret := Bd.returns
  have hlk := BodyLoose.notSynchronized Bd
  have CA0 := CHr.refl hC
  show own_Out p e below (fun o U' => ∃ v L, o = .returned v ∧ Q3n0 Z o0 o1 k1 h0 n0 v U'.heap L ∧ CHr Z EL1 s.vm s.heap U'.vm U'.heap ∧ ReturnedEndW s o U' L (⟨1, 2, 4, 12⟩ : Room).cells (⟨1, 2, 4, 12⟩ : Room).slots) (s₁.setTop (entryFrame m #[(.ref o0), (.ref o1), (.int 0), (.int 0), .null] 6))
  refine own_of (fun t k => castTop (ef_3n0 m o0 o1) k) ?_
  have So0 := own_safeN (EL := EL1) hZ.alike E F_value
  show own_Out p e below _ (s₁.setTop (mkF m 0 #[rv o0, rv o1, iv 0, iv 0, .val (.null), .unset] []))
  refine o_aloadN X0 hx hby d3_0 rfl rfl (q := 1) rfl ?_
  obtain ⟨T1, X1, e1, st1⟩ := initO X0 hx hZ hown (w_ hw 15 rfl) (w_ hw 16 rfl) (w_ hw 17 rfl) e0 (g := (mkF m 1 #[rv o0, rv o1, iv 0, iv 0, .val (.null), .unset] [.ref o0])) rfl (by rw [hml]; rfl) rfl (hb hby d3_1) (by decide) (W := 0) (by show 2 * 0 + _ ≤ _; exact Nat.le_of_eq rfl) (by decide)
  refine own_of st1 ?_
  show own_Out p e below _ (T1.setTop (mkF m 4 #[rv o0, rv o1, iv 0, iv 0, .val (.null), .unset] []))
  refine o_iloadN X1 hx hby d3_4 rfl (q := 5) rfl ?_
  refine o_ifN X1 hx hby d3_5 ((if0 _ _).trans (teq (by decide : (0 : Int32) = (0 : Int32))).2) (q := 8) rfl ?_
  refine o_aloadN X1 hx hby d3_8 rfl rfl (q := 9) rfl ?_
  obtain ⟨a2, T2, h2, k2, lb2, kk2, X2, e2, E2, S2, ks2, hZ2, hown2, Ex2, Fc2, Fv2, V2, al2, bl2, C2, Li2, NE2, st2⟩ := ldcCH (s := s) (vm0 := s.vm) X1 hx hZ hown (w_ hw 18 rfl) (own_wS hw) e1 ((State.WarmedH.refl s).since 0) (Nat.zero_le _) (own_EW hw) own_mem CA0.1 (vs := []) (z := 0) own_ht (by decide) rfl (g := (mkF m 9 #[rv o0, rv o1, iv 0, iv 0, .val (.null), .unset] [.ref o0])) rfl (hb hby d3_9) (n := 0) (by decide +kernel) (by decide) (by decide) (by decide)
  have Ss3_o0 := C2.safe E.lt So0
  have CA3 := CA0.trans C2
  refine own_of st2 ?_
  show own_Out p e below _ (T2.setTop (mkF m 11 #[rv o0, rv o1, iv 0, iv 0, .val (.null), .unset] [.ref a2, .ref o0]))
  refine o_getF X2 hx hZ2 hown2 hby (w_ hw 24 rfl) Via.refl e2 Fv2 d3_11 (q := 14) rfl fun T4 X4 e4 => ?_
  have qz6 := (F_value.ext E2)
  have qz7 := (E.ext E2)
  obtain ⟨T5, h5, X5, e5, W5, st5⟩ := putF X4 hx hZ2 hown2 (host := "") (Or.inl (w_ hw 24 rfl)) Via.refl e4 qz6 qz7 (Or.inr ⟨(w_ hw 20 rfl), rfl, hnm⟩) (w_ hw 5 rfl) (ty := (.array .byte)) (by decide) rfl rfl (g := (mkF m 14 #[rv o0, rv o1, iv 0, iv 0, .val (.null), .unset] [.ref lb2, .ref o0])) rfl rfl (hb hby d3_14)
  have qz8 := (F_value.ext E2)
  have Fw5 := qz8.same W5
  have Sf9 := Ss3_o0
  have Ss9_o0 := Safe.wr W5 Sf9 CA3.1 Ss3_o0
  have CA9 := CA3.trans (CHr.wr W5 Sf9 CA3.1)
  refine own_of st5 ?_
  show own_Out p e below _ (T5.setTop (mkF m 17 #[rv o0, rv o1, iv 0, iv 0, .val (.null), .unset] []))
  refine o_aloadN X5 hx hby d3_17 rfl rfl (q := 18) rfl ?_
  refine own_of (ldcAgain (s := s) (vm0 := T2.vm) X5 hx hZ2 hown2 (w_ hw 18 rfl) Li2 (g := (mkF m 18 #[rv o0, rv o1, iv 0, iv 0, .val (.null), .unset] [.ref o0])) rfl (hb hby d3_18)) ?_
  show own_Out p e below _ (T5.setTop (mkF m 20 #[rv o0, rv o1, iv 0, iv 0, .val (.null), .unset] [.ref a2, .ref o0]))
  have qz12 := (Fc2.other W5 (Or.inl (Ne.symm (NE2 _ Ss3_o0).1)))
  refine o_getF X5 hx hZ2 hown2 hby (w_ hw 25 rfl) Via.refl e5 qz12 d3_20 (q := 23) rfl fun T11 X11 e11 => ?_
  have qz14 := ((F_coder.ext E2).other W5 (Or.inr (slot_ne (Or.inr (w_ hw 21 rfl)) (Or.inr (w_ hw 20 rfl)) (by decide) (t := .byte) (t' := (.array .byte)) (by decide) (by decide))))
  have qz15 := (qz7.wr W5)
  obtain ⟨T13, h13, X13, e13, W13, st13⟩ := putFN X11 hx hZ2 hown2 (w_ hw 25 rfl) Via.refl e11 qz14 qz15 (Or.inr ⟨(w_ hw 21 rfl), rfl, hnm⟩) (w_ hw 5 rfl) (ty := .byte) (v' := (.int 0)) (by decide) rfl rfl (g := (mkF m 23 #[rv o0, rv o1, iv 0, iv 0, .val (.null), .unset] [.int 0, .ref o0])) rfl rfl (hb hby d3_23)
  have qz16 := ((F_coder.ext E2).other W5 (Or.inr (slot_ne (Or.inr (w_ hw 21 rfl)) (Or.inr (w_ hw 20 rfl)) (by decide) (t := .byte) (t' := (.array .byte)) (by decide) (by decide))))
  have Fw13 := qz16.same W13
  have Sf17 := Ss9_o0
  have Ss17_o0 := Safe.wr W13 Sf17 CA9.1 Ss9_o0
  have CA17 := CA9.trans (CHr.wr W13 Sf17 CA9.1)
  refine own_of st13 ?_
  show own_Out p e below _ (T13.setTop (mkF m 26 #[rv o0, rv o1, iv 0, iv 0, .val (.null), .unset] []))
  have qz18 := ((((Keep.refl h0 [o0]).ext E2).wr W5 (Or.inl (List.mem_of_getElem? (i := 0) rfl))).wr W13 (Or.inl (List.mem_of_getElem? (i := 0) rfl)))
  have qz19 := (qz15.wr W13)
  have qz20 := (Fw5.other W13 (Or.inr (slot_ne (Or.inr (w_ hw 20 rfl)) (Or.inr (w_ hw 21 rfl)) (by decide) (t := (.array .byte)) (t' := .byte) (by decide) (by decide))))
  have qz21 := ((V2.other W5 (Ne.symm (NE2 _ Ss3_o0).2)).other W13 (Ne.symm (NE2 _ Ss3_o0).2))
  have qz22 := (Nat.le_trans (Nat.le_trans ks2 (Keep.of_wr W5).1) (Keep.of_wr W13).1)
  exact own_outVH (s := s) (vm₁ := T2.vm) X13 S2 (by rw [e13]; exact qz22) hx hlk hret (hb hby d3_26) (Q := Q3n0 Z o0 o1 k1 h0 n0) (by rw [e13]; exact ⟨lb2, kk2, rfl, (Fr.snoc X13 (Fr.snoc X5 N0 g_o0) g_o0), qz18, qz19, qz20, Fw13, qz21⟩) hh e13 (CA17.trans (CHv.at (s := s) (vm0 := T2.vm) X13 hZ2 (own_EW hw) CA17.1)) (by decide) (by decide)
theorem ef_2n0 (m : MethodId) (x0 x1 : Addr) : entryFrame m #[(.ref x0), (.ref x1)] 2 = mkF m 0 #[.val (.ref x0), .val (.ref x1)] [] := by first | (simp [entryFrame, mkF, argsToLocals, Value.category]; done) | rfl
def Q2n0 (Z : State) (o0 o1 : Addr) (k1 : ClassId) (h0 : Heap) (n0 : Nat) (v : Option Value) (h : Heap) (L : List Loc) : Prop := ∃ (b : Addr) (k : ClassId), v = none ∧ Fr n0 L ∧ Keep h0 h [o0] ∧ Exa Z h o0 "java/lang/String" ∧ Fld Z h o0 "java/lang/String" "value" "[B" (.ref b) ∧ Fld Z h o0 "java/lang/String" "coder" "B" (.int 0) ∧ Arv Z h b k .byte (0 : Int32) [] (.int 0)
set_option maxRecDepth 65536 in
set_option maxHeartbeats 40000000 in
theorem rm2n0 (l : Launch) (Z : State) (a0 : Array Value) (hw : ∀ d ∈ tables_1, d.before a0 Z = true) (ws : List Jvm.Cond) (o0 o1 : Addr) (k1 : ClassId) (h0 : Heap) (n0 : Nat) (Z0 : n0 ≤ h0.size) (E : Exa Z h0 o0 "java/lang/String") (F_value : Fld Z h0 o0 "java/lang/String" "value" "[B" .null) (F_coder : Fld Z h0 o0 "java/lang/String" "coder" "B" (.int 0)) (g_o0 : n0 ≤ o0) (V1 : Arv Z h0 o1 k1 .char (0 : Int32) [] (.int 0)) :
    MetFree l (⟨"java/lang/String", "<init>", "([C)V"⟩ : MethodName) (head1 (Jvm.Cond.code (⟨"java/lang/String", "<init>", "([C)V"⟩ : MethodName) jdk_42_method_3_code 2 none :: ws) (⟨2, 2, 4, 29⟩ : Room)) (fun a U => a = #[(.ref o0), (.ref o1)] ∧ Z.Warmed39 U.vm ∧ U.heap = h0 ∧ CHv Z EL1 U.vm h0) (fun _ _ _ _ _ => True) (fun _ U o U' => ∃ v L, o = .returned v ∧ Q2n0 Z o0 o1 k1 h0 n0 v U'.heap L ∧ CHr Z EL1 U.vm U.heap U'.vm U'.heap ∧ ReturnedEndW U o U' L (⟨2, 2, 4, 29⟩ : Room).cells (⟨2, 2, 4, 29⟩ : Room).slots) := by
  refine MetFree.of_bodySF (plainFor_of_name pn_1) hisR ?_
  intro p e s m args below meth c s₁ Bd hml0 hP hK
  obtain ⟨rfl, hZ, hh, hC⟩ := hP
  have hx := Bd.exec
  have hby := Bd.bytes
  have hml : c.maxLocals = 2 := hml0
  have hown : s.vm.findClass "java/lang/String" = some m.cls := findClass_of_methodNamed Bd.named
  have hnm := (name_of_methodNamed Bd.named Bd.method).1
  have X0 : Stand p l e (⟨2, 2, 4, 29⟩ : Room) s m #[(.ref o0), (.ref o1)] below meth c s₁ [] 0 0 := Stand.of_body Bd
  have e0 : s₁.heap = h0 := by rw [← hh, Bd.state]; rfl
  have N0 := Fr.nil n0
  have hret := Bd.returns
  have hlk := BodyLoose.notSynchronized Bd
  have CA0 := CHr.refl hC
  show own_Out p e below (fun o U' => ∃ v L, o = .returned v ∧ Q2n0 Z o0 o1 k1 h0 n0 v U'.heap L ∧ CHr Z EL1 s.vm s.heap U'.vm U'.heap ∧ ReturnedEndW s o U' L (⟨2, 2, 4, 29⟩ : Room).cells (⟨2, 2, 4, 29⟩ : Room).slots) (s₁.setTop (entryFrame m #[(.ref o0), (.ref o1)] 2))
  refine own_of (fun t k => castTop (ef_2n0 m o0 o1) k) ?_
  have So0 := own_safeN (EL := EL1) hZ.alike E F_value
  show own_Out p e below _ (s₁.setTop (mkF m 0 #[rv o0, rv o1] []))
  refine o_aloadN X0 hx hby d2_0 rfl rfl (q := 1) rfl ?_
  refine o_aloadN X0 hx hby d2_1 rfl rfl (q := 2) rfl ?_
  refine o_iconst X0 hx hby d2_2 (z := 0) rfl (q := 3) rfl ?_
  refine o_aloadN X0 hx hby d2_3 rfl rfl (q := 4) rfl ?_
  refine o_lenV X0 hx hby hZ e0 V1 d2_4 (q := 5) rfl ?_
  refine o_aconst_null X0 hx hby d2_5 (q := 6) rfl ?_
  obtain ⟨_, _, ⟨T1, L1, k1, n1⟩, -, X1, Sn1, gz1, ⟨Lc1, hQ1, l1, y1, z1, hCr1⟩, st1⟩ := X0.specialBackS hx (y := (⟨"java/lang/String", "<init>", "([CIILjava/lang/Void;)V"⟩ : MethodName)) rfl hown (mvT hZ (w_ hw 11 rfl)) (mvT hZ (w_ hw 12 rfl)) (mvT hZ (w_ hw 14 rfl)) (by decide) (backOfSH (s := s) (vm0 := s.vm) (W := 0) (rm3n0 l Z a0 hw [] o0 o1 k1 h0 n0 Z0 E F_value F_coder g_o0 V1) hZ (w_ hw 14 rfl) (w_ hw 6 rfl) (by decide) (by decide) (own_EW hw) CA0.1) (g := (mkF m 6 #[rv o0, rv o1] [.null, .int 0, .int 0, .ref o1, .ref o0])) rfl (by rw [hml]; rfl) (Steps.refl _) (a := o0) (argsL := [(.ref o1), (.int 0), (.int 0), .null]) (rest := []) (lenOf pd_3 rfl) rfl (by show 2 * 0 + _ ≤ _; exact Nat.le_of_eq rfl) (hb hby d2_6) (fun _ _ => ⟨rfl, e0, (by decide : 0 + 2 ≤ _), (by decide : 0 + 4 ≤ _)⟩)
  dsimp only [Pt.U, Pt.locs, Pt.cells, Pt.slots] at X1 l1 y1 z1 st1 hQ1 Sn1 gz1 hCr1
  subst l1 y1 z1
  have S1 : s.Since T1.vm T1.heap.size := foldS (s := s) (vm0 := s.vm) ((State.WarmedH.refl s).since 0) (by rw [e0]; exact (Nat.zero_le _)) Sn1 gz1
  have hZ1 : Z.Warmed39 (s.setVm T1.vm).vm := State.Warmed39.trans (t := s.setVm s.vm) hZ Sn1.1
  have hown1 : (s.setVm T1.vm).vm.findClass "java/lang/String" = some m.cls := by rw [show (s.setVm T1.vm).vm = T1.vm from rfl, Sn1.1.alike.findClass]; exact hown
  obtain ⟨b1, k1, rfl, N1q, K1, E1, Fv1, Fc1, V1⟩ := hQ1
  have N1 := Fr.app N0 N1q
  have CA2 := CA0.trans hCr1
  refine own_of (fun _ k => st1.trans k) ?_
  show own_Out p e below _ (T1.setTop (mkF m 9 #[rv o0, rv o1] []))
  have qz3 := ((Keep.refl h0 [o0]).trans K1 (allS (Or.inl (List.mem_of_getElem? (i := 0) rfl)) all0))
  exact own_outVH (s := s) (vm₁ := T1.vm) X1 S1 (Nat.le_refl T1.heap.size) hx hlk hret (hb hby d2_9) (Q := Q2n0 Z o0 o1 k1 h0 n0) ⟨b1, k1, rfl, N1, qz3, E1, Fv1, Fc1, V1⟩ hh rfl (CA2.trans (CHv.at (s := s) (vm0 := T1.vm) X1 hZ1 (own_EW hw) CA2.1)) (by decide) (by decide)
theorem pd_4 : parseMethodDescriptor "([C)V" = some ⟨[(.array .char)], none⟩ := by decide +kernel
theorem d1_0 : decode method_2_code 0 = .ok (.iload_n 0, 1) := by decide +kernel
theorem d1_1 : decode method_2_code 1 = .ok (.ifCond .ne 14, 3) := by decide +kernel
theorem d1_4 : decode method_2_code 4 = .ok (.new 7, 3) := by decide +kernel
theorem d1_7 : decode method_2_code 7 = .ok (.dup, 1) := by decide +kernel
theorem d1_8 : decode method_2_code 8 = .ok (.iconst 0, 1) := by decide +kernel
theorem d1_9 : decode method_2_code 9 = .ok (.newarray .char, 2) := by decide +kernel
theorem d1_11 : decode method_2_code 11 = .ok (.invokespecial 9, 3) := by decide +kernel
theorem d1_14 : decode method_2_code 14 = .ok (.areturn, 1) := by decide +kernel
theorem d1_15 : decode method_2_code 15 = .ok (.iload_n 0, 1) := by decide +kernel
theorem d1_16 : decode method_2_code 16 = .ok (.iconst 1, 1) := by decide +kernel
theorem d1_17 : decode method_2_code 17 = .ok (.if_icmp .ne 20, 3) := by decide +kernel
theorem d1_20 : decode method_2_code 20 = .ok (.iconst 1, 1) := by decide +kernel
theorem d1_21 : decode method_2_code 21 = .ok (.newarray .char, 2) := by decide +kernel
theorem d1_23 : decode method_2_code 23 = .ok (.astore_n 3, 1) := by decide +kernel
theorem d1_24 : decode method_2_code 24 = .ok (.aload_n 3, 1) := by decide +kernel
theorem d1_25 : decode method_2_code 25 = .ok (.iconst 0, 1) := by decide +kernel
theorem d1_26 : decode method_2_code 26 = .ok (.iload_n 1, 1) := by decide +kernel
theorem d1_27 : decode method_2_code 27 = .ok (.castore, 1) := by decide +kernel
theorem d1_28 : decode method_2_code 28 = .ok (.new 7, 3) := by decide +kernel
theorem d1_31 : decode method_2_code 31 = .ok (.dup, 1) := by decide +kernel
theorem d1_32 : decode method_2_code 32 = .ok (.aload_n 3, 1) := by decide +kernel
theorem d1_33 : decode method_2_code 33 = .ok (.invokespecial 9, 3) := by decide +kernel
theorem d1_36 : decode method_2_code 36 = .ok (.areturn, 1) := by decide +kernel
theorem d1_37 : decode method_2_code 37 = .ok (.iconst 2, 1) := by decide +kernel
theorem d1_38 : decode method_2_code 38 = .ok (.newarray .char, 2) := by decide +kernel
theorem d1_40 : decode method_2_code 40 = .ok (.astore_n 3, 1) := by decide +kernel
theorem d1_41 : decode method_2_code 41 = .ok (.aload_n 3, 1) := by decide +kernel
theorem d1_42 : decode method_2_code 42 = .ok (.iconst 0, 1) := by decide +kernel
theorem d1_43 : decode method_2_code 43 = .ok (.iload_n 1, 1) := by decide +kernel
theorem d1_44 : decode method_2_code 44 = .ok (.castore, 1) := by decide +kernel
theorem d1_45 : decode method_2_code 45 = .ok (.aload_n 3, 1) := by decide +kernel
theorem d1_46 : decode method_2_code 46 = .ok (.iconst 1, 1) := by decide +kernel
theorem d1_47 : decode method_2_code 47 = .ok (.iload_n 2, 1) := by decide +kernel
theorem d1_48 : decode method_2_code 48 = .ok (.castore, 1) := by decide +kernel
theorem d1_49 : decode method_2_code 49 = .ok (.new 7, 3) := by decide +kernel
theorem d1_52 : decode method_2_code 52 = .ok (.dup, 1) := by decide +kernel
theorem d1_53 : decode method_2_code 53 = .ok (.aload_n 3, 1) := by decide +kernel
theorem d1_54 : decode method_2_code 54 = .ok (.invokespecial 9, 3) := by decide +kernel
theorem d1_57 : decode method_2_code 57 = .ok (.areturn, 1) := by decide +kernel
theorem pn_2 : plainName "com/example/collector_urchin/collectorurchin/store/StampedRecordEqualsPinLaw" = true := by first | (simp [plainName, overriddenIn]; done) | decide +kernel
theorem ef_1 (m : MethodId) (x0 x1 x2 : Int32) : entryFrame m #[(.int x0), (.int x1), (.int x2)] 4 = mkF m 0 #[.val (.int x0), .val (.int x1), .val (.int x2), .unset] [] := by first | (simp [entryFrame, mkF, argsToLocals, Value.category]; done) | rfl
def Q1 (Z : State) (p0 p1 p2 cs : Int32) (h0 : Heap) (n0 : Nat) (v : Option Value) (h : Heap) (L : List Loc) : Prop := ∃ (r b : Addr) (k : ClassId), v = some (.ref r) ∧ Fr n0 L ∧ Keep h0 h [] ∧ Exa Z h r "java/lang/String" ∧ Fld Z h r "java/lang/String" "value" "[B" (.ref b) ∧ Fld Z h r "java/lang/String" "coder" "B" (.int 0) ∧ Arv Z h b k .byte p0 (bl p0 ((p1.toInt8.toInt32).toInt8.toInt32) ((p2.toInt8.toInt32).toInt8.toInt32)) (.int 0) ∧ n0 ≤ r ∧ h0.size ≤ r
set_option maxRecDepth 65536 in
set_option maxHeartbeats 40000000 in
theorem rm1 (l : Launch) (Z : State) (a0 : Array Value) (hw : ∀ d ∈ tables_1, d.before a0 Z = true) (ws : List Jvm.Cond) (p0 p1 p2 cs : Int32) (h0 : Heap) (n0 : Nat) (Z0 : n0 ≤ h0.size) (hl : p0 = 0 ∨ p0 = 1 ∨ p0 = 2) (hr1 : 0 ≤ p1.toInt ∧ p1.toInt < 256) (hr2 : 0 ≤ p2.toInt ∧ p2.toInt < 256) (S_cs : Sta Z h0 "java/lang/String" "COMPACT_STRINGS" "Z" (.int cs)) (hcs : ¬ (cs = (0 : Int32))) :
    MetFree l (⟨"com/example/collector_urchin/collectorurchin/store/StampedRecordEqualsPinLaw", "make", "(ICC)Ljava/lang/String;"⟩ : MethodName) (head1 (Jvm.Cond.code (⟨"com/example/collector_urchin/collectorurchin/store/StampedRecordEqualsPinLaw", "make", "(ICC)Ljava/lang/String;"⟩ : MethodName) method_2_code 4 (some (.object "java/lang/String")) :: ws) (⟨4, 4, 8, 66⟩ : Room)) (fun a U => a = #[(.int p0), (.int p1), (.int p2)] ∧ Z.Warmed39 U.vm ∧ U.heap = h0 ∧ CHv Z EL1 U.vm h0) (fun _ _ _ _ _ => True) (fun _ U o U' => ∃ v L, o = .returned v ∧ Q1 Z p0 p1 p2 cs h0 n0 v U'.heap L ∧ CHr Z EL1 U.vm U.heap U'.vm U'.heap ∧ ReturnedEndW U o U' L (⟨4, 4, 8, 66⟩ : Room).cells (⟨4, 4, 8, 66⟩ : Room).slots) := by
  refine MetFree.of_bodySF (plainFor_of_name pn_2) hisR ?_
  intro p e s m args below meth c s₁ Bd hml0 hP hK
  obtain ⟨rfl, hZ, hh, hC⟩ := hP
  have hx := Bd.exec
  have hby := Bd.bytes
  have hml : c.maxLocals = 4 := hml0
  have hown : s.vm.findClass "com/example/collector_urchin/collectorurchin/store/StampedRecordEqualsPinLaw" = some m.cls := findClass_of_methodNamed Bd.named
  have hnm := (name_of_methodNamed Bd.named Bd.method).1
  have X0 : Stand p l e (⟨4, 4, 8, 66⟩ : Room) s m #[(.int p0), (.int p1), (.int p2)] below meth c s₁ [] 0 0 := Stand.of_body Bd
  have e0 : s₁.heap = h0 := by rw [← hh, Bd.state]; rfl
  have N0 := Fr.nil n0
  have hret := Bd.returns
  have hlk := BodyLoose.notSynchronized Bd
  have CA0 := CHr.refl hC
  show own_Out p e below (fun o U' => ∃ v L, o = .returned v ∧ Q1 Z p0 p1 p2 cs h0 n0 v U'.heap L ∧ CHr Z EL1 s.vm s.heap U'.vm U'.heap ∧ ReturnedEndW s o U' L (⟨4, 4, 8, 66⟩ : Room).cells (⟨4, 4, 8, 66⟩ : Room).slots) (s₁.setTop (entryFrame m #[(.int p0), (.int p1), (.int p2)] 4))
  refine own_of (fun t k => castTop (ef_1 m p0 p1 p2) k) ?_
  have hb1 := own_nb hr1
  have hb2 := own_nb hr2
  show own_Out p e below _ (s₁.setTop (mkF m 0 #[iv p0, iv p1, iv p2, .unset] []))
  refine o_iloadN X0 hx hby d1_0 rfl (q := 1) rfl ?_
  by_cases hc1_1 : p0 = (0 : Int32)
  · skip
    refine o_ifN X0 hx hby d1_1 ((if0 _ _).trans (teq hc1_1).2) (q := 4) rfl ?_
    obtain ⟨T2, h2, X2, e2, E2, A2, D2, -, st2⟩ := newO X0 hx hZ hown (w_ hw 4 rfl) (w_ hw 5 rfl) (w_ hw 6 rfl) e0 (g := (mkF m 4 #[iv p0, iv p1, iv p2, .unset] [])) rfl (hb hby d1_4) (by decide) (by decide)
    obtain ⟨b2, g2⟩ : ∃ z, z = h0.size := ⟨_, rfl⟩
    rw [← g2] at A2 D2 st2
    have g_b2 : n0 ≤ b2 := Nat.le_trans Z0 (Nat.le_of_eq g2.symm)
    have sz_b2 : h0.size ≤ b2 := Nat.le_trans (Nat.le_refl h0.size) (Nat.le_of_eq g2.symm)
    have CA3 := CA0.trans (CHr.ext E2 CA0.1)
    have F_b2_value : Fld Z h2 b2 "java/lang/String" "value" "[B" .null := D2 (Or.inr (w_ hw 20 rfl)) (ty := (.array .byte)) (by decide)
    have F_b2_coder : Fld Z h2 b2 "java/lang/String" "coder" "B" (.int 0) := D2 (Or.inr (w_ hw 21 rfl)) (ty := .byte) (by decide)
    refine own_of st2 ?_
    show own_Out p e below _ (T2.setTop (mkF m 7 #[iv p0, iv p1, iv p2, .unset] [.ref b2]))
    refine o_dup X2 hx hby d1_7 rfl (q := 8) rfl ?_
    refine o_iconst X2 hx hby d1_8 (z := 0) rfl (q := 9) rfl ?_
    obtain ⟨T4, h4, k4, X4, e4, E4, A4, st4⟩ := newP X2 hx hZ (w_ hw 7 rfl) e2 (g := (mkF m 9 #[iv p0, iv p1, iv p2, .unset] [.int 0, .ref b2, .ref b2])) rfl (hb hby d1_9) rfl (by decide) (cap := 0) (by decide) (by decide) (by decide) (by decide)
    obtain ⟨b4, g4⟩ : ∃ z, z = h2.size := ⟨_, rfl⟩
    rw [← g4] at A4 st4
    have qz5 := (Nat.le_trans Z0 E2.1)
    have g_b4 : n0 ≤ b4 := Nat.le_trans qz5 (Nat.le_of_eq g4.symm)
    have qz6 := (Nat.le_trans (Nat.le_refl h0.size) E2.1)
    have sz_b4 : h0.size ≤ b4 := Nat.le_trans qz6 (Nat.le_of_eq g4.symm)
    have CA7 := CA3.trans (CHr.ext E4 CA3.1)
    have V_b4 : Arv Z h4 b4 k4 .char (0 : Int32) [] (.int 0) := (Arv.new A4 (by decide)).pad (pad_rep [] (.int 0) 0)
    refine own_of st4 ?_
    show own_Out p e below _ (T4.setTop (mkF m 11 #[iv p0, iv p1, iv p2, .unset] [.ref b4, .ref b2, .ref b2]))
    have qz9 := (A2.ext E4)
    have qz10 := (F_b2_value.ext E4)
    have qz11 := (F_b2_coder.ext E4)
    have qz12 := (Nat.le_trans qz5 E4.1)
    obtain ⟨_, _, ⟨T8, L8, k8, n8⟩, -, X8, Sn8, gz8, ⟨Lc8, hQ8, l8, y8, z8, hCr8⟩, st8⟩ := X4.specialBackS hx (y := (⟨"java/lang/String", "<init>", "([C)V"⟩ : MethodName)) rfl hown (mvT hZ (w_ hw 8 rfl)) (mvT hZ (w_ hw 9 rfl)) (mvT hZ (w_ hw 10 rfl)) (by decide) (backOfSH (s := s) (vm0 := s.vm) (W := 1) (rm2n0 l Z a0 hw [] b2 b4 k4 h4 n0 qz12 qz9 qz10 qz11 g_b2 V_b4) hZ (w_ hw 10 rfl) (w_ hw 6 rfl) (by decide) (by decide) (own_EW hw) CA7.1) (g := (mkF m 11 #[iv p0, iv p1, iv p2, .unset] [.ref b4, .ref b2, .ref b2])) rfl (by rw [hml]; rfl) (Steps.refl _) (a := b2) (argsL := [(.ref b4)]) (rest := [(.ref b2)]) (lenOf pd_4 rfl) rfl (by show 2 * 0 + _ ≤ _; exact Nat.le_of_eq rfl) (hb hby d1_11) (fun _ _ => ⟨rfl, e4, (by decide : 2 + 2 ≤ _), (by decide : 4 + 4 ≤ _)⟩)
    dsimp only [Pt.U, Pt.locs, Pt.cells, Pt.slots] at X8 l8 y8 z8 st8 hQ8 Sn8 gz8 hCr8
    subst l8 y8 z8
    have S8 : s.Since T8.vm T8.heap.size := foldS (s := s) (vm0 := s.vm) ((State.WarmedH.refl s).since 0) (by rw [e4]; exact (Nat.zero_le _)) Sn8 gz8
    have hZ8 : Z.Warmed39 (s.setVm T8.vm).vm := State.Warmed39.trans (t := s.setVm s.vm) hZ Sn8.1
    have hown8 : (s.setVm T8.vm).vm.findClass "com/example/collector_urchin/collectorurchin/store/StampedRecordEqualsPinLaw" = some m.cls := by rw [show (s.setVm T8.vm).vm = T8.vm from rfl, Sn8.1.alike.findClass]; exact hown
    obtain ⟨b8, k8, rfl, N8q, K8, E8, Fv8, Fc8, V8⟩ := hQ8
    have N8 := Fr.app N0 N8q
    have CA13 := CA7.trans hCr8
    refine own_of (fun _ k => st8.trans k) ?_
    show own_Out p e below _ (T8.setTop (mkF m 14 #[iv p0, iv p1, iv p2, .unset] [.ref b2]))
    have qz14 := ((((Keep.refl h0 []).ext E2).ext E4).trans K8 (allS (Or.inr sz_b2) all0))
    exact own_outRH (s := s) (vm₁ := T8.vm) X8 S8 (Nat.le_refl T8.heap.size) hx hlk hret rfl rfl rfl (hb hby d1_14) (Q := Q1 Z p0 p1 p2 cs h0 n0) ⟨b2, b8, k8, rfl, N8, qz14, E8, Fv8, Fc8, (own_arv0 hc1_1 V8), g_b2, sz_b2⟩ hh rfl (CA13.trans (CHv.at (s := s) (vm0 := T8.vm) X8 hZ8 (own_EW hw) CA13.1)) (by decide) (by decide)
  · skip
    refine o_ifY X0 hx hby d1_1 ((if0 _ _).trans (feq hc1_1).2) (by decide) (q := 15) (by decide) ?_
    refine o_iloadN X0 hx hby d1_15 rfl (q := 16) rfl ?_
    refine o_iconst X0 hx hby d1_16 (z := 1) rfl (q := 17) rfl ?_
    by_cases hc17_15 : p0 = (1 : Int32)
    · skip
      refine o_icN X0 hx hby d1_17 (teq hc17_15).2 (q := 20) rfl ?_
      refine o_iconst X0 hx hby d1_20 (z := 1) rfl (q := 21) rfl ?_
      obtain ⟨T16, h16, k16, X16, e16, E16, A16, st16⟩ := newP X0 hx hZ (w_ hw 7 rfl) e0 (g := (mkF m 21 #[iv p0, iv p1, iv p2, .unset] [.int 1])) rfl (hb hby d1_21) rfl (by decide) (cap := 1) (by decide) (by decide) (by decide) (by decide)
      obtain ⟨b16, g16⟩ : ∃ z, z = h0.size := ⟨_, rfl⟩
      rw [← g16] at A16 st16
      have g_b16 : n0 ≤ b16 := Nat.le_trans Z0 (Nat.le_of_eq g16.symm)
      have sz_b16 : h0.size ≤ b16 := Nat.le_trans (Nat.le_refl h0.size) (Nat.le_of_eq g16.symm)
      have CA17 := CA0.trans (CHr.ext E16 CA0.1)
      have V_b16 : Arv Z h16 b16 k16 .char (1 : Int32) [(.int 0)] (.int 0) := (Arv.new A16 (by decide)).pad (pad_rep [] (.int 0) 1)
      refine own_of st16 ?_
      show own_Out p e below _ (T16.setTop (mkF m 23 #[iv p0, iv p1, iv p2, .unset] [.ref b16]))
      refine o_astoreN X16 hx hby d1_23 rfl (l' := #[iv p0, iv p1, iv p2, rv b16]) rfl (q := 24) rfl ?_
      refine o_aloadN X16 hx hby d1_24 rfl rfl (q := 25) rfl ?_
      refine o_iconst X16 hx hby d1_25 (z := 0) rfl (q := 26) rfl ?_
      refine o_iloadN X16 hx hby d1_26 rfl (q := 27) rfl ?_
      obtain ⟨cl18, Ar18, q18, S18, N18', H18, G18⟩ := id V_b16
      have hin19 : ¬ ((0 : Int32) < 0 ∨ cl18.slots.size ≤ ((0 : Int32)).toNatClampNeg) := inb_of S18 ⟨by decide, by decide⟩
      obtain ⟨T19, h19, X19, e19, W19, st19⟩ := stC X16 hx hZ e16 Ar18 (j := (0 : Int32)) hin19 (g := (mkF m 27 #[iv p0, iv p1, iv p2, rv b16] [.int p1, .int 0, .ref b16])) rfl rfl (hb hby d1_27)
      have V19 := Arv.set Ar18 q18 S18 N18' H18 G18 (fits_nar_char _) W19 0 rfl (Nat.le_of_ble_eq_true rfl)
      have Sf20 := (own_safeV (EL := EL1) hZ.alike V_b16)
      have CA20 := CA17.trans (CHr.wr W19 Sf20 CA17.1)
      refine own_of st19 ?_
      show own_Out p e below _ (T19.setTop (mkF m 28 #[iv p0, iv p1, iv p2, rv b16] []))
      have Vn21 : Arv Z h19 b16 k16 .char (1 : Int32) [(.int p1)] (.int 0) := by have q : Arv Z h19 b16 k16 .char (1 : Int32) [(.int (p1.toUInt32.toUInt16.toUInt32.toInt32))] (.int 0) := V19; rw [own_i2c (own_wd hr1)] at q; exact q
      obtain ⟨T22, h22, X22, e22, E22, A22, D22, -, st22⟩ := newO X19 hx hZ hown (w_ hw 4 rfl) (w_ hw 5 rfl) (w_ hw 6 rfl) e19 (g := (mkF m 28 #[iv p0, iv p1, iv p2, rv b16] [])) rfl (hb hby d1_28) (by decide) (by decide)
      obtain ⟨b22, g22⟩ : ∃ z, z = h19.size := ⟨_, rfl⟩
      rw [← g22] at A22 D22 st22
      have qz23 := (Nat.le_trans (Nat.le_trans Z0 E16.1) (Keep.of_wr W19).1)
      have g_b22 : n0 ≤ b22 := Nat.le_trans qz23 (Nat.le_of_eq g22.symm)
      have qz24 := (Nat.le_trans (Nat.le_trans (Nat.le_refl h0.size) E16.1) (Keep.of_wr W19).1)
      have sz_b22 : h0.size ≤ b22 := Nat.le_trans qz24 (Nat.le_of_eq g22.symm)
      have CA25 := CA20.trans (CHr.ext E22 CA20.1)
      have F_b22_value : Fld Z h22 b22 "java/lang/String" "value" "[B" .null := D22 (Or.inr (w_ hw 20 rfl)) (ty := (.array .byte)) (by decide)
      have F_b22_coder : Fld Z h22 b22 "java/lang/String" "coder" "B" (.int 0) := D22 (Or.inr (w_ hw 21 rfl)) (ty := .byte) (by decide)
      refine own_of st22 ?_
      show own_Out p e below _ (T22.setTop (mkF m 31 #[iv p0, iv p1, iv p2, rv b16] [.ref b22]))
      refine o_dup X22 hx hby d1_31 rfl (q := 32) rfl ?_
      refine o_aloadN X22 hx hby d1_32 rfl rfl (q := 33) rfl ?_
      have ne_b16_b22 : b16 ≠ b22 := Nat.ne_of_lt (Nat.lt_of_lt_of_le (Nat.lt_of_lt_of_le A16.lt (Keep.of_wr W19).1) (Nat.le_of_eq g22.symm))
      have qz27 := (Vn21.ext E22)
      have qz28 := (((S_cs.ext E16).wr W19).ext E22)
      have qz29 := (Nat.le_trans qz23 E22.1)
      obtain ⟨_, _, ⟨T26, L26, k26, n26⟩, -, X26, ⟨Lc26, hQ26, l26, y26, z26⟩, st26⟩ := X22.specialBack hx (y := (⟨"java/lang/String", "<init>", "([C)V"⟩ : MethodName)) rfl hown (mvT hZ (w_ hw 8 rfl)) (mvT hZ (w_ hw 9 rfl)) (mvT hZ (w_ hw 10 rfl)) (by decide) (backOf (W := 1) (rm2n1l l Z a0 hw [] b22 b16 k16 p1 cs h22 n0 qz29 A22 F_b22_value F_b22_coder g_b22 qz27 ne_b16_b22 qz28 hcs hb1) hZ (w_ hw 10 rfl) (w_ hw 6 rfl) (by decide) (by decide)) (g := (mkF m 33 #[iv p0, iv p1, iv p2, rv b16] [.ref b16, .ref b22, .ref b22])) rfl (by rw [hml]; rfl) (Steps.refl _) (a := b22) (argsL := [(.ref b16)]) (rest := [(.ref b22)]) (lenOf pd_4 rfl) rfl (by show 2 * 0 + _ ≤ _; exact Nat.le_of_eq rfl) (hb hby d1_33) (fun _ _ => ⟨rfl, e22, (by decide : 2 + 1 ≤ _), (by decide : 5 + 1 ≤ _)⟩)
      dsimp only [Pt.U, Pt.locs, Pt.cells, Pt.slots] at X26 l26 y26 z26 st26 hQ26
      subst l26 y26 z26
      obtain ⟨b26, k26, rfl, N26q, K26, E26, Fv26, Fc26, V26, hgb_26, hsb_26⟩ := hQ26
      have N26 := Fr.app (Fr.snoc X19 N0 g_b16) N26q
      have qz30 := (Nat.le_trans qz24 E22.1)
      have sz_b26 : h0.size ≤ b26 := Nat.le_trans qz30 hsb_26
      have CA31 := CA25.trans (CHr.keep K26 (own_all1 (own_safeN (EL := EL1) hZ.alike A22 F_b22_value)) CA25.1)
      refine own_of (fun _ k => st26.trans k) ?_
      show own_Out p e below _ (T26.setTop (mkF m 36 #[iv p0, iv p1, iv p2, rv b16] [.ref b22]))
      have qz32 := (((((Keep.refl h0 []).ext E16).wr W19 (Or.inr sz_b16)).ext E22).trans K26 (allS (Or.inr sz_b22) all0))
      exact own_outRH (s := s) (vm₁ := s.vm) X26 ((State.WarmedH.refl s).since 0) (Nat.zero_le _) hx hlk hret rfl rfl rfl (hb hby d1_36) (Q := Q1 Z p0 p1 p2 cs h0 n0) ⟨b22, b26, k26, rfl, N26, qz32, E26, Fv26, Fc26, (own_arv1 hc17_15 V26), g_b22, sz_b22⟩ hh rfl (CA31.trans (CHv.at (s := s) (vm0 := s.vm) X26 hZ (own_EW hw) CA31.1)) (by decide) (by decide)
    · skip
      refine o_icY X0 hx hby d1_17 (feq hc17_15).2 (by decide) (q := 37) (by decide) ?_
      refine o_iconst X0 hx hby d1_37 (z := 2) rfl (q := 38) rfl ?_
      obtain ⟨T33, h33, k33, X33, e33, E33, A33, st33⟩ := newP X0 hx hZ (w_ hw 7 rfl) e0 (g := (mkF m 38 #[iv p0, iv p1, iv p2, .unset] [.int 2])) rfl (hb hby d1_38) rfl (by decide) (cap := 2) (by decide) (by decide) (by decide) (by decide)
      obtain ⟨b33, g33⟩ : ∃ z, z = h0.size := ⟨_, rfl⟩
      rw [← g33] at A33 st33
      have g_b33 : n0 ≤ b33 := Nat.le_trans Z0 (Nat.le_of_eq g33.symm)
      have sz_b33 : h0.size ≤ b33 := Nat.le_trans (Nat.le_refl h0.size) (Nat.le_of_eq g33.symm)
      have CA34 := CA0.trans (CHr.ext E33 CA0.1)
      have V_b33 : Arv Z h33 b33 k33 .char (2 : Int32) [(.int 0), (.int 0)] (.int 0) := (Arv.new A33 (by decide)).pad (pad_rep [] (.int 0) 2)
      refine own_of st33 ?_
      show own_Out p e below _ (T33.setTop (mkF m 40 #[iv p0, iv p1, iv p2, .unset] [.ref b33]))
      refine o_astoreN X33 hx hby d1_40 rfl (l' := #[iv p0, iv p1, iv p2, rv b33]) rfl (q := 41) rfl ?_
      refine o_aloadN X33 hx hby d1_41 rfl rfl (q := 42) rfl ?_
      refine o_iconst X33 hx hby d1_42 (z := 0) rfl (q := 43) rfl ?_
      refine o_iloadN X33 hx hby d1_43 rfl (q := 44) rfl ?_
      obtain ⟨cl35, Ar35, q35, S35, N35', H35, G35⟩ := id V_b33
      have hin36 : ¬ ((0 : Int32) < 0 ∨ cl35.slots.size ≤ ((0 : Int32)).toNatClampNeg) := inb_of S35 ⟨by decide, by decide⟩
      obtain ⟨T36, h36, X36, e36, W36, st36⟩ := stC X33 hx hZ e33 Ar35 (j := (0 : Int32)) hin36 (g := (mkF m 44 #[iv p0, iv p1, iv p2, rv b33] [.int p1, .int 0, .ref b33])) rfl rfl (hb hby d1_44)
      have V36 := Arv.set Ar35 q35 S35 N35' H35 G35 (fits_nar_char _) W36 0 rfl (Nat.le_of_ble_eq_true rfl)
      have Sf37 := (own_safeV (EL := EL1) hZ.alike V_b33)
      have CA37 := CA34.trans (CHr.wr W36 Sf37 CA34.1)
      refine own_of st36 ?_
      show own_Out p e below _ (T36.setTop (mkF m 45 #[iv p0, iv p1, iv p2, rv b33] []))
      refine o_aloadN X36 hx hby d1_45 rfl rfl (q := 46) rfl ?_
      refine o_iconst X36 hx hby d1_46 (z := 1) rfl (q := 47) rfl ?_
      refine o_iloadN X36 hx hby d1_47 rfl (q := 48) rfl ?_
      obtain ⟨cl38, Ar38, q38, S38, N38', H38, G38⟩ := id V36
      have hin39 : ¬ ((1 : Int32) < 0 ∨ cl38.slots.size ≤ ((1 : Int32)).toNatClampNeg) := inb_of S38 ⟨by decide, by decide⟩
      obtain ⟨T39, h39, X39, e39, W39, st39⟩ := stC X36 hx hZ e36 Ar38 (j := (1 : Int32)) hin39 (g := (mkF m 48 #[iv p0, iv p1, iv p2, rv b33] [.int p2, .int 1, .ref b33])) rfl rfl (hb hby d1_48)
      have V39 := Arv.set Ar38 q38 S38 N38' H38 G38 (fits_nar_char _) W39 1 rfl (Nat.le_of_ble_eq_true rfl)
      have Sf40 := (own_safeV (EL := EL1) hZ.alike V36)
      have CA40 := CA37.trans (CHr.wr W39 Sf40 CA37.1)
      refine own_of st39 ?_
      show own_Out p e below _ (T39.setTop (mkF m 49 #[iv p0, iv p1, iv p2, rv b33] []))
      have Vn41 : Arv Z h39 b33 k33 .char (2 : Int32) [(.int p1), (.int p2)] (.int 0) := by have q : Arv Z h39 b33 k33 .char (2 : Int32) [(.int (p1.toUInt32.toUInt16.toUInt32.toInt32)), (.int (p2.toUInt32.toUInt16.toUInt32.toInt32))] (.int 0) := V39; rw [own_i2c (own_wd hr1), own_i2c (own_wd hr2)] at q; exact q
      obtain ⟨T42, h42, X42, e42, E42, A42, D42, -, st42⟩ := newO X39 hx hZ hown (w_ hw 4 rfl) (w_ hw 5 rfl) (w_ hw 6 rfl) e39 (g := (mkF m 49 #[iv p0, iv p1, iv p2, rv b33] [])) rfl (hb hby d1_49) (by decide) (by decide)
      obtain ⟨b42, g42⟩ : ∃ z, z = h39.size := ⟨_, rfl⟩
      rw [← g42] at A42 D42 st42
      have qz43 := (Nat.le_trans (Nat.le_trans (Nat.le_trans Z0 E33.1) (Keep.of_wr W36).1) (Keep.of_wr W39).1)
      have g_b42 : n0 ≤ b42 := Nat.le_trans qz43 (Nat.le_of_eq g42.symm)
      have qz44 := (Nat.le_trans (Nat.le_trans (Nat.le_trans (Nat.le_refl h0.size) E33.1) (Keep.of_wr W36).1) (Keep.of_wr W39).1)
      have sz_b42 : h0.size ≤ b42 := Nat.le_trans qz44 (Nat.le_of_eq g42.symm)
      have CA45 := CA40.trans (CHr.ext E42 CA40.1)
      have F_b42_value : Fld Z h42 b42 "java/lang/String" "value" "[B" .null := D42 (Or.inr (w_ hw 20 rfl)) (ty := (.array .byte)) (by decide)
      have F_b42_coder : Fld Z h42 b42 "java/lang/String" "coder" "B" (.int 0) := D42 (Or.inr (w_ hw 21 rfl)) (ty := .byte) (by decide)
      refine own_of st42 ?_
      show own_Out p e below _ (T42.setTop (mkF m 52 #[iv p0, iv p1, iv p2, rv b33] [.ref b42]))
      refine o_dup X42 hx hby d1_52 rfl (q := 53) rfl ?_
      refine o_aloadN X42 hx hby d1_53 rfl rfl (q := 54) rfl ?_
      have ne_b33_b42 : b33 ≠ b42 := Nat.ne_of_lt (Nat.lt_of_lt_of_le (Nat.lt_of_lt_of_le (Nat.lt_of_lt_of_le A33.lt (Keep.of_wr W36).1) (Keep.of_wr W39).1) (Nat.le_of_eq g42.symm))
      have qz47 := (Vn41.ext E42)
      have qz48 := ((((S_cs.ext E33).wr W36).wr W39).ext E42)
      have qz49 := (Nat.le_trans qz43 E42.1)
      obtain ⟨_, _, ⟨T46, L46, k46, n46⟩, -, X46, ⟨Lc46, hQ46, l46, y46, z46⟩, st46⟩ := X42.specialBack hx (y := (⟨"java/lang/String", "<init>", "([C)V"⟩ : MethodName)) rfl hown (mvT hZ (w_ hw 8 rfl)) (mvT hZ (w_ hw 9 rfl)) (mvT hZ (w_ hw 10 rfl)) (by decide) (backOf (W := 1) (rm2n2l l Z a0 hw [] b42 b33 k33 p1 p2 cs h42 n0 qz49 A42 F_b42_value F_b42_coder g_b42 qz47 ne_b33_b42 qz48 hcs hb1 hb2) hZ (w_ hw 10 rfl) (w_ hw 6 rfl) (by decide) (by decide)) (g := (mkF m 54 #[iv p0, iv p1, iv p2, rv b33] [.ref b33, .ref b42, .ref b42])) rfl (by rw [hml]; rfl) (Steps.refl _) (a := b42) (argsL := [(.ref b33)]) (rest := [(.ref b42)]) (lenOf pd_4 rfl) rfl (by show 2 * 0 + _ ≤ _; exact Nat.le_of_eq rfl) (hb hby d1_54) (fun _ _ => ⟨rfl, e42, (by decide : 2 + 1 ≤ _), (by decide : 6 + 2 ≤ _)⟩)
      dsimp only [Pt.U, Pt.locs, Pt.cells, Pt.slots] at X46 l46 y46 z46 st46 hQ46
      subst l46 y46 z46
      obtain ⟨b46, k46, rfl, N46q, K46, E46, Fv46, Fc46, V46, hgb_46, hsb_46⟩ := hQ46
      have N46 := Fr.app (Fr.snoc X39 (Fr.snoc X36 N0 g_b33) g_b33) N46q
      have qz50 := (Nat.le_trans qz44 E42.1)
      have sz_b46 : h0.size ≤ b46 := Nat.le_trans qz50 hsb_46
      have CA51 := CA45.trans (CHr.keep K46 (own_all1 (own_safeN (EL := EL1) hZ.alike A42 F_b42_value)) CA45.1)
      refine own_of (fun _ k => st46.trans k) ?_
      show own_Out p e below _ (T46.setTop (mkF m 57 #[iv p0, iv p1, iv p2, rv b33] [.ref b42]))
      have qz52 := ((((((Keep.refl h0 []).ext E33).wr W36 (Or.inr sz_b33)).wr W39 (Or.inr sz_b33)).ext E42).trans K46 (allS (Or.inr sz_b42) all0))
      exact own_outRH (s := s) (vm₁ := s.vm) X46 ((State.WarmedH.refl s).since 0) (Nat.zero_le _) hx hlk hret rfl rfl rfl (hb hby d1_57) (Q := Q1 Z p0 p1 p2 cs h0 n0) ⟨b42, b46, k46, rfl, N46, qz52, E46, Fv46, Fc46, (own_arv2 hl hc1_1 hc17_15 V46), g_b42, sz_b42⟩ hh rfl (CA51.trans (CHv.at (s := s) (vm0 := s.vm) X46 hZ (own_EW hw) CA51.1)) (by decide) (by decide)
theorem d6_0 : decode jdk_31_method_11_code 0 = .ok (.aload_n 0, 1) := by decide +kernel
theorem d6_1 : decode jdk_31_method_11_code 1 = .ok (.ifnonnull 12, 3) := by decide +kernel
theorem d6_13 : decode jdk_31_method_11_code 13 = .ok (.aload_n 0, 1) := by decide +kernel
theorem d6_14 : decode jdk_31_method_11_code 14 = .ok (.areturn, 1) := by decide +kernel
theorem pn_3 : plainName "java/util/Objects" = true := by first | (simp [plainName, overriddenIn]; done) | decide +kernel
theorem ef_6 (m : MethodId) (x0 x1 : Addr) : entryFrame m #[(.ref x0), (.ref x1)] 2 = mkF m 0 #[.val (.ref x0), .val (.ref x1)] [] := by first | (simp [entryFrame, mkF, argsToLocals, Value.category]; done) | rfl
def Q6 (Z : State) (o0 o1 : Addr) (h0 : Heap) (n0 : Nat) (v : Option Value) (h : Heap) (L : List Loc) : Prop := v = some (.ref o0) ∧ Fr n0 L ∧ h = h0
set_option maxRecDepth 65536 in
set_option maxHeartbeats 40000000 in
theorem rm6 (l : Launch) (Z : State) (a0 : Array Value) (hw : ∀ d ∈ tables_1, d.before a0 Z = true) (ws : List Jvm.Cond) (o0 o1 : Addr) (h0 : Heap) (n0 : Nat) (Z0 : n0 ≤ h0.size) :
    MetFree l (⟨"java/util/Objects", "requireNonNull", "(Ljava/lang/Object;Ljava/lang/String;)Ljava/lang/Object;"⟩ : MethodName) (head1 (Jvm.Cond.code (⟨"java/util/Objects", "requireNonNull", "(Ljava/lang/Object;Ljava/lang/String;)Ljava/lang/Object;"⟩ : MethodName) jdk_31_method_11_code 2 (some (.object "java/lang/Object")) :: ws) (⟨0, 0, 0, 0⟩ : Room)) (fun a U => a = #[(.ref o0), (.ref o1)] ∧ Z.Warmed39 U.vm ∧ U.heap = h0) (fun _ _ _ _ _ => True) (fun _ U o U' => ∃ v L, o = .returned v ∧ Q6 Z o0 o1 h0 n0 v U'.heap L ∧ FrameEnd U o U' L (⟨0, 0, 0, 0⟩ : Room).cells (⟨0, 0, 0, 0⟩ : Room).slots) := by
  refine MetFree.of_bodySF (plainFor_of_name pn_3) hisR ?_
  intro p e s m args below meth c s₁ Bd hml0 hP hK
  obtain ⟨rfl, hZ, hh⟩ := hP
  have hx := Bd.exec
  have hby := Bd.bytes
  have hml : c.maxLocals = 2 := hml0
  have hown : s.vm.findClass "java/util/Objects" = some m.cls := findClass_of_methodNamed Bd.named
  have hnm := (name_of_methodNamed Bd.named Bd.method).1
  have X0 : Stand p l e (⟨0, 0, 0, 0⟩ : Room) s m #[(.ref o0), (.ref o1)] below meth c s₁ [] 0 0 := Stand.of_body Bd
  have e0 : s₁.heap = h0 := by rw [← hh, Bd.state]; rfl
  have N0 := Fr.nil n0
  have hret := Bd.returns
  have hlk := BodyLoose.notSynchronized Bd
  show own_Out p e below (fun o U' => ∃ v L, o = .returned v ∧ Q6 Z o0 o1 h0 n0 v U'.heap L ∧ FrameEnd s o U' L (⟨0, 0, 0, 0⟩ : Room).cells (⟨0, 0, 0, 0⟩ : Room).slots) (s₁.setTop (entryFrame m #[(.ref o0), (.ref o1)] 2))
  refine own_of (fun t k => castTop (ef_6 m o0 o1) k) ?_
  show own_Out p e below _ (s₁.setTop (mkF m 0 #[rv o0, rv o1] []))
  refine o_aloadN X0 hx hby d6_0 rfl rfl (q := 1) rfl ?_
  refine own_of (fun _ k => XS.ifnonnullYes X0.here hx rfl (pc0 := 1) (pc' := 13) rfl (hb hby d6_1) rfl (by decide) (by decide) k) ?_
  show own_Out p e below _ (s₁.setTop (mkF m 13 #[rv o0, rv o1] []))
  refine o_aloadN X0 hx hby d6_13 rfl rfl (q := 14) rfl ?_
  exact own_outR X0 hx hlk hret rfl rfl rfl (hb hby d6_14) (Q := Q6 Z o0 o1 h0 n0) ⟨rfl, N0, e0⟩ (by decide) (by decide)
theorem pd_5 : parseMethodDescriptor "(Ljava/lang/Object;Ljava/lang/String;)Ljava/lang/Object;" = some ⟨[(.object "java/lang/Object"), (.object "java/lang/String")], some (.object "java/lang/Object")⟩ := by decide +kernel
theorem d5_0 : decode prog_23_method_1_code 0 = .ok (.aload_n 0, 1) := by decide +kernel
theorem d5_1 : decode prog_23_method_1_code 1 = .ok (.invokespecial 1, 3) := by decide +kernel
theorem d5_4 : decode prog_23_method_1_code 4 = .ok (.aload_n 0, 1) := by decide +kernel
theorem d5_5 : decode prog_23_method_1_code 5 = .ok (.aload_n 1, 1) := by decide +kernel
theorem d5_6 : decode prog_23_method_1_code 6 = .ok (.ldc 7, 2) := by decide +kernel
theorem d5_8 : decode prog_23_method_1_code 8 = .ok (.invokestatic 9, 3) := by decide +kernel
theorem d5_11 : decode prog_23_method_1_code 11 = .ok (.checkcast 15, 3) := by decide +kernel
theorem d5_14 : decode prog_23_method_1_code 14 = .ok (.putfield 17, 3) := by decide +kernel
theorem d5_17 : decode prog_23_method_1_code 17 = .ok (.aload_n 0, 1) := by decide +kernel
theorem d5_18 : decode prog_23_method_1_code 18 = .ok (.aload_n 2, 1) := by decide +kernel
theorem d5_19 : decode prog_23_method_1_code 19 = .ok (.ldc 22, 2) := by decide +kernel
theorem d5_21 : decode prog_23_method_1_code 21 = .ok (.invokestatic 9, 3) := by decide +kernel
theorem d5_24 : decode prog_23_method_1_code 24 = .ok (.checkcast 15, 3) := by decide +kernel
theorem d5_27 : decode prog_23_method_1_code 27 = .ok (.putfield 24, 3) := by decide +kernel
theorem d5_30 : decode prog_23_method_1_code 30 = .ok (.aload_n 0, 1) := by decide +kernel
theorem d5_31 : decode prog_23_method_1_code 31 = .ok (.lload_n 3, 1) := by decide +kernel
theorem d5_32 : decode prog_23_method_1_code 32 = .ok (.putfield 26, 3) := by decide +kernel
theorem d5_35 : decode prog_23_method_1_code 35 = .ok (.aload_n 0, 1) := by decide +kernel
theorem d5_36 : decode prog_23_method_1_code 36 = .ok (.lload 5, 2) := by decide +kernel
theorem d5_38 : decode prog_23_method_1_code 38 = .ok (.putfield 30, 3) := by decide +kernel
theorem d5_41 : decode prog_23_method_1_code 41 = .ok (.return_, 1) := by decide +kernel
theorem pn_4 : plainName "com/example/collector_urchin/collectorurchin/store/StampedRecord" = true := by first | (simp [plainName, overriddenIn]; done) | decide +kernel
theorem ef_5 (m : MethodId) (x0 x1 x2 : Addr) (x3 x4 : Int64) : entryFrame m #[(.ref x0), (.ref x1), (.ref x2), (.long x3), (.long x4)] 7 = mkF m 0 #[.val (.ref x0), .val (.ref x1), .val (.ref x2), .val (.long x3), .second, .val (.long x4), .second] [] := by first | (simp [entryFrame, mkF, argsToLocals, Value.category]; done) | rfl
def Q5 (Z : State) (o0 o1 o2 : Addr) (q3 q4 : Int64) (h0 : Heap) (n0 : Nat) (v : Option Value) (h : Heap) (L : List Loc) : Prop := v = none ∧ Fr n0 L ∧ Keep h0 h [o0] ∧ Exa Z h o0 "com/example/collector_urchin/collectorurchin/store/StampedRecord" ∧ Fld Z h o0 "com/example/collector_urchin/collectorurchin/store/StampedRecord" "id" "Ljava/lang/String;" (.ref o1) ∧ Fld Z h o0 "com/example/collector_urchin/collectorurchin/store/StampedRecord" "body" "Ljava/lang/String;" (.ref o2) ∧ Fld Z h o0 "com/example/collector_urchin/collectorurchin/store/StampedRecord" "created" "J" (.long q3) ∧ Fld Z h o0 "com/example/collector_urchin/collectorurchin/store/StampedRecord" "modified" "J" (.long q4)
set_option maxRecDepth 65536 in
set_option maxHeartbeats 40000000 in
theorem rm5 (l : Launch) (Z : State) (a0 : Array Value) (hw : ∀ d ∈ tables_1, d.before a0 Z = true) (ws : List Jvm.Cond) (o0 o1 o2 : Addr) (q3 q4 : Int64) (h0 : Heap) (n0 : Nat) (Z0 : n0 ≤ h0.size) (E : Exa Z h0 o0 "com/example/collector_urchin/collectorurchin/store/StampedRecord") (F_id : Fld Z h0 o0 "com/example/collector_urchin/collectorurchin/store/StampedRecord" "id" "Ljava/lang/String;" .null) (F_body : Fld Z h0 o0 "com/example/collector_urchin/collectorurchin/store/StampedRecord" "body" "Ljava/lang/String;" .null) (F_created : Fld Z h0 o0 "com/example/collector_urchin/collectorurchin/store/StampedRecord" "created" "J" (.long (0 : Int64))) (F_modified : Fld Z h0 o0 "com/example/collector_urchin/collectorurchin/store/StampedRecord" "modified" "J" (.long (0 : Int64))) (g_o0 : n0 ≤ o0) (Eo1 : Exa Z h0 o1 "java/lang/String") (Eo2 : Exa Z h0 o2 "java/lang/String") :
    MetFree l (⟨"com/example/collector_urchin/collectorurchin/store/StampedRecord", "<init>", "(Ljava/lang/String;Ljava/lang/String;JJ)V"⟩ : MethodName) (head1 (Jvm.Cond.code (⟨"com/example/collector_urchin/collectorurchin/store/StampedRecord", "<init>", "(Ljava/lang/String;Ljava/lang/String;JJ)V"⟩ : MethodName) prog_23_method_1_code 7 none :: ws) (⟨1, 4, 32, 14⟩ : Room)) (fun a U => a = #[(.ref o0), (.ref o1), (.ref o2), (.long q3), (.long q4)] ∧ Z.Warmed39 U.vm ∧ U.heap = h0) (fun _ _ _ _ _ => True) (fun _ U o U' => ∃ v L, o = .returned v ∧ Q5 Z o0 o1 o2 q3 q4 h0 n0 v U'.heap L ∧ ReturnedEndW U o U' L (⟨1, 4, 32, 14⟩ : Room).cells (⟨1, 4, 32, 14⟩ : Room).slots) := by
  refine MetFree.of_bodySF (plainFor_of_name pn_4) hisR ?_
  intro p e s m args below meth c s₁ Bd hml0 hP hK
  obtain ⟨rfl, hZ, hh⟩ := hP
  have hx := Bd.exec
  have hby := Bd.bytes
  have hml : c.maxLocals = 7 := hml0
  have hown : s.vm.findClass "com/example/collector_urchin/collectorurchin/store/StampedRecord" = some m.cls := findClass_of_methodNamed Bd.named
  have hnm := (name_of_methodNamed Bd.named Bd.method).1
  have X0 : Stand p l e (⟨1, 4, 32, 14⟩ : Room) s m #[(.ref o0), (.ref o1), (.ref o2), (.long q3), (.long q4)] below meth c s₁ [] 0 0 := Stand.of_body Bd
  have e0 : s₁.heap = h0 := by rw [← hh, Bd.state]; rfl
  have N0 := Fr.nil n0
  have hret := Bd.returns
  have hlk := BodyLoose.notSynchronized Bd
  show own_Out p e below (fun o U' => ∃ v L, o = .returned v ∧ Q5 Z o0 o1 o2 q3 q4 h0 n0 v U'.heap L ∧ ReturnedEndW s o U' L (⟨1, 4, 32, 14⟩ : Room).cells (⟨1, 4, 32, 14⟩ : Room).slots) (s₁.setTop (entryFrame m #[(.ref o0), (.ref o1), (.ref o2), (.long q3), (.long q4)] 7))
  refine own_of (fun t k => castTop (ef_5 m o0 o1 o2 q3 q4) k) ?_
  show own_Out p e below _ (s₁.setTop (mkF m 0 #[rv o0, rv o1, rv o2, .val (.long q3), .second, .val (.long q4), .second] []))
  refine o_aloadN X0 hx hby d5_0 rfl rfl (q := 1) rfl ?_
  obtain ⟨T1, X1, e1, st1⟩ := initO X0 hx hZ hown (w_ hw 32 rfl) (w_ hw 16 rfl) (w_ hw 17 rfl) e0 (g := (mkF m 1 #[rv o0, rv o1, rv o2, .val (.long q3), .second, .val (.long q4), .second] [.ref o0])) rfl (by rw [hml]; rfl) rfl (hb hby d5_1) (by decide) (W := 0) (by show 2 * 0 + _ ≤ _; exact Nat.le_of_eq rfl) (by decide)
  refine own_of st1 ?_
  show own_Out p e below _ (T1.setTop (mkF m 4 #[rv o0, rv o1, rv o2, .val (.long q3), .second, .val (.long q4), .second] []))
  refine o_aloadN X1 hx hby d5_4 rfl rfl (q := 5) rfl ?_
  refine o_aloadN X1 hx hby d5_5 rfl rfl (q := 6) rfl ?_
  obtain ⟨a2, T2, h2, k2, X2, e2, E2, S2, ks2, hZ2, hown2, st2⟩ := ldcS (s := s) (vm0 := s.vm) X1 hx hZ hown (w_ hw 33 rfl) (own_wS hw) e1 ((State.WarmedH.refl s).since 0) (Nat.zero_le _) (g := (mkF m 6 #[rv o0, rv o1, rv o2, .val (.long q3), .second, .val (.long q4), .second] [.ref o1, .ref o0])) rfl (hb hby d5_6) (n := 8) (by decide +kernel) (by decide) (by decide) (by decide)
  refine own_of st2 ?_
  show own_Out p e below _ (T2.setTop (mkF m 8 #[rv o0, rv o1, rv o2, .val (.long q3), .second, .val (.long q4), .second] [.ref a2, .ref o1, .ref o0]))
  have qz4 := (Nat.le_trans Z0 E2.1)
  obtain ⟨_, _, ⟨T3, L3, k3, n3⟩, -, X3, ⟨Lc3, hQ3, l3, y3, z3⟩, st3⟩ := Jvm.LawKit.callS X2 hx (y := (⟨"java/util/Objects", "requireNonNull", "(Ljava/lang/Object;Ljava/lang/String;)Ljava/lang/Object;"⟩ : MethodName)) hown2 (mvT hZ2 (w_ hw 34 rfl)) (mvT hZ2 (w_ hw 35 rfl)) (mvT hZ2 (w_ hw 36 rfl)) (mvT hZ2 (w_ hw 37 rfl)) (by decide) (backOf (W := 1) (rm6 l Z a0 hw [] o1 a2 h2 n0 qz4 ) hZ2 (w_ hw 37 rfl) (w_ hw 36 rfl) (by decide) (by decide)) (g := (mkF m 8 #[rv o0, rv o1, rv o2, .val (.long q3), .second, .val (.long q4), .second] [.ref a2, .ref o1, .ref o0])) rfl (by rw [hml]; rfl) (argsL := [(.ref o1), (.ref a2)]) (rest := [(.ref o0)]) (lenOf pd_5 rfl) rfl (by show 2 * 0 + _ ≤ _; exact Nat.le_of_eq rfl) (hb hby d5_8) (fun _ _ => ⟨rfl, e2, (by decide : 2 + 0 ≤ _), (by decide : 12 + 0 ≤ _)⟩)
  dsimp only [Pt.U, Pt.locs, Pt.cells, Pt.slots] at X3 l3 y3 z3 st3 hQ3
  subst l3 y3 z3
  obtain ⟨rfl, N3q, hh3⟩ := hQ3
  have N3 := Fr.app N0 N3q
  refine own_of st3 ?_
  show own_Out p e below _ (T3.setTop (mkF m 11 #[rv o0, rv o1, rv o2, .val (.long q3), .second, .val (.long q4), .second] [.ref o1, .ref o0]))
  have qz6 := (Eo1.ext E2)
  obtain ⟨T5, X5, e5, st5⟩ := castY X3 hx hZ2 hown2 (w_ hw 38 rfl) hh3 (Ins.self qz6) (g := (mkF m 11 #[rv o0, rv o1, rv o2, .val (.long q3), .second, .val (.long q4), .second] [.ref o1, .ref o0])) rfl rfl (hb hby d5_11)
  refine own_of st5 ?_
  show own_Out p e below _ (T5.setTop (mkF m 14 #[rv o0, rv o1, rv o2, .val (.long q3), .second, .val (.long q4), .second] [.ref o1, .ref o0]))
  have qz8 := (F_id.ext E2)
  have qz9 := (E.ext E2)
  obtain ⟨T7, h7, X7, e7, W7, st7⟩ := putF X5 hx hZ2 hown2 (host := "") (Or.inl (w_ hw 39 rfl)) Via.refl e5 qz8 qz9 (Or.inr ⟨(w_ hw 40 rfl), rfl, hnm⟩) (w_ hw 27 rfl) (ty := (.object "java/lang/String")) (by decide) rfl rfl (g := (mkF m 14 #[rv o0, rv o1, rv o2, .val (.long q3), .second, .val (.long q4), .second] [.ref o1, .ref o0])) rfl rfl (hb hby d5_14)
  have qz10 := (F_id.ext E2)
  have Fw7 := qz10.same W7
  refine own_of st7 ?_
  show own_Out p e below _ (T7.setTop (mkF m 17 #[rv o0, rv o1, rv o2, .val (.long q3), .second, .val (.long q4), .second] []))
  refine o_aloadN X7 hx hby d5_17 rfl rfl (q := 18) rfl ?_
  refine o_aloadN X7 hx hby d5_18 rfl rfl (q := 19) rfl ?_
  have qz12 := (Nat.le_trans ks2 (Keep.of_wr W7).1)
  obtain ⟨a11, T11, h11, k11, X11, e11, E11, S11, ks11, hZ11, hown11, st11⟩ := ldcS (s := s) (vm0 := T2.vm) X7 hx hZ2 hown2 (w_ hw 41 rfl) (own_wS hw) e7 S2 qz12 (g := (mkF m 19 #[rv o0, rv o1, rv o2, .val (.long q3), .second, .val (.long q4), .second] [.ref o2, .ref o0])) rfl (hb hby d5_19) (n := 16) (by decide +kernel) (by decide) (by decide) (by decide)
  refine own_of st11 ?_
  show own_Out p e below _ (T11.setTop (mkF m 21 #[rv o0, rv o1, rv o2, .val (.long q3), .second, .val (.long q4), .second] [.ref a11, .ref o2, .ref o0]))
  have qz14 := (Nat.le_trans (Nat.le_trans qz4 (Keep.of_wr W7).1) E11.1)
  obtain ⟨_, _, ⟨T13, L13, k13, n13⟩, -, X13, ⟨Lc13, hQ13, l13, y13, z13⟩, st13⟩ := Jvm.LawKit.callS X11 hx (y := (⟨"java/util/Objects", "requireNonNull", "(Ljava/lang/Object;Ljava/lang/String;)Ljava/lang/Object;"⟩ : MethodName)) hown11 (mvT hZ11 (w_ hw 34 rfl)) (mvT hZ11 (w_ hw 35 rfl)) (mvT hZ11 (w_ hw 36 rfl)) (mvT hZ11 (w_ hw 37 rfl)) (by decide) (backOf (W := 1) (rm6 l Z a0 hw [] o2 a11 h11 n0 qz14 ) hZ11 (w_ hw 37 rfl) (w_ hw 36 rfl) (by decide) (by decide)) (g := (mkF m 21 #[rv o0, rv o1, rv o2, .val (.long q3), .second, .val (.long q4), .second] [.ref a11, .ref o2, .ref o0])) rfl (by rw [hml]; rfl) (argsL := [(.ref o2), (.ref a11)]) (rest := [(.ref o0)]) (lenOf pd_5 rfl) rfl (by show 2 * 0 + _ ≤ _; exact Nat.le_of_eq rfl) (hb hby d5_21) (fun _ _ => ⟨rfl, e11, (by decide : 4 + 0 ≤ _), (by decide : 32 + 0 ≤ _)⟩)
  dsimp only [Pt.U, Pt.locs, Pt.cells, Pt.slots] at X13 l13 y13 z13 st13 hQ13
  subst l13 y13 z13
  obtain ⟨rfl, N13q, hh13⟩ := hQ13
  have N13 := Fr.app (Fr.snoc X7 N3 g_o0) N13q
  refine own_of st13 ?_
  show own_Out p e below _ (T13.setTop (mkF m 24 #[rv o0, rv o1, rv o2, .val (.long q3), .second, .val (.long q4), .second] [.ref o2, .ref o0]))
  have qz16 := (((Eo2.ext E2).wr W7).ext E11)
  obtain ⟨T15, X15, e15, st15⟩ := castY X13 hx hZ11 hown11 (w_ hw 38 rfl) hh13 (Ins.self qz16) (g := (mkF m 24 #[rv o0, rv o1, rv o2, .val (.long q3), .second, .val (.long q4), .second] [.ref o2, .ref o0])) rfl rfl (hb hby d5_24)
  refine own_of st15 ?_
  show own_Out p e below _ (T15.setTop (mkF m 27 #[rv o0, rv o1, rv o2, .val (.long q3), .second, .val (.long q4), .second] [.ref o2, .ref o0]))
  have qz18 := (((F_body.ext E2).other W7 (Or.inr (slot_ne (Or.inr (w_ hw 43 rfl)) (Or.inr (w_ hw 40 rfl)) (by decide) (t := (.object "java/lang/String")) (t' := (.object "java/lang/String")) (by decide) (by decide)))).ext E11)
  have qz19 := ((qz9.wr W7).ext E11)
  obtain ⟨T17, h17, X17, e17, W17, st17⟩ := putF X15 hx hZ11 hown11 (host := "") (Or.inl (w_ hw 42 rfl)) Via.refl e15 qz18 qz19 (Or.inr ⟨(w_ hw 43 rfl), rfl, hnm⟩) (w_ hw 27 rfl) (ty := (.object "java/lang/String")) (by decide) rfl rfl (g := (mkF m 27 #[rv o0, rv o1, rv o2, .val (.long q3), .second, .val (.long q4), .second] [.ref o2, .ref o0])) rfl rfl (hb hby d5_27)
  have qz20 := (((F_body.ext E2).other W7 (Or.inr (slot_ne (Or.inr (w_ hw 43 rfl)) (Or.inr (w_ hw 40 rfl)) (by decide) (t := (.object "java/lang/String")) (t' := (.object "java/lang/String")) (by decide) (by decide)))).ext E11)
  have Fw17 := qz20.same W17
  refine own_of st17 ?_
  show own_Out p e below _ (T17.setTop (mkF m 30 #[rv o0, rv o1, rv o2, .val (.long q3), .second, .val (.long q4), .second] []))
  refine o_aloadN X17 hx hby d5_30 rfl rfl (q := 31) rfl ?_
  refine o_lloadN X17 hx hby d5_31 rfl (q := 32) rfl ?_
  have qz22 := ((((F_created.ext E2).other W7 (Or.inr (slot_ne (Or.inr (w_ hw 45 rfl)) (Or.inr (w_ hw 40 rfl)) (by decide) (t := .long) (t' := (.object "java/lang/String")) (by decide) (by decide)))).ext E11).other W17 (Or.inr (slot_ne (Or.inr (w_ hw 45 rfl)) (Or.inr (w_ hw 43 rfl)) (by decide) (t := .long) (t' := (.object "java/lang/String")) (by decide) (by decide))))
  have qz23 := (qz19.wr W17)
  obtain ⟨T21, h21, X21, e21, W21, st21⟩ := putF X17 hx hZ11 hown11 (host := "") (Or.inl (w_ hw 44 rfl)) Via.refl e17 qz22 qz23 (Or.inr ⟨(w_ hw 45 rfl), rfl, hnm⟩) (w_ hw 27 rfl) (ty := .long) (by decide) rfl rfl (g := (mkF m 32 #[rv o0, rv o1, rv o2, .val (.long q3), .second, .val (.long q4), .second] [.long q3, .ref o0])) rfl rfl (hb hby d5_32)
  have qz24 := ((((F_created.ext E2).other W7 (Or.inr (slot_ne (Or.inr (w_ hw 45 rfl)) (Or.inr (w_ hw 40 rfl)) (by decide) (t := .long) (t' := (.object "java/lang/String")) (by decide) (by decide)))).ext E11).other W17 (Or.inr (slot_ne (Or.inr (w_ hw 45 rfl)) (Or.inr (w_ hw 43 rfl)) (by decide) (t := .long) (t' := (.object "java/lang/String")) (by decide) (by decide))))
  have Fw21 := qz24.same W21
  refine own_of st21 ?_
  show own_Out p e below _ (T21.setTop (mkF m 35 #[rv o0, rv o1, rv o2, .val (.long q3), .second, .val (.long q4), .second] []))
  refine o_aloadN X21 hx hby d5_35 rfl rfl (q := 36) rfl ?_
  refine o_lload X21 hx hby d5_36 rfl (q := 38) rfl ?_
  have qz26 := (((((F_modified.ext E2).other W7 (Or.inr (slot_ne (Or.inr (w_ hw 47 rfl)) (Or.inr (w_ hw 40 rfl)) (by decide) (t := .long) (t' := (.object "java/lang/String")) (by decide) (by decide)))).ext E11).other W17 (Or.inr (slot_ne (Or.inr (w_ hw 47 rfl)) (Or.inr (w_ hw 43 rfl)) (by decide) (t := .long) (t' := (.object "java/lang/String")) (by decide) (by decide)))).other W21 (Or.inr (slot_ne (Or.inr (w_ hw 47 rfl)) (Or.inr (w_ hw 45 rfl)) (by decide) (t := .long) (t' := .long) (by decide) (by decide))))
  have qz27 := (qz23.wr W21)
  obtain ⟨T25, h25, X25, e25, W25, st25⟩ := putF X21 hx hZ11 hown11 (host := "") (Or.inl (w_ hw 46 rfl)) Via.refl e21 qz26 qz27 (Or.inr ⟨(w_ hw 47 rfl), rfl, hnm⟩) (w_ hw 27 rfl) (ty := .long) (by decide) rfl rfl (g := (mkF m 38 #[rv o0, rv o1, rv o2, .val (.long q3), .second, .val (.long q4), .second] [.long q4, .ref o0])) rfl rfl (hb hby d5_38)
  have qz28 := (((((F_modified.ext E2).other W7 (Or.inr (slot_ne (Or.inr (w_ hw 47 rfl)) (Or.inr (w_ hw 40 rfl)) (by decide) (t := .long) (t' := (.object "java/lang/String")) (by decide) (by decide)))).ext E11).other W17 (Or.inr (slot_ne (Or.inr (w_ hw 47 rfl)) (Or.inr (w_ hw 43 rfl)) (by decide) (t := .long) (t' := (.object "java/lang/String")) (by decide) (by decide)))).other W21 (Or.inr (slot_ne (Or.inr (w_ hw 47 rfl)) (Or.inr (w_ hw 45 rfl)) (by decide) (t := .long) (t' := .long) (by decide) (by decide))))
  have Fw25 := qz28.same W25
  refine own_of st25 ?_
  show own_Out p e below _ (T25.setTop (mkF m 41 #[rv o0, rv o1, rv o2, .val (.long q3), .second, .val (.long q4), .second] []))
  have qz29 := (((((((Keep.refl h0 [o0]).ext E2).wr W7 (Or.inl (List.mem_of_getElem? (i := 0) rfl))).ext E11).wr W17 (Or.inl (List.mem_of_getElem? (i := 0) rfl))).wr W21 (Or.inl (List.mem_of_getElem? (i := 0) rfl))).wr W25 (Or.inl (List.mem_of_getElem? (i := 0) rfl)))
  have qz30 := (qz27.wr W25)
  have qz31 := ((((Fw7.ext E11).other W17 (Or.inr (slot_ne (Or.inr (w_ hw 40 rfl)) (Or.inr (w_ hw 43 rfl)) (by decide) (t := (.object "java/lang/String")) (t' := (.object "java/lang/String")) (by decide) (by decide)))).other W21 (Or.inr (slot_ne (Or.inr (w_ hw 40 rfl)) (Or.inr (w_ hw 45 rfl)) (by decide) (t := (.object "java/lang/String")) (t' := .long) (by decide) (by decide)))).other W25 (Or.inr (slot_ne (Or.inr (w_ hw 40 rfl)) (Or.inr (w_ hw 47 rfl)) (by decide) (t := (.object "java/lang/String")) (t' := .long) (by decide) (by decide))))
  have qz32 := ((Fw17.other W21 (Or.inr (slot_ne (Or.inr (w_ hw 43 rfl)) (Or.inr (w_ hw 45 rfl)) (by decide) (t := (.object "java/lang/String")) (t' := .long) (by decide) (by decide)))).other W25 (Or.inr (slot_ne (Or.inr (w_ hw 43 rfl)) (Or.inr (w_ hw 47 rfl)) (by decide) (t := (.object "java/lang/String")) (t' := .long) (by decide) (by decide))))
  have qz33 := (Fw21.other W25 (Or.inr (slot_ne (Or.inr (w_ hw 45 rfl)) (Or.inr (w_ hw 47 rfl)) (by decide) (t := .long) (t' := .long) (by decide) (by decide))))
  have qz34 := (Nat.le_trans (Nat.le_trans (Nat.le_trans ks11 (Keep.of_wr W17).1) (Keep.of_wr W21).1) (Keep.of_wr W25).1)
  exact own_outVW (s := s) (vm₁ := T11.vm) X25 S11 (by rw [e25]; exact qz34) hx hlk hret (hb hby d5_41) (Q := Q5 Z o0 o1 o2 q3 q4 h0 n0) (by rw [e25]; exact ⟨rfl, (Fr.snoc X25 (Fr.snoc X21 (Fr.snoc X17 N13 g_o0) g_o0) g_o0), qz29, qz30, qz31, qz32, qz33, Fw25⟩) (by decide) (by decide)
theorem d10_0 : decode jdk_43_method_13_code 0 = .ok (.aload_n 0, 1) := by decide +kernel
theorem d10_1 : decode jdk_43_method_13_code 1 = .ok (.arraylength, 1) := by decide +kernel
theorem d10_2 : decode jdk_43_method_13_code 2 = .ok (.aload_n 1, 1) := by decide +kernel
theorem d10_3 : decode jdk_43_method_13_code 3 = .ok (.arraylength, 1) := by decide +kernel
theorem d10_4 : decode jdk_43_method_13_code 4 = .ok (.if_icmp .ne 30, 3) := by decide +kernel
theorem d10_7 : decode jdk_43_method_13_code 7 = .ok (.iconst 0, 1) := by decide +kernel
theorem d10_8 : decode jdk_43_method_13_code 8 = .ok (.istore_n 2, 1) := by decide +kernel
theorem d10_9 : decode jdk_43_method_13_code 9 = .ok (.iload_n 2, 1) := by decide +kernel
theorem d10_10 : decode jdk_43_method_13_code 10 = .ok (.aload_n 0, 1) := by decide +kernel
theorem d10_11 : decode jdk_43_method_13_code 11 = .ok (.arraylength, 1) := by decide +kernel
theorem d10_12 : decode jdk_43_method_13_code 12 = .ok (.if_icmp .ge 20, 3) := by decide +kernel
theorem d10_32 : decode jdk_43_method_13_code 32 = .ok (.iconst 1, 1) := by decide +kernel
theorem d10_33 : decode jdk_43_method_13_code 33 = .ok (.ireturn, 1) := by decide +kernel
theorem pn_5 : plainName "java/lang/StringLatin1" = true := by first | (simp [plainName, overriddenIn]; done) | decide +kernel
theorem ef_10e00 (m : MethodId) (x0 x1 : Addr) : entryFrame m #[(.ref x0), (.ref x1)] 3 = mkF m 0 #[.val (.ref x0), .val (.ref x1), .unset] [] := by first | (simp [entryFrame, mkF, argsToLocals, Value.category]; done) | rfl
def fl00  : Int32 := (1 : Int32)
def Q10e00 (Z : State) (o0 o1 : Addr) (k0 k1 : ClassId) (h0 : Heap) (n0 : Nat) (v : Option Value) (h : Heap) (L : List Loc) : Prop := v = some (.int (fl00)) ∧ Fr n0 L ∧ h = h0
set_option maxRecDepth 65536 in
set_option maxHeartbeats 40000000 in
theorem rm10e00 (l : Launch) (Z : State) (a0 : Array Value) (hw : ∀ d ∈ tables_1, d.before a0 Z = true) (ws : List Jvm.Cond) (o0 o1 : Addr) (k0 k1 : ClassId) (h0 : Heap) (n0 : Nat) (Z0 : n0 ≤ h0.size) (V0 : Arv Z h0 o0 k0 .byte (0 : Int32) [] (.int 0)) (V1 : Arv Z h0 o1 k1 .byte (0 : Int32) [] (.int 0)) :
    MetFree l (⟨"java/lang/StringLatin1", "equals", "([B[B)Z"⟩ : MethodName) (head1 (Jvm.Cond.code (⟨"java/lang/StringLatin1", "equals", "([B[B)Z"⟩ : MethodName) jdk_43_method_13_code 3 (some .boolean) :: ws) (⟨0, 0, 0, 0⟩ : Room)) (fun a U => a = #[(.ref o0), (.ref o1)] ∧ Z.Warmed39 U.vm ∧ U.heap = h0) (fun _ _ _ _ _ => True) (fun _ U o U' => ∃ v L, o = .returned v ∧ Q10e00 Z o0 o1 k0 k1 h0 n0 v U'.heap L ∧ FrameEnd U o U' L (⟨0, 0, 0, 0⟩ : Room).cells (⟨0, 0, 0, 0⟩ : Room).slots) := by
  refine MetFree.of_bodySF (plainFor_of_name pn_5) hisR ?_
  intro p e s m args below meth c s₁ Bd hml0 hP hK
  obtain ⟨rfl, hZ, hh⟩ := hP
  have hx := Bd.exec
  have hby := Bd.bytes
  have hml : c.maxLocals = 3 := hml0
  have hown : s.vm.findClass "java/lang/StringLatin1" = some m.cls := findClass_of_methodNamed Bd.named
  have hnm := (name_of_methodNamed Bd.named Bd.method).1
  have X0 : Stand p l e (⟨0, 0, 0, 0⟩ : Room) s m #[(.ref o0), (.ref o1)] below meth c s₁ [] 0 0 := Stand.of_body Bd
  have e0 : s₁.heap = h0 := by rw [← hh, Bd.state]; rfl
  have N0 := Fr.nil n0
  have hret := Bd.returns
  have hlk := BodyLoose.notSynchronized Bd
  show own_Out p e below (fun o U' => ∃ v L, o = .returned v ∧ Q10e00 Z o0 o1 k0 k1 h0 n0 v U'.heap L ∧ FrameEnd s o U' L (⟨0, 0, 0, 0⟩ : Room).cells (⟨0, 0, 0, 0⟩ : Room).slots) (s₁.setTop (entryFrame m #[(.ref o0), (.ref o1)] 3))
  refine own_of (fun t k => castTop (ef_10e00 m o0 o1) k) ?_
  show own_Out p e below _ (s₁.setTop (mkF m 0 #[rv o0, rv o1, .unset] []))
  refine o_aloadN X0 hx hby d10_0 rfl rfl (q := 1) rfl ?_
  refine o_lenV X0 hx hby hZ e0 V0 d10_1 (q := 2) rfl ?_
  refine o_aloadN X0 hx hby d10_2 rfl rfl (q := 3) rfl ?_
  refine o_lenV X0 hx hby hZ e0 V1 d10_3 (q := 4) rfl ?_
  refine o_icN X0 hx hby d10_4 (teq (by decide : (0 : Int32) = (0 : Int32))).2 (q := 7) rfl ?_
  refine o_iconst X0 hx hby d10_7 (z := 0) rfl (q := 8) rfl ?_
  refine o_istoreN X0 hx hby d10_8 (l' := #[rv o0, rv o1, iv 0]) rfl (q := 9) rfl ?_
  refine o_iloadN X0 hx hby d10_9 rfl (q := 10) rfl ?_
  refine o_aloadN X0 hx hby d10_10 rfl rfl (q := 11) rfl ?_
  refine o_lenV X0 hx hby hZ e0 V0 d10_11 (q := 12) rfl ?_
  refine o_icY X0 hx hby d10_12 (flt (by decide : ¬ ((0 : Int32) < (0 : Int32)))).2.1 (by decide) (q := 32) (by decide) ?_
  refine o_iconst X0 hx hby d10_32 (z := 1) rfl (q := 33) rfl ?_
  exact own_outN X0 hx hlk (t := .boolean) hret (by simp) (hb hby d10_33) (z' := (1 : Int32)) rfl (Q := Q10e00 Z o0 o1 k0 k1 h0 n0) ⟨by simp only [fl00], N0, e0⟩ (by decide) (by decide)
theorem d10_34 : decode jdk_43_method_13_code 34 = .ok (.iconst 0, 1) := by decide +kernel
theorem d10_35 : decode jdk_43_method_13_code 35 = .ok (.ireturn, 1) := by decide +kernel
theorem ef_10e01 (m : MethodId) (x0 x1 : Addr) : entryFrame m #[(.ref x0), (.ref x1)] 3 = mkF m 0 #[.val (.ref x0), .val (.ref x1), .unset] [] := by first | (simp [entryFrame, mkF, argsToLocals, Value.category]; done) | rfl
def fl01 (w0 : Int32) : Int32 := (0 : Int32)
def Q10e01 (Z : State) (o0 o1 : Addr) (k0 k1 : ClassId) (w0 : Int32) (h0 : Heap) (n0 : Nat) (v : Option Value) (h : Heap) (L : List Loc) : Prop := v = some (.int (fl01 w0)) ∧ Fr n0 L ∧ h = h0
set_option maxRecDepth 65536 in
set_option maxHeartbeats 40000000 in
theorem rm10e01 (l : Launch) (Z : State) (a0 : Array Value) (hw : ∀ d ∈ tables_1, d.before a0 Z = true) (ws : List Jvm.Cond) (o0 o1 : Addr) (k0 k1 : ClassId) (w0 : Int32) (h0 : Heap) (n0 : Nat) (Z0 : n0 ≤ h0.size) (V0 : Arv Z h0 o0 k0 .byte (0 : Int32) [] (.int 0)) (V1 : Arv Z h0 o1 k1 .byte (1 : Int32) [(.int w0)] (.int 0)) :
    MetFree l (⟨"java/lang/StringLatin1", "equals", "([B[B)Z"⟩ : MethodName) (head1 (Jvm.Cond.code (⟨"java/lang/StringLatin1", "equals", "([B[B)Z"⟩ : MethodName) jdk_43_method_13_code 3 (some .boolean) :: ws) (⟨0, 0, 0, 0⟩ : Room)) (fun a U => a = #[(.ref o0), (.ref o1)] ∧ Z.Warmed39 U.vm ∧ U.heap = h0) (fun _ _ _ _ _ => True) (fun _ U o U' => ∃ v L, o = .returned v ∧ Q10e01 Z o0 o1 k0 k1 w0 h0 n0 v U'.heap L ∧ FrameEnd U o U' L (⟨0, 0, 0, 0⟩ : Room).cells (⟨0, 0, 0, 0⟩ : Room).slots) := by
  refine MetFree.of_bodySF (plainFor_of_name pn_5) hisR ?_
  intro p e s m args below meth c s₁ Bd hml0 hP hK
  obtain ⟨rfl, hZ, hh⟩ := hP
  have hx := Bd.exec
  have hby := Bd.bytes
  have hml : c.maxLocals = 3 := hml0
  have hown : s.vm.findClass "java/lang/StringLatin1" = some m.cls := findClass_of_methodNamed Bd.named
  have hnm := (name_of_methodNamed Bd.named Bd.method).1
  have X0 : Stand p l e (⟨0, 0, 0, 0⟩ : Room) s m #[(.ref o0), (.ref o1)] below meth c s₁ [] 0 0 := Stand.of_body Bd
  have e0 : s₁.heap = h0 := by rw [← hh, Bd.state]; rfl
  have N0 := Fr.nil n0
  have hret := Bd.returns
  have hlk := BodyLoose.notSynchronized Bd
  show own_Out p e below (fun o U' => ∃ v L, o = .returned v ∧ Q10e01 Z o0 o1 k0 k1 w0 h0 n0 v U'.heap L ∧ FrameEnd s o U' L (⟨0, 0, 0, 0⟩ : Room).cells (⟨0, 0, 0, 0⟩ : Room).slots) (s₁.setTop (entryFrame m #[(.ref o0), (.ref o1)] 3))
  refine own_of (fun t k => castTop (ef_10e01 m o0 o1) k) ?_
  show own_Out p e below _ (s₁.setTop (mkF m 0 #[rv o0, rv o1, .unset] []))
  refine o_aloadN X0 hx hby d10_0 rfl rfl (q := 1) rfl ?_
  refine o_lenV X0 hx hby hZ e0 V0 d10_1 (q := 2) rfl ?_
  refine o_aloadN X0 hx hby d10_2 rfl rfl (q := 3) rfl ?_
  refine o_lenV X0 hx hby hZ e0 V1 d10_3 (q := 4) rfl ?_
  refine o_icY X0 hx hby d10_4 (feq (by decide : ¬ ((0 : Int32) = (1 : Int32)))).2 (by decide) (q := 34) (by decide) ?_
  refine o_iconst X0 hx hby d10_34 (z := 0) rfl (q := 35) rfl ?_
  exact own_outN X0 hx hlk (t := .boolean) hret (by simp) (hb hby d10_35) (z' := (0 : Int32)) rfl (Q := Q10e01 Z o0 o1 k0 k1 w0 h0 n0) ⟨by simp only [fl01], N0, e0⟩ (by decide) (by decide)
theorem ef_10e02 (m : MethodId) (x0 x1 : Addr) : entryFrame m #[(.ref x0), (.ref x1)] 3 = mkF m 0 #[.val (.ref x0), .val (.ref x1), .unset] [] := by first | (simp [entryFrame, mkF, argsToLocals, Value.category]; done) | rfl
def fl02 (w0 w1 : Int32) : Int32 := (0 : Int32)
def Q10e02 (Z : State) (o0 o1 : Addr) (k0 k1 : ClassId) (w0 w1 : Int32) (h0 : Heap) (n0 : Nat) (v : Option Value) (h : Heap) (L : List Loc) : Prop := v = some (.int (fl02 w0 w1)) ∧ Fr n0 L ∧ h = h0
set_option maxRecDepth 65536 in
set_option maxHeartbeats 40000000 in
theorem rm10e02 (l : Launch) (Z : State) (a0 : Array Value) (hw : ∀ d ∈ tables_1, d.before a0 Z = true) (ws : List Jvm.Cond) (o0 o1 : Addr) (k0 k1 : ClassId) (w0 w1 : Int32) (h0 : Heap) (n0 : Nat) (Z0 : n0 ≤ h0.size) (V0 : Arv Z h0 o0 k0 .byte (0 : Int32) [] (.int 0)) (V1 : Arv Z h0 o1 k1 .byte (2 : Int32) [(.int w0), (.int w1)] (.int 0)) :
    MetFree l (⟨"java/lang/StringLatin1", "equals", "([B[B)Z"⟩ : MethodName) (head1 (Jvm.Cond.code (⟨"java/lang/StringLatin1", "equals", "([B[B)Z"⟩ : MethodName) jdk_43_method_13_code 3 (some .boolean) :: ws) (⟨0, 0, 0, 0⟩ : Room)) (fun a U => a = #[(.ref o0), (.ref o1)] ∧ Z.Warmed39 U.vm ∧ U.heap = h0) (fun _ _ _ _ _ => True) (fun _ U o U' => ∃ v L, o = .returned v ∧ Q10e02 Z o0 o1 k0 k1 w0 w1 h0 n0 v U'.heap L ∧ FrameEnd U o U' L (⟨0, 0, 0, 0⟩ : Room).cells (⟨0, 0, 0, 0⟩ : Room).slots) := by
  refine MetFree.of_bodySF (plainFor_of_name pn_5) hisR ?_
  intro p e s m args below meth c s₁ Bd hml0 hP hK
  obtain ⟨rfl, hZ, hh⟩ := hP
  have hx := Bd.exec
  have hby := Bd.bytes
  have hml : c.maxLocals = 3 := hml0
  have hown : s.vm.findClass "java/lang/StringLatin1" = some m.cls := findClass_of_methodNamed Bd.named
  have hnm := (name_of_methodNamed Bd.named Bd.method).1
  have X0 : Stand p l e (⟨0, 0, 0, 0⟩ : Room) s m #[(.ref o0), (.ref o1)] below meth c s₁ [] 0 0 := Stand.of_body Bd
  have e0 : s₁.heap = h0 := by rw [← hh, Bd.state]; rfl
  have N0 := Fr.nil n0
  have hret := Bd.returns
  have hlk := BodyLoose.notSynchronized Bd
  show own_Out p e below (fun o U' => ∃ v L, o = .returned v ∧ Q10e02 Z o0 o1 k0 k1 w0 w1 h0 n0 v U'.heap L ∧ FrameEnd s o U' L (⟨0, 0, 0, 0⟩ : Room).cells (⟨0, 0, 0, 0⟩ : Room).slots) (s₁.setTop (entryFrame m #[(.ref o0), (.ref o1)] 3))
  refine own_of (fun t k => castTop (ef_10e02 m o0 o1) k) ?_
  show own_Out p e below _ (s₁.setTop (mkF m 0 #[rv o0, rv o1, .unset] []))
  refine o_aloadN X0 hx hby d10_0 rfl rfl (q := 1) rfl ?_
  refine o_lenV X0 hx hby hZ e0 V0 d10_1 (q := 2) rfl ?_
  refine o_aloadN X0 hx hby d10_2 rfl rfl (q := 3) rfl ?_
  refine o_lenV X0 hx hby hZ e0 V1 d10_3 (q := 4) rfl ?_
  refine o_icY X0 hx hby d10_4 (feq (by decide : ¬ ((0 : Int32) = (2 : Int32)))).2 (by decide) (q := 34) (by decide) ?_
  refine o_iconst X0 hx hby d10_34 (z := 0) rfl (q := 35) rfl ?_
  exact own_outN X0 hx hlk (t := .boolean) hret (by simp) (hb hby d10_35) (z' := (0 : Int32)) rfl (Q := Q10e02 Z o0 o1 k0 k1 w0 w1 h0 n0) ⟨by simp only [fl02], N0, e0⟩ (by decide) (by decide)
theorem ef_10e10 (m : MethodId) (x0 x1 : Addr) : entryFrame m #[(.ref x0), (.ref x1)] 3 = mkF m 0 #[.val (.ref x0), .val (.ref x1), .unset] [] := by first | (simp [entryFrame, mkF, argsToLocals, Value.category]; done) | rfl
def fl10 (u0 : Int32) : Int32 := (0 : Int32)
def Q10e10 (Z : State) (o0 o1 : Addr) (k0 k1 : ClassId) (u0 : Int32) (h0 : Heap) (n0 : Nat) (v : Option Value) (h : Heap) (L : List Loc) : Prop := v = some (.int (fl10 u0)) ∧ Fr n0 L ∧ h = h0
set_option maxRecDepth 65536 in
set_option maxHeartbeats 40000000 in
theorem rm10e10 (l : Launch) (Z : State) (a0 : Array Value) (hw : ∀ d ∈ tables_1, d.before a0 Z = true) (ws : List Jvm.Cond) (o0 o1 : Addr) (k0 k1 : ClassId) (u0 : Int32) (h0 : Heap) (n0 : Nat) (Z0 : n0 ≤ h0.size) (V0 : Arv Z h0 o0 k0 .byte (1 : Int32) [(.int u0)] (.int 0)) (V1 : Arv Z h0 o1 k1 .byte (0 : Int32) [] (.int 0)) :
    MetFree l (⟨"java/lang/StringLatin1", "equals", "([B[B)Z"⟩ : MethodName) (head1 (Jvm.Cond.code (⟨"java/lang/StringLatin1", "equals", "([B[B)Z"⟩ : MethodName) jdk_43_method_13_code 3 (some .boolean) :: ws) (⟨0, 0, 0, 0⟩ : Room)) (fun a U => a = #[(.ref o0), (.ref o1)] ∧ Z.Warmed39 U.vm ∧ U.heap = h0) (fun _ _ _ _ _ => True) (fun _ U o U' => ∃ v L, o = .returned v ∧ Q10e10 Z o0 o1 k0 k1 u0 h0 n0 v U'.heap L ∧ FrameEnd U o U' L (⟨0, 0, 0, 0⟩ : Room).cells (⟨0, 0, 0, 0⟩ : Room).slots) := by
  refine MetFree.of_bodySF (plainFor_of_name pn_5) hisR ?_
  intro p e s m args below meth c s₁ Bd hml0 hP hK
  obtain ⟨rfl, hZ, hh⟩ := hP
  have hx := Bd.exec
  have hby := Bd.bytes
  have hml : c.maxLocals = 3 := hml0
  have hown : s.vm.findClass "java/lang/StringLatin1" = some m.cls := findClass_of_methodNamed Bd.named
  have hnm := (name_of_methodNamed Bd.named Bd.method).1
  have X0 : Stand p l e (⟨0, 0, 0, 0⟩ : Room) s m #[(.ref o0), (.ref o1)] below meth c s₁ [] 0 0 := Stand.of_body Bd
  have e0 : s₁.heap = h0 := by rw [← hh, Bd.state]; rfl
  have N0 := Fr.nil n0
  have hret := Bd.returns
  have hlk := BodyLoose.notSynchronized Bd
  show own_Out p e below (fun o U' => ∃ v L, o = .returned v ∧ Q10e10 Z o0 o1 k0 k1 u0 h0 n0 v U'.heap L ∧ FrameEnd s o U' L (⟨0, 0, 0, 0⟩ : Room).cells (⟨0, 0, 0, 0⟩ : Room).slots) (s₁.setTop (entryFrame m #[(.ref o0), (.ref o1)] 3))
  refine own_of (fun t k => castTop (ef_10e10 m o0 o1) k) ?_
  show own_Out p e below _ (s₁.setTop (mkF m 0 #[rv o0, rv o1, .unset] []))
  refine o_aloadN X0 hx hby d10_0 rfl rfl (q := 1) rfl ?_
  refine o_lenV X0 hx hby hZ e0 V0 d10_1 (q := 2) rfl ?_
  refine o_aloadN X0 hx hby d10_2 rfl rfl (q := 3) rfl ?_
  refine o_lenV X0 hx hby hZ e0 V1 d10_3 (q := 4) rfl ?_
  refine o_icY X0 hx hby d10_4 (feq (by decide : ¬ ((1 : Int32) = (0 : Int32)))).2 (by decide) (q := 34) (by decide) ?_
  refine o_iconst X0 hx hby d10_34 (z := 0) rfl (q := 35) rfl ?_
  exact own_outN X0 hx hlk (t := .boolean) hret (by simp) (hb hby d10_35) (z' := (0 : Int32)) rfl (Q := Q10e10 Z o0 o1 k0 k1 u0 h0 n0) ⟨by simp only [fl10], N0, e0⟩ (by decide) (by decide)
theorem d10_15 : decode jdk_43_method_13_code 15 = .ok (.aload_n 0, 1) := by decide +kernel
theorem d10_16 : decode jdk_43_method_13_code 16 = .ok (.iload_n 2, 1) := by decide +kernel
theorem d10_17 : decode jdk_43_method_13_code 17 = .ok (.baload, 1) := by decide +kernel
theorem d10_18 : decode jdk_43_method_13_code 18 = .ok (.aload_n 1, 1) := by decide +kernel
theorem d10_19 : decode jdk_43_method_13_code 19 = .ok (.iload_n 2, 1) := by decide +kernel
theorem d10_20 : decode jdk_43_method_13_code 20 = .ok (.baload, 1) := by decide +kernel
theorem d10_21 : decode jdk_43_method_13_code 21 = .ok (.if_icmp .eq 5, 3) := by decide +kernel
theorem d10_24 : decode jdk_43_method_13_code 24 = .ok (.iconst 0, 1) := by decide +kernel
theorem d10_25 : decode jdk_43_method_13_code 25 = .ok (.ireturn, 1) := by decide +kernel
theorem d10_26 : decode jdk_43_method_13_code 26 = .ok (.iinc 2 1, 3) := by decide +kernel
theorem d10_29 : decode jdk_43_method_13_code 29 = .ok (.goto (-20), 3) := by decide +kernel
theorem ef_10e11 (m : MethodId) (x0 x1 : Addr) : entryFrame m #[(.ref x0), (.ref x1)] 3 = mkF m 0 #[.val (.ref x0), .val (.ref x1), .unset] [] := by first | (simp [entryFrame, mkF, argsToLocals, Value.category]; done) | rfl
def fl11 (u0 w0 : Int32) : Int32 := if u0 = w0 then (1 : Int32)
  else (0 : Int32)
def Q10e11 (Z : State) (o0 o1 : Addr) (k0 k1 : ClassId) (u0 w0 : Int32) (h0 : Heap) (n0 : Nat) (v : Option Value) (h : Heap) (L : List Loc) : Prop := v = some (.int (fl11 u0 w0)) ∧ Fr n0 L ∧ h = h0
set_option maxRecDepth 65536 in
set_option maxHeartbeats 40000000 in
theorem rm10e11 (l : Launch) (Z : State) (a0 : Array Value) (hw : ∀ d ∈ tables_1, d.before a0 Z = true) (ws : List Jvm.Cond) (o0 o1 : Addr) (k0 k1 : ClassId) (u0 w0 : Int32) (h0 : Heap) (n0 : Nat) (Z0 : n0 ≤ h0.size) (V0 : Arv Z h0 o0 k0 .byte (1 : Int32) [(.int u0)] (.int 0)) (V1 : Arv Z h0 o1 k1 .byte (1 : Int32) [(.int w0)] (.int 0)) :
    MetFree l (⟨"java/lang/StringLatin1", "equals", "([B[B)Z"⟩ : MethodName) (head1 (Jvm.Cond.code (⟨"java/lang/StringLatin1", "equals", "([B[B)Z"⟩ : MethodName) jdk_43_method_13_code 3 (some .boolean) :: ws) (⟨0, 0, 0, 0⟩ : Room)) (fun a U => a = #[(.ref o0), (.ref o1)] ∧ Z.Warmed39 U.vm ∧ U.heap = h0) (fun _ _ _ _ _ => True) (fun _ U o U' => ∃ v L, o = .returned v ∧ Q10e11 Z o0 o1 k0 k1 u0 w0 h0 n0 v U'.heap L ∧ FrameEnd U o U' L (⟨0, 0, 0, 0⟩ : Room).cells (⟨0, 0, 0, 0⟩ : Room).slots) := by
  refine MetFree.of_bodySF (plainFor_of_name pn_5) hisR ?_
  intro p e s m args below meth c s₁ Bd hml0 hP hK
  obtain ⟨rfl, hZ, hh⟩ := hP
  have hx := Bd.exec
  have hby := Bd.bytes
  have hml : c.maxLocals = 3 := hml0
  have hown : s.vm.findClass "java/lang/StringLatin1" = some m.cls := findClass_of_methodNamed Bd.named
  have hnm := (name_of_methodNamed Bd.named Bd.method).1
  have X0 : Stand p l e (⟨0, 0, 0, 0⟩ : Room) s m #[(.ref o0), (.ref o1)] below meth c s₁ [] 0 0 := Stand.of_body Bd
  have e0 : s₁.heap = h0 := by rw [← hh, Bd.state]; rfl
  have N0 := Fr.nil n0
  have hret := Bd.returns
  have hlk := BodyLoose.notSynchronized Bd
  show own_Out p e below (fun o U' => ∃ v L, o = .returned v ∧ Q10e11 Z o0 o1 k0 k1 u0 w0 h0 n0 v U'.heap L ∧ FrameEnd s o U' L (⟨0, 0, 0, 0⟩ : Room).cells (⟨0, 0, 0, 0⟩ : Room).slots) (s₁.setTop (entryFrame m #[(.ref o0), (.ref o1)] 3))
  refine own_of (fun t k => castTop (ef_10e11 m o0 o1) k) ?_
  show own_Out p e below _ (s₁.setTop (mkF m 0 #[rv o0, rv o1, .unset] []))
  refine o_aloadN X0 hx hby d10_0 rfl rfl (q := 1) rfl ?_
  refine o_lenV X0 hx hby hZ e0 V0 d10_1 (q := 2) rfl ?_
  refine o_aloadN X0 hx hby d10_2 rfl rfl (q := 3) rfl ?_
  refine o_lenV X0 hx hby hZ e0 V1 d10_3 (q := 4) rfl ?_
  refine o_icN X0 hx hby d10_4 (teq (by decide : (1 : Int32) = (1 : Int32))).2 (q := 7) rfl ?_
  refine o_iconst X0 hx hby d10_7 (z := 0) rfl (q := 8) rfl ?_
  refine o_istoreN X0 hx hby d10_8 (l' := #[rv o0, rv o1, iv 0]) rfl (q := 9) rfl ?_
  refine o_iloadN X0 hx hby d10_9 rfl (q := 10) rfl ?_
  refine o_aloadN X0 hx hby d10_10 rfl rfl (q := 11) rfl ?_
  refine o_lenV X0 hx hby hZ e0 V0 d10_11 (q := 12) rfl ?_
  refine o_icN X0 hx hby d10_12 (tlt (by decide : (0 : Int32) < (1 : Int32))).2.1 (q := 15) rfl ?_
  refine o_aloadN X0 hx hby d10_15 rfl rfl (q := 16) rfl ?_
  refine o_iloadN X0 hx hby d10_16 rfl (q := 17) rfl ?_
  refine o_baV X0 hx hby hZ e0 V0 ⟨by decide, by decide⟩ (v := .int u0) rfl d10_17 (q := 18) rfl ?_
  refine o_aloadN X0 hx hby d10_18 rfl rfl (q := 19) rfl ?_
  refine o_iloadN X0 hx hby d10_19 rfl (q := 20) rfl ?_
  refine o_baV X0 hx hby hZ e0 V1 ⟨by decide, by decide⟩ (v := .int w0) rfl d10_20 (q := 21) rfl ?_
  by_cases hc21_1 : u0 = w0
  · skip
    refine o_icY X0 hx hby d10_21 (teq hc21_1).1 (by decide) (q := 26) (by decide) ?_
    refine o_iinc X0 hx hby d10_26 rfl (l' := #[rv o0, rv o1, iv 1]) rfl (q := 29) rfl ?_
    refine o_goto X0 hx hby d10_29 (by decide) (q := 9) (by decide) ?_
    refine o_iloadN X0 hx hby d10_9 rfl (q := 10) rfl ?_
    refine o_aloadN X0 hx hby d10_10 rfl rfl (q := 11) rfl ?_
    refine o_lenV X0 hx hby hZ e0 V0 d10_11 (q := 12) rfl ?_
    refine o_icY X0 hx hby d10_12 (flt (by decide : ¬ ((1 : Int32) < (1 : Int32)))).2.1 (by decide) (q := 32) (by decide) ?_
    refine o_iconst X0 hx hby d10_32 (z := 1) rfl (q := 33) rfl ?_
    exact own_outN X0 hx hlk (t := .boolean) hret (by simp) (hb hby d10_33) (z' := (1 : Int32)) rfl (Q := Q10e11 Z o0 o1 k0 k1 u0 w0 h0 n0) ⟨by simp only [fl11, if_pos hc21_1], N0, e0⟩ (by decide) (by decide)
  · skip
    refine o_icN X0 hx hby d10_21 (feq hc21_1).1 (q := 24) rfl ?_
    refine o_iconst X0 hx hby d10_24 (z := 0) rfl (q := 25) rfl ?_
    exact own_outN X0 hx hlk (t := .boolean) hret (by simp) (hb hby d10_25) (z' := (0 : Int32)) rfl (Q := Q10e11 Z o0 o1 k0 k1 u0 w0 h0 n0) ⟨by simp only [fl11, if_neg hc21_1], N0, e0⟩ (by decide) (by decide)
theorem ef_10e12 (m : MethodId) (x0 x1 : Addr) : entryFrame m #[(.ref x0), (.ref x1)] 3 = mkF m 0 #[.val (.ref x0), .val (.ref x1), .unset] [] := by first | (simp [entryFrame, mkF, argsToLocals, Value.category]; done) | rfl
def fl12 (u0 w0 w1 : Int32) : Int32 := (0 : Int32)
def Q10e12 (Z : State) (o0 o1 : Addr) (k0 k1 : ClassId) (u0 w0 w1 : Int32) (h0 : Heap) (n0 : Nat) (v : Option Value) (h : Heap) (L : List Loc) : Prop := v = some (.int (fl12 u0 w0 w1)) ∧ Fr n0 L ∧ h = h0
set_option maxRecDepth 65536 in
set_option maxHeartbeats 40000000 in
theorem rm10e12 (l : Launch) (Z : State) (a0 : Array Value) (hw : ∀ d ∈ tables_1, d.before a0 Z = true) (ws : List Jvm.Cond) (o0 o1 : Addr) (k0 k1 : ClassId) (u0 w0 w1 : Int32) (h0 : Heap) (n0 : Nat) (Z0 : n0 ≤ h0.size) (V0 : Arv Z h0 o0 k0 .byte (1 : Int32) [(.int u0)] (.int 0)) (V1 : Arv Z h0 o1 k1 .byte (2 : Int32) [(.int w0), (.int w1)] (.int 0)) :
    MetFree l (⟨"java/lang/StringLatin1", "equals", "([B[B)Z"⟩ : MethodName) (head1 (Jvm.Cond.code (⟨"java/lang/StringLatin1", "equals", "([B[B)Z"⟩ : MethodName) jdk_43_method_13_code 3 (some .boolean) :: ws) (⟨0, 0, 0, 0⟩ : Room)) (fun a U => a = #[(.ref o0), (.ref o1)] ∧ Z.Warmed39 U.vm ∧ U.heap = h0) (fun _ _ _ _ _ => True) (fun _ U o U' => ∃ v L, o = .returned v ∧ Q10e12 Z o0 o1 k0 k1 u0 w0 w1 h0 n0 v U'.heap L ∧ FrameEnd U o U' L (⟨0, 0, 0, 0⟩ : Room).cells (⟨0, 0, 0, 0⟩ : Room).slots) := by
  refine MetFree.of_bodySF (plainFor_of_name pn_5) hisR ?_
  intro p e s m args below meth c s₁ Bd hml0 hP hK
  obtain ⟨rfl, hZ, hh⟩ := hP
  have hx := Bd.exec
  have hby := Bd.bytes
  have hml : c.maxLocals = 3 := hml0
  have hown : s.vm.findClass "java/lang/StringLatin1" = some m.cls := findClass_of_methodNamed Bd.named
  have hnm := (name_of_methodNamed Bd.named Bd.method).1
  have X0 : Stand p l e (⟨0, 0, 0, 0⟩ : Room) s m #[(.ref o0), (.ref o1)] below meth c s₁ [] 0 0 := Stand.of_body Bd
  have e0 : s₁.heap = h0 := by rw [← hh, Bd.state]; rfl
  have N0 := Fr.nil n0
  have hret := Bd.returns
  have hlk := BodyLoose.notSynchronized Bd
  show own_Out p e below (fun o U' => ∃ v L, o = .returned v ∧ Q10e12 Z o0 o1 k0 k1 u0 w0 w1 h0 n0 v U'.heap L ∧ FrameEnd s o U' L (⟨0, 0, 0, 0⟩ : Room).cells (⟨0, 0, 0, 0⟩ : Room).slots) (s₁.setTop (entryFrame m #[(.ref o0), (.ref o1)] 3))
  refine own_of (fun t k => castTop (ef_10e12 m o0 o1) k) ?_
  show own_Out p e below _ (s₁.setTop (mkF m 0 #[rv o0, rv o1, .unset] []))
  refine o_aloadN X0 hx hby d10_0 rfl rfl (q := 1) rfl ?_
  refine o_lenV X0 hx hby hZ e0 V0 d10_1 (q := 2) rfl ?_
  refine o_aloadN X0 hx hby d10_2 rfl rfl (q := 3) rfl ?_
  refine o_lenV X0 hx hby hZ e0 V1 d10_3 (q := 4) rfl ?_
  refine o_icY X0 hx hby d10_4 (feq (by decide : ¬ ((1 : Int32) = (2 : Int32)))).2 (by decide) (q := 34) (by decide) ?_
  refine o_iconst X0 hx hby d10_34 (z := 0) rfl (q := 35) rfl ?_
  exact own_outN X0 hx hlk (t := .boolean) hret (by simp) (hb hby d10_35) (z' := (0 : Int32)) rfl (Q := Q10e12 Z o0 o1 k0 k1 u0 w0 w1 h0 n0) ⟨by simp only [fl12], N0, e0⟩ (by decide) (by decide)
theorem ef_10e20 (m : MethodId) (x0 x1 : Addr) : entryFrame m #[(.ref x0), (.ref x1)] 3 = mkF m 0 #[.val (.ref x0), .val (.ref x1), .unset] [] := by first | (simp [entryFrame, mkF, argsToLocals, Value.category]; done) | rfl
def fl20 (u0 u1 : Int32) : Int32 := (0 : Int32)
def Q10e20 (Z : State) (o0 o1 : Addr) (k0 k1 : ClassId) (u0 u1 : Int32) (h0 : Heap) (n0 : Nat) (v : Option Value) (h : Heap) (L : List Loc) : Prop := v = some (.int (fl20 u0 u1)) ∧ Fr n0 L ∧ h = h0
set_option maxRecDepth 65536 in
set_option maxHeartbeats 40000000 in
theorem rm10e20 (l : Launch) (Z : State) (a0 : Array Value) (hw : ∀ d ∈ tables_1, d.before a0 Z = true) (ws : List Jvm.Cond) (o0 o1 : Addr) (k0 k1 : ClassId) (u0 u1 : Int32) (h0 : Heap) (n0 : Nat) (Z0 : n0 ≤ h0.size) (V0 : Arv Z h0 o0 k0 .byte (2 : Int32) [(.int u0), (.int u1)] (.int 0)) (V1 : Arv Z h0 o1 k1 .byte (0 : Int32) [] (.int 0)) :
    MetFree l (⟨"java/lang/StringLatin1", "equals", "([B[B)Z"⟩ : MethodName) (head1 (Jvm.Cond.code (⟨"java/lang/StringLatin1", "equals", "([B[B)Z"⟩ : MethodName) jdk_43_method_13_code 3 (some .boolean) :: ws) (⟨0, 0, 0, 0⟩ : Room)) (fun a U => a = #[(.ref o0), (.ref o1)] ∧ Z.Warmed39 U.vm ∧ U.heap = h0) (fun _ _ _ _ _ => True) (fun _ U o U' => ∃ v L, o = .returned v ∧ Q10e20 Z o0 o1 k0 k1 u0 u1 h0 n0 v U'.heap L ∧ FrameEnd U o U' L (⟨0, 0, 0, 0⟩ : Room).cells (⟨0, 0, 0, 0⟩ : Room).slots) := by
  refine MetFree.of_bodySF (plainFor_of_name pn_5) hisR ?_
  intro p e s m args below meth c s₁ Bd hml0 hP hK
  obtain ⟨rfl, hZ, hh⟩ := hP
  have hx := Bd.exec
  have hby := Bd.bytes
  have hml : c.maxLocals = 3 := hml0
  have hown : s.vm.findClass "java/lang/StringLatin1" = some m.cls := findClass_of_methodNamed Bd.named
  have hnm := (name_of_methodNamed Bd.named Bd.method).1
  have X0 : Stand p l e (⟨0, 0, 0, 0⟩ : Room) s m #[(.ref o0), (.ref o1)] below meth c s₁ [] 0 0 := Stand.of_body Bd
  have e0 : s₁.heap = h0 := by rw [← hh, Bd.state]; rfl
  have N0 := Fr.nil n0
  have hret := Bd.returns
  have hlk := BodyLoose.notSynchronized Bd
  show own_Out p e below (fun o U' => ∃ v L, o = .returned v ∧ Q10e20 Z o0 o1 k0 k1 u0 u1 h0 n0 v U'.heap L ∧ FrameEnd s o U' L (⟨0, 0, 0, 0⟩ : Room).cells (⟨0, 0, 0, 0⟩ : Room).slots) (s₁.setTop (entryFrame m #[(.ref o0), (.ref o1)] 3))
  refine own_of (fun t k => castTop (ef_10e20 m o0 o1) k) ?_
  show own_Out p e below _ (s₁.setTop (mkF m 0 #[rv o0, rv o1, .unset] []))
  refine o_aloadN X0 hx hby d10_0 rfl rfl (q := 1) rfl ?_
  refine o_lenV X0 hx hby hZ e0 V0 d10_1 (q := 2) rfl ?_
  refine o_aloadN X0 hx hby d10_2 rfl rfl (q := 3) rfl ?_
  refine o_lenV X0 hx hby hZ e0 V1 d10_3 (q := 4) rfl ?_
  refine o_icY X0 hx hby d10_4 (feq (by decide : ¬ ((2 : Int32) = (0 : Int32)))).2 (by decide) (q := 34) (by decide) ?_
  refine o_iconst X0 hx hby d10_34 (z := 0) rfl (q := 35) rfl ?_
  exact own_outN X0 hx hlk (t := .boolean) hret (by simp) (hb hby d10_35) (z' := (0 : Int32)) rfl (Q := Q10e20 Z o0 o1 k0 k1 u0 u1 h0 n0) ⟨by simp only [fl20], N0, e0⟩ (by decide) (by decide)
theorem ef_10e21 (m : MethodId) (x0 x1 : Addr) : entryFrame m #[(.ref x0), (.ref x1)] 3 = mkF m 0 #[.val (.ref x0), .val (.ref x1), .unset] [] := by first | (simp [entryFrame, mkF, argsToLocals, Value.category]; done) | rfl
def fl21 (u0 u1 w0 : Int32) : Int32 := (0 : Int32)
def Q10e21 (Z : State) (o0 o1 : Addr) (k0 k1 : ClassId) (u0 u1 w0 : Int32) (h0 : Heap) (n0 : Nat) (v : Option Value) (h : Heap) (L : List Loc) : Prop := v = some (.int (fl21 u0 u1 w0)) ∧ Fr n0 L ∧ h = h0
set_option maxRecDepth 65536 in
set_option maxHeartbeats 40000000 in
theorem rm10e21 (l : Launch) (Z : State) (a0 : Array Value) (hw : ∀ d ∈ tables_1, d.before a0 Z = true) (ws : List Jvm.Cond) (o0 o1 : Addr) (k0 k1 : ClassId) (u0 u1 w0 : Int32) (h0 : Heap) (n0 : Nat) (Z0 : n0 ≤ h0.size) (V0 : Arv Z h0 o0 k0 .byte (2 : Int32) [(.int u0), (.int u1)] (.int 0)) (V1 : Arv Z h0 o1 k1 .byte (1 : Int32) [(.int w0)] (.int 0)) :
    MetFree l (⟨"java/lang/StringLatin1", "equals", "([B[B)Z"⟩ : MethodName) (head1 (Jvm.Cond.code (⟨"java/lang/StringLatin1", "equals", "([B[B)Z"⟩ : MethodName) jdk_43_method_13_code 3 (some .boolean) :: ws) (⟨0, 0, 0, 0⟩ : Room)) (fun a U => a = #[(.ref o0), (.ref o1)] ∧ Z.Warmed39 U.vm ∧ U.heap = h0) (fun _ _ _ _ _ => True) (fun _ U o U' => ∃ v L, o = .returned v ∧ Q10e21 Z o0 o1 k0 k1 u0 u1 w0 h0 n0 v U'.heap L ∧ FrameEnd U o U' L (⟨0, 0, 0, 0⟩ : Room).cells (⟨0, 0, 0, 0⟩ : Room).slots) := by
  refine MetFree.of_bodySF (plainFor_of_name pn_5) hisR ?_
  intro p e s m args below meth c s₁ Bd hml0 hP hK
  obtain ⟨rfl, hZ, hh⟩ := hP
  have hx := Bd.exec
  have hby := Bd.bytes
  have hml : c.maxLocals = 3 := hml0
  have hown : s.vm.findClass "java/lang/StringLatin1" = some m.cls := findClass_of_methodNamed Bd.named
  have hnm := (name_of_methodNamed Bd.named Bd.method).1
  have X0 : Stand p l e (⟨0, 0, 0, 0⟩ : Room) s m #[(.ref o0), (.ref o1)] below meth c s₁ [] 0 0 := Stand.of_body Bd
  have e0 : s₁.heap = h0 := by rw [← hh, Bd.state]; rfl
  have N0 := Fr.nil n0
  have hret := Bd.returns
  have hlk := BodyLoose.notSynchronized Bd
  show own_Out p e below (fun o U' => ∃ v L, o = .returned v ∧ Q10e21 Z o0 o1 k0 k1 u0 u1 w0 h0 n0 v U'.heap L ∧ FrameEnd s o U' L (⟨0, 0, 0, 0⟩ : Room).cells (⟨0, 0, 0, 0⟩ : Room).slots) (s₁.setTop (entryFrame m #[(.ref o0), (.ref o1)] 3))
  refine own_of (fun t k => castTop (ef_10e21 m o0 o1) k) ?_
  show own_Out p e below _ (s₁.setTop (mkF m 0 #[rv o0, rv o1, .unset] []))
  refine o_aloadN X0 hx hby d10_0 rfl rfl (q := 1) rfl ?_
  refine o_lenV X0 hx hby hZ e0 V0 d10_1 (q := 2) rfl ?_
  refine o_aloadN X0 hx hby d10_2 rfl rfl (q := 3) rfl ?_
  refine o_lenV X0 hx hby hZ e0 V1 d10_3 (q := 4) rfl ?_
  refine o_icY X0 hx hby d10_4 (feq (by decide : ¬ ((2 : Int32) = (1 : Int32)))).2 (by decide) (q := 34) (by decide) ?_
  refine o_iconst X0 hx hby d10_34 (z := 0) rfl (q := 35) rfl ?_
  exact own_outN X0 hx hlk (t := .boolean) hret (by simp) (hb hby d10_35) (z' := (0 : Int32)) rfl (Q := Q10e21 Z o0 o1 k0 k1 u0 u1 w0 h0 n0) ⟨by simp only [fl21], N0, e0⟩ (by decide) (by decide)
theorem ef_10e22 (m : MethodId) (x0 x1 : Addr) : entryFrame m #[(.ref x0), (.ref x1)] 3 = mkF m 0 #[.val (.ref x0), .val (.ref x1), .unset] [] := by first | (simp [entryFrame, mkF, argsToLocals, Value.category]; done) | rfl
def fl22 (u0 u1 w0 w1 : Int32) : Int32 := if u0 = w0 then (if u1 = w1 then (1 : Int32)
    else (0 : Int32))
  else (0 : Int32)
def Q10e22 (Z : State) (o0 o1 : Addr) (k0 k1 : ClassId) (u0 u1 w0 w1 : Int32) (h0 : Heap) (n0 : Nat) (v : Option Value) (h : Heap) (L : List Loc) : Prop := v = some (.int (fl22 u0 u1 w0 w1)) ∧ Fr n0 L ∧ h = h0
set_option maxRecDepth 65536 in
set_option maxHeartbeats 40000000 in
theorem rm10e22 (l : Launch) (Z : State) (a0 : Array Value) (hw : ∀ d ∈ tables_1, d.before a0 Z = true) (ws : List Jvm.Cond) (o0 o1 : Addr) (k0 k1 : ClassId) (u0 u1 w0 w1 : Int32) (h0 : Heap) (n0 : Nat) (Z0 : n0 ≤ h0.size) (V0 : Arv Z h0 o0 k0 .byte (2 : Int32) [(.int u0), (.int u1)] (.int 0)) (V1 : Arv Z h0 o1 k1 .byte (2 : Int32) [(.int w0), (.int w1)] (.int 0)) :
    MetFree l (⟨"java/lang/StringLatin1", "equals", "([B[B)Z"⟩ : MethodName) (head1 (Jvm.Cond.code (⟨"java/lang/StringLatin1", "equals", "([B[B)Z"⟩ : MethodName) jdk_43_method_13_code 3 (some .boolean) :: ws) (⟨0, 0, 0, 0⟩ : Room)) (fun a U => a = #[(.ref o0), (.ref o1)] ∧ Z.Warmed39 U.vm ∧ U.heap = h0) (fun _ _ _ _ _ => True) (fun _ U o U' => ∃ v L, o = .returned v ∧ Q10e22 Z o0 o1 k0 k1 u0 u1 w0 w1 h0 n0 v U'.heap L ∧ FrameEnd U o U' L (⟨0, 0, 0, 0⟩ : Room).cells (⟨0, 0, 0, 0⟩ : Room).slots) := by
  refine MetFree.of_bodySF (plainFor_of_name pn_5) hisR ?_
  intro p e s m args below meth c s₁ Bd hml0 hP hK
  obtain ⟨rfl, hZ, hh⟩ := hP
  have hx := Bd.exec
  have hby := Bd.bytes
  have hml : c.maxLocals = 3 := hml0
  have hown : s.vm.findClass "java/lang/StringLatin1" = some m.cls := findClass_of_methodNamed Bd.named
  have hnm := (name_of_methodNamed Bd.named Bd.method).1
  have X0 : Stand p l e (⟨0, 0, 0, 0⟩ : Room) s m #[(.ref o0), (.ref o1)] below meth c s₁ [] 0 0 := Stand.of_body Bd
  have e0 : s₁.heap = h0 := by rw [← hh, Bd.state]; rfl
  have N0 := Fr.nil n0
  have hret := Bd.returns
  have hlk := BodyLoose.notSynchronized Bd
  show own_Out p e below (fun o U' => ∃ v L, o = .returned v ∧ Q10e22 Z o0 o1 k0 k1 u0 u1 w0 w1 h0 n0 v U'.heap L ∧ FrameEnd s o U' L (⟨0, 0, 0, 0⟩ : Room).cells (⟨0, 0, 0, 0⟩ : Room).slots) (s₁.setTop (entryFrame m #[(.ref o0), (.ref o1)] 3))
  refine own_of (fun t k => castTop (ef_10e22 m o0 o1) k) ?_
  show own_Out p e below _ (s₁.setTop (mkF m 0 #[rv o0, rv o1, .unset] []))
  refine o_aloadN X0 hx hby d10_0 rfl rfl (q := 1) rfl ?_
  refine o_lenV X0 hx hby hZ e0 V0 d10_1 (q := 2) rfl ?_
  refine o_aloadN X0 hx hby d10_2 rfl rfl (q := 3) rfl ?_
  refine o_lenV X0 hx hby hZ e0 V1 d10_3 (q := 4) rfl ?_
  refine o_icN X0 hx hby d10_4 (teq (by decide : (2 : Int32) = (2 : Int32))).2 (q := 7) rfl ?_
  refine o_iconst X0 hx hby d10_7 (z := 0) rfl (q := 8) rfl ?_
  refine o_istoreN X0 hx hby d10_8 (l' := #[rv o0, rv o1, iv 0]) rfl (q := 9) rfl ?_
  refine o_iloadN X0 hx hby d10_9 rfl (q := 10) rfl ?_
  refine o_aloadN X0 hx hby d10_10 rfl rfl (q := 11) rfl ?_
  refine o_lenV X0 hx hby hZ e0 V0 d10_11 (q := 12) rfl ?_
  refine o_icN X0 hx hby d10_12 (tlt (by decide : (0 : Int32) < (2 : Int32))).2.1 (q := 15) rfl ?_
  refine o_aloadN X0 hx hby d10_15 rfl rfl (q := 16) rfl ?_
  refine o_iloadN X0 hx hby d10_16 rfl (q := 17) rfl ?_
  refine o_baV X0 hx hby hZ e0 V0 ⟨by decide, by decide⟩ (v := .int u0) rfl d10_17 (q := 18) rfl ?_
  refine o_aloadN X0 hx hby d10_18 rfl rfl (q := 19) rfl ?_
  refine o_iloadN X0 hx hby d10_19 rfl (q := 20) rfl ?_
  refine o_baV X0 hx hby hZ e0 V1 ⟨by decide, by decide⟩ (v := .int w0) rfl d10_20 (q := 21) rfl ?_
  by_cases hc21_1 : u0 = w0
  · skip
    refine o_icY X0 hx hby d10_21 (teq hc21_1).1 (by decide) (q := 26) (by decide) ?_
    refine o_iinc X0 hx hby d10_26 rfl (l' := #[rv o0, rv o1, iv 1]) rfl (q := 29) rfl ?_
    refine o_goto X0 hx hby d10_29 (by decide) (q := 9) (by decide) ?_
    refine o_iloadN X0 hx hby d10_9 rfl (q := 10) rfl ?_
    refine o_aloadN X0 hx hby d10_10 rfl rfl (q := 11) rfl ?_
    refine o_lenV X0 hx hby hZ e0 V0 d10_11 (q := 12) rfl ?_
    refine o_icN X0 hx hby d10_12 (tlt (by decide : (1 : Int32) < (2 : Int32))).2.1 (q := 15) rfl ?_
    refine o_aloadN X0 hx hby d10_15 rfl rfl (q := 16) rfl ?_
    refine o_iloadN X0 hx hby d10_16 rfl (q := 17) rfl ?_
    refine o_baV X0 hx hby hZ e0 V0 ⟨by decide, by decide⟩ (v := .int u1) rfl d10_17 (q := 18) rfl ?_
    refine o_aloadN X0 hx hby d10_18 rfl rfl (q := 19) rfl ?_
    refine o_iloadN X0 hx hby d10_19 rfl (q := 20) rfl ?_
    refine o_baV X0 hx hby hZ e0 V1 ⟨by decide, by decide⟩ (v := .int w1) rfl d10_20 (q := 21) rfl ?_
    by_cases hc21_2 : u1 = w1
    · skip
      refine o_icY X0 hx hby d10_21 (teq hc21_2).1 (by decide) (q := 26) (by decide) ?_
      refine o_iinc X0 hx hby d10_26 rfl (l' := #[rv o0, rv o1, iv 2]) rfl (q := 29) rfl ?_
      refine o_goto X0 hx hby d10_29 (by decide) (q := 9) (by decide) ?_
      refine o_iloadN X0 hx hby d10_9 rfl (q := 10) rfl ?_
      refine o_aloadN X0 hx hby d10_10 rfl rfl (q := 11) rfl ?_
      refine o_lenV X0 hx hby hZ e0 V0 d10_11 (q := 12) rfl ?_
      refine o_icY X0 hx hby d10_12 (flt (by decide : ¬ ((2 : Int32) < (2 : Int32)))).2.1 (by decide) (q := 32) (by decide) ?_
      refine o_iconst X0 hx hby d10_32 (z := 1) rfl (q := 33) rfl ?_
      exact own_outN X0 hx hlk (t := .boolean) hret (by simp) (hb hby d10_33) (z' := (1 : Int32)) rfl (Q := Q10e22 Z o0 o1 k0 k1 u0 u1 w0 w1 h0 n0) ⟨by simp only [fl22, if_pos hc21_1, if_pos hc21_2], N0, e0⟩ (by decide) (by decide)
    · skip
      refine o_icN X0 hx hby d10_21 (feq hc21_2).1 (q := 24) rfl ?_
      refine o_iconst X0 hx hby d10_24 (z := 0) rfl (q := 25) rfl ?_
      exact own_outN X0 hx hlk (t := .boolean) hret (by simp) (hb hby d10_25) (z' := (0 : Int32)) rfl (Q := Q10e22 Z o0 o1 k0 k1 u0 u1 w0 w1 h0 n0) ⟨by simp only [fl22, if_pos hc21_1, if_neg hc21_2], N0, e0⟩ (by decide) (by decide)
  · skip
    refine o_icN X0 hx hby d10_21 (feq hc21_1).1 (q := 24) rfl ?_
    refine o_iconst X0 hx hby d10_24 (z := 0) rfl (q := 25) rfl ?_
    exact own_outN X0 hx hlk (t := .boolean) hret (by simp) (hb hby d10_25) (z' := (0 : Int32)) rfl (Q := Q10e22 Z o0 o1 k0 k1 u0 u1 w0 w1 h0 n0) ⟨by simp only [fl22, if_neg hc21_1], N0, e0⟩ (by decide) (by decide)
def fle (n u0 u1 m w0 w1 : Int32) : Int32 := if n = m then (if n = 0 then 1 else if n = 1 then (if u0 = w0 then 1 else 0) else (if u0 = w0 then (if u1 = w1 then 1 else 0) else 0)) else 0
def QR (r : Int32) (h0 : Heap) (n0 : Nat) (v : Option Value) (h : Heap) (L : List Loc) : Prop := v = some (.int r) ∧ Fr n0 L ∧ h = h0
theorem le_all (l : Launch) (Z : State) (a0 : Array Value) (hw : ∀ d ∈ tables_1, d.before a0 Z = true) (ws : List Jvm.Cond) (o0 o1 : Addr) (k0 k1 : ClassId) (n u0 u1 m w0 w1 : Int32) (h0 : Heap) (n0 : Nat) (Z0 : n0 ≤ h0.size) (V0 : Arv Z h0 o0 k0 .byte n (bl n u0 u1) (.int 0)) (V1 : Arv Z h0 o1 k1 .byte m (bl m w0 w1) (.int 0)) (hn : n = 0 ∨ n = 1 ∨ n = 2) (hm : m = 0 ∨ m = 1 ∨ m = 2) :
    MetFree l (⟨"java/lang/StringLatin1", "equals", "([B[B)Z"⟩ : MethodName) (head1 (Jvm.Cond.code (⟨"java/lang/StringLatin1", "equals", "([B[B)Z"⟩ : MethodName) jdk_43_method_13_code 3 (some .boolean) :: ws) (⟨0, 0, 0, 0⟩ : Room)) (fun a U => a = #[(.ref o0), (.ref o1)] ∧ Z.Warmed39 U.vm ∧ U.heap = h0) (fun _ _ _ _ _ => True) (fun _ U o U' => ∃ v L, o = .returned v ∧ QR (fle n u0 u1 m w0 w1) h0 n0 v U'.heap L ∧ FrameEnd U o U' L (⟨0, 0, 0, 0⟩ : Room).cells (⟨0, 0, 0, 0⟩ : Room).slots) := by
  rcases hn with rfl | rfl | rfl <;> rcases hm with rfl | rfl | rfl
  · have e : fle 0 u0 u1 0 w0 w1 = fl00  := by simp [fle, fl00]
    rw [e]
    exact rm10e00 l Z a0 hw ws o0 o1 k0 k1  h0 n0 Z0 V0 V1
  · have e : fle 0 u0 u1 1 w0 w1 = fl01 w0 := by simp [fle, fl01]
    rw [e]
    exact rm10e01 l Z a0 hw ws o0 o1 k0 k1 w0 h0 n0 Z0 V0 V1
  · have e : fle 0 u0 u1 2 w0 w1 = fl02 w0 w1 := by simp [fle, fl02]
    rw [e]
    exact rm10e02 l Z a0 hw ws o0 o1 k0 k1 w0 w1 h0 n0 Z0 V0 V1
  · have e : fle 1 u0 u1 0 w0 w1 = fl10 u0 := by simp [fle, fl10]
    rw [e]
    exact rm10e10 l Z a0 hw ws o0 o1 k0 k1 u0 h0 n0 Z0 V0 V1
  · have e : fle 1 u0 u1 1 w0 w1 = fl11 u0 w0 := by simp [fle, fl11]
    rw [e]
    exact rm10e11 l Z a0 hw ws o0 o1 k0 k1 u0 w0 h0 n0 Z0 V0 V1
  · have e : fle 1 u0 u1 2 w0 w1 = fl12 u0 w0 w1 := by simp [fle, fl12]
    rw [e]
    exact rm10e12 l Z a0 hw ws o0 o1 k0 k1 u0 w0 w1 h0 n0 Z0 V0 V1
  · have e : fle 2 u0 u1 0 w0 w1 = fl20 u0 u1 := by simp [fle, fl20]
    rw [e]
    exact rm10e20 l Z a0 hw ws o0 o1 k0 k1 u0 u1 h0 n0 Z0 V0 V1
  · have e : fle 2 u0 u1 1 w0 w1 = fl21 u0 u1 w0 := by simp [fle, fl21]
    rw [e]
    exact rm10e21 l Z a0 hw ws o0 o1 k0 k1 u0 u1 w0 h0 n0 Z0 V0 V1
  · have e : fle 2 u0 u1 2 w0 w1 = fl22 u0 u1 w0 w1 := by simp [fle, fl22]
    rw [e]
    exact rm10e22 l Z a0 hw ws o0 o1 k0 k1 u0 u1 w0 w1 h0 n0 Z0 V0 V1
theorem pd_6 : parseMethodDescriptor "([B[B)Z" = some ⟨[(.array .byte), (.array .byte)], some .boolean⟩ := by decide +kernel
theorem d9_0 : decode jdk_42_method_66_code 0 = .ok (.aload_n 0, 1) := by decide +kernel
theorem d9_1 : decode jdk_42_method_66_code 1 = .ok (.aload_n 1, 1) := by decide +kernel
theorem d9_2 : decode jdk_42_method_66_code 2 = .ok (.if_acmp .ne 5, 3) := by decide +kernel
theorem d9_7 : decode jdk_42_method_66_code 7 = .ok (.aload_n 1, 1) := by decide +kernel
theorem d9_8 : decode jdk_42_method_66_code 8 = .ok (.instanceof 10, 3) := by decide +kernel
theorem d9_11 : decode jdk_42_method_66_code 11 = .ok (.ifCond .eq 43, 3) := by decide +kernel
theorem d9_14 : decode jdk_42_method_66_code 14 = .ok (.aload_n 1, 1) := by decide +kernel
theorem d9_15 : decode jdk_42_method_66_code 15 = .ok (.checkcast 10, 3) := by decide +kernel
theorem d9_18 : decode jdk_42_method_66_code 18 = .ok (.astore_n 2, 1) := by decide +kernel
theorem d9_19 : decode jdk_42_method_66_code 19 = .ok (.getstatic 38, 3) := by decide +kernel
theorem d9_22 : decode jdk_42_method_66_code 22 = .ok (.ifCond .eq 14, 3) := by decide +kernel
theorem d9_25 : decode jdk_42_method_66_code 25 = .ok (.aload_n 0, 1) := by decide +kernel
theorem d9_26 : decode jdk_42_method_66_code 26 = .ok (.getfield 15, 3) := by decide +kernel
theorem d9_29 : decode jdk_42_method_66_code 29 = .ok (.aload_n 2, 1) := by decide +kernel
theorem d9_30 : decode jdk_42_method_66_code 30 = .ok (.getfield 15, 3) := by decide +kernel
theorem d9_33 : decode jdk_42_method_66_code 33 = .ok (.if_icmp .ne 21, 3) := by decide +kernel
theorem d9_36 : decode jdk_42_method_66_code 36 = .ok (.aload_n 0, 1) := by decide +kernel
theorem d9_37 : decode jdk_42_method_66_code 37 = .ok (.getfield 9, 3) := by decide +kernel
theorem d9_40 : decode jdk_42_method_66_code 40 = .ok (.aload_n 2, 1) := by decide +kernel
theorem d9_41 : decode jdk_42_method_66_code 41 = .ok (.getfield 9, 3) := by decide +kernel
theorem d9_44 : decode jdk_42_method_66_code 44 = .ok (.invokestatic 541, 3) := by decide +kernel
theorem d9_47 : decode jdk_42_method_66_code 47 = .ok (.ifCond .eq 7, 3) := by decide +kernel
theorem d9_50 : decode jdk_42_method_66_code 50 = .ok (.iconst 1, 1) := by decide +kernel
theorem d9_51 : decode jdk_42_method_66_code 51 = .ok (.goto 4, 3) := by decide +kernel
theorem d9_54 : decode jdk_42_method_66_code 54 = .ok (.iconst 0, 1) := by decide +kernel
theorem d9_55 : decode jdk_42_method_66_code 55 = .ok (.ireturn, 1) := by decide +kernel
theorem ef_9d (m : MethodId) (x0 x1 : Addr) : entryFrame m #[(.ref x0), (.ref x1)] 3 = mkF m 0 #[.val (.ref x0), .val (.ref x1), .unset] [] := by first | (simp [entryFrame, mkF, argsToLocals, Value.category]; done) | rfl
def fse (na ua va nc uc vc cs : Int32) : Int32 := if (fle na ua va nc uc vc) = (0 : Int32) then (0 : Int32)
  else (1 : Int32)
def Q9d (Z : State) (o0 o1 oa : Addr) (ka : ClassId) (na ua va : Int32) (oc : Addr) (kc : ClassId) (nc uc vc cs : Int32) (h0 : Heap) (n0 : Nat) (v : Option Value) (h : Heap) (L : List Loc) : Prop := v = some (.int (fse na ua va nc uc vc cs)) ∧ Fr n0 L ∧ h = h0
set_option maxRecDepth 65536 in
set_option maxHeartbeats 40000000 in
theorem rm9d (l : Launch) (Z : State) (a0 : Array Value) (hw : ∀ d ∈ tables_1, d.before a0 Z = true) (ws : List Jvm.Cond) (o0 o1 oa : Addr) (ka : ClassId) (na ua va : Int32) (oc : Addr) (kc : ClassId) (nc uc vc cs : Int32) (h0 : Heap) (n0 : Nat) (Z0 : n0 ≤ h0.size) (Ea : Exa Z h0 o0 "java/lang/String") (Fva : Fld Z h0 o0 "java/lang/String" "value" "[B" (.ref oa)) (Fca : Fld Z h0 o0 "java/lang/String" "coder" "B" (.int 0)) (Va : Arv Z h0 oa ka .byte na (bl na ua va) (.int 0)) (hla : na = 0 ∨ na = 1 ∨ na = 2) (Ec : Exa Z h0 o1 "java/lang/String") (Fvc : Fld Z h0 o1 "java/lang/String" "value" "[B" (.ref oc)) (Fcc : Fld Z h0 o1 "java/lang/String" "coder" "B" (.int 0)) (Vc : Arv Z h0 oc kc .byte nc (bl nc uc vc) (.int 0)) (hlc : nc = 0 ∨ nc = 1 ∨ nc = 2) (S_cs : Sta Z h0 "java/lang/String" "COMPACT_STRINGS" "Z" (.int cs)) (hcs : ¬ (cs = (0 : Int32))) (hne : o0 ≠ o1) :
    MetFree l (⟨"java/lang/String", "equals", "(Ljava/lang/Object;)Z"⟩ : MethodName) (head1 (Jvm.Cond.code (⟨"java/lang/String", "equals", "(Ljava/lang/Object;)Z"⟩ : MethodName) jdk_42_method_66_code 3 (some .boolean) :: ws) (⟨1, 0, 0, 14⟩ : Room)) (fun a U => a = #[(.ref o0), (.ref o1)] ∧ Z.Warmed39 U.vm ∧ U.heap = h0) (fun _ _ _ _ _ => True) (fun _ U o U' => ∃ v L, o = .returned v ∧ Q9d Z o0 o1 oa ka na ua va oc kc nc uc vc cs h0 n0 v U'.heap L ∧ FrameEnd U o U' L (⟨1, 0, 0, 14⟩ : Room).cells (⟨1, 0, 0, 14⟩ : Room).slots) := by
  refine MetFree.of_bodySF (plainFor_of_name pn_1) hisR ?_
  intro p e s m args below meth c s₁ Bd hml0 hP hK
  obtain ⟨rfl, hZ, hh⟩ := hP
  have hx := Bd.exec
  have hby := Bd.bytes
  have hml : c.maxLocals = 3 := hml0
  have hown : s.vm.findClass "java/lang/String" = some m.cls := findClass_of_methodNamed Bd.named
  have hnm := (name_of_methodNamed Bd.named Bd.method).1
  have X0 : Stand p l e (⟨1, 0, 0, 14⟩ : Room) s m #[(.ref o0), (.ref o1)] below meth c s₁ [] 0 0 := Stand.of_body Bd
  have e0 : s₁.heap = h0 := by rw [← hh, Bd.state]; rfl
  have N0 := Fr.nil n0
  have hret := Bd.returns
  have hlk := BodyLoose.notSynchronized Bd
  show own_Out p e below (fun o U' => ∃ v L, o = .returned v ∧ Q9d Z o0 o1 oa ka na ua va oc kc nc uc vc cs h0 n0 v U'.heap L ∧ FrameEnd s o U' L (⟨1, 0, 0, 14⟩ : Room).cells (⟨1, 0, 0, 14⟩ : Room).slots) (s₁.setTop (entryFrame m #[(.ref o0), (.ref o1)] 3))
  refine own_of (fun t k => castTop (ef_9d m o0 o1) k) ?_
  show own_Out p e below _ (s₁.setTop (mkF m 0 #[rv o0, rv o1, .unset] []))
  refine o_aloadN X0 hx hby d9_0 rfl rfl (q := 1) rfl ?_
  refine o_aloadN X0 hx hby d9_1 rfl rfl (q := 2) rfl ?_
  refine own_of (fun _ k => Jvm.RoadKit.acmp (g := (mkF m 2 #[rv o0, rv o1, .unset] [.ref o1, .ref o0])) X0 hx rfl rfl rfl (pc0 := 2) (pc' := 7) (same := false) rfl (hb hby d9_2) rfl (decide_eq_false fun q => hne (Value.ref.inj q)) (by decide) (by decide) k) ?_
  show own_Out p e below _ (s₁.setTop (mkF m 7 #[rv o0, rv o1, .unset] []))
  refine o_aloadN X0 hx hby d9_7 rfl rfl (q := 8) rfl ?_
  obtain ⟨T1, X1, e1, st1⟩ := instY X0 hx hZ hown (w_ hw 63 rfl) e0 (Ins.self Ec) (g := (mkF m 8 #[rv o0, rv o1, .unset] [.ref o1])) rfl rfl (hb hby d9_8)
  refine own_of st1 ?_
  show own_Out p e below _ (T1.setTop (mkF m 11 #[rv o0, rv o1, .unset] [.int 1]))
  refine o_ifN X1 hx hby d9_11 ((if0 _ _).trans (feq (by decide : ¬ ((1 : Int32) = (0 : Int32)))).1) (q := 14) rfl ?_
  refine o_aloadN X1 hx hby d9_14 rfl rfl (q := 15) rfl ?_
  obtain ⟨T2, X2, e2, st2⟩ := castY X1 hx hZ hown (w_ hw 63 rfl) e1 (Ins.self Ec) (g := (mkF m 15 #[rv o0, rv o1, .unset] [.ref o1])) rfl rfl (hb hby d9_15)
  refine own_of st2 ?_
  show own_Out p e below _ (T2.setTop (mkF m 18 #[rv o0, rv o1, .unset] [.ref o1]))
  refine o_astoreN X2 hx hby d9_18 rfl (l' := #[rv o0, rv o1, rv o1]) rfl (q := 19) rfl ?_
  obtain ⟨T3, X3, e3, st3⟩ := getS2 X2 hx hZ hown (host := "") (Or.inl (w_ hw 64 rfl)) Via.refl e2 S_cs (g := (mkF m 19 #[rv o0, rv o1, rv o1] [])) rfl (hb hby d9_19)
  refine own_of st3 ?_
  show own_Out p e below _ (T3.setTop (mkF m 22 #[rv o0, rv o1, rv o1] [.int cs]))
  refine o_ifN X3 hx hby d9_22 ((if0 _ _).trans (feq hcs).1) (q := 25) rfl ?_
  refine o_aloadN X3 hx hby d9_25 rfl rfl (q := 26) rfl ?_
  refine o_getF X3 hx hZ hown hby (w_ hw 25 rfl) Via.refl e3 Fca d9_26 (q := 29) rfl fun T4 X4 e4 => ?_
  refine o_aloadN X4 hx hby d9_29 rfl rfl (q := 30) rfl ?_
  refine o_getF X4 hx hZ hown hby (w_ hw 25 rfl) Via.refl e4 Fcc d9_30 (q := 33) rfl fun T5 X5 e5 => ?_
  refine o_icN X5 hx hby d9_33 (teq (by decide : (0 : Int32) = (0 : Int32))).2 (q := 36) rfl ?_
  refine o_aloadN X5 hx hby d9_36 rfl rfl (q := 37) rfl ?_
  refine o_getF X5 hx hZ hown hby (w_ hw 24 rfl) Via.refl e5 Fva d9_37 (q := 40) rfl fun T6 X6 e6 => ?_
  refine o_aloadN X6 hx hby d9_40 rfl rfl (q := 41) rfl ?_
  refine o_getF X6 hx hZ hown hby (w_ hw 24 rfl) Via.refl e6 Fvc d9_41 (q := 44) rfl fun T7 X7 e7 => ?_
  obtain ⟨_, _, ⟨T8, L8, k8, n8⟩, -, X8, ⟨Lc8, hQ8, l8, y8, z8⟩, st8⟩ := Jvm.LawKit.callS X7 hx (y := (⟨"java/lang/StringLatin1", "equals", "([B[B)Z"⟩ : MethodName)) hown (mvT hZ (w_ hw 65 rfl)) (mvT hZ (w_ hw 66 rfl)) (mvT hZ (w_ hw 67 rfl)) (mvT hZ (w_ hw 68 rfl)) (by decide) (backOf (W := 0) (le_all l Z a0 hw [] oa oc ka kc na ua va nc uc vc h0 n0 Z0 Va Vc hla hlc) hZ (w_ hw 68 rfl) (w_ hw 67 rfl) (by decide) (by decide)) (g := (mkF m 44 #[rv o0, rv o1, rv o1] [.ref oc, .ref oa])) rfl (by rw [hml]; rfl) (argsL := [(.ref oa), (.ref oc)]) (rest := []) (lenOf pd_6 rfl) rfl (by show 2 * 0 + _ ≤ _; exact Nat.le_of_eq rfl) (hb hby d9_44) (fun _ _ => ⟨rfl, e7, (by decide : 0 + 0 ≤ _), (by decide : 0 + 0 ≤ _)⟩)
  dsimp only [Pt.U, Pt.locs, Pt.cells, Pt.slots] at X8 l8 y8 z8 st8 hQ8
  subst l8 y8 z8
  obtain ⟨rfl, N8q, hh8⟩ := hQ8
  have N8 := Fr.app N0 N8q
  refine own_of st8 ?_
  show own_Out p e below _ (T8.setTop (mkF m 47 #[rv o0, rv o1, rv o1] [.int (fle na ua va nc uc vc)]))
  by_cases hc47_9 : (fle na ua va nc uc vc) = (0 : Int32)
  · skip
    refine o_ifY X8 hx hby d9_47 ((if0 _ _).trans (teq hc47_9).1) (by decide) (q := 54) (by decide) ?_
    refine o_iconst X8 hx hby d9_54 (z := 0) rfl (q := 55) rfl ?_
    exact own_outN X8 hx hlk (t := .boolean) hret (by simp) (hb hby d9_55) (z' := (0 : Int32)) rfl (Q := Q9d Z o0 o1 oa ka na ua va oc kc nc uc vc cs h0 n0) ⟨by simp only [fse, if_neg hcs, if_pos hc47_9], N8, hh8⟩ (by decide) (by decide)
  · skip
    refine o_ifN X8 hx hby d9_47 ((if0 _ _).trans (feq hc47_9).1) (q := 50) rfl ?_
    refine o_iconst X8 hx hby d9_50 (z := 1) rfl (q := 51) rfl ?_
    refine o_goto X8 hx hby d9_51 (by decide) (q := 55) (by decide) ?_
    exact own_outN X8 hx hlk (t := .boolean) hret (by simp) (hb hby d9_55) (z' := (1 : Int32)) rfl (Q := Q9d Z o0 o1 oa ka na ua va oc kc nc uc vc cs h0 n0) ⟨by simp only [fse, if_neg hcs, if_neg hc47_9], N8, hh8⟩ (by decide) (by decide)
theorem d9_5 : decode jdk_42_method_66_code 5 = .ok (.iconst 1, 1) := by decide +kernel
theorem d9_6 : decode jdk_42_method_66_code 6 = .ok (.ireturn, 1) := by decide +kernel
theorem ef_9s (m : MethodId) (x0 : Addr) : entryFrame m #[(.ref x0), (.ref x0)] 3 = mkF m 0 #[.val (.ref x0), .val (.ref x0), .unset] [] := by first | (simp [entryFrame, mkF, argsToLocals, Value.category]; done) | rfl
def Q9s (Z : State) (o0 : Addr) (h0 : Heap) (n0 : Nat) (v : Option Value) (h : Heap) (L : List Loc) : Prop := v = some (.int 1) ∧ Fr n0 L ∧ h = h0
set_option maxRecDepth 65536 in
set_option maxHeartbeats 40000000 in
theorem rm9s (l : Launch) (Z : State) (a0 : Array Value) (hw : ∀ d ∈ tables_1, d.before a0 Z = true) (ws : List Jvm.Cond) (o0 : Addr) (h0 : Heap) (n0 : Nat) (Z0 : n0 ≤ h0.size) :
    MetFree l (⟨"java/lang/String", "equals", "(Ljava/lang/Object;)Z"⟩ : MethodName) (head1 (Jvm.Cond.code (⟨"java/lang/String", "equals", "(Ljava/lang/Object;)Z"⟩ : MethodName) jdk_42_method_66_code 3 (some .boolean) :: ws) (⟨0, 0, 0, 0⟩ : Room)) (fun a U => a = #[(.ref o0), (.ref o0)] ∧ Z.Warmed39 U.vm ∧ U.heap = h0) (fun _ _ _ _ _ => True) (fun _ U o U' => ∃ v L, o = .returned v ∧ Q9s Z o0 h0 n0 v U'.heap L ∧ FrameEnd U o U' L (⟨0, 0, 0, 0⟩ : Room).cells (⟨0, 0, 0, 0⟩ : Room).slots) := by
  refine MetFree.of_bodySF (plainFor_of_name pn_1) hisR ?_
  intro p e s m args below meth c s₁ Bd hml0 hP hK
  obtain ⟨rfl, hZ, hh⟩ := hP
  have hx := Bd.exec
  have hby := Bd.bytes
  have hml : c.maxLocals = 3 := hml0
  have hown : s.vm.findClass "java/lang/String" = some m.cls := findClass_of_methodNamed Bd.named
  have hnm := (name_of_methodNamed Bd.named Bd.method).1
  have X0 : Stand p l e (⟨0, 0, 0, 0⟩ : Room) s m #[(.ref o0), (.ref o0)] below meth c s₁ [] 0 0 := Stand.of_body Bd
  have e0 : s₁.heap = h0 := by rw [← hh, Bd.state]; rfl
  have N0 := Fr.nil n0
  have hret := Bd.returns
  have hlk := BodyLoose.notSynchronized Bd
  show own_Out p e below (fun o U' => ∃ v L, o = .returned v ∧ Q9s Z o0 h0 n0 v U'.heap L ∧ FrameEnd s o U' L (⟨0, 0, 0, 0⟩ : Room).cells (⟨0, 0, 0, 0⟩ : Room).slots) (s₁.setTop (entryFrame m #[(.ref o0), (.ref o0)] 3))
  refine own_of (fun t k => castTop (ef_9s m o0) k) ?_
  show own_Out p e below _ (s₁.setTop (mkF m 0 #[rv o0, rv o0, .unset] []))
  refine o_aloadN X0 hx hby d9_0 rfl rfl (q := 1) rfl ?_
  refine o_aloadN X0 hx hby d9_1 rfl rfl (q := 2) rfl ?_
  refine own_of (fun _ k => Jvm.RoadKit.acmp (g := (mkF m 2 #[rv o0, rv o0, .unset] [.ref o0, .ref o0])) X0 hx rfl rfl rfl (pc0 := 2) (pc' := 5) (same := true) rfl (hb hby d9_2) rfl (decide_eq_true rfl) (by decide) (by decide) k) ?_
  show own_Out p e below _ (s₁.setTop (mkF m 5 #[rv o0, rv o0, .unset] []))
  refine o_iconst X0 hx hby d9_5 (z := 1) rfl (q := 6) rfl ?_
  exact own_outN X0 hx hlk (t := .boolean) hret (by simp) (hb hby d9_6) (z' := (1 : Int32)) rfl (Q := Q9s Z o0 h0 n0) ⟨rfl, N0, e0⟩ (by decide) (by decide)
theorem pd_7 : parseMethodDescriptor "(Ljava/lang/Object;)Z" = some ⟨[(.object "java/lang/Object")], some .boolean⟩ := by decide +kernel
theorem d8_0 : decode prog_23_method_6_code 0 = .ok (.aload_n 1, 1) := by decide +kernel
theorem d8_1 : decode prog_23_method_6_code 1 = .ok (.instanceof 18, 3) := by decide +kernel
theorem d8_4 : decode prog_23_method_6_code 4 = .ok (.ifCond .ne 5, 3) := by decide +kernel
theorem d8_9 : decode prog_23_method_6_code 9 = .ok (.aload_n 1, 1) := by decide +kernel
theorem d8_10 : decode prog_23_method_6_code 10 = .ok (.checkcast 18, 3) := by decide +kernel
theorem d8_13 : decode prog_23_method_6_code 13 = .ok (.astore_n 2, 1) := by decide +kernel
theorem d8_14 : decode prog_23_method_6_code 14 = .ok (.aload_n 0, 1) := by decide +kernel
theorem d8_15 : decode prog_23_method_6_code 15 = .ok (.getfield 17, 3) := by decide +kernel
theorem d8_18 : decode prog_23_method_6_code 18 = .ok (.aload_n 2, 1) := by decide +kernel
theorem d8_19 : decode prog_23_method_6_code 19 = .ok (.getfield 17, 3) := by decide +kernel
theorem d8_22 : decode prog_23_method_6_code 22 = .ok (.invokevirtual 33, 3) := by decide +kernel
theorem d8_25 : decode prog_23_method_6_code 25 = .ok (.ifCond .eq 45, 3) := by decide +kernel
theorem d8_28 : decode prog_23_method_6_code 28 = .ok (.aload_n 0, 1) := by decide +kernel
theorem d8_29 : decode prog_23_method_6_code 29 = .ok (.getfield 24, 3) := by decide +kernel
theorem d8_32 : decode prog_23_method_6_code 32 = .ok (.aload_n 2, 1) := by decide +kernel
theorem d8_33 : decode prog_23_method_6_code 33 = .ok (.getfield 24, 3) := by decide +kernel
theorem d8_36 : decode prog_23_method_6_code 36 = .ok (.invokevirtual 33, 3) := by decide +kernel
theorem d8_39 : decode prog_23_method_6_code 39 = .ok (.ifCond .eq 31, 3) := by decide +kernel
theorem d8_42 : decode prog_23_method_6_code 42 = .ok (.aload_n 0, 1) := by decide +kernel
theorem d8_43 : decode prog_23_method_6_code 43 = .ok (.getfield 26, 3) := by decide +kernel
theorem d8_46 : decode prog_23_method_6_code 46 = .ok (.aload_n 2, 1) := by decide +kernel
theorem d8_47 : decode prog_23_method_6_code 47 = .ok (.getfield 26, 3) := by decide +kernel
theorem d8_50 : decode prog_23_method_6_code 50 = .ok (.lcmp, 1) := by decide +kernel
theorem d8_51 : decode prog_23_method_6_code 51 = .ok (.ifCond .ne 19, 3) := by decide +kernel
theorem d8_54 : decode prog_23_method_6_code 54 = .ok (.aload_n 0, 1) := by decide +kernel
theorem d8_55 : decode prog_23_method_6_code 55 = .ok (.getfield 30, 3) := by decide +kernel
theorem d8_58 : decode prog_23_method_6_code 58 = .ok (.aload_n 2, 1) := by decide +kernel
theorem d8_59 : decode prog_23_method_6_code 59 = .ok (.getfield 30, 3) := by decide +kernel
theorem d8_62 : decode prog_23_method_6_code 62 = .ok (.lcmp, 1) := by decide +kernel
theorem d8_63 : decode prog_23_method_6_code 63 = .ok (.ifCond .ne 7, 3) := by decide +kernel
theorem d8_66 : decode prog_23_method_6_code 66 = .ok (.iconst 1, 1) := by decide +kernel
theorem d8_67 : decode prog_23_method_6_code 67 = .ok (.goto 4, 3) := by decide +kernel
theorem d8_70 : decode prog_23_method_6_code 70 = .ok (.iconst 0, 1) := by decide +kernel
theorem d8_71 : decode prog_23_method_6_code 71 = .ok (.ireturn, 1) := by decide +kernel
theorem ef_8c (m : MethodId) (x0 x1 : Addr) : entryFrame m #[(.ref x0), (.ref x1)] 3 = mkF m 0 #[.val (.ref x0), .val (.ref x1), .unset] [] := by first | (simp [entryFrame, mkF, argsToLocals, Value.category]; done) | rfl
def fqe (nx0 ux0 vx0 nx1 ux1 vx1 : Int32) (xC xM : Int64) (ny0 uy0 vy0 ny1 uy1 vy1 : Int32) (yC yM : Int64) (cs : Int32) : Int32 := if (fse nx0 ux0 vx0 ny0 uy0 vy0 cs) = (0 : Int32) then (0 : Int32)
  else if (fse nx1 ux1 vx1 ny1 uy1 vy1 cs) = (0 : Int32) then (0 : Int32)
    else if xC = yC then (if xM = yM then (1 : Int32)
        else (0 : Int32))
      else (0 : Int32)
def Q8c (Z : State) (o0 o1 rx0 ax0 : Addr) (kx0 : ClassId) (nx0 ux0 vx0 : Int32) (rx1 ax1 : Addr) (kx1 : ClassId) (nx1 ux1 vx1 : Int32) (xC xM : Int64) (ry0 ay0 : Addr) (ky0 : ClassId) (ny0 uy0 vy0 : Int32) (ry1 ay1 : Addr) (ky1 : ClassId) (ny1 uy1 vy1 : Int32) (yC yM : Int64) (cs : Int32) (h0 : Heap) (n0 : Nat) (v : Option Value) (h : Heap) (L : List Loc) : Prop := v = some (.int (fqe nx0 ux0 vx0 nx1 ux1 vx1 xC xM ny0 uy0 vy0 ny1 uy1 vy1 yC yM cs)) ∧ Fr n0 L ∧ h = h0
set_option maxRecDepth 65536 in
set_option maxHeartbeats 40000000 in
theorem rm8c (l : Launch) (Z : State) (a0 : Array Value) (hw : ∀ d ∈ tables_1, d.before a0 Z = true) (ws : List Jvm.Cond) (o0 o1 rx0 ax0 : Addr) (kx0 : ClassId) (nx0 ux0 vx0 : Int32) (rx1 ax1 : Addr) (kx1 : ClassId) (nx1 ux1 vx1 : Int32) (xC xM : Int64) (ry0 ay0 : Addr) (ky0 : ClassId) (ny0 uy0 vy0 : Int32) (ry1 ay1 : Addr) (ky1 : ClassId) (ny1 uy1 vy1 : Int32) (yC yM : Int64) (cs : Int32) (h0 : Heap) (n0 : Nat) (Z0 : n0 ≤ h0.size) (E0 : Exa Z h0 o0 "com/example/collector_urchin/collectorurchin/store/StampedRecord") (E1 : Exa Z h0 o1 "com/example/collector_urchin/collectorurchin/store/StampedRecord") (Fx0 : Fld Z h0 o0 "com/example/collector_urchin/collectorurchin/store/StampedRecord" "id" "Ljava/lang/String;" (.ref rx0)) (Ex0 : Exa Z h0 rx0 "java/lang/String") (Fvx0 : Fld Z h0 rx0 "java/lang/String" "value" "[B" (.ref ax0)) (Fcx0 : Fld Z h0 rx0 "java/lang/String" "coder" "B" (.int 0)) (Vx0 : Arv Z h0 ax0 kx0 .byte nx0 (bl nx0 ux0 vx0) (.int 0)) (hlx0 : nx0 = 0 ∨ nx0 = 1 ∨ nx0 = 2) (Fx1 : Fld Z h0 o0 "com/example/collector_urchin/collectorurchin/store/StampedRecord" "body" "Ljava/lang/String;" (.ref rx1)) (Ex1 : Exa Z h0 rx1 "java/lang/String") (Fvx1 : Fld Z h0 rx1 "java/lang/String" "value" "[B" (.ref ax1)) (Fcx1 : Fld Z h0 rx1 "java/lang/String" "coder" "B" (.int 0)) (Vx1 : Arv Z h0 ax1 kx1 .byte nx1 (bl nx1 ux1 vx1) (.int 0)) (hlx1 : nx1 = 0 ∨ nx1 = 1 ∨ nx1 = 2) (FxC : Fld Z h0 o0 "com/example/collector_urchin/collectorurchin/store/StampedRecord" "created" "J" (.long xC)) (FxM : Fld Z h0 o0 "com/example/collector_urchin/collectorurchin/store/StampedRecord" "modified" "J" (.long xM)) (Fy0 : Fld Z h0 o1 "com/example/collector_urchin/collectorurchin/store/StampedRecord" "id" "Ljava/lang/String;" (.ref ry0)) (Ey0 : Exa Z h0 ry0 "java/lang/String") (Fvy0 : Fld Z h0 ry0 "java/lang/String" "value" "[B" (.ref ay0)) (Fcy0 : Fld Z h0 ry0 "java/lang/String" "coder" "B" (.int 0)) (Vy0 : Arv Z h0 ay0 ky0 .byte ny0 (bl ny0 uy0 vy0) (.int 0)) (hly0 : ny0 = 0 ∨ ny0 = 1 ∨ ny0 = 2) (Fy1 : Fld Z h0 o1 "com/example/collector_urchin/collectorurchin/store/StampedRecord" "body" "Ljava/lang/String;" (.ref ry1)) (Ey1 : Exa Z h0 ry1 "java/lang/String") (Fvy1 : Fld Z h0 ry1 "java/lang/String" "value" "[B" (.ref ay1)) (Fcy1 : Fld Z h0 ry1 "java/lang/String" "coder" "B" (.int 0)) (Vy1 : Arv Z h0 ay1 ky1 .byte ny1 (bl ny1 uy1 vy1) (.int 0)) (hly1 : ny1 = 0 ∨ ny1 = 1 ∨ ny1 = 2) (FyC : Fld Z h0 o1 "com/example/collector_urchin/collectorurchin/store/StampedRecord" "created" "J" (.long yC)) (FyM : Fld Z h0 o1 "com/example/collector_urchin/collectorurchin/store/StampedRecord" "modified" "J" (.long yM)) (S_cs : Sta Z h0 "java/lang/String" "COMPACT_STRINGS" "Z" (.int cs)) (hcs : ¬ (cs = (0 : Int32))) (nq0 : rx0 ≠ ry0) (nq1 : rx1 ≠ ry1) :
    MetFree l (⟨"com/example/collector_urchin/collectorurchin/store/StampedRecord", "equals", "(Ljava/lang/Object;)Z"⟩ : MethodName) (head1 (Jvm.Cond.code (⟨"com/example/collector_urchin/collectorurchin/store/StampedRecord", "equals", "(Ljava/lang/Object;)Z"⟩ : MethodName) prog_23_method_6_code 3 (some .boolean) :: ws) (⟨2, 0, 0, 28⟩ : Room)) (fun a U => a = #[(.ref o0), (.ref o1)] ∧ Z.Warmed39 U.vm ∧ U.heap = h0) (fun _ _ _ _ _ => True) (fun _ U o U' => ∃ v L, o = .returned v ∧ Q8c Z o0 o1 rx0 ax0 kx0 nx0 ux0 vx0 rx1 ax1 kx1 nx1 ux1 vx1 xC xM ry0 ay0 ky0 ny0 uy0 vy0 ry1 ay1 ky1 ny1 uy1 vy1 yC yM cs h0 n0 v U'.heap L ∧ FrameEnd U o U' L (⟨2, 0, 0, 28⟩ : Room).cells (⟨2, 0, 0, 28⟩ : Room).slots) := by
  refine MetFree.of_bodySF (plainFor_of_name pn_4) hisR ?_
  intro p e s m args below meth c s₁ Bd hml0 hP hK
  obtain ⟨rfl, hZ, hh⟩ := hP
  have hx := Bd.exec
  have hby := Bd.bytes
  have hml : c.maxLocals = 3 := hml0
  have hown : s.vm.findClass "com/example/collector_urchin/collectorurchin/store/StampedRecord" = some m.cls := findClass_of_methodNamed Bd.named
  have hnm := (name_of_methodNamed Bd.named Bd.method).1
  have X0 : Stand p l e (⟨2, 0, 0, 28⟩ : Room) s m #[(.ref o0), (.ref o1)] below meth c s₁ [] 0 0 := Stand.of_body Bd
  have e0 : s₁.heap = h0 := by rw [← hh, Bd.state]; rfl
  have N0 := Fr.nil n0
  have hret := Bd.returns
  have hlk := BodyLoose.notSynchronized Bd
  show own_Out p e below (fun o U' => ∃ v L, o = .returned v ∧ Q8c Z o0 o1 rx0 ax0 kx0 nx0 ux0 vx0 rx1 ax1 kx1 nx1 ux1 vx1 xC xM ry0 ay0 ky0 ny0 uy0 vy0 ry1 ay1 ky1 ny1 uy1 vy1 yC yM cs h0 n0 v U'.heap L ∧ FrameEnd s o U' L (⟨2, 0, 0, 28⟩ : Room).cells (⟨2, 0, 0, 28⟩ : Room).slots) (s₁.setTop (entryFrame m #[(.ref o0), (.ref o1)] 3))
  refine own_of (fun t k => castTop (ef_8c m o0 o1) k) ?_
  show own_Out p e below _ (s₁.setTop (mkF m 0 #[rv o0, rv o1, .unset] []))
  refine o_aloadN X0 hx hby d8_0 rfl rfl (q := 1) rfl ?_
  obtain ⟨T1, X1, e1, st1⟩ := instY X0 hx hZ hown (w_ hw 56 rfl) e0 (Ins.self E1) (g := (mkF m 1 #[rv o0, rv o1, .unset] [.ref o1])) rfl rfl (hb hby d8_1)
  refine own_of st1 ?_
  show own_Out p e below _ (T1.setTop (mkF m 4 #[rv o0, rv o1, .unset] [.int 1]))
  refine o_ifY X1 hx hby d8_4 ((if0 _ _).trans (feq (by decide : ¬ ((1 : Int32) = (0 : Int32)))).2) (by decide) (q := 9) (by decide) ?_
  refine o_aloadN X1 hx hby d8_9 rfl rfl (q := 10) rfl ?_
  obtain ⟨T2, X2, e2, st2⟩ := castY X1 hx hZ hown (w_ hw 56 rfl) e1 (Ins.self E1) (g := (mkF m 10 #[rv o0, rv o1, .unset] [.ref o1])) rfl rfl (hb hby d8_10)
  refine own_of st2 ?_
  show own_Out p e below _ (T2.setTop (mkF m 13 #[rv o0, rv o1, .unset] [.ref o1]))
  refine o_astoreN X2 hx hby d8_13 rfl (l' := #[rv o0, rv o1, rv o1]) rfl (q := 14) rfl ?_
  refine o_aloadN X2 hx hby d8_14 rfl rfl (q := 15) rfl ?_
  refine o_getF X2 hx hZ hown hby (w_ hw 39 rfl) Via.refl e2 Fx0 d8_15 (q := 18) rfl fun T3 X3 e3 => ?_
  refine o_aloadN X3 hx hby d8_18 rfl rfl (q := 19) rfl ?_
  refine o_getF X3 hx hZ hown hby (w_ hw 39 rfl) Via.refl e3 Fy0 d8_19 (q := 22) rfl fun T4 X4 e4 => ?_
  obtain ⟨cq5, kq5, q5a, q5b, q5c⟩ := isOf hZ e4 Ex0
  obtain ⟨_, _, ⟨T5, L5, k5, n5⟩, -, X5, ⟨Lc5, hQ5, l5, y5, z5⟩, st5⟩ := X4.virtualBack hx (y := (⟨"java/lang/String", "equals", "(Ljava/lang/Object;)Z"⟩ : MethodName)) (z := (⟨"java/lang/String", "equals", "(Ljava/lang/Object;)Z"⟩ : MethodName)) hown (mvT hZ (w_ hw 58 rfl)) (mvT hZ (w_ hw 59 rfl)) (notFace_of_selects (args := #[]) (mvT hZ (w_ hw 61 rfl))) (mvT hZ (w_ hw 61 rfl)) (mvT hZ (w_ hw 60 rfl)) (by decide) (backOf (W := 0) (rm9d l Z a0 hw [] rx0 ry0 ax0 kx0 nx0 ux0 vx0 ay0 ky0 ny0 uy0 vy0 cs h0 n0 Z0 Ex0 Fvx0 Fcx0 Vx0 hlx0 Ey0 Fvy0 Fcy0 Vy0 hly0 S_cs hcs nq0) hZ (w_ hw 62 rfl) (w_ hw 6 rfl) (by decide) (by decide)) q5a q5c (g := (mkF m 22 #[rv o0, rv o1, rv o1] [.ref ry0, .ref rx0])) rfl (by rw [hml]; rfl) (Steps.refl _) (argsL := [(.ref ry0)]) (rest := []) (lenOf pd_7 rfl) rfl (by show 2 * 0 + _ ≤ _; exact Nat.le_of_eq rfl) (hb hby d8_22) (fun _ _ => ⟨rfl, e4, (by decide : 0 + 0 ≤ _), (by decide : 0 + 0 ≤ _)⟩)
  dsimp only [Pt.U, Pt.locs, Pt.cells, Pt.slots] at X5 l5 y5 z5 st5 hQ5
  subst l5 y5 z5
  obtain ⟨rfl, N5q, hh5⟩ := hQ5
  have N5 := Fr.app N0 N5q
  refine own_of (fun _ k => st5.trans k) ?_
  show own_Out p e below _ (T5.setTop (mkF m 25 #[rv o0, rv o1, rv o1] [.int (fse nx0 ux0 vx0 ny0 uy0 vy0 cs)]))
  by_cases hc25_6 : (fse nx0 ux0 vx0 ny0 uy0 vy0 cs) = (0 : Int32)
  · skip
    refine o_ifY X5 hx hby d8_25 ((if0 _ _).trans (teq hc25_6).1) (by decide) (q := 70) (by decide) ?_
    refine o_iconst X5 hx hby d8_70 (z := 0) rfl (q := 71) rfl ?_
    exact own_outN X5 hx hlk (t := .boolean) hret (by simp) (hb hby d8_71) (z' := (0 : Int32)) rfl (Q := Q8c Z o0 o1 rx0 ax0 kx0 nx0 ux0 vx0 rx1 ax1 kx1 nx1 ux1 vx1 xC xM ry0 ay0 ky0 ny0 uy0 vy0 ry1 ay1 ky1 ny1 uy1 vy1 yC yM cs h0 n0) ⟨by simp only [fqe, if_neg hcs, if_pos hc25_6], N5, hh5⟩ (by decide) (by decide)
  · skip
    refine o_ifN X5 hx hby d8_25 ((if0 _ _).trans (feq hc25_6).1) (q := 28) rfl ?_
    refine o_aloadN X5 hx hby d8_28 rfl rfl (q := 29) rfl ?_
    refine o_getF X5 hx hZ hown hby (w_ hw 42 rfl) Via.refl hh5 Fx1 d8_29 (q := 32) rfl fun T7 X7 e7 => ?_
    refine o_aloadN X7 hx hby d8_32 rfl rfl (q := 33) rfl ?_
    refine o_getF X7 hx hZ hown hby (w_ hw 42 rfl) Via.refl e7 Fy1 d8_33 (q := 36) rfl fun T8 X8 e8 => ?_
    obtain ⟨cq9, kq9, q9a, q9b, q9c⟩ := isOf hZ e8 Ex1
    obtain ⟨_, _, ⟨T9, L9, k9, n9⟩, -, X9, ⟨Lc9, hQ9, l9, y9, z9⟩, st9⟩ := X8.virtualBack hx (y := (⟨"java/lang/String", "equals", "(Ljava/lang/Object;)Z"⟩ : MethodName)) (z := (⟨"java/lang/String", "equals", "(Ljava/lang/Object;)Z"⟩ : MethodName)) hown (mvT hZ (w_ hw 58 rfl)) (mvT hZ (w_ hw 59 rfl)) (notFace_of_selects (args := #[]) (mvT hZ (w_ hw 61 rfl))) (mvT hZ (w_ hw 61 rfl)) (mvT hZ (w_ hw 60 rfl)) (by decide) (backOf (W := 0) (rm9d l Z a0 hw [] rx1 ry1 ax1 kx1 nx1 ux1 vx1 ay1 ky1 ny1 uy1 vy1 cs h0 n0 Z0 Ex1 Fvx1 Fcx1 Vx1 hlx1 Ey1 Fvy1 Fcy1 Vy1 hly1 S_cs hcs nq1) hZ (w_ hw 62 rfl) (w_ hw 6 rfl) (by decide) (by decide)) q9a q9c (g := (mkF m 36 #[rv o0, rv o1, rv o1] [.ref ry1, .ref rx1])) rfl (by rw [hml]; rfl) (Steps.refl _) (argsL := [(.ref ry1)]) (rest := []) (lenOf pd_7 rfl) rfl (by show 2 * 0 + _ ≤ _; exact Nat.le_of_eq rfl) (hb hby d8_36) (fun _ _ => ⟨rfl, e8, (by decide : 0 + 0 ≤ _), (by decide : 0 + 0 ≤ _)⟩)
    dsimp only [Pt.U, Pt.locs, Pt.cells, Pt.slots] at X9 l9 y9 z9 st9 hQ9
    subst l9 y9 z9
    obtain ⟨rfl, N9q, hh9⟩ := hQ9
    have N9 := Fr.app N5 N9q
    refine own_of (fun _ k => st9.trans k) ?_
    show own_Out p e below _ (T9.setTop (mkF m 39 #[rv o0, rv o1, rv o1] [.int (fse nx1 ux1 vx1 ny1 uy1 vy1 cs)]))
    by_cases hc39_10 : (fse nx1 ux1 vx1 ny1 uy1 vy1 cs) = (0 : Int32)
    · skip
      refine o_ifY X9 hx hby d8_39 ((if0 _ _).trans (teq hc39_10).1) (by decide) (q := 70) (by decide) ?_
      refine o_iconst X9 hx hby d8_70 (z := 0) rfl (q := 71) rfl ?_
      exact own_outN X9 hx hlk (t := .boolean) hret (by simp) (hb hby d8_71) (z' := (0 : Int32)) rfl (Q := Q8c Z o0 o1 rx0 ax0 kx0 nx0 ux0 vx0 rx1 ax1 kx1 nx1 ux1 vx1 xC xM ry0 ay0 ky0 ny0 uy0 vy0 ry1 ay1 ky1 ny1 uy1 vy1 yC yM cs h0 n0) ⟨by simp only [fqe, if_neg hcs, if_neg hc25_6, if_pos hc39_10], N9, hh9⟩ (by decide) (by decide)
    · skip
      refine o_ifN X9 hx hby d8_39 ((if0 _ _).trans (feq hc39_10).1) (q := 42) rfl ?_
      refine o_aloadN X9 hx hby d8_42 rfl rfl (q := 43) rfl ?_
      refine o_getF X9 hx hZ hown hby (w_ hw 44 rfl) Via.refl hh9 FxC d8_43 (q := 46) rfl fun T11 X11 e11 => ?_
      refine o_aloadN X11 hx hby d8_46 rfl rfl (q := 47) rfl ?_
      refine o_getF X11 hx hZ hown hby (w_ hw 44 rfl) Via.refl e11 FyC d8_47 (q := 50) rfl fun T12 X12 e12 => ?_
      refine o_lcmp X12 hx hby d8_50 (q := 51) rfl ?_
      by_cases hc51_13 : xC = yC
      · skip
        refine o_ifN X12 hx hby d8_51 (own_leq hc51_13).2 (q := 54) rfl ?_
        refine o_aloadN X12 hx hby d8_54 rfl rfl (q := 55) rfl ?_
        refine o_getF X12 hx hZ hown hby (w_ hw 46 rfl) Via.refl e12 FxM d8_55 (q := 58) rfl fun T14 X14 e14 => ?_
        refine o_aloadN X14 hx hby d8_58 rfl rfl (q := 59) rfl ?_
        refine o_getF X14 hx hZ hown hby (w_ hw 46 rfl) Via.refl e14 FyM d8_59 (q := 62) rfl fun T15 X15 e15 => ?_
        refine o_lcmp X15 hx hby d8_62 (q := 63) rfl ?_
        by_cases hc63_16 : xM = yM
        · skip
          refine o_ifN X15 hx hby d8_63 (own_leq hc63_16).2 (q := 66) rfl ?_
          refine o_iconst X15 hx hby d8_66 (z := 1) rfl (q := 67) rfl ?_
          refine o_goto X15 hx hby d8_67 (by decide) (q := 71) (by decide) ?_
          exact own_outN X15 hx hlk (t := .boolean) hret (by simp) (hb hby d8_71) (z' := (1 : Int32)) rfl (Q := Q8c Z o0 o1 rx0 ax0 kx0 nx0 ux0 vx0 rx1 ax1 kx1 nx1 ux1 vx1 xC xM ry0 ay0 ky0 ny0 uy0 vy0 ry1 ay1 ky1 ny1 uy1 vy1 yC yM cs h0 n0) ⟨by simp only [fqe, if_neg hcs, if_neg hc25_6, if_neg hc39_10, if_pos hc51_13, if_pos hc63_16], N9, e15⟩ (by decide) (by decide)
        · skip
          refine o_ifY X15 hx hby d8_63 (own_lfeq hc63_16).2 (by decide) (q := 70) (by decide) ?_
          refine o_iconst X15 hx hby d8_70 (z := 0) rfl (q := 71) rfl ?_
          exact own_outN X15 hx hlk (t := .boolean) hret (by simp) (hb hby d8_71) (z' := (0 : Int32)) rfl (Q := Q8c Z o0 o1 rx0 ax0 kx0 nx0 ux0 vx0 rx1 ax1 kx1 nx1 ux1 vx1 xC xM ry0 ay0 ky0 ny0 uy0 vy0 ry1 ay1 ky1 ny1 uy1 vy1 yC yM cs h0 n0) ⟨by simp only [fqe, if_neg hcs, if_neg hc25_6, if_neg hc39_10, if_pos hc51_13, if_neg hc63_16], N9, e15⟩ (by decide) (by decide)
      · skip
        refine o_ifY X12 hx hby d8_51 (own_lfeq hc51_13).2 (by decide) (q := 70) (by decide) ?_
        refine o_iconst X12 hx hby d8_70 (z := 0) rfl (q := 71) rfl ?_
        exact own_outN X12 hx hlk (t := .boolean) hret (by simp) (hb hby d8_71) (z' := (0 : Int32)) rfl (Q := Q8c Z o0 o1 rx0 ax0 kx0 nx0 ux0 vx0 rx1 ax1 kx1 nx1 ux1 vx1 xC xM ry0 ay0 ky0 ny0 uy0 vy0 ry1 ay1 ky1 ny1 uy1 vy1 yC yM cs h0 n0) ⟨by simp only [fqe, if_neg hcs, if_neg hc25_6, if_neg hc39_10, if_neg hc51_13], N9, e12⟩ (by decide) (by decide)
theorem ef_8f (m : MethodId) (x0 : Addr) : entryFrame m #[(.ref x0), (.ref x0)] 3 = mkF m 0 #[.val (.ref x0), .val (.ref x0), .unset] [] := by first | (simp [entryFrame, mkF, argsToLocals, Value.category]; done) | rfl
def Q8f (Z : State) (o0 ri rb : Addr) (xc xm : Int64) (h0 : Heap) (n0 : Nat) (v : Option Value) (h : Heap) (L : List Loc) : Prop := v = some (.int 1) ∧ Fr n0 L ∧ h = h0
set_option maxRecDepth 65536 in
set_option maxHeartbeats 40000000 in
theorem rm8f (l : Launch) (Z : State) (a0 : Array Value) (hw : ∀ d ∈ tables_1, d.before a0 Z = true) (ws : List Jvm.Cond) (o0 ri rb : Addr) (xc xm : Int64) (h0 : Heap) (n0 : Nat) (Z0 : n0 ≤ h0.size) (E0 : Exa Z h0 o0 "com/example/collector_urchin/collectorurchin/store/StampedRecord") (Fi : Fld Z h0 o0 "com/example/collector_urchin/collectorurchin/store/StampedRecord" "id" "Ljava/lang/String;" (.ref ri)) (Fb : Fld Z h0 o0 "com/example/collector_urchin/collectorurchin/store/StampedRecord" "body" "Ljava/lang/String;" (.ref rb)) (Ei : Exa Z h0 ri "java/lang/String") (Eb : Exa Z h0 rb "java/lang/String") (FC : Fld Z h0 o0 "com/example/collector_urchin/collectorurchin/store/StampedRecord" "created" "J" (.long xc)) (FM : Fld Z h0 o0 "com/example/collector_urchin/collectorurchin/store/StampedRecord" "modified" "J" (.long xm)) :
    MetFree l (⟨"com/example/collector_urchin/collectorurchin/store/StampedRecord", "equals", "(Ljava/lang/Object;)Z"⟩ : MethodName) (head1 (Jvm.Cond.code (⟨"com/example/collector_urchin/collectorurchin/store/StampedRecord", "equals", "(Ljava/lang/Object;)Z"⟩ : MethodName) prog_23_method_6_code 3 (some .boolean) :: ws) (⟨1, 0, 0, 14⟩ : Room)) (fun a U => a = #[(.ref o0), (.ref o0)] ∧ Z.Warmed39 U.vm ∧ U.heap = h0) (fun _ _ _ _ _ => True) (fun _ U o U' => ∃ v L, o = .returned v ∧ Q8f Z o0 ri rb xc xm h0 n0 v U'.heap L ∧ FrameEnd U o U' L (⟨1, 0, 0, 14⟩ : Room).cells (⟨1, 0, 0, 14⟩ : Room).slots) := by
  refine MetFree.of_bodySF (plainFor_of_name pn_4) hisR ?_
  intro p e s m args below meth c s₁ Bd hml0 hP hK
  obtain ⟨rfl, hZ, hh⟩ := hP
  have hx := Bd.exec
  have hby := Bd.bytes
  have hml : c.maxLocals = 3 := hml0
  have hown : s.vm.findClass "com/example/collector_urchin/collectorurchin/store/StampedRecord" = some m.cls := findClass_of_methodNamed Bd.named
  have hnm := (name_of_methodNamed Bd.named Bd.method).1
  have X0 : Stand p l e (⟨1, 0, 0, 14⟩ : Room) s m #[(.ref o0), (.ref o0)] below meth c s₁ [] 0 0 := Stand.of_body Bd
  have e0 : s₁.heap = h0 := by rw [← hh, Bd.state]; rfl
  have N0 := Fr.nil n0
  have hret := Bd.returns
  have hlk := BodyLoose.notSynchronized Bd
  show own_Out p e below (fun o U' => ∃ v L, o = .returned v ∧ Q8f Z o0 ri rb xc xm h0 n0 v U'.heap L ∧ FrameEnd s o U' L (⟨1, 0, 0, 14⟩ : Room).cells (⟨1, 0, 0, 14⟩ : Room).slots) (s₁.setTop (entryFrame m #[(.ref o0), (.ref o0)] 3))
  refine own_of (fun t k => castTop (ef_8f m o0) k) ?_
  show own_Out p e below _ (s₁.setTop (mkF m 0 #[rv o0, rv o0, .unset] []))
  refine o_aloadN X0 hx hby d8_0 rfl rfl (q := 1) rfl ?_
  obtain ⟨T1, X1, e1, st1⟩ := instY X0 hx hZ hown (w_ hw 56 rfl) e0 (Ins.self E0) (g := (mkF m 1 #[rv o0, rv o0, .unset] [.ref o0])) rfl rfl (hb hby d8_1)
  refine own_of st1 ?_
  show own_Out p e below _ (T1.setTop (mkF m 4 #[rv o0, rv o0, .unset] [.int 1]))
  refine o_ifY X1 hx hby d8_4 ((if0 _ _).trans (feq (by decide : ¬ ((1 : Int32) = (0 : Int32)))).2) (by decide) (q := 9) (by decide) ?_
  refine o_aloadN X1 hx hby d8_9 rfl rfl (q := 10) rfl ?_
  obtain ⟨T2, X2, e2, st2⟩ := castY X1 hx hZ hown (w_ hw 56 rfl) e1 (Ins.self E0) (g := (mkF m 10 #[rv o0, rv o0, .unset] [.ref o0])) rfl rfl (hb hby d8_10)
  refine own_of st2 ?_
  show own_Out p e below _ (T2.setTop (mkF m 13 #[rv o0, rv o0, .unset] [.ref o0]))
  refine o_astoreN X2 hx hby d8_13 rfl (l' := #[rv o0, rv o0, rv o0]) rfl (q := 14) rfl ?_
  refine o_aloadN X2 hx hby d8_14 rfl rfl (q := 15) rfl ?_
  refine o_getF X2 hx hZ hown hby (w_ hw 39 rfl) Via.refl e2 Fi d8_15 (q := 18) rfl fun T3 X3 e3 => ?_
  refine o_aloadN X3 hx hby d8_18 rfl rfl (q := 19) rfl ?_
  refine o_getF X3 hx hZ hown hby (w_ hw 39 rfl) Via.refl e3 Fi d8_19 (q := 22) rfl fun T4 X4 e4 => ?_
  obtain ⟨cq5, kq5, q5a, q5b, q5c⟩ := isOf hZ e4 Ei
  obtain ⟨_, _, ⟨T5, L5, k5, n5⟩, -, X5, ⟨Lc5, hQ5, l5, y5, z5⟩, st5⟩ := X4.virtualBack hx (y := (⟨"java/lang/String", "equals", "(Ljava/lang/Object;)Z"⟩ : MethodName)) (z := (⟨"java/lang/String", "equals", "(Ljava/lang/Object;)Z"⟩ : MethodName)) hown (mvT hZ (w_ hw 58 rfl)) (mvT hZ (w_ hw 59 rfl)) (notFace_of_selects (args := #[]) (mvT hZ (w_ hw 61 rfl))) (mvT hZ (w_ hw 61 rfl)) (mvT hZ (w_ hw 60 rfl)) (by decide) (backOf (W := 0) (rm9s l Z a0 hw [] ri h0 n0 Z0 ) hZ (w_ hw 62 rfl) (w_ hw 6 rfl) (by decide) (by decide)) q5a q5c (g := (mkF m 22 #[rv o0, rv o0, rv o0] [.ref ri, .ref ri])) rfl (by rw [hml]; rfl) (Steps.refl _) (argsL := [(.ref ri)]) (rest := []) (lenOf pd_7 rfl) rfl (by show 2 * 0 + _ ≤ _; exact Nat.le_of_eq rfl) (hb hby d8_22) (fun _ _ => ⟨rfl, e4, (by decide : 0 + 0 ≤ _), (by decide : 0 + 0 ≤ _)⟩)
  dsimp only [Pt.U, Pt.locs, Pt.cells, Pt.slots] at X5 l5 y5 z5 st5 hQ5
  subst l5 y5 z5
  obtain ⟨rfl, N5q, hh5⟩ := hQ5
  have N5 := Fr.app N0 N5q
  refine own_of (fun _ k => st5.trans k) ?_
  show own_Out p e below _ (T5.setTop (mkF m 25 #[rv o0, rv o0, rv o0] [.int 1]))
  refine o_ifN X5 hx hby d8_25 ((if0 _ _).trans (feq (by decide : ¬ ((1 : Int32) = (0 : Int32)))).1) (q := 28) rfl ?_
  refine o_aloadN X5 hx hby d8_28 rfl rfl (q := 29) rfl ?_
  refine o_getF X5 hx hZ hown hby (w_ hw 42 rfl) Via.refl hh5 Fb d8_29 (q := 32) rfl fun T6 X6 e6 => ?_
  refine o_aloadN X6 hx hby d8_32 rfl rfl (q := 33) rfl ?_
  refine o_getF X6 hx hZ hown hby (w_ hw 42 rfl) Via.refl e6 Fb d8_33 (q := 36) rfl fun T7 X7 e7 => ?_
  obtain ⟨cq8, kq8, q8a, q8b, q8c⟩ := isOf hZ e7 Eb
  obtain ⟨_, _, ⟨T8, L8, k8, n8⟩, -, X8, ⟨Lc8, hQ8, l8, y8, z8⟩, st8⟩ := X7.virtualBack hx (y := (⟨"java/lang/String", "equals", "(Ljava/lang/Object;)Z"⟩ : MethodName)) (z := (⟨"java/lang/String", "equals", "(Ljava/lang/Object;)Z"⟩ : MethodName)) hown (mvT hZ (w_ hw 58 rfl)) (mvT hZ (w_ hw 59 rfl)) (notFace_of_selects (args := #[]) (mvT hZ (w_ hw 61 rfl))) (mvT hZ (w_ hw 61 rfl)) (mvT hZ (w_ hw 60 rfl)) (by decide) (backOf (W := 0) (rm9s l Z a0 hw [] rb h0 n0 Z0 ) hZ (w_ hw 62 rfl) (w_ hw 6 rfl) (by decide) (by decide)) q8a q8c (g := (mkF m 36 #[rv o0, rv o0, rv o0] [.ref rb, .ref rb])) rfl (by rw [hml]; rfl) (Steps.refl _) (argsL := [(.ref rb)]) (rest := []) (lenOf pd_7 rfl) rfl (by show 2 * 0 + _ ≤ _; exact Nat.le_of_eq rfl) (hb hby d8_36) (fun _ _ => ⟨rfl, e7, (by decide : 0 + 0 ≤ _), (by decide : 0 + 0 ≤ _)⟩)
  dsimp only [Pt.U, Pt.locs, Pt.cells, Pt.slots] at X8 l8 y8 z8 st8 hQ8
  subst l8 y8 z8
  obtain ⟨rfl, N8q, hh8⟩ := hQ8
  have N8 := Fr.app N5 N8q
  refine own_of (fun _ k => st8.trans k) ?_
  show own_Out p e below _ (T8.setTop (mkF m 39 #[rv o0, rv o0, rv o0] [.int 1]))
  refine o_ifN X8 hx hby d8_39 ((if0 _ _).trans (feq (by decide : ¬ ((1 : Int32) = (0 : Int32)))).1) (q := 42) rfl ?_
  refine o_aloadN X8 hx hby d8_42 rfl rfl (q := 43) rfl ?_
  refine o_getF X8 hx hZ hown hby (w_ hw 44 rfl) Via.refl hh8 FC d8_43 (q := 46) rfl fun T9 X9 e9 => ?_
  refine o_aloadN X9 hx hby d8_46 rfl rfl (q := 47) rfl ?_
  refine o_getF X9 hx hZ hown hby (w_ hw 44 rfl) Via.refl e9 FC d8_47 (q := 50) rfl fun T10 X10 e10 => ?_
  refine o_lcmp X10 hx hby d8_50 (q := 51) rfl ?_
  refine o_ifN X10 hx hby d8_51 (own_leq (rfl : xc = xc)).2 (q := 54) rfl ?_
  refine o_aloadN X10 hx hby d8_54 rfl rfl (q := 55) rfl ?_
  refine o_getF X10 hx hZ hown hby (w_ hw 46 rfl) Via.refl e10 FM d8_55 (q := 58) rfl fun T11 X11 e11 => ?_
  refine o_aloadN X11 hx hby d8_58 rfl rfl (q := 59) rfl ?_
  refine o_getF X11 hx hZ hown hby (w_ hw 46 rfl) Via.refl e11 FM d8_59 (q := 62) rfl fun T12 X12 e12 => ?_
  refine o_lcmp X12 hx hby d8_62 (q := 63) rfl ?_
  refine o_ifN X12 hx hby d8_63 (own_leq (rfl : xm = xm)).2 (q := 66) rfl ?_
  refine o_iconst X12 hx hby d8_66 (z := 1) rfl (q := 67) rfl ?_
  refine o_goto X12 hx hby d8_67 (by decide) (q := 71) (by decide) ?_
  exact own_outN X12 hx hlk (t := .boolean) hret (by simp) (hb hby d8_71) (z' := (1 : Int32)) rfl (Q := Q8f Z o0 ri rb xc xm h0 n0) ⟨rfl, N8, e12⟩ (by decide) (by decide)
theorem own_notSub {Z : State} {a0 : Array Value} {K : String} {n : Nat} (w1 : (Jvm.Cond.superclass "java/lang/String" "java/lang/Object").before a0 Z = true) (w0 : (Jvm.Cond.noSuperclass "java/lang/Object").before a0 Z = true) (wk : (Jvm.Cond.instantiable K n).before a0 Z = true) (h1 : "java/lang/String" ≠ K) (h2 : "java/lang/Object" ≠ K) : ∃ c t, Z.vm.findClass "java/lang/String" = some c ∧ Z.vm.findClass K = some t ∧ Z.vm.assignable c t = false := by
  obtain ⟨t, kt, g1, g2, g3, g4, -⟩ := Cond.instantiable_spec wk
  obtain ⟨co, ko, o1, o2, o3, -, -⟩ := Cond.noSuperclass_spec w0
  obtain ⟨c, hc⟩ := found_sup w1
  obtain ⟨p, k, kp, a1, a2, a3, a4, a5, a6, a7⟩ := Cond.superclass_spec hc w1
  cases o1.symm.trans a1
  have ne1 := ids_ne hc g1 h1
  have ne2 := ids_ne o1 g1 h2
  have gi : kt.isInterface = false := by simp only [Bool.or_eq_false_iff] at g4; exact g4.1
  have n3 : ∀ fuel, Z.vm.isSubclassAux fuel c t = false := by
    intro fuel
    cases fuel with
    | zero => rfl
    | succ f => cases f with
      | zero => simp [Vm.isSubclassAux, ne1, a2, a4]
      | succ f => simp [Vm.isSubclassAux, ne1, ne2, a2, a4, o2, o3]
  refine ⟨c, t, hc, g1, ?_⟩
  show Z.vm.assignableAux (255 + 1) c t = false
  simp [Vm.assignableAux, ne1, a2, g2, a5, g3, gi, Vm.isSubclass, n3]

theorem d8_7 : decode prog_23_method_6_code 7 = .ok (.iconst 0, 1) := by decide +kernel
theorem d8_8 : decode prog_23_method_6_code 8 = .ok (.ireturn, 1) := by decide +kernel
theorem ef_8s (m : MethodId) (x0 x1 : Addr) : entryFrame m #[(.ref x0), (.ref x1)] 3 = mkF m 0 #[.val (.ref x0), .val (.ref x1), .unset] [] := by first | (simp [entryFrame, mkF, argsToLocals, Value.category]; done) | rfl
def Q8s (Z : State) (o0 o1 : Addr) (h0 : Heap) (n0 : Nat) (v : Option Value) (h : Heap) (L : List Loc) : Prop := v = some (.int 0) ∧ Fr n0 L ∧ h = h0
set_option maxRecDepth 65536 in
set_option maxHeartbeats 40000000 in
theorem rm8s (l : Launch) (Z : State) (a0 : Array Value) (hw : ∀ d ∈ tables_1, d.before a0 Z = true) (ws : List Jvm.Cond) (o0 o1 : Addr) (h0 : Heap) (n0 : Nat) (Z0 : n0 ≤ h0.size) (E1 : Exa Z h0 o1 "java/lang/String") :
    MetFree l (⟨"com/example/collector_urchin/collectorurchin/store/StampedRecord", "equals", "(Ljava/lang/Object;)Z"⟩ : MethodName) (head1 (Jvm.Cond.code (⟨"com/example/collector_urchin/collectorurchin/store/StampedRecord", "equals", "(Ljava/lang/Object;)Z"⟩ : MethodName) prog_23_method_6_code 3 (some .boolean) :: ws) (⟨0, 0, 0, 0⟩ : Room)) (fun a U => a = #[(.ref o0), (.ref o1)] ∧ Z.Warmed39 U.vm ∧ U.heap = h0) (fun _ _ _ _ _ => True) (fun _ U o U' => ∃ v L, o = .returned v ∧ Q8s Z o0 o1 h0 n0 v U'.heap L ∧ FrameEnd U o U' L (⟨0, 0, 0, 0⟩ : Room).cells (⟨0, 0, 0, 0⟩ : Room).slots) := by
  refine MetFree.of_bodySF (plainFor_of_name pn_4) hisR ?_
  intro p e s m args below meth c s₁ Bd hml0 hP hK
  obtain ⟨rfl, hZ, hh⟩ := hP
  have hx := Bd.exec
  have hby := Bd.bytes
  have hml : c.maxLocals = 3 := hml0
  have hown : s.vm.findClass "com/example/collector_urchin/collectorurchin/store/StampedRecord" = some m.cls := findClass_of_methodNamed Bd.named
  have hnm := (name_of_methodNamed Bd.named Bd.method).1
  have X0 : Stand p l e (⟨0, 0, 0, 0⟩ : Room) s m #[(.ref o0), (.ref o1)] below meth c s₁ [] 0 0 := Stand.of_body Bd
  have e0 : s₁.heap = h0 := by rw [← hh, Bd.state]; rfl
  have N0 := Fr.nil n0
  have hret := Bd.returns
  have hlk := BodyLoose.notSynchronized Bd
  show own_Out p e below (fun o U' => ∃ v L, o = .returned v ∧ Q8s Z o0 o1 h0 n0 v U'.heap L ∧ FrameEnd s o U' L (⟨0, 0, 0, 0⟩ : Room).cells (⟨0, 0, 0, 0⟩ : Room).slots) (s₁.setTop (entryFrame m #[(.ref o0), (.ref o1)] 3))
  refine own_of (fun t k => castTop (ef_8s m o0 o1) k) ?_
  show own_Out p e below _ (s₁.setTop (mkF m 0 #[rv o0, rv o1, .unset] []))
  refine o_aloadN X0 hx hby d8_0 rfl rfl (q := 1) rfl ?_
  obtain ⟨T1, X1, e1, st1⟩ := instNo X0 hx hZ hown (w_ hw 56 rfl) e0 E1 (own_notSub (w_ hw 79 rfl) (w_ hw 80 rfl) (w_ hw 27 rfl) (by decide) (by decide)) (g := (mkF m 1 #[rv o0, rv o1, .unset] [.ref o1])) rfl rfl (hb hby d8_1)
  refine own_of st1 ?_
  show own_Out p e below _ (T1.setTop (mkF m 4 #[rv o0, rv o1, .unset] [.int 0]))
  refine o_ifN X1 hx hby d8_4 ((if0 _ _).trans (teq (by decide : (0 : Int32) = (0 : Int32))).2) (q := 7) rfl ?_
  refine o_iconst X1 hx hby d8_7 (z := 0) rfl (q := 8) rfl ?_
  exact own_outN X1 hx hlk (t := .boolean) hret (by simp) (hb hby d8_8) (z' := (0 : Int32)) rfl (Q := Q8s Z o0 o1 h0 n0) ⟨rfl, N0, e1⟩ (by decide) (by decide)
theorem ef_8n (m : MethodId) (x0 : Addr) : entryFrame m #[(.ref x0), .null] 3 = mkF m 0 #[.val (.ref x0), .val .null, .unset] [] := by first | (simp [entryFrame, mkF, argsToLocals, Value.category]; done) | rfl
def Q8n (Z : State) (o0 : Addr) (h0 : Heap) (n0 : Nat) (v : Option Value) (h : Heap) (L : List Loc) : Prop := v = some (.int 0) ∧ Fr n0 L ∧ h = h0
set_option maxRecDepth 65536 in
set_option maxHeartbeats 40000000 in
theorem rm8n (l : Launch) (Z : State) (a0 : Array Value) (hw : ∀ d ∈ tables_1, d.before a0 Z = true) (ws : List Jvm.Cond) (o0 : Addr) (h0 : Heap) (n0 : Nat) (Z0 : n0 ≤ h0.size) :
    MetFree l (⟨"com/example/collector_urchin/collectorurchin/store/StampedRecord", "equals", "(Ljava/lang/Object;)Z"⟩ : MethodName) (head1 (Jvm.Cond.code (⟨"com/example/collector_urchin/collectorurchin/store/StampedRecord", "equals", "(Ljava/lang/Object;)Z"⟩ : MethodName) prog_23_method_6_code 3 (some .boolean) :: ws) (⟨0, 0, 0, 0⟩ : Room)) (fun a U => a = #[(.ref o0), .null] ∧ Z.Warmed39 U.vm ∧ U.heap = h0) (fun _ _ _ _ _ => True) (fun _ U o U' => ∃ v L, o = .returned v ∧ Q8n Z o0 h0 n0 v U'.heap L ∧ FrameEnd U o U' L (⟨0, 0, 0, 0⟩ : Room).cells (⟨0, 0, 0, 0⟩ : Room).slots) := by
  refine MetFree.of_bodySF (plainFor_of_name pn_4) hisR ?_
  intro p e s m args below meth c s₁ Bd hml0 hP hK
  obtain ⟨rfl, hZ, hh⟩ := hP
  have hx := Bd.exec
  have hby := Bd.bytes
  have hml : c.maxLocals = 3 := hml0
  have hown : s.vm.findClass "com/example/collector_urchin/collectorurchin/store/StampedRecord" = some m.cls := findClass_of_methodNamed Bd.named
  have hnm := (name_of_methodNamed Bd.named Bd.method).1
  have X0 : Stand p l e (⟨0, 0, 0, 0⟩ : Room) s m #[(.ref o0), .null] below meth c s₁ [] 0 0 := Stand.of_body Bd
  have e0 : s₁.heap = h0 := by rw [← hh, Bd.state]; rfl
  have N0 := Fr.nil n0
  have hret := Bd.returns
  have hlk := BodyLoose.notSynchronized Bd
  show own_Out p e below (fun o U' => ∃ v L, o = .returned v ∧ Q8n Z o0 h0 n0 v U'.heap L ∧ FrameEnd s o U' L (⟨0, 0, 0, 0⟩ : Room).cells (⟨0, 0, 0, 0⟩ : Room).slots) (s₁.setTop (entryFrame m #[(.ref o0), .null] 3))
  refine own_of (fun t k => castTop (ef_8n m o0) k) ?_
  show own_Out p e below _ (s₁.setTop (mkF m 0 #[rv o0, .val (.null), .unset] []))
  refine o_aloadN X0 hx hby d8_0 rfl rfl (q := 1) rfl ?_
  refine own_of (X0.instanceofNull hx (g := (mkF m 1 #[rv o0, .val (.null), .unset] [.null])) rfl rfl (hb hby d8_1)) ?_
  show own_Out p e below _ (s₁.setTop (mkF m 4 #[rv o0, .val (.null), .unset] [.int 0]))
  refine o_ifN X0 hx hby d8_4 ((if0 _ _).trans (teq (by decide : (0 : Int32) = (0 : Int32))).2) (q := 7) rfl ?_
  refine o_iconst X0 hx hby d8_7 (z := 0) rfl (q := 8) rfl ?_
  exact own_outN X0 hx hlk (t := .boolean) hret (by simp) (hb hby d8_8) (z' := (0 : Int32)) rfl (Q := Q8n Z o0 h0 n0) ⟨rfl, N0, e0⟩ (by decide) (by decide)
theorem d7_0 : decode method_3_code 0 = .ok (.iload_n 0, 1) := by decide +kernel
theorem d7_1 : decode method_3_code 1 = .ok (.iload_n 3, 1) := by decide +kernel
theorem d7_2 : decode method_3_code 2 = .ok (.if_icmp .ne 29, 3) := by decide +kernel
theorem d7_5 : decode method_3_code 5 = .ok (.iload_n 0, 1) := by decide +kernel
theorem d7_6 : decode method_3_code 6 = .ok (.iconst 1, 1) := by decide +kernel
theorem d7_7 : decode method_3_code 7 = .ok (.if_icmp .lt 9, 3) := by decide +kernel
theorem d7_10 : decode method_3_code 10 = .ok (.iload_n 1, 1) := by decide +kernel
theorem d7_11 : decode method_3_code 11 = .ok (.iload 4, 2) := by decide +kernel
theorem d7_13 : decode method_3_code 13 = .ok (.if_icmp .ne 18, 3) := by decide +kernel
theorem d7_16 : decode method_3_code 16 = .ok (.iload_n 0, 1) := by decide +kernel
theorem d7_17 : decode method_3_code 17 = .ok (.iconst 2, 1) := by decide +kernel
theorem d7_18 : decode method_3_code 18 = .ok (.if_icmp .lt 9, 3) := by decide +kernel
theorem d7_21 : decode method_3_code 21 = .ok (.iload_n 2, 1) := by decide +kernel
theorem d7_22 : decode method_3_code 22 = .ok (.iload 5, 2) := by decide +kernel
theorem d7_24 : decode method_3_code 24 = .ok (.if_icmp .ne 7, 3) := by decide +kernel
theorem d7_27 : decode method_3_code 27 = .ok (.iconst 1, 1) := by decide +kernel
theorem d7_28 : decode method_3_code 28 = .ok (.goto 4, 3) := by decide +kernel
theorem d7_31 : decode method_3_code 31 = .ok (.iconst 0, 1) := by decide +kernel
theorem d7_32 : decode method_3_code 32 = .ok (.ireturn, 1) := by decide +kernel
theorem ef_7 (m : MethodId) (x0 x1 x2 x3 x4 x5 : Int32) : entryFrame m #[(.int x0), (.int x1), (.int x2), (.int x3), (.int x4), (.int x5)] 6 = mkF m 0 #[.val (.int x0), .val (.int x1), .val (.int x2), .val (.int x3), .val (.int x4), .val (.int x5)] [] := by first | (simp [entryFrame, mkF, argsToLocals, Value.category]; done) | rfl
def fss (p0 p1 p2 p3 p4 p5 : Int32) : Int32 := if p0 = p3 then (if p0 < (1 : Int32) then (1 : Int32)
    else if p1 = p4 then (if p0 < (2 : Int32) then (1 : Int32)
        else if p2 = p5 then (1 : Int32)
          else (0 : Int32))
      else (0 : Int32))
  else (0 : Int32)
def Q7 (Z : State) (p0 p1 p2 p3 p4 p5 : Int32) (h0 : Heap) (n0 : Nat) (v : Option Value) (h : Heap) (L : List Loc) : Prop := v = some (.int (fss p0 p1 p2 p3 p4 p5)) ∧ Fr n0 L ∧ h = h0
set_option maxRecDepth 65536 in
set_option maxHeartbeats 40000000 in
theorem rm7 (l : Launch) (Z : State) (a0 : Array Value) (hw : ∀ d ∈ tables_1, d.before a0 Z = true) (ws : List Jvm.Cond) (p0 p1 p2 p3 p4 p5 : Int32) (h0 : Heap) (n0 : Nat) (Z0 : n0 ≤ h0.size) :
    MetFree l (⟨"com/example/collector_urchin/collectorurchin/store/StampedRecordEqualsPinLaw", "sameStr", "(ICCICC)Z"⟩ : MethodName) (head1 (Jvm.Cond.code (⟨"com/example/collector_urchin/collectorurchin/store/StampedRecordEqualsPinLaw", "sameStr", "(ICCICC)Z"⟩ : MethodName) method_3_code 6 (some .boolean) :: ws) (⟨0, 0, 0, 0⟩ : Room)) (fun a U => a = #[(.int p0), (.int p1), (.int p2), (.int p3), (.int p4), (.int p5)] ∧ Z.Warmed39 U.vm ∧ U.heap = h0) (fun _ _ _ _ _ => True) (fun _ U o U' => ∃ v L, o = .returned v ∧ Q7 Z p0 p1 p2 p3 p4 p5 h0 n0 v U'.heap L ∧ FrameEnd U o U' L (⟨0, 0, 0, 0⟩ : Room).cells (⟨0, 0, 0, 0⟩ : Room).slots) := by
  refine MetFree.of_bodySF (plainFor_of_name pn_2) hisR ?_
  intro p e s m args below meth c s₁ Bd hml0 hP hK
  obtain ⟨rfl, hZ, hh⟩ := hP
  have hx := Bd.exec
  have hby := Bd.bytes
  have hml : c.maxLocals = 6 := hml0
  have hown : s.vm.findClass "com/example/collector_urchin/collectorurchin/store/StampedRecordEqualsPinLaw" = some m.cls := findClass_of_methodNamed Bd.named
  have hnm := (name_of_methodNamed Bd.named Bd.method).1
  have X0 : Stand p l e (⟨0, 0, 0, 0⟩ : Room) s m #[(.int p0), (.int p1), (.int p2), (.int p3), (.int p4), (.int p5)] below meth c s₁ [] 0 0 := Stand.of_body Bd
  have e0 : s₁.heap = h0 := by rw [← hh, Bd.state]; rfl
  have N0 := Fr.nil n0
  have hret := Bd.returns
  have hlk := BodyLoose.notSynchronized Bd
  show own_Out p e below (fun o U' => ∃ v L, o = .returned v ∧ Q7 Z p0 p1 p2 p3 p4 p5 h0 n0 v U'.heap L ∧ FrameEnd s o U' L (⟨0, 0, 0, 0⟩ : Room).cells (⟨0, 0, 0, 0⟩ : Room).slots) (s₁.setTop (entryFrame m #[(.int p0), (.int p1), (.int p2), (.int p3), (.int p4), (.int p5)] 6))
  refine own_of (fun t k => castTop (ef_7 m p0 p1 p2 p3 p4 p5) k) ?_
  show own_Out p e below _ (s₁.setTop (mkF m 0 #[iv p0, iv p1, iv p2, iv p3, iv p4, iv p5] []))
  refine o_iloadN X0 hx hby d7_0 rfl (q := 1) rfl ?_
  refine o_iloadN X0 hx hby d7_1 rfl (q := 2) rfl ?_
  by_cases hc2_1 : p0 = p3
  · skip
    refine o_icN X0 hx hby d7_2 (teq hc2_1).2 (q := 5) rfl ?_
    refine o_iloadN X0 hx hby d7_5 rfl (q := 6) rfl ?_
    refine o_iconst X0 hx hby d7_6 (z := 1) rfl (q := 7) rfl ?_
    by_cases hc7_2 : p0 < (1 : Int32)
    · skip
      refine o_icY X0 hx hby d7_7 (tlt hc7_2).1 (by decide) (q := 16) (by decide) ?_
      refine o_iloadN X0 hx hby d7_16 rfl (q := 17) rfl ?_
      refine o_iconst X0 hx hby d7_17 (z := 2) rfl (q := 18) rfl ?_
      refine o_icY X0 hx hby d7_18 (tlt (own_T1 (own_U1 hc7_2) (by decide) : p0 < (2 : Int32))).1 (by decide) (q := 27) (by decide) ?_
      refine o_iconst X0 hx hby d7_27 (z := 1) rfl (q := 28) rfl ?_
      refine o_goto X0 hx hby d7_28 (by decide) (q := 32) (by decide) ?_
      exact own_outN X0 hx hlk (t := .boolean) hret (by simp) (hb hby d7_32) (z' := (1 : Int32)) rfl (Q := Q7 Z p0 p1 p2 p3 p4 p5 h0 n0) ⟨by simp only [fss, if_pos hc2_1, if_pos hc7_2], N0, e0⟩ (by decide) (by decide)
    · skip
      refine o_icN X0 hx hby d7_7 (flt hc7_2).1 (q := 10) rfl ?_
      refine o_iloadN X0 hx hby d7_10 rfl (q := 11) rfl ?_
      refine o_iload X0 hx hby d7_11 rfl (q := 13) rfl ?_
      by_cases hc13_3 : p1 = p4
      · skip
        refine o_icN X0 hx hby d7_13 (teq hc13_3).2 (q := 16) rfl ?_
        refine o_iloadN X0 hx hby d7_16 rfl (q := 17) rfl ?_
        refine o_iconst X0 hx hby d7_17 (z := 2) rfl (q := 18) rfl ?_
        by_cases hc18_4 : p0 < (2 : Int32)
        · skip
          refine o_icY X0 hx hby d7_18 (tlt hc18_4).1 (by decide) (q := 27) (by decide) ?_
          refine o_iconst X0 hx hby d7_27 (z := 1) rfl (q := 28) rfl ?_
          refine o_goto X0 hx hby d7_28 (by decide) (q := 32) (by decide) ?_
          exact own_outN X0 hx hlk (t := .boolean) hret (by simp) (hb hby d7_32) (z' := (1 : Int32)) rfl (Q := Q7 Z p0 p1 p2 p3 p4 p5 h0 n0) ⟨by simp only [fss, if_pos hc2_1, if_neg hc7_2, if_pos hc13_3, if_pos hc18_4], N0, e0⟩ (by decide) (by decide)
        · skip
          refine o_icN X0 hx hby d7_18 (flt hc18_4).1 (q := 21) rfl ?_
          refine o_iloadN X0 hx hby d7_21 rfl (q := 22) rfl ?_
          refine o_iload X0 hx hby d7_22 rfl (q := 24) rfl ?_
          by_cases hc24_5 : p2 = p5
          · skip
            refine o_icN X0 hx hby d7_24 (teq hc24_5).2 (q := 27) rfl ?_
            refine o_iconst X0 hx hby d7_27 (z := 1) rfl (q := 28) rfl ?_
            refine o_goto X0 hx hby d7_28 (by decide) (q := 32) (by decide) ?_
            exact own_outN X0 hx hlk (t := .boolean) hret (by simp) (hb hby d7_32) (z' := (1 : Int32)) rfl (Q := Q7 Z p0 p1 p2 p3 p4 p5 h0 n0) ⟨by simp only [fss, if_pos hc2_1, if_neg hc7_2, if_pos hc13_3, if_neg hc18_4, if_pos hc24_5], N0, e0⟩ (by decide) (by decide)
          · skip
            refine o_icY X0 hx hby d7_24 (feq hc24_5).2 (by decide) (q := 31) (by decide) ?_
            refine o_iconst X0 hx hby d7_31 (z := 0) rfl (q := 32) rfl ?_
            exact own_outN X0 hx hlk (t := .boolean) hret (by simp) (hb hby d7_32) (z' := (0 : Int32)) rfl (Q := Q7 Z p0 p1 p2 p3 p4 p5 h0 n0) ⟨by simp only [fss, if_pos hc2_1, if_neg hc7_2, if_pos hc13_3, if_neg hc18_4, if_neg hc24_5], N0, e0⟩ (by decide) (by decide)
      · skip
        refine o_icY X0 hx hby d7_13 (feq hc13_3).2 (by decide) (q := 31) (by decide) ?_
        refine o_iconst X0 hx hby d7_31 (z := 0) rfl (q := 32) rfl ?_
        exact own_outN X0 hx hlk (t := .boolean) hret (by simp) (hb hby d7_32) (z' := (0 : Int32)) rfl (Q := Q7 Z p0 p1 p2 p3 p4 p5 h0 n0) ⟨by simp only [fss, if_pos hc2_1, if_neg hc7_2, if_neg hc13_3], N0, e0⟩ (by decide) (by decide)
  · skip
    refine o_icY X0 hx hby d7_2 (feq hc2_1).2 (by decide) (q := 31) (by decide) ?_
    refine o_iconst X0 hx hby d7_31 (z := 0) rfl (q := 32) rfl ?_
    exact own_outN X0 hx hlk (t := .boolean) hret (by simp) (hb hby d7_32) (z' := (0 : Int32)) rfl (Q := Q7 Z p0 p1 p2 p3 p4 p5 h0 n0) ⟨by simp only [fss, if_neg hc2_1], N0, e0⟩ (by decide) (by decide)
theorem own_by {c d : Int32} (h : 0 ≤ c.toInt ∧ c.toInt < 256) (g : 0 ≤ d.toInt ∧ d.toInt < 256) : ((c.toInt8.toInt32).toInt8.toInt32) = ((d.toInt8.toInt32).toInt8.toInt32) ↔ c = d := by
  have a1 := c_i2b c; have a2 := c_i2b (c.toInt8.toInt32); have b1 := c_i2b d; have b2 := c_i2b (d.toInt8.toInt32)
  refine ⟨fun q => Int32.toInt_inj.mp ?_, fun q => by rw [q]⟩
  have q' := Int32.toInt_inj.mpr q
  omega
theorem own_fse {n m c0 c1 d0 d1 cs : Int32} (hn : n = 0 ∨ n = 1 ∨ n = 2) (hm : m = 0 ∨ m = 1 ∨ m = 2) (h0 : 0 ≤ c0.toInt ∧ c0.toInt < 256) (h1 : 0 ≤ c1.toInt ∧ c1.toInt < 256) (g0 : 0 ≤ d0.toInt ∧ d0.toInt < 256) (g1 : 0 ≤ d1.toInt ∧ d1.toInt < 256) : fse n ((c0.toInt8.toInt32).toInt8.toInt32) ((c1.toInt8.toInt32).toInt8.toInt32) m ((d0.toInt8.toInt32).toInt8.toInt32) ((d1.toInt8.toInt32).toInt8.toInt32) cs = fss n c0 c1 m d0 d1 := by
  simp only [fse, fle, own_by h0 g0, own_by h1 g1]
  rcases hn with rfl | rfl | rfl <;> rcases hm with rfl | rfl | rfl <;> by_cases q0 : c0 = d0 <;> by_cases q1 : c1 = d1 <;> simp [fss, q0, q1]
theorem own_sym {n m c0 c1 d0 d1 : Int32} (hn : n = 0 ∨ n = 1 ∨ n = 2) (hm : m = 0 ∨ m = 1 ∨ m = 2) : fss m d0 d1 n c0 c1 = fss n c0 c1 m d0 d1 := by
  rcases hn with rfl | rfl | rfl <;> rcases hm with rfl | rfl | rfl <;> by_cases q0 : c0 = d0 <;> by_cases q1 : c1 = d1 <;> simp [fss, q0, q1, eq_comm]
theorem own_x1 (x d : Int64) : (x = x ^^^ d) ↔ d = 0 := by
  refine ⟨fun h => ?_, fun h => by subst h; simp⟩
  have e : x ^^^ x = x ^^^ (x ^^^ d) := by rw [← h]
  rw [← Int64.xor_assoc, Int64.xor_self, Int64.zero_xor] at e; exact e.symm
theorem own_x2 (x d : Int64) : (x ^^^ d = x) ↔ d = 0 := by rw [eq_comm]; exact own_x1 x d
theorem pd_8 : parseMethodDescriptor "(ICC)Ljava/lang/String;" = some ⟨[.int, .char, .char], some (.object "java/lang/String")⟩ := by decide +kernel
theorem pd_9 : parseMethodDescriptor "(Ljava/lang/String;Ljava/lang/String;JJ)V" = some ⟨[(.object "java/lang/String"), (.object "java/lang/String"), .long, .long], none⟩ := by decide +kernel
theorem pd_10 : parseMethodDescriptor "(ICCICC)Z" = some ⟨[.int, .char, .char, .int, .char, .char], some .boolean⟩ := by decide +kernel
theorem sg125_dead0 (p0 p1 : Int32) (q2 q3 q4 : Int64) (p5 lia lib lja ljb ia0 ia1 ib0 ib1 ja0 ja1 jb0 jb1 cs : Int32) (hcs : ¬ (cs = (0 : Int32))) (hl_lia : lia = 0 ∨ lia = 1 ∨ lia = 2) (hl_lib : lib = 0 ∨ lib = 1 ∨ lib = 2) (hl_lja : lja = 0 ∨ lja = 1 ∨ lja = 2) (hl_ljb : ljb = 0 ∨ ljb = 1 ∨ ljb = 2) (hr_ia0 : 0 ≤ ia0.toInt ∧ ia0.toInt < 256) (hr_ia1 : 0 ≤ ia1.toInt ∧ ia1.toInt < 256) (hr_ib0 : 0 ≤ ib0.toInt ∧ ib0.toInt < 256) (hr_ib1 : 0 ≤ ib1.toInt ∧ ib1.toInt < 256) (hr_ja0 : 0 ≤ ja0.toInt ∧ ja0.toInt < 256) (hr_ja1 : 0 ≤ ja1.toInt ∧ ja1.toInt < 256) (hr_jb0 : 0 ≤ jb0.toInt ∧ jb0.toInt < 256) (hr_jb1 : 0 ≤ jb1.toInt ∧ jb1.toInt < 256) (hc173_15 : (p5 &&& (1 : Int32)) = (0 : Int32)) (hc187_16 : (p5 &&& (2 : Int32)) = (0 : Int32)) (hc274_32 : ¬ ((((p5.toUInt32 >>> ((2 : Int32) &&& 31).toUInt32).toInt32) &&& (7 : Int32)) = (5 : Int32))) (hc296_36 : ¬ ((((p5.toUInt32 >>> ((2 : Int32) &&& 31).toUInt32).toInt32) &&& (7 : Int32)) = (6 : Int32))) (hc319_41 : ¬ ((((p5.toUInt32 >>> ((2 : Int32) &&& 31).toUInt32).toInt32) &&& (7 : Int32)) = (7 : Int32))) (hc363_56 : (fss lia ia0 ia1 lib ib0 ib1) = (0 : Int32)) (hc424_80 : (fqe lia ((ia0.toInt8.toInt32).toInt8.toInt32) ((ia1.toInt8.toInt32).toInt8.toInt32) lja ((ja0.toInt8.toInt32).toInt8.toInt32) ((ja1.toInt8.toInt32).toInt8.toInt32) q2 q3 lib ((ib0.toInt8.toInt32).toInt8.toInt32) ((ib1.toInt8.toInt32).toInt8.toInt32) ljb ((jb0.toInt8.toInt32).toInt8.toInt32) ((jb1.toInt8.toInt32).toInt8.toInt32) (q2 ^^^ q4) (q3 ^^^ q4) cs) = (0 : Int32)) (hc436_82 : ¬ ((fqe lib ((ib0.toInt8.toInt32).toInt8.toInt32) ((ib1.toInt8.toInt32).toInt8.toInt32) ljb ((jb0.toInt8.toInt32).toInt8.toInt32) ((jb1.toInt8.toInt32).toInt8.toInt32) (q2 ^^^ q4) (q3 ^^^ q4) lia ((ia0.toInt8.toInt32).toInt8.toInt32) ((ia1.toInt8.toInt32).toInt8.toInt32) lja ((ja0.toInt8.toInt32).toInt8.toInt32) ((ja1.toInt8.toInt32).toInt8.toInt32) q2 q3 cs) = (0 : Int32))) : False := by
  apply hc436_82
  simp only [fqe, own_fse hl_lia hl_lib hr_ia0 hr_ia1 hr_ib0 hr_ib1, own_fse hl_lja hl_ljb hr_ja0 hr_ja1 hr_jb0 hr_jb1, own_fse hl_lib hl_lia hr_ib0 hr_ib1 hr_ia0 hr_ia1, own_fse hl_ljb hl_lja hr_jb0 hr_jb1 hr_ja0 hr_ja1, own_sym hl_lia hl_lib, own_sym hl_lja hl_ljb, own_x1, own_x2]
  simp_all
theorem sg125_dead1 (p0 p1 : Int32) (q2 q3 q4 : Int64) (p5 lia lib lja ljb ia0 ia1 ib0 ib1 ja0 ja1 jb0 jb1 cs : Int32) (hcs : ¬ (cs = (0 : Int32))) (hl_lia : lia = 0 ∨ lia = 1 ∨ lia = 2) (hl_lib : lib = 0 ∨ lib = 1 ∨ lib = 2) (hl_lja : lja = 0 ∨ lja = 1 ∨ lja = 2) (hl_ljb : ljb = 0 ∨ ljb = 1 ∨ ljb = 2) (hr_ia0 : 0 ≤ ia0.toInt ∧ ia0.toInt < 256) (hr_ia1 : 0 ≤ ia1.toInt ∧ ia1.toInt < 256) (hr_ib0 : 0 ≤ ib0.toInt ∧ ib0.toInt < 256) (hr_ib1 : 0 ≤ ib1.toInt ∧ ib1.toInt < 256) (hr_ja0 : 0 ≤ ja0.toInt ∧ ja0.toInt < 256) (hr_ja1 : 0 ≤ ja1.toInt ∧ ja1.toInt < 256) (hr_jb0 : 0 ≤ jb0.toInt ∧ jb0.toInt < 256) (hr_jb1 : 0 ≤ jb1.toInt ∧ jb1.toInt < 256) (hc173_15 : (p5 &&& (1 : Int32)) = (0 : Int32)) (hc187_16 : (p5 &&& (2 : Int32)) = (0 : Int32)) (hc274_32 : ¬ ((((p5.toUInt32 >>> ((2 : Int32) &&& 31).toUInt32).toInt32) &&& (7 : Int32)) = (5 : Int32))) (hc296_36 : ¬ ((((p5.toUInt32 >>> ((2 : Int32) &&& 31).toUInt32).toInt32) &&& (7 : Int32)) = (6 : Int32))) (hc319_41 : ¬ ((((p5.toUInt32 >>> ((2 : Int32) &&& 31).toUInt32).toInt32) &&& (7 : Int32)) = (7 : Int32))) (hc363_56 : (fss lia ia0 ia1 lib ib0 ib1) = (0 : Int32)) (hc424_80 : ¬ ((fqe lia ((ia0.toInt8.toInt32).toInt8.toInt32) ((ia1.toInt8.toInt32).toInt8.toInt32) lja ((ja0.toInt8.toInt32).toInt8.toInt32) ((ja1.toInt8.toInt32).toInt8.toInt32) q2 q3 lib ((ib0.toInt8.toInt32).toInt8.toInt32) ((ib1.toInt8.toInt32).toInt8.toInt32) ljb ((jb0.toInt8.toInt32).toInt8.toInt32) ((jb1.toInt8.toInt32).toInt8.toInt32) (q2 ^^^ q4) (q3 ^^^ q4) cs) = (0 : Int32))) : False := by
  apply hc424_80
  simp only [fqe, own_fse hl_lia hl_lib hr_ia0 hr_ia1 hr_ib0 hr_ib1, own_fse hl_lja hl_ljb hr_ja0 hr_ja1 hr_jb0 hr_jb1, own_fse hl_lib hl_lia hr_ib0 hr_ib1 hr_ia0 hr_ia1, own_fse hl_ljb hl_lja hr_jb0 hr_jb1 hr_ja0 hr_ja1, own_sym hl_lia hl_lib, own_sym hl_lja hl_ljb, own_x1, own_x2]
  simp_all
theorem sg125_dead2 (p0 p1 : Int32) (q2 q3 q4 : Int64) (p5 lia lib lja ljb ia0 ia1 ib0 ib1 ja0 ja1 jb0 jb1 cs : Int32) (hcs : ¬ (cs = (0 : Int32))) (hl_lia : lia = 0 ∨ lia = 1 ∨ lia = 2) (hl_lib : lib = 0 ∨ lib = 1 ∨ lib = 2) (hl_lja : lja = 0 ∨ lja = 1 ∨ lja = 2) (hl_ljb : ljb = 0 ∨ ljb = 1 ∨ ljb = 2) (hr_ia0 : 0 ≤ ia0.toInt ∧ ia0.toInt < 256) (hr_ia1 : 0 ≤ ia1.toInt ∧ ia1.toInt < 256) (hr_ib0 : 0 ≤ ib0.toInt ∧ ib0.toInt < 256) (hr_ib1 : 0 ≤ ib1.toInt ∧ ib1.toInt < 256) (hr_ja0 : 0 ≤ ja0.toInt ∧ ja0.toInt < 256) (hr_ja1 : 0 ≤ ja1.toInt ∧ ja1.toInt < 256) (hr_jb0 : 0 ≤ jb0.toInt ∧ jb0.toInt < 256) (hr_jb1 : 0 ≤ jb1.toInt ∧ jb1.toInt < 256) (hc173_15 : (p5 &&& (1 : Int32)) = (0 : Int32)) (hc187_16 : (p5 &&& (2 : Int32)) = (0 : Int32)) (hc274_32 : ¬ ((((p5.toUInt32 >>> ((2 : Int32) &&& 31).toUInt32).toInt32) &&& (7 : Int32)) = (5 : Int32))) (hc296_36 : ¬ ((((p5.toUInt32 >>> ((2 : Int32) &&& 31).toUInt32).toInt32) &&& (7 : Int32)) = (6 : Int32))) (hc319_41 : ¬ ((((p5.toUInt32 >>> ((2 : Int32) &&& 31).toUInt32).toInt32) &&& (7 : Int32)) = (7 : Int32))) (hc363_56 : ¬ ((fss lia ia0 ia1 lib ib0 ib1) = (0 : Int32))) (hc381_84 : (fss lja ja0 ja1 ljb jb0 jb1) = (0 : Int32)) (hc424_108 : (fqe lia ((ia0.toInt8.toInt32).toInt8.toInt32) ((ia1.toInt8.toInt32).toInt8.toInt32) lja ((ja0.toInt8.toInt32).toInt8.toInt32) ((ja1.toInt8.toInt32).toInt8.toInt32) q2 q3 lib ((ib0.toInt8.toInt32).toInt8.toInt32) ((ib1.toInt8.toInt32).toInt8.toInt32) ljb ((jb0.toInt8.toInt32).toInt8.toInt32) ((jb1.toInt8.toInt32).toInt8.toInt32) (q2 ^^^ q4) (q3 ^^^ q4) cs) = (0 : Int32)) (hc436_110 : ¬ ((fqe lib ((ib0.toInt8.toInt32).toInt8.toInt32) ((ib1.toInt8.toInt32).toInt8.toInt32) ljb ((jb0.toInt8.toInt32).toInt8.toInt32) ((jb1.toInt8.toInt32).toInt8.toInt32) (q2 ^^^ q4) (q3 ^^^ q4) lia ((ia0.toInt8.toInt32).toInt8.toInt32) ((ia1.toInt8.toInt32).toInt8.toInt32) lja ((ja0.toInt8.toInt32).toInt8.toInt32) ((ja1.toInt8.toInt32).toInt8.toInt32) q2 q3 cs) = (0 : Int32))) : False := by
  apply hc436_110
  simp only [fqe, own_fse hl_lia hl_lib hr_ia0 hr_ia1 hr_ib0 hr_ib1, own_fse hl_lja hl_ljb hr_ja0 hr_ja1 hr_jb0 hr_jb1, own_fse hl_lib hl_lia hr_ib0 hr_ib1 hr_ia0 hr_ia1, own_fse hl_ljb hl_lja hr_jb0 hr_jb1 hr_ja0 hr_ja1, own_sym hl_lia hl_lib, own_sym hl_lja hl_ljb, own_x1, own_x2]
  simp_all
theorem sg125_dead3 (p0 p1 : Int32) (q2 q3 q4 : Int64) (p5 lia lib lja ljb ia0 ia1 ib0 ib1 ja0 ja1 jb0 jb1 cs : Int32) (hcs : ¬ (cs = (0 : Int32))) (hl_lia : lia = 0 ∨ lia = 1 ∨ lia = 2) (hl_lib : lib = 0 ∨ lib = 1 ∨ lib = 2) (hl_lja : lja = 0 ∨ lja = 1 ∨ lja = 2) (hl_ljb : ljb = 0 ∨ ljb = 1 ∨ ljb = 2) (hr_ia0 : 0 ≤ ia0.toInt ∧ ia0.toInt < 256) (hr_ia1 : 0 ≤ ia1.toInt ∧ ia1.toInt < 256) (hr_ib0 : 0 ≤ ib0.toInt ∧ ib0.toInt < 256) (hr_ib1 : 0 ≤ ib1.toInt ∧ ib1.toInt < 256) (hr_ja0 : 0 ≤ ja0.toInt ∧ ja0.toInt < 256) (hr_ja1 : 0 ≤ ja1.toInt ∧ ja1.toInt < 256) (hr_jb0 : 0 ≤ jb0.toInt ∧ jb0.toInt < 256) (hr_jb1 : 0 ≤ jb1.toInt ∧ jb1.toInt < 256) (hc173_15 : (p5 &&& (1 : Int32)) = (0 : Int32)) (hc187_16 : (p5 &&& (2 : Int32)) = (0 : Int32)) (hc274_32 : ¬ ((((p5.toUInt32 >>> ((2 : Int32) &&& 31).toUInt32).toInt32) &&& (7 : Int32)) = (5 : Int32))) (hc296_36 : ¬ ((((p5.toUInt32 >>> ((2 : Int32) &&& 31).toUInt32).toInt32) &&& (7 : Int32)) = (6 : Int32))) (hc319_41 : ¬ ((((p5.toUInt32 >>> ((2 : Int32) &&& 31).toUInt32).toInt32) &&& (7 : Int32)) = (7 : Int32))) (hc363_56 : ¬ ((fss lia ia0 ia1 lib ib0 ib1) = (0 : Int32))) (hc381_84 : (fss lja ja0 ja1 ljb jb0 jb1) = (0 : Int32)) (hc424_108 : ¬ ((fqe lia ((ia0.toInt8.toInt32).toInt8.toInt32) ((ia1.toInt8.toInt32).toInt8.toInt32) lja ((ja0.toInt8.toInt32).toInt8.toInt32) ((ja1.toInt8.toInt32).toInt8.toInt32) q2 q3 lib ((ib0.toInt8.toInt32).toInt8.toInt32) ((ib1.toInt8.toInt32).toInt8.toInt32) ljb ((jb0.toInt8.toInt32).toInt8.toInt32) ((jb1.toInt8.toInt32).toInt8.toInt32) (q2 ^^^ q4) (q3 ^^^ q4) cs) = (0 : Int32))) : False := by
  apply hc424_108
  simp only [fqe, own_fse hl_lia hl_lib hr_ia0 hr_ia1 hr_ib0 hr_ib1, own_fse hl_lja hl_ljb hr_ja0 hr_ja1 hr_jb0 hr_jb1, own_fse hl_lib hl_lia hr_ib0 hr_ib1 hr_ia0 hr_ia1, own_fse hl_ljb hl_lja hr_jb0 hr_jb1 hr_ja0 hr_ja1, own_sym hl_lia hl_lib, own_sym hl_lja hl_ljb, own_x1, own_x2]
  simp_all
theorem sg125_dead4 (p0 p1 : Int32) (q2 q3 q4 : Int64) (p5 lia lib lja ljb ia0 ia1 ib0 ib1 ja0 ja1 jb0 jb1 cs : Int32) (hcs : ¬ (cs = (0 : Int32))) (hl_lia : lia = 0 ∨ lia = 1 ∨ lia = 2) (hl_lib : lib = 0 ∨ lib = 1 ∨ lib = 2) (hl_lja : lja = 0 ∨ lja = 1 ∨ lja = 2) (hl_ljb : ljb = 0 ∨ ljb = 1 ∨ ljb = 2) (hr_ia0 : 0 ≤ ia0.toInt ∧ ia0.toInt < 256) (hr_ia1 : 0 ≤ ia1.toInt ∧ ia1.toInt < 256) (hr_ib0 : 0 ≤ ib0.toInt ∧ ib0.toInt < 256) (hr_ib1 : 0 ≤ ib1.toInt ∧ ib1.toInt < 256) (hr_ja0 : 0 ≤ ja0.toInt ∧ ja0.toInt < 256) (hr_ja1 : 0 ≤ ja1.toInt ∧ ja1.toInt < 256) (hr_jb0 : 0 ≤ jb0.toInt ∧ jb0.toInt < 256) (hr_jb1 : 0 ≤ jb1.toInt ∧ jb1.toInt < 256) (hc173_15 : (p5 &&& (1 : Int32)) = (0 : Int32)) (hc187_16 : (p5 &&& (2 : Int32)) = (0 : Int32)) (hc274_32 : ¬ ((((p5.toUInt32 >>> ((2 : Int32) &&& 31).toUInt32).toInt32) &&& (7 : Int32)) = (5 : Int32))) (hc296_36 : ¬ ((((p5.toUInt32 >>> ((2 : Int32) &&& 31).toUInt32).toInt32) &&& (7 : Int32)) = (6 : Int32))) (hc319_41 : ¬ ((((p5.toUInt32 >>> ((2 : Int32) &&& 31).toUInt32).toInt32) &&& (7 : Int32)) = (7 : Int32))) (hc363_56 : ¬ ((fss lia ia0 ia1 lib ib0 ib1) = (0 : Int32))) (hc381_84 : ¬ ((fss lja ja0 ja1 ljb jb0 jb1) = (0 : Int32))) (hc393_111 : q4 = (0 : Int64)) (hc424_135 : (fqe lia ((ia0.toInt8.toInt32).toInt8.toInt32) ((ia1.toInt8.toInt32).toInt8.toInt32) lja ((ja0.toInt8.toInt32).toInt8.toInt32) ((ja1.toInt8.toInt32).toInt8.toInt32) q2 q3 lib ((ib0.toInt8.toInt32).toInt8.toInt32) ((ib1.toInt8.toInt32).toInt8.toInt32) ljb ((jb0.toInt8.toInt32).toInt8.toInt32) ((jb1.toInt8.toInt32).toInt8.toInt32) (q2 ^^^ q4) (q3 ^^^ q4) cs) = (1 : Int32)) (hc436_137 : ¬ ((fqe lib ((ib0.toInt8.toInt32).toInt8.toInt32) ((ib1.toInt8.toInt32).toInt8.toInt32) ljb ((jb0.toInt8.toInt32).toInt8.toInt32) ((jb1.toInt8.toInt32).toInt8.toInt32) (q2 ^^^ q4) (q3 ^^^ q4) lia ((ia0.toInt8.toInt32).toInt8.toInt32) ((ia1.toInt8.toInt32).toInt8.toInt32) lja ((ja0.toInt8.toInt32).toInt8.toInt32) ((ja1.toInt8.toInt32).toInt8.toInt32) q2 q3 cs) = (1 : Int32))) : False := by
  apply hc436_137
  simp only [fqe, own_fse hl_lia hl_lib hr_ia0 hr_ia1 hr_ib0 hr_ib1, own_fse hl_lja hl_ljb hr_ja0 hr_ja1 hr_jb0 hr_jb1, own_fse hl_lib hl_lia hr_ib0 hr_ib1 hr_ia0 hr_ia1, own_fse hl_ljb hl_lja hr_jb0 hr_jb1 hr_ja0 hr_ja1, own_sym hl_lia hl_lib, own_sym hl_lja hl_ljb, own_x1, own_x2]
  simp_all
theorem sg125_dead5 (p0 p1 : Int32) (q2 q3 q4 : Int64) (p5 lia lib lja ljb ia0 ia1 ib0 ib1 ja0 ja1 jb0 jb1 cs : Int32) (hcs : ¬ (cs = (0 : Int32))) (hl_lia : lia = 0 ∨ lia = 1 ∨ lia = 2) (hl_lib : lib = 0 ∨ lib = 1 ∨ lib = 2) (hl_lja : lja = 0 ∨ lja = 1 ∨ lja = 2) (hl_ljb : ljb = 0 ∨ ljb = 1 ∨ ljb = 2) (hr_ia0 : 0 ≤ ia0.toInt ∧ ia0.toInt < 256) (hr_ia1 : 0 ≤ ia1.toInt ∧ ia1.toInt < 256) (hr_ib0 : 0 ≤ ib0.toInt ∧ ib0.toInt < 256) (hr_ib1 : 0 ≤ ib1.toInt ∧ ib1.toInt < 256) (hr_ja0 : 0 ≤ ja0.toInt ∧ ja0.toInt < 256) (hr_ja1 : 0 ≤ ja1.toInt ∧ ja1.toInt < 256) (hr_jb0 : 0 ≤ jb0.toInt ∧ jb0.toInt < 256) (hr_jb1 : 0 ≤ jb1.toInt ∧ jb1.toInt < 256) (hc173_15 : (p5 &&& (1 : Int32)) = (0 : Int32)) (hc187_16 : (p5 &&& (2 : Int32)) = (0 : Int32)) (hc274_32 : ¬ ((((p5.toUInt32 >>> ((2 : Int32) &&& 31).toUInt32).toInt32) &&& (7 : Int32)) = (5 : Int32))) (hc296_36 : ¬ ((((p5.toUInt32 >>> ((2 : Int32) &&& 31).toUInt32).toInt32) &&& (7 : Int32)) = (6 : Int32))) (hc319_41 : ¬ ((((p5.toUInt32 >>> ((2 : Int32) &&& 31).toUInt32).toInt32) &&& (7 : Int32)) = (7 : Int32))) (hc363_56 : ¬ ((fss lia ia0 ia1 lib ib0 ib1) = (0 : Int32))) (hc381_84 : ¬ ((fss lja ja0 ja1 ljb jb0 jb1) = (0 : Int32))) (hc393_111 : q4 = (0 : Int64)) (hc424_135 : ¬ ((fqe lia ((ia0.toInt8.toInt32).toInt8.toInt32) ((ia1.toInt8.toInt32).toInt8.toInt32) lja ((ja0.toInt8.toInt32).toInt8.toInt32) ((ja1.toInt8.toInt32).toInt8.toInt32) q2 q3 lib ((ib0.toInt8.toInt32).toInt8.toInt32) ((ib1.toInt8.toInt32).toInt8.toInt32) ljb ((jb0.toInt8.toInt32).toInt8.toInt32) ((jb1.toInt8.toInt32).toInt8.toInt32) (q2 ^^^ q4) (q3 ^^^ q4) cs) = (1 : Int32))) : False := by
  apply hc424_135
  simp only [fqe, own_fse hl_lia hl_lib hr_ia0 hr_ia1 hr_ib0 hr_ib1, own_fse hl_lja hl_ljb hr_ja0 hr_ja1 hr_jb0 hr_jb1, own_fse hl_lib hl_lia hr_ib0 hr_ib1 hr_ia0 hr_ia1, own_fse hl_ljb hl_lja hr_jb0 hr_jb1 hr_ja0 hr_ja1, own_sym hl_lia hl_lib, own_sym hl_lja hl_ljb, own_x1, own_x2]
  simp_all
theorem sg125_dead6 (p0 p1 : Int32) (q2 q3 q4 : Int64) (p5 lia lib lja ljb ia0 ia1 ib0 ib1 ja0 ja1 jb0 jb1 cs : Int32) (hcs : ¬ (cs = (0 : Int32))) (hl_lia : lia = 0 ∨ lia = 1 ∨ lia = 2) (hl_lib : lib = 0 ∨ lib = 1 ∨ lib = 2) (hl_lja : lja = 0 ∨ lja = 1 ∨ lja = 2) (hl_ljb : ljb = 0 ∨ ljb = 1 ∨ ljb = 2) (hr_ia0 : 0 ≤ ia0.toInt ∧ ia0.toInt < 256) (hr_ia1 : 0 ≤ ia1.toInt ∧ ia1.toInt < 256) (hr_ib0 : 0 ≤ ib0.toInt ∧ ib0.toInt < 256) (hr_ib1 : 0 ≤ ib1.toInt ∧ ib1.toInt < 256) (hr_ja0 : 0 ≤ ja0.toInt ∧ ja0.toInt < 256) (hr_ja1 : 0 ≤ ja1.toInt ∧ ja1.toInt < 256) (hr_jb0 : 0 ≤ jb0.toInt ∧ jb0.toInt < 256) (hr_jb1 : 0 ≤ jb1.toInt ∧ jb1.toInt < 256) (hc173_15 : (p5 &&& (1 : Int32)) = (0 : Int32)) (hc187_16 : (p5 &&& (2 : Int32)) = (0 : Int32)) (hc274_32 : ¬ ((((p5.toUInt32 >>> ((2 : Int32) &&& 31).toUInt32).toInt32) &&& (7 : Int32)) = (5 : Int32))) (hc296_36 : ¬ ((((p5.toUInt32 >>> ((2 : Int32) &&& 31).toUInt32).toInt32) &&& (7 : Int32)) = (6 : Int32))) (hc319_41 : ¬ ((((p5.toUInt32 >>> ((2 : Int32) &&& 31).toUInt32).toInt32) &&& (7 : Int32)) = (7 : Int32))) (hc363_56 : ¬ ((fss lia ia0 ia1 lib ib0 ib1) = (0 : Int32))) (hc381_84 : ¬ ((fss lja ja0 ja1 ljb jb0 jb1) = (0 : Int32))) (hc393_111 : ¬ (q4 = (0 : Int64))) (hc424_161 : (fqe lia ((ia0.toInt8.toInt32).toInt8.toInt32) ((ia1.toInt8.toInt32).toInt8.toInt32) lja ((ja0.toInt8.toInt32).toInt8.toInt32) ((ja1.toInt8.toInt32).toInt8.toInt32) q2 q3 lib ((ib0.toInt8.toInt32).toInt8.toInt32) ((ib1.toInt8.toInt32).toInt8.toInt32) ljb ((jb0.toInt8.toInt32).toInt8.toInt32) ((jb1.toInt8.toInt32).toInt8.toInt32) (q2 ^^^ q4) (q3 ^^^ q4) cs) = (0 : Int32)) (hc436_163 : ¬ ((fqe lib ((ib0.toInt8.toInt32).toInt8.toInt32) ((ib1.toInt8.toInt32).toInt8.toInt32) ljb ((jb0.toInt8.toInt32).toInt8.toInt32) ((jb1.toInt8.toInt32).toInt8.toInt32) (q2 ^^^ q4) (q3 ^^^ q4) lia ((ia0.toInt8.toInt32).toInt8.toInt32) ((ia1.toInt8.toInt32).toInt8.toInt32) lja ((ja0.toInt8.toInt32).toInt8.toInt32) ((ja1.toInt8.toInt32).toInt8.toInt32) q2 q3 cs) = (0 : Int32))) : False := by
  apply hc436_163
  simp only [fqe, own_fse hl_lia hl_lib hr_ia0 hr_ia1 hr_ib0 hr_ib1, own_fse hl_lja hl_ljb hr_ja0 hr_ja1 hr_jb0 hr_jb1, own_fse hl_lib hl_lia hr_ib0 hr_ib1 hr_ia0 hr_ia1, own_fse hl_ljb hl_lja hr_jb0 hr_jb1 hr_ja0 hr_ja1, own_sym hl_lia hl_lib, own_sym hl_lja hl_ljb, own_x1, own_x2]
  simp_all
theorem sg125_dead7 (p0 p1 : Int32) (q2 q3 q4 : Int64) (p5 lia lib lja ljb ia0 ia1 ib0 ib1 ja0 ja1 jb0 jb1 cs : Int32) (hcs : ¬ (cs = (0 : Int32))) (hl_lia : lia = 0 ∨ lia = 1 ∨ lia = 2) (hl_lib : lib = 0 ∨ lib = 1 ∨ lib = 2) (hl_lja : lja = 0 ∨ lja = 1 ∨ lja = 2) (hl_ljb : ljb = 0 ∨ ljb = 1 ∨ ljb = 2) (hr_ia0 : 0 ≤ ia0.toInt ∧ ia0.toInt < 256) (hr_ia1 : 0 ≤ ia1.toInt ∧ ia1.toInt < 256) (hr_ib0 : 0 ≤ ib0.toInt ∧ ib0.toInt < 256) (hr_ib1 : 0 ≤ ib1.toInt ∧ ib1.toInt < 256) (hr_ja0 : 0 ≤ ja0.toInt ∧ ja0.toInt < 256) (hr_ja1 : 0 ≤ ja1.toInt ∧ ja1.toInt < 256) (hr_jb0 : 0 ≤ jb0.toInt ∧ jb0.toInt < 256) (hr_jb1 : 0 ≤ jb1.toInt ∧ jb1.toInt < 256) (hc173_15 : (p5 &&& (1 : Int32)) = (0 : Int32)) (hc187_16 : (p5 &&& (2 : Int32)) = (0 : Int32)) (hc274_32 : ¬ ((((p5.toUInt32 >>> ((2 : Int32) &&& 31).toUInt32).toInt32) &&& (7 : Int32)) = (5 : Int32))) (hc296_36 : ¬ ((((p5.toUInt32 >>> ((2 : Int32) &&& 31).toUInt32).toInt32) &&& (7 : Int32)) = (6 : Int32))) (hc319_41 : ¬ ((((p5.toUInt32 >>> ((2 : Int32) &&& 31).toUInt32).toInt32) &&& (7 : Int32)) = (7 : Int32))) (hc363_56 : ¬ ((fss lia ia0 ia1 lib ib0 ib1) = (0 : Int32))) (hc381_84 : ¬ ((fss lja ja0 ja1 ljb jb0 jb1) = (0 : Int32))) (hc393_111 : ¬ (q4 = (0 : Int64))) (hc424_161 : ¬ ((fqe lia ((ia0.toInt8.toInt32).toInt8.toInt32) ((ia1.toInt8.toInt32).toInt8.toInt32) lja ((ja0.toInt8.toInt32).toInt8.toInt32) ((ja1.toInt8.toInt32).toInt8.toInt32) q2 q3 lib ((ib0.toInt8.toInt32).toInt8.toInt32) ((ib1.toInt8.toInt32).toInt8.toInt32) ljb ((jb0.toInt8.toInt32).toInt8.toInt32) ((jb1.toInt8.toInt32).toInt8.toInt32) (q2 ^^^ q4) (q3 ^^^ q4) cs) = (0 : Int32))) : False := by
  apply hc424_161
  simp only [fqe, own_fse hl_lia hl_lib hr_ia0 hr_ia1 hr_ib0 hr_ib1, own_fse hl_lja hl_ljb hr_ja0 hr_ja1 hr_jb0 hr_jb1, own_fse hl_lib hl_lia hr_ib0 hr_ib1 hr_ia0 hr_ia1, own_fse hl_ljb hl_lja hr_jb0 hr_jb1 hr_ja0 hr_ja1, own_sym hl_lia hl_lib, own_sym hl_lja hl_ljb, own_x1, own_x2]
  simp_all
theorem sg125_dead8 (p0 p1 : Int32) (q2 q3 q4 : Int64) (p5 lia lib lja ljb ia0 ia1 ib0 ib1 ja0 ja1 jb0 jb1 cs : Int32) (hcs : ¬ (cs = (0 : Int32))) (hl_lia : lia = 0 ∨ lia = 1 ∨ lia = 2) (hl_lib : lib = 0 ∨ lib = 1 ∨ lib = 2) (hl_lja : lja = 0 ∨ lja = 1 ∨ lja = 2) (hl_ljb : ljb = 0 ∨ ljb = 1 ∨ ljb = 2) (hr_ia0 : 0 ≤ ia0.toInt ∧ ia0.toInt < 256) (hr_ia1 : 0 ≤ ia1.toInt ∧ ia1.toInt < 256) (hr_ib0 : 0 ≤ ib0.toInt ∧ ib0.toInt < 256) (hr_ib1 : 0 ≤ ib1.toInt ∧ ib1.toInt < 256) (hr_ja0 : 0 ≤ ja0.toInt ∧ ja0.toInt < 256) (hr_ja1 : 0 ≤ ja1.toInt ∧ ja1.toInt < 256) (hr_jb0 : 0 ≤ jb0.toInt ∧ jb0.toInt < 256) (hr_jb1 : 0 ≤ jb1.toInt ∧ jb1.toInt < 256) (hc173_15 : (p5 &&& (1 : Int32)) = (0 : Int32)) (hc187_16 : ¬ ((p5 &&& (2 : Int32)) = (0 : Int32))) (hc274_179 : ¬ ((((p5.toUInt32 >>> ((2 : Int32) &&& 31).toUInt32).toInt32) &&& (7 : Int32)) = (5 : Int32))) (hc296_183 : ¬ ((((p5.toUInt32 >>> ((2 : Int32) &&& 31).toUInt32).toInt32) &&& (7 : Int32)) = (6 : Int32))) (hc319_188 : ¬ ((((p5.toUInt32 >>> ((2 : Int32) &&& 31).toUInt32).toInt32) &&& (7 : Int32)) = (7 : Int32))) (hc363_203 : (fss lia ia0 ia1 lib ib0 ib1) = (0 : Int32)) (hc424_227 : (fqe lia ((ia0.toInt8.toInt32).toInt8.toInt32) ((ia1.toInt8.toInt32).toInt8.toInt32) lja ((ja0.toInt8.toInt32).toInt8.toInt32) ((ja1.toInt8.toInt32).toInt8.toInt32) q2 q3 lib ((ib0.toInt8.toInt32).toInt8.toInt32) ((ib1.toInt8.toInt32).toInt8.toInt32) ljb ((jb0.toInt8.toInt32).toInt8.toInt32) ((jb1.toInt8.toInt32).toInt8.toInt32) (q2 ^^^ q4) q3 cs) = (0 : Int32)) (hc436_229 : ¬ ((fqe lib ((ib0.toInt8.toInt32).toInt8.toInt32) ((ib1.toInt8.toInt32).toInt8.toInt32) ljb ((jb0.toInt8.toInt32).toInt8.toInt32) ((jb1.toInt8.toInt32).toInt8.toInt32) (q2 ^^^ q4) q3 lia ((ia0.toInt8.toInt32).toInt8.toInt32) ((ia1.toInt8.toInt32).toInt8.toInt32) lja ((ja0.toInt8.toInt32).toInt8.toInt32) ((ja1.toInt8.toInt32).toInt8.toInt32) q2 q3 cs) = (0 : Int32))) : False := by
  apply hc436_229
  simp only [fqe, own_fse hl_lia hl_lib hr_ia0 hr_ia1 hr_ib0 hr_ib1, own_fse hl_lja hl_ljb hr_ja0 hr_ja1 hr_jb0 hr_jb1, own_fse hl_lib hl_lia hr_ib0 hr_ib1 hr_ia0 hr_ia1, own_fse hl_ljb hl_lja hr_jb0 hr_jb1 hr_ja0 hr_ja1, own_sym hl_lia hl_lib, own_sym hl_lja hl_ljb, own_x1, own_x2]
  simp_all
theorem sg125_dead9 (p0 p1 : Int32) (q2 q3 q4 : Int64) (p5 lia lib lja ljb ia0 ia1 ib0 ib1 ja0 ja1 jb0 jb1 cs : Int32) (hcs : ¬ (cs = (0 : Int32))) (hl_lia : lia = 0 ∨ lia = 1 ∨ lia = 2) (hl_lib : lib = 0 ∨ lib = 1 ∨ lib = 2) (hl_lja : lja = 0 ∨ lja = 1 ∨ lja = 2) (hl_ljb : ljb = 0 ∨ ljb = 1 ∨ ljb = 2) (hr_ia0 : 0 ≤ ia0.toInt ∧ ia0.toInt < 256) (hr_ia1 : 0 ≤ ia1.toInt ∧ ia1.toInt < 256) (hr_ib0 : 0 ≤ ib0.toInt ∧ ib0.toInt < 256) (hr_ib1 : 0 ≤ ib1.toInt ∧ ib1.toInt < 256) (hr_ja0 : 0 ≤ ja0.toInt ∧ ja0.toInt < 256) (hr_ja1 : 0 ≤ ja1.toInt ∧ ja1.toInt < 256) (hr_jb0 : 0 ≤ jb0.toInt ∧ jb0.toInt < 256) (hr_jb1 : 0 ≤ jb1.toInt ∧ jb1.toInt < 256) (hc173_15 : (p5 &&& (1 : Int32)) = (0 : Int32)) (hc187_16 : ¬ ((p5 &&& (2 : Int32)) = (0 : Int32))) (hc274_179 : ¬ ((((p5.toUInt32 >>> ((2 : Int32) &&& 31).toUInt32).toInt32) &&& (7 : Int32)) = (5 : Int32))) (hc296_183 : ¬ ((((p5.toUInt32 >>> ((2 : Int32) &&& 31).toUInt32).toInt32) &&& (7 : Int32)) = (6 : Int32))) (hc319_188 : ¬ ((((p5.toUInt32 >>> ((2 : Int32) &&& 31).toUInt32).toInt32) &&& (7 : Int32)) = (7 : Int32))) (hc363_203 : (fss lia ia0 ia1 lib ib0 ib1) = (0 : Int32)) (hc424_227 : ¬ ((fqe lia ((ia0.toInt8.toInt32).toInt8.toInt32) ((ia1.toInt8.toInt32).toInt8.toInt32) lja ((ja0.toInt8.toInt32).toInt8.toInt32) ((ja1.toInt8.toInt32).toInt8.toInt32) q2 q3 lib ((ib0.toInt8.toInt32).toInt8.toInt32) ((ib1.toInt8.toInt32).toInt8.toInt32) ljb ((jb0.toInt8.toInt32).toInt8.toInt32) ((jb1.toInt8.toInt32).toInt8.toInt32) (q2 ^^^ q4) q3 cs) = (0 : Int32))) : False := by
  apply hc424_227
  simp only [fqe, own_fse hl_lia hl_lib hr_ia0 hr_ia1 hr_ib0 hr_ib1, own_fse hl_lja hl_ljb hr_ja0 hr_ja1 hr_jb0 hr_jb1, own_fse hl_lib hl_lia hr_ib0 hr_ib1 hr_ia0 hr_ia1, own_fse hl_ljb hl_lja hr_jb0 hr_jb1 hr_ja0 hr_ja1, own_sym hl_lia hl_lib, own_sym hl_lja hl_ljb, own_x1, own_x2]
  simp_all
theorem sg125_dead10 (p0 p1 : Int32) (q2 q3 q4 : Int64) (p5 lia lib lja ljb ia0 ia1 ib0 ib1 ja0 ja1 jb0 jb1 cs : Int32) (hcs : ¬ (cs = (0 : Int32))) (hl_lia : lia = 0 ∨ lia = 1 ∨ lia = 2) (hl_lib : lib = 0 ∨ lib = 1 ∨ lib = 2) (hl_lja : lja = 0 ∨ lja = 1 ∨ lja = 2) (hl_ljb : ljb = 0 ∨ ljb = 1 ∨ ljb = 2) (hr_ia0 : 0 ≤ ia0.toInt ∧ ia0.toInt < 256) (hr_ia1 : 0 ≤ ia1.toInt ∧ ia1.toInt < 256) (hr_ib0 : 0 ≤ ib0.toInt ∧ ib0.toInt < 256) (hr_ib1 : 0 ≤ ib1.toInt ∧ ib1.toInt < 256) (hr_ja0 : 0 ≤ ja0.toInt ∧ ja0.toInt < 256) (hr_ja1 : 0 ≤ ja1.toInt ∧ ja1.toInt < 256) (hr_jb0 : 0 ≤ jb0.toInt ∧ jb0.toInt < 256) (hr_jb1 : 0 ≤ jb1.toInt ∧ jb1.toInt < 256) (hc173_15 : (p5 &&& (1 : Int32)) = (0 : Int32)) (hc187_16 : ¬ ((p5 &&& (2 : Int32)) = (0 : Int32))) (hc274_179 : ¬ ((((p5.toUInt32 >>> ((2 : Int32) &&& 31).toUInt32).toInt32) &&& (7 : Int32)) = (5 : Int32))) (hc296_183 : ¬ ((((p5.toUInt32 >>> ((2 : Int32) &&& 31).toUInt32).toInt32) &&& (7 : Int32)) = (6 : Int32))) (hc319_188 : ¬ ((((p5.toUInt32 >>> ((2 : Int32) &&& 31).toUInt32).toInt32) &&& (7 : Int32)) = (7 : Int32))) (hc363_203 : ¬ ((fss lia ia0 ia1 lib ib0 ib1) = (0 : Int32))) (hc381_231 : (fss lja ja0 ja1 ljb jb0 jb1) = (0 : Int32)) (hc424_255 : (fqe lia ((ia0.toInt8.toInt32).toInt8.toInt32) ((ia1.toInt8.toInt32).toInt8.toInt32) lja ((ja0.toInt8.toInt32).toInt8.toInt32) ((ja1.toInt8.toInt32).toInt8.toInt32) q2 q3 lib ((ib0.toInt8.toInt32).toInt8.toInt32) ((ib1.toInt8.toInt32).toInt8.toInt32) ljb ((jb0.toInt8.toInt32).toInt8.toInt32) ((jb1.toInt8.toInt32).toInt8.toInt32) (q2 ^^^ q4) q3 cs) = (0 : Int32)) (hc436_257 : ¬ ((fqe lib ((ib0.toInt8.toInt32).toInt8.toInt32) ((ib1.toInt8.toInt32).toInt8.toInt32) ljb ((jb0.toInt8.toInt32).toInt8.toInt32) ((jb1.toInt8.toInt32).toInt8.toInt32) (q2 ^^^ q4) q3 lia ((ia0.toInt8.toInt32).toInt8.toInt32) ((ia1.toInt8.toInt32).toInt8.toInt32) lja ((ja0.toInt8.toInt32).toInt8.toInt32) ((ja1.toInt8.toInt32).toInt8.toInt32) q2 q3 cs) = (0 : Int32))) : False := by
  apply hc436_257
  simp only [fqe, own_fse hl_lia hl_lib hr_ia0 hr_ia1 hr_ib0 hr_ib1, own_fse hl_lja hl_ljb hr_ja0 hr_ja1 hr_jb0 hr_jb1, own_fse hl_lib hl_lia hr_ib0 hr_ib1 hr_ia0 hr_ia1, own_fse hl_ljb hl_lja hr_jb0 hr_jb1 hr_ja0 hr_ja1, own_sym hl_lia hl_lib, own_sym hl_lja hl_ljb, own_x1, own_x2]
  simp_all
theorem sg125_dead11 (p0 p1 : Int32) (q2 q3 q4 : Int64) (p5 lia lib lja ljb ia0 ia1 ib0 ib1 ja0 ja1 jb0 jb1 cs : Int32) (hcs : ¬ (cs = (0 : Int32))) (hl_lia : lia = 0 ∨ lia = 1 ∨ lia = 2) (hl_lib : lib = 0 ∨ lib = 1 ∨ lib = 2) (hl_lja : lja = 0 ∨ lja = 1 ∨ lja = 2) (hl_ljb : ljb = 0 ∨ ljb = 1 ∨ ljb = 2) (hr_ia0 : 0 ≤ ia0.toInt ∧ ia0.toInt < 256) (hr_ia1 : 0 ≤ ia1.toInt ∧ ia1.toInt < 256) (hr_ib0 : 0 ≤ ib0.toInt ∧ ib0.toInt < 256) (hr_ib1 : 0 ≤ ib1.toInt ∧ ib1.toInt < 256) (hr_ja0 : 0 ≤ ja0.toInt ∧ ja0.toInt < 256) (hr_ja1 : 0 ≤ ja1.toInt ∧ ja1.toInt < 256) (hr_jb0 : 0 ≤ jb0.toInt ∧ jb0.toInt < 256) (hr_jb1 : 0 ≤ jb1.toInt ∧ jb1.toInt < 256) (hc173_15 : (p5 &&& (1 : Int32)) = (0 : Int32)) (hc187_16 : ¬ ((p5 &&& (2 : Int32)) = (0 : Int32))) (hc274_179 : ¬ ((((p5.toUInt32 >>> ((2 : Int32) &&& 31).toUInt32).toInt32) &&& (7 : Int32)) = (5 : Int32))) (hc296_183 : ¬ ((((p5.toUInt32 >>> ((2 : Int32) &&& 31).toUInt32).toInt32) &&& (7 : Int32)) = (6 : Int32))) (hc319_188 : ¬ ((((p5.toUInt32 >>> ((2 : Int32) &&& 31).toUInt32).toInt32) &&& (7 : Int32)) = (7 : Int32))) (hc363_203 : ¬ ((fss lia ia0 ia1 lib ib0 ib1) = (0 : Int32))) (hc381_231 : (fss lja ja0 ja1 ljb jb0 jb1) = (0 : Int32)) (hc424_255 : ¬ ((fqe lia ((ia0.toInt8.toInt32).toInt8.toInt32) ((ia1.toInt8.toInt32).toInt8.toInt32) lja ((ja0.toInt8.toInt32).toInt8.toInt32) ((ja1.toInt8.toInt32).toInt8.toInt32) q2 q3 lib ((ib0.toInt8.toInt32).toInt8.toInt32) ((ib1.toInt8.toInt32).toInt8.toInt32) ljb ((jb0.toInt8.toInt32).toInt8.toInt32) ((jb1.toInt8.toInt32).toInt8.toInt32) (q2 ^^^ q4) q3 cs) = (0 : Int32))) : False := by
  apply hc424_255
  simp only [fqe, own_fse hl_lia hl_lib hr_ia0 hr_ia1 hr_ib0 hr_ib1, own_fse hl_lja hl_ljb hr_ja0 hr_ja1 hr_jb0 hr_jb1, own_fse hl_lib hl_lia hr_ib0 hr_ib1 hr_ia0 hr_ia1, own_fse hl_ljb hl_lja hr_jb0 hr_jb1 hr_ja0 hr_ja1, own_sym hl_lia hl_lib, own_sym hl_lja hl_ljb, own_x1, own_x2]
  simp_all
theorem sg125_dead12 (p0 p1 : Int32) (q2 q3 q4 : Int64) (p5 lia lib lja ljb ia0 ia1 ib0 ib1 ja0 ja1 jb0 jb1 cs : Int32) (hcs : ¬ (cs = (0 : Int32))) (hl_lia : lia = 0 ∨ lia = 1 ∨ lia = 2) (hl_lib : lib = 0 ∨ lib = 1 ∨ lib = 2) (hl_lja : lja = 0 ∨ lja = 1 ∨ lja = 2) (hl_ljb : ljb = 0 ∨ ljb = 1 ∨ ljb = 2) (hr_ia0 : 0 ≤ ia0.toInt ∧ ia0.toInt < 256) (hr_ia1 : 0 ≤ ia1.toInt ∧ ia1.toInt < 256) (hr_ib0 : 0 ≤ ib0.toInt ∧ ib0.toInt < 256) (hr_ib1 : 0 ≤ ib1.toInt ∧ ib1.toInt < 256) (hr_ja0 : 0 ≤ ja0.toInt ∧ ja0.toInt < 256) (hr_ja1 : 0 ≤ ja1.toInt ∧ ja1.toInt < 256) (hr_jb0 : 0 ≤ jb0.toInt ∧ jb0.toInt < 256) (hr_jb1 : 0 ≤ jb1.toInt ∧ jb1.toInt < 256) (hc173_15 : (p5 &&& (1 : Int32)) = (0 : Int32)) (hc187_16 : ¬ ((p5 &&& (2 : Int32)) = (0 : Int32))) (hc274_179 : ¬ ((((p5.toUInt32 >>> ((2 : Int32) &&& 31).toUInt32).toInt32) &&& (7 : Int32)) = (5 : Int32))) (hc296_183 : ¬ ((((p5.toUInt32 >>> ((2 : Int32) &&& 31).toUInt32).toInt32) &&& (7 : Int32)) = (6 : Int32))) (hc319_188 : ¬ ((((p5.toUInt32 >>> ((2 : Int32) &&& 31).toUInt32).toInt32) &&& (7 : Int32)) = (7 : Int32))) (hc363_203 : ¬ ((fss lia ia0 ia1 lib ib0 ib1) = (0 : Int32))) (hc381_231 : ¬ ((fss lja ja0 ja1 ljb jb0 jb1) = (0 : Int32))) (hc393_258 : q4 = (0 : Int64)) (hc424_282 : (fqe lia ((ia0.toInt8.toInt32).toInt8.toInt32) ((ia1.toInt8.toInt32).toInt8.toInt32) lja ((ja0.toInt8.toInt32).toInt8.toInt32) ((ja1.toInt8.toInt32).toInt8.toInt32) q2 q3 lib ((ib0.toInt8.toInt32).toInt8.toInt32) ((ib1.toInt8.toInt32).toInt8.toInt32) ljb ((jb0.toInt8.toInt32).toInt8.toInt32) ((jb1.toInt8.toInt32).toInt8.toInt32) (q2 ^^^ q4) q3 cs) = (1 : Int32)) (hc436_284 : ¬ ((fqe lib ((ib0.toInt8.toInt32).toInt8.toInt32) ((ib1.toInt8.toInt32).toInt8.toInt32) ljb ((jb0.toInt8.toInt32).toInt8.toInt32) ((jb1.toInt8.toInt32).toInt8.toInt32) (q2 ^^^ q4) q3 lia ((ia0.toInt8.toInt32).toInt8.toInt32) ((ia1.toInt8.toInt32).toInt8.toInt32) lja ((ja0.toInt8.toInt32).toInt8.toInt32) ((ja1.toInt8.toInt32).toInt8.toInt32) q2 q3 cs) = (1 : Int32))) : False := by
  apply hc436_284
  simp only [fqe, own_fse hl_lia hl_lib hr_ia0 hr_ia1 hr_ib0 hr_ib1, own_fse hl_lja hl_ljb hr_ja0 hr_ja1 hr_jb0 hr_jb1, own_fse hl_lib hl_lia hr_ib0 hr_ib1 hr_ia0 hr_ia1, own_fse hl_ljb hl_lja hr_jb0 hr_jb1 hr_ja0 hr_ja1, own_sym hl_lia hl_lib, own_sym hl_lja hl_ljb, own_x1, own_x2]
  simp_all
theorem sg125_dead13 (p0 p1 : Int32) (q2 q3 q4 : Int64) (p5 lia lib lja ljb ia0 ia1 ib0 ib1 ja0 ja1 jb0 jb1 cs : Int32) (hcs : ¬ (cs = (0 : Int32))) (hl_lia : lia = 0 ∨ lia = 1 ∨ lia = 2) (hl_lib : lib = 0 ∨ lib = 1 ∨ lib = 2) (hl_lja : lja = 0 ∨ lja = 1 ∨ lja = 2) (hl_ljb : ljb = 0 ∨ ljb = 1 ∨ ljb = 2) (hr_ia0 : 0 ≤ ia0.toInt ∧ ia0.toInt < 256) (hr_ia1 : 0 ≤ ia1.toInt ∧ ia1.toInt < 256) (hr_ib0 : 0 ≤ ib0.toInt ∧ ib0.toInt < 256) (hr_ib1 : 0 ≤ ib1.toInt ∧ ib1.toInt < 256) (hr_ja0 : 0 ≤ ja0.toInt ∧ ja0.toInt < 256) (hr_ja1 : 0 ≤ ja1.toInt ∧ ja1.toInt < 256) (hr_jb0 : 0 ≤ jb0.toInt ∧ jb0.toInt < 256) (hr_jb1 : 0 ≤ jb1.toInt ∧ jb1.toInt < 256) (hc173_15 : (p5 &&& (1 : Int32)) = (0 : Int32)) (hc187_16 : ¬ ((p5 &&& (2 : Int32)) = (0 : Int32))) (hc274_179 : ¬ ((((p5.toUInt32 >>> ((2 : Int32) &&& 31).toUInt32).toInt32) &&& (7 : Int32)) = (5 : Int32))) (hc296_183 : ¬ ((((p5.toUInt32 >>> ((2 : Int32) &&& 31).toUInt32).toInt32) &&& (7 : Int32)) = (6 : Int32))) (hc319_188 : ¬ ((((p5.toUInt32 >>> ((2 : Int32) &&& 31).toUInt32).toInt32) &&& (7 : Int32)) = (7 : Int32))) (hc363_203 : ¬ ((fss lia ia0 ia1 lib ib0 ib1) = (0 : Int32))) (hc381_231 : ¬ ((fss lja ja0 ja1 ljb jb0 jb1) = (0 : Int32))) (hc393_258 : q4 = (0 : Int64)) (hc424_282 : ¬ ((fqe lia ((ia0.toInt8.toInt32).toInt8.toInt32) ((ia1.toInt8.toInt32).toInt8.toInt32) lja ((ja0.toInt8.toInt32).toInt8.toInt32) ((ja1.toInt8.toInt32).toInt8.toInt32) q2 q3 lib ((ib0.toInt8.toInt32).toInt8.toInt32) ((ib1.toInt8.toInt32).toInt8.toInt32) ljb ((jb0.toInt8.toInt32).toInt8.toInt32) ((jb1.toInt8.toInt32).toInt8.toInt32) (q2 ^^^ q4) q3 cs) = (1 : Int32))) : False := by
  apply hc424_282
  simp only [fqe, own_fse hl_lia hl_lib hr_ia0 hr_ia1 hr_ib0 hr_ib1, own_fse hl_lja hl_ljb hr_ja0 hr_ja1 hr_jb0 hr_jb1, own_fse hl_lib hl_lia hr_ib0 hr_ib1 hr_ia0 hr_ia1, own_fse hl_ljb hl_lja hr_jb0 hr_jb1 hr_ja0 hr_ja1, own_sym hl_lia hl_lib, own_sym hl_lja hl_ljb, own_x1, own_x2]
  simp_all
theorem sg125_dead14 (p0 p1 : Int32) (q2 q3 q4 : Int64) (p5 lia lib lja ljb ia0 ia1 ib0 ib1 ja0 ja1 jb0 jb1 cs : Int32) (hcs : ¬ (cs = (0 : Int32))) (hl_lia : lia = 0 ∨ lia = 1 ∨ lia = 2) (hl_lib : lib = 0 ∨ lib = 1 ∨ lib = 2) (hl_lja : lja = 0 ∨ lja = 1 ∨ lja = 2) (hl_ljb : ljb = 0 ∨ ljb = 1 ∨ ljb = 2) (hr_ia0 : 0 ≤ ia0.toInt ∧ ia0.toInt < 256) (hr_ia1 : 0 ≤ ia1.toInt ∧ ia1.toInt < 256) (hr_ib0 : 0 ≤ ib0.toInt ∧ ib0.toInt < 256) (hr_ib1 : 0 ≤ ib1.toInt ∧ ib1.toInt < 256) (hr_ja0 : 0 ≤ ja0.toInt ∧ ja0.toInt < 256) (hr_ja1 : 0 ≤ ja1.toInt ∧ ja1.toInt < 256) (hr_jb0 : 0 ≤ jb0.toInt ∧ jb0.toInt < 256) (hr_jb1 : 0 ≤ jb1.toInt ∧ jb1.toInt < 256) (hc173_15 : (p5 &&& (1 : Int32)) = (0 : Int32)) (hc187_16 : ¬ ((p5 &&& (2 : Int32)) = (0 : Int32))) (hc274_179 : ¬ ((((p5.toUInt32 >>> ((2 : Int32) &&& 31).toUInt32).toInt32) &&& (7 : Int32)) = (5 : Int32))) (hc296_183 : ¬ ((((p5.toUInt32 >>> ((2 : Int32) &&& 31).toUInt32).toInt32) &&& (7 : Int32)) = (6 : Int32))) (hc319_188 : ¬ ((((p5.toUInt32 >>> ((2 : Int32) &&& 31).toUInt32).toInt32) &&& (7 : Int32)) = (7 : Int32))) (hc363_203 : ¬ ((fss lia ia0 ia1 lib ib0 ib1) = (0 : Int32))) (hc381_231 : ¬ ((fss lja ja0 ja1 ljb jb0 jb1) = (0 : Int32))) (hc393_258 : ¬ (q4 = (0 : Int64))) (hc424_308 : (fqe lia ((ia0.toInt8.toInt32).toInt8.toInt32) ((ia1.toInt8.toInt32).toInt8.toInt32) lja ((ja0.toInt8.toInt32).toInt8.toInt32) ((ja1.toInt8.toInt32).toInt8.toInt32) q2 q3 lib ((ib0.toInt8.toInt32).toInt8.toInt32) ((ib1.toInt8.toInt32).toInt8.toInt32) ljb ((jb0.toInt8.toInt32).toInt8.toInt32) ((jb1.toInt8.toInt32).toInt8.toInt32) (q2 ^^^ q4) q3 cs) = (0 : Int32)) (hc436_310 : ¬ ((fqe lib ((ib0.toInt8.toInt32).toInt8.toInt32) ((ib1.toInt8.toInt32).toInt8.toInt32) ljb ((jb0.toInt8.toInt32).toInt8.toInt32) ((jb1.toInt8.toInt32).toInt8.toInt32) (q2 ^^^ q4) q3 lia ((ia0.toInt8.toInt32).toInt8.toInt32) ((ia1.toInt8.toInt32).toInt8.toInt32) lja ((ja0.toInt8.toInt32).toInt8.toInt32) ((ja1.toInt8.toInt32).toInt8.toInt32) q2 q3 cs) = (0 : Int32))) : False := by
  apply hc436_310
  simp only [fqe, own_fse hl_lia hl_lib hr_ia0 hr_ia1 hr_ib0 hr_ib1, own_fse hl_lja hl_ljb hr_ja0 hr_ja1 hr_jb0 hr_jb1, own_fse hl_lib hl_lia hr_ib0 hr_ib1 hr_ia0 hr_ia1, own_fse hl_ljb hl_lja hr_jb0 hr_jb1 hr_ja0 hr_ja1, own_sym hl_lia hl_lib, own_sym hl_lja hl_ljb, own_x1, own_x2]
  simp_all
theorem sg125_dead15 (p0 p1 : Int32) (q2 q3 q4 : Int64) (p5 lia lib lja ljb ia0 ia1 ib0 ib1 ja0 ja1 jb0 jb1 cs : Int32) (hcs : ¬ (cs = (0 : Int32))) (hl_lia : lia = 0 ∨ lia = 1 ∨ lia = 2) (hl_lib : lib = 0 ∨ lib = 1 ∨ lib = 2) (hl_lja : lja = 0 ∨ lja = 1 ∨ lja = 2) (hl_ljb : ljb = 0 ∨ ljb = 1 ∨ ljb = 2) (hr_ia0 : 0 ≤ ia0.toInt ∧ ia0.toInt < 256) (hr_ia1 : 0 ≤ ia1.toInt ∧ ia1.toInt < 256) (hr_ib0 : 0 ≤ ib0.toInt ∧ ib0.toInt < 256) (hr_ib1 : 0 ≤ ib1.toInt ∧ ib1.toInt < 256) (hr_ja0 : 0 ≤ ja0.toInt ∧ ja0.toInt < 256) (hr_ja1 : 0 ≤ ja1.toInt ∧ ja1.toInt < 256) (hr_jb0 : 0 ≤ jb0.toInt ∧ jb0.toInt < 256) (hr_jb1 : 0 ≤ jb1.toInt ∧ jb1.toInt < 256) (hc173_15 : (p5 &&& (1 : Int32)) = (0 : Int32)) (hc187_16 : ¬ ((p5 &&& (2 : Int32)) = (0 : Int32))) (hc274_179 : ¬ ((((p5.toUInt32 >>> ((2 : Int32) &&& 31).toUInt32).toInt32) &&& (7 : Int32)) = (5 : Int32))) (hc296_183 : ¬ ((((p5.toUInt32 >>> ((2 : Int32) &&& 31).toUInt32).toInt32) &&& (7 : Int32)) = (6 : Int32))) (hc319_188 : ¬ ((((p5.toUInt32 >>> ((2 : Int32) &&& 31).toUInt32).toInt32) &&& (7 : Int32)) = (7 : Int32))) (hc363_203 : ¬ ((fss lia ia0 ia1 lib ib0 ib1) = (0 : Int32))) (hc381_231 : ¬ ((fss lja ja0 ja1 ljb jb0 jb1) = (0 : Int32))) (hc393_258 : ¬ (q4 = (0 : Int64))) (hc424_308 : ¬ ((fqe lia ((ia0.toInt8.toInt32).toInt8.toInt32) ((ia1.toInt8.toInt32).toInt8.toInt32) lja ((ja0.toInt8.toInt32).toInt8.toInt32) ((ja1.toInt8.toInt32).toInt8.toInt32) q2 q3 lib ((ib0.toInt8.toInt32).toInt8.toInt32) ((ib1.toInt8.toInt32).toInt8.toInt32) ljb ((jb0.toInt8.toInt32).toInt8.toInt32) ((jb1.toInt8.toInt32).toInt8.toInt32) (q2 ^^^ q4) q3 cs) = (0 : Int32))) : False := by
  apply hc424_308
  simp only [fqe, own_fse hl_lia hl_lib hr_ia0 hr_ia1 hr_ib0 hr_ib1, own_fse hl_lja hl_ljb hr_ja0 hr_ja1 hr_jb0 hr_jb1, own_fse hl_lib hl_lia hr_ib0 hr_ib1 hr_ia0 hr_ia1, own_fse hl_ljb hl_lja hr_jb0 hr_jb1 hr_ja0 hr_ja1, own_sym hl_lia hl_lib, own_sym hl_lja hl_ljb, own_x1, own_x2]
  simp_all
theorem sg125_dead16 (p0 p1 : Int32) (q2 q3 q4 : Int64) (p5 lia lib lja ljb ia0 ia1 ib0 ib1 ja0 ja1 jb0 jb1 cs : Int32) (hcs : ¬ (cs = (0 : Int32))) (hl_lia : lia = 0 ∨ lia = 1 ∨ lia = 2) (hl_lib : lib = 0 ∨ lib = 1 ∨ lib = 2) (hl_lja : lja = 0 ∨ lja = 1 ∨ lja = 2) (hl_ljb : ljb = 0 ∨ ljb = 1 ∨ ljb = 2) (hr_ia0 : 0 ≤ ia0.toInt ∧ ia0.toInt < 256) (hr_ia1 : 0 ≤ ia1.toInt ∧ ia1.toInt < 256) (hr_ib0 : 0 ≤ ib0.toInt ∧ ib0.toInt < 256) (hr_ib1 : 0 ≤ ib1.toInt ∧ ib1.toInt < 256) (hr_ja0 : 0 ≤ ja0.toInt ∧ ja0.toInt < 256) (hr_ja1 : 0 ≤ ja1.toInt ∧ ja1.toInt < 256) (hr_jb0 : 0 ≤ jb0.toInt ∧ jb0.toInt < 256) (hr_jb1 : 0 ≤ jb1.toInt ∧ jb1.toInt < 256) (hc173_15 : ¬ ((p5 &&& (1 : Int32)) = (0 : Int32))) (hc187_311 : (p5 &&& (2 : Int32)) = (0 : Int32)) (hc274_327 : ¬ ((((p5.toUInt32 >>> ((2 : Int32) &&& 31).toUInt32).toInt32) &&& (7 : Int32)) = (5 : Int32))) (hc296_331 : ¬ ((((p5.toUInt32 >>> ((2 : Int32) &&& 31).toUInt32).toInt32) &&& (7 : Int32)) = (6 : Int32))) (hc319_336 : ¬ ((((p5.toUInt32 >>> ((2 : Int32) &&& 31).toUInt32).toInt32) &&& (7 : Int32)) = (7 : Int32))) (hc363_351 : (fss lia ia0 ia1 lib ib0 ib1) = (0 : Int32)) (hc424_375 : (fqe lia ((ia0.toInt8.toInt32).toInt8.toInt32) ((ia1.toInt8.toInt32).toInt8.toInt32) lja ((ja0.toInt8.toInt32).toInt8.toInt32) ((ja1.toInt8.toInt32).toInt8.toInt32) q2 q3 lib ((ib0.toInt8.toInt32).toInt8.toInt32) ((ib1.toInt8.toInt32).toInt8.toInt32) ljb ((jb0.toInt8.toInt32).toInt8.toInt32) ((jb1.toInt8.toInt32).toInt8.toInt32) q2 (q3 ^^^ q4) cs) = (0 : Int32)) (hc436_377 : ¬ ((fqe lib ((ib0.toInt8.toInt32).toInt8.toInt32) ((ib1.toInt8.toInt32).toInt8.toInt32) ljb ((jb0.toInt8.toInt32).toInt8.toInt32) ((jb1.toInt8.toInt32).toInt8.toInt32) q2 (q3 ^^^ q4) lia ((ia0.toInt8.toInt32).toInt8.toInt32) ((ia1.toInt8.toInt32).toInt8.toInt32) lja ((ja0.toInt8.toInt32).toInt8.toInt32) ((ja1.toInt8.toInt32).toInt8.toInt32) q2 q3 cs) = (0 : Int32))) : False := by
  apply hc436_377
  simp only [fqe, own_fse hl_lia hl_lib hr_ia0 hr_ia1 hr_ib0 hr_ib1, own_fse hl_lja hl_ljb hr_ja0 hr_ja1 hr_jb0 hr_jb1, own_fse hl_lib hl_lia hr_ib0 hr_ib1 hr_ia0 hr_ia1, own_fse hl_ljb hl_lja hr_jb0 hr_jb1 hr_ja0 hr_ja1, own_sym hl_lia hl_lib, own_sym hl_lja hl_ljb, own_x1, own_x2]
  simp_all
theorem sg125_dead17 (p0 p1 : Int32) (q2 q3 q4 : Int64) (p5 lia lib lja ljb ia0 ia1 ib0 ib1 ja0 ja1 jb0 jb1 cs : Int32) (hcs : ¬ (cs = (0 : Int32))) (hl_lia : lia = 0 ∨ lia = 1 ∨ lia = 2) (hl_lib : lib = 0 ∨ lib = 1 ∨ lib = 2) (hl_lja : lja = 0 ∨ lja = 1 ∨ lja = 2) (hl_ljb : ljb = 0 ∨ ljb = 1 ∨ ljb = 2) (hr_ia0 : 0 ≤ ia0.toInt ∧ ia0.toInt < 256) (hr_ia1 : 0 ≤ ia1.toInt ∧ ia1.toInt < 256) (hr_ib0 : 0 ≤ ib0.toInt ∧ ib0.toInt < 256) (hr_ib1 : 0 ≤ ib1.toInt ∧ ib1.toInt < 256) (hr_ja0 : 0 ≤ ja0.toInt ∧ ja0.toInt < 256) (hr_ja1 : 0 ≤ ja1.toInt ∧ ja1.toInt < 256) (hr_jb0 : 0 ≤ jb0.toInt ∧ jb0.toInt < 256) (hr_jb1 : 0 ≤ jb1.toInt ∧ jb1.toInt < 256) (hc173_15 : ¬ ((p5 &&& (1 : Int32)) = (0 : Int32))) (hc187_311 : (p5 &&& (2 : Int32)) = (0 : Int32)) (hc274_327 : ¬ ((((p5.toUInt32 >>> ((2 : Int32) &&& 31).toUInt32).toInt32) &&& (7 : Int32)) = (5 : Int32))) (hc296_331 : ¬ ((((p5.toUInt32 >>> ((2 : Int32) &&& 31).toUInt32).toInt32) &&& (7 : Int32)) = (6 : Int32))) (hc319_336 : ¬ ((((p5.toUInt32 >>> ((2 : Int32) &&& 31).toUInt32).toInt32) &&& (7 : Int32)) = (7 : Int32))) (hc363_351 : (fss lia ia0 ia1 lib ib0 ib1) = (0 : Int32)) (hc424_375 : ¬ ((fqe lia ((ia0.toInt8.toInt32).toInt8.toInt32) ((ia1.toInt8.toInt32).toInt8.toInt32) lja ((ja0.toInt8.toInt32).toInt8.toInt32) ((ja1.toInt8.toInt32).toInt8.toInt32) q2 q3 lib ((ib0.toInt8.toInt32).toInt8.toInt32) ((ib1.toInt8.toInt32).toInt8.toInt32) ljb ((jb0.toInt8.toInt32).toInt8.toInt32) ((jb1.toInt8.toInt32).toInt8.toInt32) q2 (q3 ^^^ q4) cs) = (0 : Int32))) : False := by
  apply hc424_375
  simp only [fqe, own_fse hl_lia hl_lib hr_ia0 hr_ia1 hr_ib0 hr_ib1, own_fse hl_lja hl_ljb hr_ja0 hr_ja1 hr_jb0 hr_jb1, own_fse hl_lib hl_lia hr_ib0 hr_ib1 hr_ia0 hr_ia1, own_fse hl_ljb hl_lja hr_jb0 hr_jb1 hr_ja0 hr_ja1, own_sym hl_lia hl_lib, own_sym hl_lja hl_ljb, own_x1, own_x2]
  simp_all
theorem sg125_dead18 (p0 p1 : Int32) (q2 q3 q4 : Int64) (p5 lia lib lja ljb ia0 ia1 ib0 ib1 ja0 ja1 jb0 jb1 cs : Int32) (hcs : ¬ (cs = (0 : Int32))) (hl_lia : lia = 0 ∨ lia = 1 ∨ lia = 2) (hl_lib : lib = 0 ∨ lib = 1 ∨ lib = 2) (hl_lja : lja = 0 ∨ lja = 1 ∨ lja = 2) (hl_ljb : ljb = 0 ∨ ljb = 1 ∨ ljb = 2) (hr_ia0 : 0 ≤ ia0.toInt ∧ ia0.toInt < 256) (hr_ia1 : 0 ≤ ia1.toInt ∧ ia1.toInt < 256) (hr_ib0 : 0 ≤ ib0.toInt ∧ ib0.toInt < 256) (hr_ib1 : 0 ≤ ib1.toInt ∧ ib1.toInt < 256) (hr_ja0 : 0 ≤ ja0.toInt ∧ ja0.toInt < 256) (hr_ja1 : 0 ≤ ja1.toInt ∧ ja1.toInt < 256) (hr_jb0 : 0 ≤ jb0.toInt ∧ jb0.toInt < 256) (hr_jb1 : 0 ≤ jb1.toInt ∧ jb1.toInt < 256) (hc173_15 : ¬ ((p5 &&& (1 : Int32)) = (0 : Int32))) (hc187_311 : (p5 &&& (2 : Int32)) = (0 : Int32)) (hc274_327 : ¬ ((((p5.toUInt32 >>> ((2 : Int32) &&& 31).toUInt32).toInt32) &&& (7 : Int32)) = (5 : Int32))) (hc296_331 : ¬ ((((p5.toUInt32 >>> ((2 : Int32) &&& 31).toUInt32).toInt32) &&& (7 : Int32)) = (6 : Int32))) (hc319_336 : ¬ ((((p5.toUInt32 >>> ((2 : Int32) &&& 31).toUInt32).toInt32) &&& (7 : Int32)) = (7 : Int32))) (hc363_351 : ¬ ((fss lia ia0 ia1 lib ib0 ib1) = (0 : Int32))) (hc381_379 : (fss lja ja0 ja1 ljb jb0 jb1) = (0 : Int32)) (hc424_403 : (fqe lia ((ia0.toInt8.toInt32).toInt8.toInt32) ((ia1.toInt8.toInt32).toInt8.toInt32) lja ((ja0.toInt8.toInt32).toInt8.toInt32) ((ja1.toInt8.toInt32).toInt8.toInt32) q2 q3 lib ((ib0.toInt8.toInt32).toInt8.toInt32) ((ib1.toInt8.toInt32).toInt8.toInt32) ljb ((jb0.toInt8.toInt32).toInt8.toInt32) ((jb1.toInt8.toInt32).toInt8.toInt32) q2 (q3 ^^^ q4) cs) = (0 : Int32)) (hc436_405 : ¬ ((fqe lib ((ib0.toInt8.toInt32).toInt8.toInt32) ((ib1.toInt8.toInt32).toInt8.toInt32) ljb ((jb0.toInt8.toInt32).toInt8.toInt32) ((jb1.toInt8.toInt32).toInt8.toInt32) q2 (q3 ^^^ q4) lia ((ia0.toInt8.toInt32).toInt8.toInt32) ((ia1.toInt8.toInt32).toInt8.toInt32) lja ((ja0.toInt8.toInt32).toInt8.toInt32) ((ja1.toInt8.toInt32).toInt8.toInt32) q2 q3 cs) = (0 : Int32))) : False := by
  apply hc436_405
  simp only [fqe, own_fse hl_lia hl_lib hr_ia0 hr_ia1 hr_ib0 hr_ib1, own_fse hl_lja hl_ljb hr_ja0 hr_ja1 hr_jb0 hr_jb1, own_fse hl_lib hl_lia hr_ib0 hr_ib1 hr_ia0 hr_ia1, own_fse hl_ljb hl_lja hr_jb0 hr_jb1 hr_ja0 hr_ja1, own_sym hl_lia hl_lib, own_sym hl_lja hl_ljb, own_x1, own_x2]
  simp_all
theorem sg125_dead19 (p0 p1 : Int32) (q2 q3 q4 : Int64) (p5 lia lib lja ljb ia0 ia1 ib0 ib1 ja0 ja1 jb0 jb1 cs : Int32) (hcs : ¬ (cs = (0 : Int32))) (hl_lia : lia = 0 ∨ lia = 1 ∨ lia = 2) (hl_lib : lib = 0 ∨ lib = 1 ∨ lib = 2) (hl_lja : lja = 0 ∨ lja = 1 ∨ lja = 2) (hl_ljb : ljb = 0 ∨ ljb = 1 ∨ ljb = 2) (hr_ia0 : 0 ≤ ia0.toInt ∧ ia0.toInt < 256) (hr_ia1 : 0 ≤ ia1.toInt ∧ ia1.toInt < 256) (hr_ib0 : 0 ≤ ib0.toInt ∧ ib0.toInt < 256) (hr_ib1 : 0 ≤ ib1.toInt ∧ ib1.toInt < 256) (hr_ja0 : 0 ≤ ja0.toInt ∧ ja0.toInt < 256) (hr_ja1 : 0 ≤ ja1.toInt ∧ ja1.toInt < 256) (hr_jb0 : 0 ≤ jb0.toInt ∧ jb0.toInt < 256) (hr_jb1 : 0 ≤ jb1.toInt ∧ jb1.toInt < 256) (hc173_15 : ¬ ((p5 &&& (1 : Int32)) = (0 : Int32))) (hc187_311 : (p5 &&& (2 : Int32)) = (0 : Int32)) (hc274_327 : ¬ ((((p5.toUInt32 >>> ((2 : Int32) &&& 31).toUInt32).toInt32) &&& (7 : Int32)) = (5 : Int32))) (hc296_331 : ¬ ((((p5.toUInt32 >>> ((2 : Int32) &&& 31).toUInt32).toInt32) &&& (7 : Int32)) = (6 : Int32))) (hc319_336 : ¬ ((((p5.toUInt32 >>> ((2 : Int32) &&& 31).toUInt32).toInt32) &&& (7 : Int32)) = (7 : Int32))) (hc363_351 : ¬ ((fss lia ia0 ia1 lib ib0 ib1) = (0 : Int32))) (hc381_379 : (fss lja ja0 ja1 ljb jb0 jb1) = (0 : Int32)) (hc424_403 : ¬ ((fqe lia ((ia0.toInt8.toInt32).toInt8.toInt32) ((ia1.toInt8.toInt32).toInt8.toInt32) lja ((ja0.toInt8.toInt32).toInt8.toInt32) ((ja1.toInt8.toInt32).toInt8.toInt32) q2 q3 lib ((ib0.toInt8.toInt32).toInt8.toInt32) ((ib1.toInt8.toInt32).toInt8.toInt32) ljb ((jb0.toInt8.toInt32).toInt8.toInt32) ((jb1.toInt8.toInt32).toInt8.toInt32) q2 (q3 ^^^ q4) cs) = (0 : Int32))) : False := by
  apply hc424_403
  simp only [fqe, own_fse hl_lia hl_lib hr_ia0 hr_ia1 hr_ib0 hr_ib1, own_fse hl_lja hl_ljb hr_ja0 hr_ja1 hr_jb0 hr_jb1, own_fse hl_lib hl_lia hr_ib0 hr_ib1 hr_ia0 hr_ia1, own_fse hl_ljb hl_lja hr_jb0 hr_jb1 hr_ja0 hr_ja1, own_sym hl_lia hl_lib, own_sym hl_lja hl_ljb, own_x1, own_x2]
  simp_all
theorem sg125_dead20 (p0 p1 : Int32) (q2 q3 q4 : Int64) (p5 lia lib lja ljb ia0 ia1 ib0 ib1 ja0 ja1 jb0 jb1 cs : Int32) (hcs : ¬ (cs = (0 : Int32))) (hl_lia : lia = 0 ∨ lia = 1 ∨ lia = 2) (hl_lib : lib = 0 ∨ lib = 1 ∨ lib = 2) (hl_lja : lja = 0 ∨ lja = 1 ∨ lja = 2) (hl_ljb : ljb = 0 ∨ ljb = 1 ∨ ljb = 2) (hr_ia0 : 0 ≤ ia0.toInt ∧ ia0.toInt < 256) (hr_ia1 : 0 ≤ ia1.toInt ∧ ia1.toInt < 256) (hr_ib0 : 0 ≤ ib0.toInt ∧ ib0.toInt < 256) (hr_ib1 : 0 ≤ ib1.toInt ∧ ib1.toInt < 256) (hr_ja0 : 0 ≤ ja0.toInt ∧ ja0.toInt < 256) (hr_ja1 : 0 ≤ ja1.toInt ∧ ja1.toInt < 256) (hr_jb0 : 0 ≤ jb0.toInt ∧ jb0.toInt < 256) (hr_jb1 : 0 ≤ jb1.toInt ∧ jb1.toInt < 256) (hc173_15 : ¬ ((p5 &&& (1 : Int32)) = (0 : Int32))) (hc187_311 : (p5 &&& (2 : Int32)) = (0 : Int32)) (hc274_327 : ¬ ((((p5.toUInt32 >>> ((2 : Int32) &&& 31).toUInt32).toInt32) &&& (7 : Int32)) = (5 : Int32))) (hc296_331 : ¬ ((((p5.toUInt32 >>> ((2 : Int32) &&& 31).toUInt32).toInt32) &&& (7 : Int32)) = (6 : Int32))) (hc319_336 : ¬ ((((p5.toUInt32 >>> ((2 : Int32) &&& 31).toUInt32).toInt32) &&& (7 : Int32)) = (7 : Int32))) (hc363_351 : ¬ ((fss lia ia0 ia1 lib ib0 ib1) = (0 : Int32))) (hc381_379 : ¬ ((fss lja ja0 ja1 ljb jb0 jb1) = (0 : Int32))) (hc405_406 : q4 = (0 : Int64)) (hc424_430 : (fqe lia ((ia0.toInt8.toInt32).toInt8.toInt32) ((ia1.toInt8.toInt32).toInt8.toInt32) lja ((ja0.toInt8.toInt32).toInt8.toInt32) ((ja1.toInt8.toInt32).toInt8.toInt32) q2 q3 lib ((ib0.toInt8.toInt32).toInt8.toInt32) ((ib1.toInt8.toInt32).toInt8.toInt32) ljb ((jb0.toInt8.toInt32).toInt8.toInt32) ((jb1.toInt8.toInt32).toInt8.toInt32) q2 (q3 ^^^ q4) cs) = (1 : Int32)) (hc436_432 : ¬ ((fqe lib ((ib0.toInt8.toInt32).toInt8.toInt32) ((ib1.toInt8.toInt32).toInt8.toInt32) ljb ((jb0.toInt8.toInt32).toInt8.toInt32) ((jb1.toInt8.toInt32).toInt8.toInt32) q2 (q3 ^^^ q4) lia ((ia0.toInt8.toInt32).toInt8.toInt32) ((ia1.toInt8.toInt32).toInt8.toInt32) lja ((ja0.toInt8.toInt32).toInt8.toInt32) ((ja1.toInt8.toInt32).toInt8.toInt32) q2 q3 cs) = (1 : Int32))) : False := by
  apply hc436_432
  simp only [fqe, own_fse hl_lia hl_lib hr_ia0 hr_ia1 hr_ib0 hr_ib1, own_fse hl_lja hl_ljb hr_ja0 hr_ja1 hr_jb0 hr_jb1, own_fse hl_lib hl_lia hr_ib0 hr_ib1 hr_ia0 hr_ia1, own_fse hl_ljb hl_lja hr_jb0 hr_jb1 hr_ja0 hr_ja1, own_sym hl_lia hl_lib, own_sym hl_lja hl_ljb, own_x1, own_x2]
  simp_all
theorem sg125_dead21 (p0 p1 : Int32) (q2 q3 q4 : Int64) (p5 lia lib lja ljb ia0 ia1 ib0 ib1 ja0 ja1 jb0 jb1 cs : Int32) (hcs : ¬ (cs = (0 : Int32))) (hl_lia : lia = 0 ∨ lia = 1 ∨ lia = 2) (hl_lib : lib = 0 ∨ lib = 1 ∨ lib = 2) (hl_lja : lja = 0 ∨ lja = 1 ∨ lja = 2) (hl_ljb : ljb = 0 ∨ ljb = 1 ∨ ljb = 2) (hr_ia0 : 0 ≤ ia0.toInt ∧ ia0.toInt < 256) (hr_ia1 : 0 ≤ ia1.toInt ∧ ia1.toInt < 256) (hr_ib0 : 0 ≤ ib0.toInt ∧ ib0.toInt < 256) (hr_ib1 : 0 ≤ ib1.toInt ∧ ib1.toInt < 256) (hr_ja0 : 0 ≤ ja0.toInt ∧ ja0.toInt < 256) (hr_ja1 : 0 ≤ ja1.toInt ∧ ja1.toInt < 256) (hr_jb0 : 0 ≤ jb0.toInt ∧ jb0.toInt < 256) (hr_jb1 : 0 ≤ jb1.toInt ∧ jb1.toInt < 256) (hc173_15 : ¬ ((p5 &&& (1 : Int32)) = (0 : Int32))) (hc187_311 : (p5 &&& (2 : Int32)) = (0 : Int32)) (hc274_327 : ¬ ((((p5.toUInt32 >>> ((2 : Int32) &&& 31).toUInt32).toInt32) &&& (7 : Int32)) = (5 : Int32))) (hc296_331 : ¬ ((((p5.toUInt32 >>> ((2 : Int32) &&& 31).toUInt32).toInt32) &&& (7 : Int32)) = (6 : Int32))) (hc319_336 : ¬ ((((p5.toUInt32 >>> ((2 : Int32) &&& 31).toUInt32).toInt32) &&& (7 : Int32)) = (7 : Int32))) (hc363_351 : ¬ ((fss lia ia0 ia1 lib ib0 ib1) = (0 : Int32))) (hc381_379 : ¬ ((fss lja ja0 ja1 ljb jb0 jb1) = (0 : Int32))) (hc405_406 : q4 = (0 : Int64)) (hc424_430 : ¬ ((fqe lia ((ia0.toInt8.toInt32).toInt8.toInt32) ((ia1.toInt8.toInt32).toInt8.toInt32) lja ((ja0.toInt8.toInt32).toInt8.toInt32) ((ja1.toInt8.toInt32).toInt8.toInt32) q2 q3 lib ((ib0.toInt8.toInt32).toInt8.toInt32) ((ib1.toInt8.toInt32).toInt8.toInt32) ljb ((jb0.toInt8.toInt32).toInt8.toInt32) ((jb1.toInt8.toInt32).toInt8.toInt32) q2 (q3 ^^^ q4) cs) = (1 : Int32))) : False := by
  apply hc424_430
  simp only [fqe, own_fse hl_lia hl_lib hr_ia0 hr_ia1 hr_ib0 hr_ib1, own_fse hl_lja hl_ljb hr_ja0 hr_ja1 hr_jb0 hr_jb1, own_fse hl_lib hl_lia hr_ib0 hr_ib1 hr_ia0 hr_ia1, own_fse hl_ljb hl_lja hr_jb0 hr_jb1 hr_ja0 hr_ja1, own_sym hl_lia hl_lib, own_sym hl_lja hl_ljb, own_x1, own_x2]
  simp_all
theorem sg125_dead22 (p0 p1 : Int32) (q2 q3 q4 : Int64) (p5 lia lib lja ljb ia0 ia1 ib0 ib1 ja0 ja1 jb0 jb1 cs : Int32) (hcs : ¬ (cs = (0 : Int32))) (hl_lia : lia = 0 ∨ lia = 1 ∨ lia = 2) (hl_lib : lib = 0 ∨ lib = 1 ∨ lib = 2) (hl_lja : lja = 0 ∨ lja = 1 ∨ lja = 2) (hl_ljb : ljb = 0 ∨ ljb = 1 ∨ ljb = 2) (hr_ia0 : 0 ≤ ia0.toInt ∧ ia0.toInt < 256) (hr_ia1 : 0 ≤ ia1.toInt ∧ ia1.toInt < 256) (hr_ib0 : 0 ≤ ib0.toInt ∧ ib0.toInt < 256) (hr_ib1 : 0 ≤ ib1.toInt ∧ ib1.toInt < 256) (hr_ja0 : 0 ≤ ja0.toInt ∧ ja0.toInt < 256) (hr_ja1 : 0 ≤ ja1.toInt ∧ ja1.toInt < 256) (hr_jb0 : 0 ≤ jb0.toInt ∧ jb0.toInt < 256) (hr_jb1 : 0 ≤ jb1.toInt ∧ jb1.toInt < 256) (hc173_15 : ¬ ((p5 &&& (1 : Int32)) = (0 : Int32))) (hc187_311 : (p5 &&& (2 : Int32)) = (0 : Int32)) (hc274_327 : ¬ ((((p5.toUInt32 >>> ((2 : Int32) &&& 31).toUInt32).toInt32) &&& (7 : Int32)) = (5 : Int32))) (hc296_331 : ¬ ((((p5.toUInt32 >>> ((2 : Int32) &&& 31).toUInt32).toInt32) &&& (7 : Int32)) = (6 : Int32))) (hc319_336 : ¬ ((((p5.toUInt32 >>> ((2 : Int32) &&& 31).toUInt32).toInt32) &&& (7 : Int32)) = (7 : Int32))) (hc363_351 : ¬ ((fss lia ia0 ia1 lib ib0 ib1) = (0 : Int32))) (hc381_379 : ¬ ((fss lja ja0 ja1 ljb jb0 jb1) = (0 : Int32))) (hc405_406 : ¬ (q4 = (0 : Int64))) (hc424_456 : (fqe lia ((ia0.toInt8.toInt32).toInt8.toInt32) ((ia1.toInt8.toInt32).toInt8.toInt32) lja ((ja0.toInt8.toInt32).toInt8.toInt32) ((ja1.toInt8.toInt32).toInt8.toInt32) q2 q3 lib ((ib0.toInt8.toInt32).toInt8.toInt32) ((ib1.toInt8.toInt32).toInt8.toInt32) ljb ((jb0.toInt8.toInt32).toInt8.toInt32) ((jb1.toInt8.toInt32).toInt8.toInt32) q2 (q3 ^^^ q4) cs) = (0 : Int32)) (hc436_458 : ¬ ((fqe lib ((ib0.toInt8.toInt32).toInt8.toInt32) ((ib1.toInt8.toInt32).toInt8.toInt32) ljb ((jb0.toInt8.toInt32).toInt8.toInt32) ((jb1.toInt8.toInt32).toInt8.toInt32) q2 (q3 ^^^ q4) lia ((ia0.toInt8.toInt32).toInt8.toInt32) ((ia1.toInt8.toInt32).toInt8.toInt32) lja ((ja0.toInt8.toInt32).toInt8.toInt32) ((ja1.toInt8.toInt32).toInt8.toInt32) q2 q3 cs) = (0 : Int32))) : False := by
  apply hc436_458
  simp only [fqe, own_fse hl_lia hl_lib hr_ia0 hr_ia1 hr_ib0 hr_ib1, own_fse hl_lja hl_ljb hr_ja0 hr_ja1 hr_jb0 hr_jb1, own_fse hl_lib hl_lia hr_ib0 hr_ib1 hr_ia0 hr_ia1, own_fse hl_ljb hl_lja hr_jb0 hr_jb1 hr_ja0 hr_ja1, own_sym hl_lia hl_lib, own_sym hl_lja hl_ljb, own_x1, own_x2]
  simp_all
theorem sg125_dead23 (p0 p1 : Int32) (q2 q3 q4 : Int64) (p5 lia lib lja ljb ia0 ia1 ib0 ib1 ja0 ja1 jb0 jb1 cs : Int32) (hcs : ¬ (cs = (0 : Int32))) (hl_lia : lia = 0 ∨ lia = 1 ∨ lia = 2) (hl_lib : lib = 0 ∨ lib = 1 ∨ lib = 2) (hl_lja : lja = 0 ∨ lja = 1 ∨ lja = 2) (hl_ljb : ljb = 0 ∨ ljb = 1 ∨ ljb = 2) (hr_ia0 : 0 ≤ ia0.toInt ∧ ia0.toInt < 256) (hr_ia1 : 0 ≤ ia1.toInt ∧ ia1.toInt < 256) (hr_ib0 : 0 ≤ ib0.toInt ∧ ib0.toInt < 256) (hr_ib1 : 0 ≤ ib1.toInt ∧ ib1.toInt < 256) (hr_ja0 : 0 ≤ ja0.toInt ∧ ja0.toInt < 256) (hr_ja1 : 0 ≤ ja1.toInt ∧ ja1.toInt < 256) (hr_jb0 : 0 ≤ jb0.toInt ∧ jb0.toInt < 256) (hr_jb1 : 0 ≤ jb1.toInt ∧ jb1.toInt < 256) (hc173_15 : ¬ ((p5 &&& (1 : Int32)) = (0 : Int32))) (hc187_311 : (p5 &&& (2 : Int32)) = (0 : Int32)) (hc274_327 : ¬ ((((p5.toUInt32 >>> ((2 : Int32) &&& 31).toUInt32).toInt32) &&& (7 : Int32)) = (5 : Int32))) (hc296_331 : ¬ ((((p5.toUInt32 >>> ((2 : Int32) &&& 31).toUInt32).toInt32) &&& (7 : Int32)) = (6 : Int32))) (hc319_336 : ¬ ((((p5.toUInt32 >>> ((2 : Int32) &&& 31).toUInt32).toInt32) &&& (7 : Int32)) = (7 : Int32))) (hc363_351 : ¬ ((fss lia ia0 ia1 lib ib0 ib1) = (0 : Int32))) (hc381_379 : ¬ ((fss lja ja0 ja1 ljb jb0 jb1) = (0 : Int32))) (hc405_406 : ¬ (q4 = (0 : Int64))) (hc424_456 : ¬ ((fqe lia ((ia0.toInt8.toInt32).toInt8.toInt32) ((ia1.toInt8.toInt32).toInt8.toInt32) lja ((ja0.toInt8.toInt32).toInt8.toInt32) ((ja1.toInt8.toInt32).toInt8.toInt32) q2 q3 lib ((ib0.toInt8.toInt32).toInt8.toInt32) ((ib1.toInt8.toInt32).toInt8.toInt32) ljb ((jb0.toInt8.toInt32).toInt8.toInt32) ((jb1.toInt8.toInt32).toInt8.toInt32) q2 (q3 ^^^ q4) cs) = (0 : Int32))) : False := by
  apply hc424_456
  simp only [fqe, own_fse hl_lia hl_lib hr_ia0 hr_ia1 hr_ib0 hr_ib1, own_fse hl_lja hl_ljb hr_ja0 hr_ja1 hr_jb0 hr_jb1, own_fse hl_lib hl_lia hr_ib0 hr_ib1 hr_ia0 hr_ia1, own_fse hl_ljb hl_lja hr_jb0 hr_jb1 hr_ja0 hr_ja1, own_sym hl_lia hl_lib, own_sym hl_lja hl_ljb, own_x1, own_x2]
  simp_all
theorem sg125_dead24 (p0 p1 : Int32) (q2 q3 q4 : Int64) (p5 lia lib lja ljb ia0 ia1 ib0 ib1 ja0 ja1 jb0 jb1 cs : Int32) (hcs : ¬ (cs = (0 : Int32))) (hl_lia : lia = 0 ∨ lia = 1 ∨ lia = 2) (hl_lib : lib = 0 ∨ lib = 1 ∨ lib = 2) (hl_lja : lja = 0 ∨ lja = 1 ∨ lja = 2) (hl_ljb : ljb = 0 ∨ ljb = 1 ∨ ljb = 2) (hr_ia0 : 0 ≤ ia0.toInt ∧ ia0.toInt < 256) (hr_ia1 : 0 ≤ ia1.toInt ∧ ia1.toInt < 256) (hr_ib0 : 0 ≤ ib0.toInt ∧ ib0.toInt < 256) (hr_ib1 : 0 ≤ ib1.toInt ∧ ib1.toInt < 256) (hr_ja0 : 0 ≤ ja0.toInt ∧ ja0.toInt < 256) (hr_ja1 : 0 ≤ ja1.toInt ∧ ja1.toInt < 256) (hr_jb0 : 0 ≤ jb0.toInt ∧ jb0.toInt < 256) (hr_jb1 : 0 ≤ jb1.toInt ∧ jb1.toInt < 256) (hc173_15 : ¬ ((p5 &&& (1 : Int32)) = (0 : Int32))) (hc187_311 : ¬ ((p5 &&& (2 : Int32)) = (0 : Int32))) (hc274_474 : ¬ ((((p5.toUInt32 >>> ((2 : Int32) &&& 31).toUInt32).toInt32) &&& (7 : Int32)) = (5 : Int32))) (hc296_478 : ¬ ((((p5.toUInt32 >>> ((2 : Int32) &&& 31).toUInt32).toInt32) &&& (7 : Int32)) = (6 : Int32))) (hc319_483 : ¬ ((((p5.toUInt32 >>> ((2 : Int32) &&& 31).toUInt32).toInt32) &&& (7 : Int32)) = (7 : Int32))) (hc363_498 : (fss lia ia0 ia1 lib ib0 ib1) = (0 : Int32)) (hc424_522 : (fqe lia ((ia0.toInt8.toInt32).toInt8.toInt32) ((ia1.toInt8.toInt32).toInt8.toInt32) lja ((ja0.toInt8.toInt32).toInt8.toInt32) ((ja1.toInt8.toInt32).toInt8.toInt32) q2 q3 lib ((ib0.toInt8.toInt32).toInt8.toInt32) ((ib1.toInt8.toInt32).toInt8.toInt32) ljb ((jb0.toInt8.toInt32).toInt8.toInt32) ((jb1.toInt8.toInt32).toInt8.toInt32) q2 q3 cs) = (0 : Int32)) (hc436_524 : ¬ ((fqe lib ((ib0.toInt8.toInt32).toInt8.toInt32) ((ib1.toInt8.toInt32).toInt8.toInt32) ljb ((jb0.toInt8.toInt32).toInt8.toInt32) ((jb1.toInt8.toInt32).toInt8.toInt32) q2 q3 lia ((ia0.toInt8.toInt32).toInt8.toInt32) ((ia1.toInt8.toInt32).toInt8.toInt32) lja ((ja0.toInt8.toInt32).toInt8.toInt32) ((ja1.toInt8.toInt32).toInt8.toInt32) q2 q3 cs) = (0 : Int32))) : False := by
  apply hc436_524
  simp only [fqe, own_fse hl_lia hl_lib hr_ia0 hr_ia1 hr_ib0 hr_ib1, own_fse hl_lja hl_ljb hr_ja0 hr_ja1 hr_jb0 hr_jb1, own_fse hl_lib hl_lia hr_ib0 hr_ib1 hr_ia0 hr_ia1, own_fse hl_ljb hl_lja hr_jb0 hr_jb1 hr_ja0 hr_ja1, own_sym hl_lia hl_lib, own_sym hl_lja hl_ljb, own_x1, own_x2]
  simp_all
theorem sg125_dead25 (p0 p1 : Int32) (q2 q3 q4 : Int64) (p5 lia lib lja ljb ia0 ia1 ib0 ib1 ja0 ja1 jb0 jb1 cs : Int32) (hcs : ¬ (cs = (0 : Int32))) (hl_lia : lia = 0 ∨ lia = 1 ∨ lia = 2) (hl_lib : lib = 0 ∨ lib = 1 ∨ lib = 2) (hl_lja : lja = 0 ∨ lja = 1 ∨ lja = 2) (hl_ljb : ljb = 0 ∨ ljb = 1 ∨ ljb = 2) (hr_ia0 : 0 ≤ ia0.toInt ∧ ia0.toInt < 256) (hr_ia1 : 0 ≤ ia1.toInt ∧ ia1.toInt < 256) (hr_ib0 : 0 ≤ ib0.toInt ∧ ib0.toInt < 256) (hr_ib1 : 0 ≤ ib1.toInt ∧ ib1.toInt < 256) (hr_ja0 : 0 ≤ ja0.toInt ∧ ja0.toInt < 256) (hr_ja1 : 0 ≤ ja1.toInt ∧ ja1.toInt < 256) (hr_jb0 : 0 ≤ jb0.toInt ∧ jb0.toInt < 256) (hr_jb1 : 0 ≤ jb1.toInt ∧ jb1.toInt < 256) (hc173_15 : ¬ ((p5 &&& (1 : Int32)) = (0 : Int32))) (hc187_311 : ¬ ((p5 &&& (2 : Int32)) = (0 : Int32))) (hc274_474 : ¬ ((((p5.toUInt32 >>> ((2 : Int32) &&& 31).toUInt32).toInt32) &&& (7 : Int32)) = (5 : Int32))) (hc296_478 : ¬ ((((p5.toUInt32 >>> ((2 : Int32) &&& 31).toUInt32).toInt32) &&& (7 : Int32)) = (6 : Int32))) (hc319_483 : ¬ ((((p5.toUInt32 >>> ((2 : Int32) &&& 31).toUInt32).toInt32) &&& (7 : Int32)) = (7 : Int32))) (hc363_498 : (fss lia ia0 ia1 lib ib0 ib1) = (0 : Int32)) (hc424_522 : ¬ ((fqe lia ((ia0.toInt8.toInt32).toInt8.toInt32) ((ia1.toInt8.toInt32).toInt8.toInt32) lja ((ja0.toInt8.toInt32).toInt8.toInt32) ((ja1.toInt8.toInt32).toInt8.toInt32) q2 q3 lib ((ib0.toInt8.toInt32).toInt8.toInt32) ((ib1.toInt8.toInt32).toInt8.toInt32) ljb ((jb0.toInt8.toInt32).toInt8.toInt32) ((jb1.toInt8.toInt32).toInt8.toInt32) q2 q3 cs) = (0 : Int32))) : False := by
  apply hc424_522
  simp only [fqe, own_fse hl_lia hl_lib hr_ia0 hr_ia1 hr_ib0 hr_ib1, own_fse hl_lja hl_ljb hr_ja0 hr_ja1 hr_jb0 hr_jb1, own_fse hl_lib hl_lia hr_ib0 hr_ib1 hr_ia0 hr_ia1, own_fse hl_ljb hl_lja hr_jb0 hr_jb1 hr_ja0 hr_ja1, own_sym hl_lia hl_lib, own_sym hl_lja hl_ljb, own_x1, own_x2]
  simp_all
theorem sg125_dead26 (p0 p1 : Int32) (q2 q3 q4 : Int64) (p5 lia lib lja ljb ia0 ia1 ib0 ib1 ja0 ja1 jb0 jb1 cs : Int32) (hcs : ¬ (cs = (0 : Int32))) (hl_lia : lia = 0 ∨ lia = 1 ∨ lia = 2) (hl_lib : lib = 0 ∨ lib = 1 ∨ lib = 2) (hl_lja : lja = 0 ∨ lja = 1 ∨ lja = 2) (hl_ljb : ljb = 0 ∨ ljb = 1 ∨ ljb = 2) (hr_ia0 : 0 ≤ ia0.toInt ∧ ia0.toInt < 256) (hr_ia1 : 0 ≤ ia1.toInt ∧ ia1.toInt < 256) (hr_ib0 : 0 ≤ ib0.toInt ∧ ib0.toInt < 256) (hr_ib1 : 0 ≤ ib1.toInt ∧ ib1.toInt < 256) (hr_ja0 : 0 ≤ ja0.toInt ∧ ja0.toInt < 256) (hr_ja1 : 0 ≤ ja1.toInt ∧ ja1.toInt < 256) (hr_jb0 : 0 ≤ jb0.toInt ∧ jb0.toInt < 256) (hr_jb1 : 0 ≤ jb1.toInt ∧ jb1.toInt < 256) (hc173_15 : ¬ ((p5 &&& (1 : Int32)) = (0 : Int32))) (hc187_311 : ¬ ((p5 &&& (2 : Int32)) = (0 : Int32))) (hc274_474 : ¬ ((((p5.toUInt32 >>> ((2 : Int32) &&& 31).toUInt32).toInt32) &&& (7 : Int32)) = (5 : Int32))) (hc296_478 : ¬ ((((p5.toUInt32 >>> ((2 : Int32) &&& 31).toUInt32).toInt32) &&& (7 : Int32)) = (6 : Int32))) (hc319_483 : ¬ ((((p5.toUInt32 >>> ((2 : Int32) &&& 31).toUInt32).toInt32) &&& (7 : Int32)) = (7 : Int32))) (hc363_498 : ¬ ((fss lia ia0 ia1 lib ib0 ib1) = (0 : Int32))) (hc381_526 : (fss lja ja0 ja1 ljb jb0 jb1) = (0 : Int32)) (hc424_550 : (fqe lia ((ia0.toInt8.toInt32).toInt8.toInt32) ((ia1.toInt8.toInt32).toInt8.toInt32) lja ((ja0.toInt8.toInt32).toInt8.toInt32) ((ja1.toInt8.toInt32).toInt8.toInt32) q2 q3 lib ((ib0.toInt8.toInt32).toInt8.toInt32) ((ib1.toInt8.toInt32).toInt8.toInt32) ljb ((jb0.toInt8.toInt32).toInt8.toInt32) ((jb1.toInt8.toInt32).toInt8.toInt32) q2 q3 cs) = (0 : Int32)) (hc436_552 : ¬ ((fqe lib ((ib0.toInt8.toInt32).toInt8.toInt32) ((ib1.toInt8.toInt32).toInt8.toInt32) ljb ((jb0.toInt8.toInt32).toInt8.toInt32) ((jb1.toInt8.toInt32).toInt8.toInt32) q2 q3 lia ((ia0.toInt8.toInt32).toInt8.toInt32) ((ia1.toInt8.toInt32).toInt8.toInt32) lja ((ja0.toInt8.toInt32).toInt8.toInt32) ((ja1.toInt8.toInt32).toInt8.toInt32) q2 q3 cs) = (0 : Int32))) : False := by
  apply hc436_552
  simp only [fqe, own_fse hl_lia hl_lib hr_ia0 hr_ia1 hr_ib0 hr_ib1, own_fse hl_lja hl_ljb hr_ja0 hr_ja1 hr_jb0 hr_jb1, own_fse hl_lib hl_lia hr_ib0 hr_ib1 hr_ia0 hr_ia1, own_fse hl_ljb hl_lja hr_jb0 hr_jb1 hr_ja0 hr_ja1, own_sym hl_lia hl_lib, own_sym hl_lja hl_ljb, own_x1, own_x2]
  simp_all
theorem sg125_dead27 (p0 p1 : Int32) (q2 q3 q4 : Int64) (p5 lia lib lja ljb ia0 ia1 ib0 ib1 ja0 ja1 jb0 jb1 cs : Int32) (hcs : ¬ (cs = (0 : Int32))) (hl_lia : lia = 0 ∨ lia = 1 ∨ lia = 2) (hl_lib : lib = 0 ∨ lib = 1 ∨ lib = 2) (hl_lja : lja = 0 ∨ lja = 1 ∨ lja = 2) (hl_ljb : ljb = 0 ∨ ljb = 1 ∨ ljb = 2) (hr_ia0 : 0 ≤ ia0.toInt ∧ ia0.toInt < 256) (hr_ia1 : 0 ≤ ia1.toInt ∧ ia1.toInt < 256) (hr_ib0 : 0 ≤ ib0.toInt ∧ ib0.toInt < 256) (hr_ib1 : 0 ≤ ib1.toInt ∧ ib1.toInt < 256) (hr_ja0 : 0 ≤ ja0.toInt ∧ ja0.toInt < 256) (hr_ja1 : 0 ≤ ja1.toInt ∧ ja1.toInt < 256) (hr_jb0 : 0 ≤ jb0.toInt ∧ jb0.toInt < 256) (hr_jb1 : 0 ≤ jb1.toInt ∧ jb1.toInt < 256) (hc173_15 : ¬ ((p5 &&& (1 : Int32)) = (0 : Int32))) (hc187_311 : ¬ ((p5 &&& (2 : Int32)) = (0 : Int32))) (hc274_474 : ¬ ((((p5.toUInt32 >>> ((2 : Int32) &&& 31).toUInt32).toInt32) &&& (7 : Int32)) = (5 : Int32))) (hc296_478 : ¬ ((((p5.toUInt32 >>> ((2 : Int32) &&& 31).toUInt32).toInt32) &&& (7 : Int32)) = (6 : Int32))) (hc319_483 : ¬ ((((p5.toUInt32 >>> ((2 : Int32) &&& 31).toUInt32).toInt32) &&& (7 : Int32)) = (7 : Int32))) (hc363_498 : ¬ ((fss lia ia0 ia1 lib ib0 ib1) = (0 : Int32))) (hc381_526 : (fss lja ja0 ja1 ljb jb0 jb1) = (0 : Int32)) (hc424_550 : ¬ ((fqe lia ((ia0.toInt8.toInt32).toInt8.toInt32) ((ia1.toInt8.toInt32).toInt8.toInt32) lja ((ja0.toInt8.toInt32).toInt8.toInt32) ((ja1.toInt8.toInt32).toInt8.toInt32) q2 q3 lib ((ib0.toInt8.toInt32).toInt8.toInt32) ((ib1.toInt8.toInt32).toInt8.toInt32) ljb ((jb0.toInt8.toInt32).toInt8.toInt32) ((jb1.toInt8.toInt32).toInt8.toInt32) q2 q3 cs) = (0 : Int32))) : False := by
  apply hc424_550
  simp only [fqe, own_fse hl_lia hl_lib hr_ia0 hr_ia1 hr_ib0 hr_ib1, own_fse hl_lja hl_ljb hr_ja0 hr_ja1 hr_jb0 hr_jb1, own_fse hl_lib hl_lia hr_ib0 hr_ib1 hr_ia0 hr_ia1, own_fse hl_ljb hl_lja hr_jb0 hr_jb1 hr_ja0 hr_ja1, own_sym hl_lia hl_lib, own_sym hl_lja hl_ljb, own_x1, own_x2]
  simp_all
theorem sg125_dead28 (p0 p1 : Int32) (q2 q3 q4 : Int64) (p5 lia lib lja ljb ia0 ia1 ib0 ib1 ja0 ja1 jb0 jb1 cs : Int32) (hcs : ¬ (cs = (0 : Int32))) (hl_lia : lia = 0 ∨ lia = 1 ∨ lia = 2) (hl_lib : lib = 0 ∨ lib = 1 ∨ lib = 2) (hl_lja : lja = 0 ∨ lja = 1 ∨ lja = 2) (hl_ljb : ljb = 0 ∨ ljb = 1 ∨ ljb = 2) (hr_ia0 : 0 ≤ ia0.toInt ∧ ia0.toInt < 256) (hr_ia1 : 0 ≤ ia1.toInt ∧ ia1.toInt < 256) (hr_ib0 : 0 ≤ ib0.toInt ∧ ib0.toInt < 256) (hr_ib1 : 0 ≤ ib1.toInt ∧ ib1.toInt < 256) (hr_ja0 : 0 ≤ ja0.toInt ∧ ja0.toInt < 256) (hr_ja1 : 0 ≤ ja1.toInt ∧ ja1.toInt < 256) (hr_jb0 : 0 ≤ jb0.toInt ∧ jb0.toInt < 256) (hr_jb1 : 0 ≤ jb1.toInt ∧ jb1.toInt < 256) (hc173_15 : ¬ ((p5 &&& (1 : Int32)) = (0 : Int32))) (hc187_311 : ¬ ((p5 &&& (2 : Int32)) = (0 : Int32))) (hc274_474 : ¬ ((((p5.toUInt32 >>> ((2 : Int32) &&& 31).toUInt32).toInt32) &&& (7 : Int32)) = (5 : Int32))) (hc296_478 : ¬ ((((p5.toUInt32 >>> ((2 : Int32) &&& 31).toUInt32).toInt32) &&& (7 : Int32)) = (6 : Int32))) (hc319_483 : ¬ ((((p5.toUInt32 >>> ((2 : Int32) &&& 31).toUInt32).toInt32) &&& (7 : Int32)) = (7 : Int32))) (hc363_498 : ¬ ((fss lia ia0 ia1 lib ib0 ib1) = (0 : Int32))) (hc381_526 : ¬ ((fss lja ja0 ja1 ljb jb0 jb1) = (0 : Int32))) (hc424_576 : (fqe lia ((ia0.toInt8.toInt32).toInt8.toInt32) ((ia1.toInt8.toInt32).toInt8.toInt32) lja ((ja0.toInt8.toInt32).toInt8.toInt32) ((ja1.toInt8.toInt32).toInt8.toInt32) q2 q3 lib ((ib0.toInt8.toInt32).toInt8.toInt32) ((ib1.toInt8.toInt32).toInt8.toInt32) ljb ((jb0.toInt8.toInt32).toInt8.toInt32) ((jb1.toInt8.toInt32).toInt8.toInt32) q2 q3 cs) = (1 : Int32)) (hc436_578 : ¬ ((fqe lib ((ib0.toInt8.toInt32).toInt8.toInt32) ((ib1.toInt8.toInt32).toInt8.toInt32) ljb ((jb0.toInt8.toInt32).toInt8.toInt32) ((jb1.toInt8.toInt32).toInt8.toInt32) q2 q3 lia ((ia0.toInt8.toInt32).toInt8.toInt32) ((ia1.toInt8.toInt32).toInt8.toInt32) lja ((ja0.toInt8.toInt32).toInt8.toInt32) ((ja1.toInt8.toInt32).toInt8.toInt32) q2 q3 cs) = (1 : Int32))) : False := by
  apply hc436_578
  simp only [fqe, own_fse hl_lia hl_lib hr_ia0 hr_ia1 hr_ib0 hr_ib1, own_fse hl_lja hl_ljb hr_ja0 hr_ja1 hr_jb0 hr_jb1, own_fse hl_lib hl_lia hr_ib0 hr_ib1 hr_ia0 hr_ia1, own_fse hl_ljb hl_lja hr_jb0 hr_jb1 hr_ja0 hr_ja1, own_sym hl_lia hl_lib, own_sym hl_lja hl_ljb, own_x1, own_x2]
  simp_all
theorem sg125_dead29 (p0 p1 : Int32) (q2 q3 q4 : Int64) (p5 lia lib lja ljb ia0 ia1 ib0 ib1 ja0 ja1 jb0 jb1 cs : Int32) (hcs : ¬ (cs = (0 : Int32))) (hl_lia : lia = 0 ∨ lia = 1 ∨ lia = 2) (hl_lib : lib = 0 ∨ lib = 1 ∨ lib = 2) (hl_lja : lja = 0 ∨ lja = 1 ∨ lja = 2) (hl_ljb : ljb = 0 ∨ ljb = 1 ∨ ljb = 2) (hr_ia0 : 0 ≤ ia0.toInt ∧ ia0.toInt < 256) (hr_ia1 : 0 ≤ ia1.toInt ∧ ia1.toInt < 256) (hr_ib0 : 0 ≤ ib0.toInt ∧ ib0.toInt < 256) (hr_ib1 : 0 ≤ ib1.toInt ∧ ib1.toInt < 256) (hr_ja0 : 0 ≤ ja0.toInt ∧ ja0.toInt < 256) (hr_ja1 : 0 ≤ ja1.toInt ∧ ja1.toInt < 256) (hr_jb0 : 0 ≤ jb0.toInt ∧ jb0.toInt < 256) (hr_jb1 : 0 ≤ jb1.toInt ∧ jb1.toInt < 256) (hc173_15 : ¬ ((p5 &&& (1 : Int32)) = (0 : Int32))) (hc187_311 : ¬ ((p5 &&& (2 : Int32)) = (0 : Int32))) (hc274_474 : ¬ ((((p5.toUInt32 >>> ((2 : Int32) &&& 31).toUInt32).toInt32) &&& (7 : Int32)) = (5 : Int32))) (hc296_478 : ¬ ((((p5.toUInt32 >>> ((2 : Int32) &&& 31).toUInt32).toInt32) &&& (7 : Int32)) = (6 : Int32))) (hc319_483 : ¬ ((((p5.toUInt32 >>> ((2 : Int32) &&& 31).toUInt32).toInt32) &&& (7 : Int32)) = (7 : Int32))) (hc363_498 : ¬ ((fss lia ia0 ia1 lib ib0 ib1) = (0 : Int32))) (hc381_526 : ¬ ((fss lja ja0 ja1 ljb jb0 jb1) = (0 : Int32))) (hc424_576 : ¬ ((fqe lia ((ia0.toInt8.toInt32).toInt8.toInt32) ((ia1.toInt8.toInt32).toInt8.toInt32) lja ((ja0.toInt8.toInt32).toInt8.toInt32) ((ja1.toInt8.toInt32).toInt8.toInt32) q2 q3 lib ((ib0.toInt8.toInt32).toInt8.toInt32) ((ib1.toInt8.toInt32).toInt8.toInt32) ljb ((jb0.toInt8.toInt32).toInt8.toInt32) ((jb1.toInt8.toInt32).toInt8.toInt32) q2 q3 cs) = (1 : Int32))) : False := by
  apply hc424_576
  simp only [fqe, own_fse hl_lia hl_lib hr_ia0 hr_ia1 hr_ib0 hr_ib1, own_fse hl_lja hl_ljb hr_ja0 hr_ja1 hr_jb0 hr_jb1, own_fse hl_lib hl_lia hr_ib0 hr_ib1 hr_ia0 hr_ia1, own_fse hl_ljb hl_lja hr_jb0 hr_jb1 hr_ja0 hr_ja1, own_sym hl_lia hl_lib, own_sym hl_lja hl_ljb, own_x1, own_x2]
  simp_all
set_option maxRecDepth 65536 in
set_option maxHeartbeats 40000000 in
theorem sg125 {p : Program} {l : Launch} {e : Env} {s : State} {m : MethodId} {args : Array Value} {below : List Frame} {meth : Method} {c : Code} {T0 : State} {locs : List Loc} {Z : State} {a0 : Array Value} {Q : Option Value → Heap → List Loc → Prop} (p0 p1 : Int32) (q2 q3 q4 : Int64) (p5 lia lib lja ljb ia0 ia1 ib0 ib1 ja0 ja1 jb0 jb1 cs : Int32) (h0 : Heap) (n0 : Nat)
    (X0 : Stand p l e room_1 s m args below meth c T0 locs 0 0) (hx : p.tables.exec = Jvm.exec) (hZ : Z.Warmed39 s.vm) (hw : ∀ d ∈ tables_1, d.before a0 Z = true) (hby : c.code = code) (hml : c.maxLocals = 35) (hown : s.vm.findClass "com/example/collector_urchin/collectorurchin/store/StampedRecordEqualsPinLaw" = some m.cls) (hret : meth.sig.returnType = ret) (hlk : meth.locks = false)
    (hQ : ∀ h L, Fr n0 L → Q (some (.int 1)) h L) (e0 : T0.heap = h0) (Z0 : n0 ≤ h0.size) (N0 : Fr n0 locs) (S_cs : Sta Z h0 "java/lang/String" "COMPACT_STRINGS" "Z" (.int cs)) (hcs : ¬ (cs = (0 : Int32))) (hl_lia : lia = 0 ∨ lia = 1 ∨ lia = 2) (hl_lib : lib = 0 ∨ lib = 1 ∨ lib = 2) (hl_lja : lja = 0 ∨ lja = 1 ∨ lja = 2) (hl_ljb : ljb = 0 ∨ ljb = 1 ∨ ljb = 2) (hr_ia0 : 0 ≤ ia0.toInt ∧ ia0.toInt < 256) (hr_ia1 : 0 ≤ ia1.toInt ∧ ia1.toInt < 256) (hr_ib0 : 0 ≤ ib0.toInt ∧ ib0.toInt < 256) (hr_ib1 : 0 ≤ ib1.toInt ∧ ib1.toInt < 256) (hr_ja0 : 0 ≤ ja0.toInt ∧ ja0.toInt < 256) (hr_ja1 : 0 ≤ ja1.toInt ∧ ja1.toInt < 256) (hr_jb0 : 0 ≤ jb0.toInt ∧ jb0.toInt < 256) (hr_jb1 : 0 ≤ jb1.toInt ∧ jb1.toInt < 256) (hC : CHv Z EL1 s.vm h0) :
    own_Out p e below (fun o U' => ∃ v L, o = .returned v ∧ Q v U'.heap L ∧ ReturnedEndW s o U' L 48 3264) (T0.setTop (mkF m 125 #[.val (.int p0), .val (.int p1), .val (.long q2), .second, .val (.long q3), .second, .val (.long q4), .second, .val (.int p5), .val (.int lia), .val (.int lib), .val (.int lja), .val (.int ljb), .val (.int ia0), .val (.int ia1), .val (.int ib0), .val (.int ib1), .val (.int ja0), .val (.int ja1), .val (.int jb0), .val (.int jb1), .unset, .unset, .unset, .unset, .unset, .unset, .unset, .unset, .unset, .unset, .unset, .unset, .unset, .unset] [])) := by
  have CA0 := CHr.refl hC
  show own_Out p e below _ (T0.setTop (mkF m 125 #[iv p0, iv p1, .val (.long q2), .second, .val (.long q3), .second, .val (.long q4), .second, iv p5, iv lia, iv lib, iv lja, iv ljb, iv ia0, iv ia1, iv ib0, iv ib1, iv ja0, iv ja1, iv jb0, iv jb1, .unset, .unset, .unset, .unset, .unset, .unset, .unset, .unset, .unset, .unset, .unset, .unset, .unset, .unset] []))
  refine o_iload X0 hx hby at_125 rfl (q := 127) rfl ?_
  refine o_iload X0 hx hby at_127 rfl (q := 129) rfl ?_
  refine o_iload X0 hx hby at_129 rfl (q := 131) rfl ?_
  obtain ⟨_, _, ⟨T1, L1, k1, n1⟩, -, X1, Sn1, gz1, ⟨Lc1, hQ1, l1, y1, z1, hCr1⟩, st1⟩ := callSS X0 hx (y := (⟨"com/example/collector_urchin/collectorurchin/store/StampedRecordEqualsPinLaw", "make", "(ICC)Ljava/lang/String;"⟩ : MethodName)) hown (mvT hZ (w_ hw 0 rfl)) (mvT hZ (w_ hw 1 rfl)) (mvT hZ (w_ hw 2 rfl)) (mvT hZ (w_ hw 3 rfl)) (by decide) (backOfSH (s := s) (vm0 := s.vm) (W := 0) (rm1 l Z a0 hw [] lia ia0 ia1 cs h0 n0 Z0 hl_lia hr_ia0 hr_ia1 S_cs hcs) hZ (w_ hw 3 rfl) (w_ hw 2 rfl) (by decide) (by decide) (own_EW hw) CA0.1) (g := (mkF m 131 #[iv p0, iv p1, .val (.long q2), .second, .val (.long q3), .second, .val (.long q4), .second, iv p5, iv lia, iv lib, iv lja, iv ljb, iv ia0, iv ia1, iv ib0, iv ib1, iv ja0, iv ja1, iv jb0, iv jb1, .unset, .unset, .unset, .unset, .unset, .unset, .unset, .unset, .unset, .unset, .unset, .unset, .unset, .unset] [.int ia1, .int ia0, .int lia])) rfl (by rw [hml]; rfl) (argsL := [(.int lia), (.int ia0), (.int ia1)]) (rest := []) (lenOf pd_8 rfl) rfl (by show 2 * 0 + _ ≤ _; exact Nat.le_of_eq rfl) (hb hby at_131) (fun _ _ => ⟨rfl, e0, (by decide : 0 + 4 ≤ _), (by decide : 0 + 8 ≤ _)⟩)
  dsimp only [Pt.U, Pt.locs, Pt.cells, Pt.slots] at X1 l1 y1 z1 st1 hQ1 Sn1 gz1 hCr1
  subst l1 y1 z1
  have S1 : s.Since T1.vm T1.heap.size := foldS (s := s) (vm0 := s.vm) ((State.WarmedH.refl s).since 0) (by rw [e0]; exact (Nat.zero_le _)) Sn1 gz1
  have hZ1 : Z.Warmed39 (s.setVm T1.vm).vm := State.Warmed39.trans (t := s.setVm s.vm) hZ Sn1.1
  have hown1 : (s.setVm T1.vm).vm.findClass "com/example/collector_urchin/collectorurchin/store/StampedRecordEqualsPinLaw" = some m.cls := by rw [show (s.setVm T1.vm).vm = T1.vm from rfl, Sn1.1.alike.findClass]; exact hown
  obtain ⟨r1, b1, k1, rfl, N1q, K1, E1, Fv1, Fc1, V1, hg1, hs1⟩ := hQ1
  have N1 := Fr.app N0 N1q
  have CA2 := CA0.trans hCr1
  refine own_of (fun _ k => st1.trans k) ?_
  show own_Out p e below _ (T1.setTop (mkF m 134 #[iv p0, iv p1, .val (.long q2), .second, .val (.long q3), .second, .val (.long q4), .second, iv p5, iv lia, iv lib, iv lja, iv ljb, iv ia0, iv ia1, iv ib0, iv ib1, iv ja0, iv ja1, iv jb0, iv jb1, .unset, .unset, .unset, .unset, .unset, .unset, .unset, .unset, .unset, .unset, .unset, .unset, .unset, .unset] [.ref r1]))
  refine o_astore X1 hx hby at_134 rfl (l' := #[iv p0, iv p1, .val (.long q2), .second, .val (.long q3), .second, .val (.long q4), .second, iv p5, iv lia, iv lib, iv lja, iv ljb, iv ia0, iv ia1, iv ib0, iv ib1, iv ja0, iv ja1, iv jb0, iv jb1, rv r1, .unset, .unset, .unset, .unset, .unset, .unset, .unset, .unset, .unset, .unset, .unset, .unset, .unset]) rfl (q := 136) rfl ?_
  refine o_iload X1 hx hby at_136 rfl (q := 138) rfl ?_
  refine o_iload X1 hx hby at_138 rfl (q := 140) rfl ?_
  refine o_iload X1 hx hby at_140 rfl (q := 142) rfl ?_
  have qz4 := (own_staK0 S_cs K1)
  have qz5 := (Nat.le_trans Z0 K1.1)
  obtain ⟨_, _, ⟨T3, L3, k3, n3⟩, -, X3, Sn3, gz3, ⟨Lc3, hQ3, l3, y3, z3, hCr3⟩, st3⟩ := callSS X1 hx (y := (⟨"com/example/collector_urchin/collectorurchin/store/StampedRecordEqualsPinLaw", "make", "(ICC)Ljava/lang/String;"⟩ : MethodName)) hown1 (mvT hZ1 (w_ hw 0 rfl)) (mvT hZ1 (w_ hw 1 rfl)) (mvT hZ1 (w_ hw 2 rfl)) (mvT hZ1 (w_ hw 3 rfl)) (by decide) (backOfSH (s := s) (vm0 := T1.vm) (W := 0) (rm1 l Z a0 hw [] lib ib0 ib1 cs T1.heap n0 qz5 hl_lib hr_ib0 hr_ib1 qz4 hcs) hZ1 (w_ hw 3 rfl) (w_ hw 2 rfl) (by decide) (by decide) (own_EW hw) CA2.1) (g := (mkF m 142 #[iv p0, iv p1, .val (.long q2), .second, .val (.long q3), .second, .val (.long q4), .second, iv p5, iv lia, iv lib, iv lja, iv ljb, iv ia0, iv ia1, iv ib0, iv ib1, iv ja0, iv ja1, iv jb0, iv jb1, rv r1, .unset, .unset, .unset, .unset, .unset, .unset, .unset, .unset, .unset, .unset, .unset, .unset, .unset] [.int ib1, .int ib0, .int lib])) rfl (by rw [hml]; rfl) (argsL := [(.int lib), (.int ib0), (.int ib1)]) (rest := []) (lenOf pd_8 rfl) rfl (by show 2 * 0 + _ ≤ _; exact Nat.le_of_eq rfl) (hb hby at_142) (fun _ _ => ⟨rfl, rfl, (by decide : 4 + 4 ≤ _), (by decide : 8 + 8 ≤ _)⟩)
  dsimp only [Pt.U, Pt.locs, Pt.cells, Pt.slots] at X3 l3 y3 z3 st3 hQ3 Sn3 gz3 hCr3
  subst l3 y3 z3
  have S3 : s.Since T3.vm T3.heap.size := foldS (s := s) (vm0 := T1.vm) S1 (Nat.le_refl T1.heap.size) Sn3 gz3
  have hZ3 : Z.Warmed39 (s.setVm T3.vm).vm := State.Warmed39.trans (t := s.setVm T1.vm) hZ1 Sn3.1
  have hown3 : (s.setVm T3.vm).vm.findClass "com/example/collector_urchin/collectorurchin/store/StampedRecordEqualsPinLaw" = some m.cls := by rw [show (s.setVm T3.vm).vm = T3.vm from rfl, Sn3.1.alike.findClass]; exact hown1
  obtain ⟨r3, b3, k3, rfl, N3q, K3, E3, Fv3, Fc3, V3, hg3, hs3⟩ := hQ3
  have N3 := Fr.app N1 N3q
  have CA6 := CA2.trans hCr3
  refine own_of (fun _ k => st3.trans k) ?_
  show own_Out p e below _ (T3.setTop (mkF m 145 #[iv p0, iv p1, .val (.long q2), .second, .val (.long q3), .second, .val (.long q4), .second, iv p5, iv lia, iv lib, iv lja, iv ljb, iv ia0, iv ia1, iv ib0, iv ib1, iv ja0, iv ja1, iv jb0, iv jb1, rv r1, .unset, .unset, .unset, .unset, .unset, .unset, .unset, .unset, .unset, .unset, .unset, .unset, .unset] [.ref r3]))
  refine o_astore X3 hx hby at_145 rfl (l' := #[iv p0, iv p1, .val (.long q2), .second, .val (.long q3), .second, .val (.long q4), .second, iv p5, iv lia, iv lib, iv lja, iv ljb, iv ia0, iv ia1, iv ib0, iv ib1, iv ja0, iv ja1, iv jb0, iv jb1, rv r1, rv r3, .unset, .unset, .unset, .unset, .unset, .unset, .unset, .unset, .unset, .unset, .unset, .unset]) rfl (q := 147) rfl ?_
  refine o_iload X3 hx hby at_147 rfl (q := 149) rfl ?_
  refine o_iload X3 hx hby at_149 rfl (q := 151) rfl ?_
  refine o_iload X3 hx hby at_151 rfl (q := 153) rfl ?_
  have qz8 := (own_staK0 qz4 K3)
  have qz9 := (Nat.le_trans qz5 K3.1)
  obtain ⟨_, _, ⟨T7, L7, k7, n7⟩, -, X7, Sn7, gz7, ⟨Lc7, hQ7, l7, y7, z7, hCr7⟩, st7⟩ := callSS X3 hx (y := (⟨"com/example/collector_urchin/collectorurchin/store/StampedRecordEqualsPinLaw", "make", "(ICC)Ljava/lang/String;"⟩ : MethodName)) hown3 (mvT hZ3 (w_ hw 0 rfl)) (mvT hZ3 (w_ hw 1 rfl)) (mvT hZ3 (w_ hw 2 rfl)) (mvT hZ3 (w_ hw 3 rfl)) (by decide) (backOfSH (s := s) (vm0 := T3.vm) (W := 0) (rm1 l Z a0 hw [] lja ja0 ja1 cs T3.heap n0 qz9 hl_lja hr_ja0 hr_ja1 qz8 hcs) hZ3 (w_ hw 3 rfl) (w_ hw 2 rfl) (by decide) (by decide) (own_EW hw) CA6.1) (g := (mkF m 153 #[iv p0, iv p1, .val (.long q2), .second, .val (.long q3), .second, .val (.long q4), .second, iv p5, iv lia, iv lib, iv lja, iv ljb, iv ia0, iv ia1, iv ib0, iv ib1, iv ja0, iv ja1, iv jb0, iv jb1, rv r1, rv r3, .unset, .unset, .unset, .unset, .unset, .unset, .unset, .unset, .unset, .unset, .unset, .unset] [.int ja1, .int ja0, .int lja])) rfl (by rw [hml]; rfl) (argsL := [(.int lja), (.int ja0), (.int ja1)]) (rest := []) (lenOf pd_8 rfl) rfl (by show 2 * 0 + _ ≤ _; exact Nat.le_of_eq rfl) (hb hby at_153) (fun _ _ => ⟨rfl, rfl, (by decide : 8 + 4 ≤ _), (by decide : 16 + 8 ≤ _)⟩)
  dsimp only [Pt.U, Pt.locs, Pt.cells, Pt.slots] at X7 l7 y7 z7 st7 hQ7 Sn7 gz7 hCr7
  subst l7 y7 z7
  have S7 : s.Since T7.vm T7.heap.size := foldS (s := s) (vm0 := T3.vm) S3 (Nat.le_refl T3.heap.size) Sn7 gz7
  have hZ7 : Z.Warmed39 (s.setVm T7.vm).vm := State.Warmed39.trans (t := s.setVm T3.vm) hZ3 Sn7.1
  have hown7 : (s.setVm T7.vm).vm.findClass "com/example/collector_urchin/collectorurchin/store/StampedRecordEqualsPinLaw" = some m.cls := by rw [show (s.setVm T7.vm).vm = T7.vm from rfl, Sn7.1.alike.findClass]; exact hown3
  obtain ⟨r7, b7, k7, rfl, N7q, K7, E7, Fv7, Fc7, V7, hg7, hs7⟩ := hQ7
  have N7 := Fr.app N3 N7q
  have CA10 := CA6.trans hCr7
  refine own_of (fun _ k => st7.trans k) ?_
  show own_Out p e below _ (T7.setTop (mkF m 156 #[iv p0, iv p1, .val (.long q2), .second, .val (.long q3), .second, .val (.long q4), .second, iv p5, iv lia, iv lib, iv lja, iv ljb, iv ia0, iv ia1, iv ib0, iv ib1, iv ja0, iv ja1, iv jb0, iv jb1, rv r1, rv r3, .unset, .unset, .unset, .unset, .unset, .unset, .unset, .unset, .unset, .unset, .unset, .unset] [.ref r7]))
  refine o_astore X7 hx hby at_156 rfl (l' := #[iv p0, iv p1, .val (.long q2), .second, .val (.long q3), .second, .val (.long q4), .second, iv p5, iv lia, iv lib, iv lja, iv ljb, iv ia0, iv ia1, iv ib0, iv ib1, iv ja0, iv ja1, iv jb0, iv jb1, rv r1, rv r3, rv r7, .unset, .unset, .unset, .unset, .unset, .unset, .unset, .unset, .unset, .unset, .unset]) rfl (q := 158) rfl ?_
  refine o_iload X7 hx hby at_158 rfl (q := 160) rfl ?_
  refine o_iload X7 hx hby at_160 rfl (q := 162) rfl ?_
  refine o_iload X7 hx hby at_162 rfl (q := 164) rfl ?_
  have qz12 := (own_staK0 qz8 K7)
  have qz13 := (Nat.le_trans qz9 K7.1)
  obtain ⟨_, _, ⟨T11, L11, k11, n11⟩, -, X11, Sn11, gz11, ⟨Lc11, hQ11, l11, y11, z11, hCr11⟩, st11⟩ := callSS X7 hx (y := (⟨"com/example/collector_urchin/collectorurchin/store/StampedRecordEqualsPinLaw", "make", "(ICC)Ljava/lang/String;"⟩ : MethodName)) hown7 (mvT hZ7 (w_ hw 0 rfl)) (mvT hZ7 (w_ hw 1 rfl)) (mvT hZ7 (w_ hw 2 rfl)) (mvT hZ7 (w_ hw 3 rfl)) (by decide) (backOfSH (s := s) (vm0 := T7.vm) (W := 0) (rm1 l Z a0 hw [] ljb jb0 jb1 cs T7.heap n0 qz13 hl_ljb hr_jb0 hr_jb1 qz12 hcs) hZ7 (w_ hw 3 rfl) (w_ hw 2 rfl) (by decide) (by decide) (own_EW hw) CA10.1) (g := (mkF m 164 #[iv p0, iv p1, .val (.long q2), .second, .val (.long q3), .second, .val (.long q4), .second, iv p5, iv lia, iv lib, iv lja, iv ljb, iv ia0, iv ia1, iv ib0, iv ib1, iv ja0, iv ja1, iv jb0, iv jb1, rv r1, rv r3, rv r7, .unset, .unset, .unset, .unset, .unset, .unset, .unset, .unset, .unset, .unset, .unset] [.int jb1, .int jb0, .int ljb])) rfl (by rw [hml]; rfl) (argsL := [(.int ljb), (.int jb0), (.int jb1)]) (rest := []) (lenOf pd_8 rfl) rfl (by show 2 * 0 + _ ≤ _; exact Nat.le_of_eq rfl) (hb hby at_164) (fun _ _ => ⟨rfl, rfl, (by decide : 12 + 4 ≤ _), (by decide : 24 + 8 ≤ _)⟩)
  dsimp only [Pt.U, Pt.locs, Pt.cells, Pt.slots] at X11 l11 y11 z11 st11 hQ11 Sn11 gz11 hCr11
  subst l11 y11 z11
  have S11 : s.Since T11.vm T11.heap.size := foldS (s := s) (vm0 := T7.vm) S7 (Nat.le_refl T7.heap.size) Sn11 gz11
  have hZ11 : Z.Warmed39 (s.setVm T11.vm).vm := State.Warmed39.trans (t := s.setVm T7.vm) hZ7 Sn11.1
  have hown11 : (s.setVm T11.vm).vm.findClass "com/example/collector_urchin/collectorurchin/store/StampedRecordEqualsPinLaw" = some m.cls := by rw [show (s.setVm T11.vm).vm = T11.vm from rfl, Sn11.1.alike.findClass]; exact hown7
  obtain ⟨r11, b11, k11, rfl, N11q, K11, E11, Fv11, Fc11, V11, hg11, hs11⟩ := hQ11
  have N11 := Fr.app N7 N11q
  have CA14 := CA10.trans hCr11
  refine own_of (fun _ k => st11.trans k) ?_
  show own_Out p e below _ (T11.setTop (mkF m 167 #[iv p0, iv p1, .val (.long q2), .second, .val (.long q3), .second, .val (.long q4), .second, iv p5, iv lia, iv lib, iv lja, iv ljb, iv ia0, iv ia1, iv ib0, iv ib1, iv ja0, iv ja1, iv jb0, iv jb1, rv r1, rv r3, rv r7, .unset, .unset, .unset, .unset, .unset, .unset, .unset, .unset, .unset, .unset, .unset] [.ref r11]))
  refine o_astore X11 hx hby at_167 rfl (l' := #[iv p0, iv p1, .val (.long q2), .second, .val (.long q3), .second, .val (.long q4), .second, iv p5, iv lia, iv lib, iv lja, iv ljb, iv ia0, iv ia1, iv ib0, iv ib1, iv ja0, iv ja1, iv jb0, iv jb1, rv r1, rv r3, rv r7, rv r11, .unset, .unset, .unset, .unset, .unset, .unset, .unset, .unset, .unset, .unset]) rfl (q := 169) rfl ?_
  refine o_iload X11 hx hby at_169 rfl (q := 171) rfl ?_
  refine o_iconst X11 hx hby at_171 (z := 1) rfl (q := 172) rfl ?_
  refine o_iand X11 hx hby at_172 rfl (q := 173) rfl ?_
  by_cases hc173_15 : (p5 &&& (1 : Int32)) = (0 : Int32)
  · skip
    refine o_ifY X11 hx hby at_173 ((if0 _ _).trans (teq hc173_15).1) (by decide) (q := 180) (by decide) ?_
    refine o_iconst X11 hx hby at_180 (z := 0) rfl (q := 181) rfl ?_
    refine o_istore X11 hx hby at_181 (l' := #[iv p0, iv p1, .val (.long q2), .second, .val (.long q3), .second, .val (.long q4), .second, iv p5, iv lia, iv lib, iv lja, iv ljb, iv ia0, iv ia1, iv ib0, iv ib1, iv ja0, iv ja1, iv jb0, iv jb1, rv r1, rv r3, rv r7, rv r11, iv 0, .unset, .unset, .unset, .unset, .unset, .unset, .unset, .unset, .unset]) rfl (q := 183) rfl ?_
    refine o_iload X11 hx hby at_183 rfl (q := 185) rfl ?_
    refine o_iconst X11 hx hby at_185 (z := 2) rfl (q := 186) rfl ?_
    refine o_iand X11 hx hby at_186 rfl (q := 187) rfl ?_
    by_cases hc187_16 : (p5 &&& (2 : Int32)) = (0 : Int32)
    · skip
      refine o_ifY X11 hx hby at_187 ((if0 _ _).trans (teq hc187_16).1) (by decide) (q := 194) (by decide) ?_
      refine o_iconst X11 hx hby at_194 (z := 0) rfl (q := 195) rfl ?_
      refine o_istore X11 hx hby at_195 (l' := #[iv p0, iv p1, .val (.long q2), .second, .val (.long q3), .second, .val (.long q4), .second, iv p5, iv lia, iv lib, iv lja, iv ljb, iv ia0, iv ia1, iv ib0, iv ib1, iv ja0, iv ja1, iv jb0, iv jb1, rv r1, rv r3, rv r7, rv r11, iv 0, iv 0, .unset, .unset, .unset, .unset, .unset, .unset, .unset, .unset]) rfl (q := 197) rfl ?_
      refine o_iload X11 hx hby at_197 rfl (q := 199) rfl ?_
      refine o_ifY X11 hx hby at_199 ((if0 _ _).trans (teq (by decide : (0 : Int32) = (0 : Int32))).1) (by decide) (q := 206) (by decide) ?_
      refine o_lloadN X11 hx hby at_206 rfl (q := 207) rfl ?_
      refine o_lload X11 hx hby at_207 rfl (q := 209) rfl ?_
      refine o_lxor X11 hx hby at_209 rfl (q := 210) rfl ?_
      refine o_lstore X11 hx hby at_210 (l' := #[iv p0, iv p1, .val (.long q2), .second, .val (.long q3), .second, .val (.long q4), .second, iv p5, iv lia, iv lib, iv lja, iv ljb, iv ia0, iv ia1, iv ib0, iv ib1, iv ja0, iv ja1, iv jb0, iv jb1, rv r1, rv r3, rv r7, rv r11, iv 0, iv 0, .val (.long (q2 ^^^ q4)), .second, .unset, .unset, .unset, .unset, .unset, .unset]) rfl (q := 212) rfl ?_
      refine o_iload X11 hx hby at_212 rfl (q := 214) rfl ?_
      refine o_ifY X11 hx hby at_214 ((if0 _ _).trans (teq (by decide : (0 : Int32) = (0 : Int32))).1) (by decide) (q := 222) (by decide) ?_
      refine o_lload X11 hx hby at_222 rfl (q := 224) rfl ?_
      refine o_lload X11 hx hby at_224 rfl (q := 226) rfl ?_
      refine o_lxor X11 hx hby at_226 rfl (q := 227) rfl ?_
      refine o_lstore X11 hx hby at_227 (l' := #[iv p0, iv p1, .val (.long q2), .second, .val (.long q3), .second, .val (.long q4), .second, iv p5, iv lia, iv lib, iv lja, iv ljb, iv ia0, iv ia1, iv ib0, iv ib1, iv ja0, iv ja1, iv jb0, iv jb1, rv r1, rv r3, rv r7, rv r11, iv 0, iv 0, .val (.long (q2 ^^^ q4)), .second, .val (.long (q3 ^^^ q4)), .second, .unset, .unset, .unset, .unset]) rfl (q := 229) rfl ?_
      obtain ⟨T17, h17, X17, e17, E17, A17, D17, -, st17⟩ := newO X11 hx hZ11 hown11 (w_ hw 26 rfl) (w_ hw 27 rfl) (w_ hw 28 rfl) rfl (g := (mkF m 229 #[iv p0, iv p1, .val (.long q2), .second, .val (.long q3), .second, .val (.long q4), .second, iv p5, iv lia, iv lib, iv lja, iv ljb, iv ia0, iv ia1, iv ib0, iv ib1, iv ja0, iv ja1, iv jb0, iv jb1, rv r1, rv r3, rv r7, rv r11, iv 0, iv 0, .val (.long (q2 ^^^ q4)), .second, .val (.long (q3 ^^^ q4)), .second, .unset, .unset, .unset, .unset] [])) rfl (hb hby at_229) (by decide) (by decide)
      obtain ⟨b17, g17⟩ : ∃ z, z = T11.heap.size := ⟨_, rfl⟩
      rw [← g17] at A17 D17 st17
      have qz18 := (Nat.le_trans qz13 K11.1)
      have g_b17 : n0 ≤ b17 := Nat.le_trans qz18 (Nat.le_of_eq g17.symm)
      have CA19 := CA14.trans (CHr.ext E17 CA14.1)
      have F_b17_id : Fld Z h17 b17 "com/example/collector_urchin/collectorurchin/store/StampedRecord" "id" "Ljava/lang/String;" .null := D17 (Or.inr (w_ hw 40 rfl)) (ty := (.object "java/lang/String")) (by decide)
      have F_b17_body : Fld Z h17 b17 "com/example/collector_urchin/collectorurchin/store/StampedRecord" "body" "Ljava/lang/String;" .null := D17 (Or.inr (w_ hw 43 rfl)) (ty := (.object "java/lang/String")) (by decide)
      have F_b17_created : Fld Z h17 b17 "com/example/collector_urchin/collectorurchin/store/StampedRecord" "created" "J" (.long (0 : Int64)) := D17 (Or.inr (w_ hw 45 rfl)) (ty := .long) (by decide)
      have F_b17_modified : Fld Z h17 b17 "com/example/collector_urchin/collectorurchin/store/StampedRecord" "modified" "J" (.long (0 : Int64)) := D17 (Or.inr (w_ hw 47 rfl)) (ty := .long) (by decide)
      refine own_of st17 ?_
      show own_Out p e below _ (T17.setTop (mkF m 232 #[iv p0, iv p1, .val (.long q2), .second, .val (.long q3), .second, .val (.long q4), .second, iv p5, iv lia, iv lib, iv lja, iv ljb, iv ia0, iv ia1, iv ib0, iv ib1, iv ja0, iv ja1, iv jb0, iv jb1, rv r1, rv r3, rv r7, rv r11, iv 0, iv 0, .val (.long (q2 ^^^ q4)), .second, .val (.long (q3 ^^^ q4)), .second, .unset, .unset, .unset, .unset] [.ref b17]))
      refine o_dup X17 hx hby at_232 rfl (q := 233) rfl ?_
      refine o_aload X17 hx hby at_233 rfl rfl (q := 235) rfl ?_
      refine o_aload X17 hx hby at_235 rfl rfl (q := 237) rfl ?_
      refine o_lloadN X17 hx hby at_237 rfl (q := 238) rfl ?_
      refine o_lload X17 hx hby at_238 rfl (q := 240) rfl ?_
      have qz21 := ((((E1.keep K3).keep K7).keep K11).ext E17)
      have qz22 := ((E7.keep K11).ext E17)
      have qz23 := (Nat.le_trans qz18 E17.1)
      obtain ⟨_, _, ⟨T20, L20, k20, n20⟩, -, X20, Sn20, gz20, ⟨Lc20, hQ20, l20, y20, z20⟩, st20⟩ := X17.specialBackS hx (y := (⟨"com/example/collector_urchin/collectorurchin/store/StampedRecord", "<init>", "(Ljava/lang/String;Ljava/lang/String;JJ)V"⟩ : MethodName)) rfl hown11 (mvT hZ11 (w_ hw 29 rfl)) (mvT hZ11 (w_ hw 30 rfl)) (mvT hZ11 (w_ hw 31 rfl)) (by decide) (backOfS (W := 1) (rm5 l Z a0 hw [] b17 r1 r7 q2 q3 h17 n0 qz23 A17 F_b17_id F_b17_body F_b17_created F_b17_modified g_b17 qz21 qz22) hZ11 (w_ hw 31 rfl) (w_ hw 28 rfl) (by decide) (by decide)) (g := (mkF m 240 #[iv p0, iv p1, .val (.long q2), .second, .val (.long q3), .second, .val (.long q4), .second, iv p5, iv lia, iv lib, iv lja, iv ljb, iv ia0, iv ia1, iv ib0, iv ib1, iv ja0, iv ja1, iv jb0, iv jb1, rv r1, rv r3, rv r7, rv r11, iv 0, iv 0, .val (.long (q2 ^^^ q4)), .second, .val (.long (q3 ^^^ q4)), .second, .unset, .unset, .unset, .unset] [.long q3, .long q2, .ref r7, .ref r1, .ref b17, .ref b17])) rfl (by rw [hml]; rfl) (Steps.refl _) (a := b17) (argsL := [(.ref r1), (.ref r7), (.long q2), (.long q3)]) (rest := [(.ref b17)]) (lenOf pd_9 rfl) rfl (by show 2 * 0 + _ ≤ _; exact Nat.le_of_eq rfl) (hb hby at_240) (fun _ _ => ⟨rfl, e17, (by decide : 17 + 4 ≤ _), (by decide : 36 + 32 ≤ _)⟩)
      dsimp only [Pt.U, Pt.locs, Pt.cells, Pt.slots] at X20 l20 y20 z20 st20 hQ20 Sn20 gz20
      subst l20 y20 z20
      have qz24 := (Nat.le_trans (Nat.le_refl T11.heap.size) E17.1)
      have S20 : s.Since T20.vm T20.heap.size := foldS (s := s) (vm0 := T11.vm) S11 (by rw [e17]; exact qz24) Sn20 gz20
      have hZ20 : Z.Warmed39 (s.setVm T20.vm).vm := State.Warmed39.trans (t := s.setVm T11.vm) hZ11 Sn20.1
      have hown20 : (s.setVm T20.vm).vm.findClass "com/example/collector_urchin/collectorurchin/store/StampedRecordEqualsPinLaw" = some m.cls := by rw [show (s.setVm T20.vm).vm = T20.vm from rfl, Sn20.1.alike.findClass]; exact hown11
      obtain ⟨rfl, N20q, K20, E20, F20_id, F20_body, F20_created, F20_modified⟩ := hQ20
      have N20 := Fr.app N11 N20q
      refine own_of (fun _ k => st20.trans k) ?_
      show own_Out p e below _ (T20.setTop (mkF m 243 #[iv p0, iv p1, .val (.long q2), .second, .val (.long q3), .second, .val (.long q4), .second, iv p5, iv lia, iv lib, iv lja, iv ljb, iv ia0, iv ia1, iv ib0, iv ib1, iv ja0, iv ja1, iv jb0, iv jb1, rv r1, rv r3, rv r7, rv r11, iv 0, iv 0, .val (.long (q2 ^^^ q4)), .second, .val (.long (q3 ^^^ q4)), .second, .unset, .unset, .unset, .unset] [.ref b17]))
      refine o_astore X20 hx hby at_243 rfl (l' := #[iv p0, iv p1, .val (.long q2), .second, .val (.long q3), .second, .val (.long q4), .second, iv p5, iv lia, iv lib, iv lja, iv ljb, iv ia0, iv ia1, iv ib0, iv ib1, iv ja0, iv ja1, iv jb0, iv jb1, rv r1, rv r3, rv r7, rv r11, iv 0, iv 0, .val (.long (q2 ^^^ q4)), .second, .val (.long (q3 ^^^ q4)), .second, rv b17, .unset, .unset, .unset]) rfl (q := 245) rfl ?_
      obtain ⟨T25, h25, X25, e25, E25, A25, D25, -, st25⟩ := newO X20 hx hZ20 hown20 (w_ hw 26 rfl) (w_ hw 27 rfl) (w_ hw 28 rfl) rfl (g := (mkF m 245 #[iv p0, iv p1, .val (.long q2), .second, .val (.long q3), .second, .val (.long q4), .second, iv p5, iv lia, iv lib, iv lja, iv ljb, iv ia0, iv ia1, iv ib0, iv ib1, iv ja0, iv ja1, iv jb0, iv jb1, rv r1, rv r3, rv r7, rv r11, iv 0, iv 0, .val (.long (q2 ^^^ q4)), .second, .val (.long (q3 ^^^ q4)), .second, rv b17, .unset, .unset, .unset] [])) rfl (hb hby at_245) (by decide) (by decide)
      obtain ⟨b25, g25⟩ : ∃ z, z = T20.heap.size := ⟨_, rfl⟩
      rw [← g25] at A25 D25 st25
      have qz26 := (Nat.le_trans qz23 K20.1)
      have g_b25 : n0 ≤ b25 := Nat.le_trans qz26 (Nat.le_of_eq g25.symm)
      have F_b25_id : Fld Z h25 b25 "com/example/collector_urchin/collectorurchin/store/StampedRecord" "id" "Ljava/lang/String;" .null := D25 (Or.inr (w_ hw 40 rfl)) (ty := (.object "java/lang/String")) (by decide)
      have F_b25_body : Fld Z h25 b25 "com/example/collector_urchin/collectorurchin/store/StampedRecord" "body" "Ljava/lang/String;" .null := D25 (Or.inr (w_ hw 43 rfl)) (ty := (.object "java/lang/String")) (by decide)
      have F_b25_created : Fld Z h25 b25 "com/example/collector_urchin/collectorurchin/store/StampedRecord" "created" "J" (.long (0 : Int64)) := D25 (Or.inr (w_ hw 45 rfl)) (ty := .long) (by decide)
      have F_b25_modified : Fld Z h25 b25 "com/example/collector_urchin/collectorurchin/store/StampedRecord" "modified" "J" (.long (0 : Int64)) := D25 (Or.inr (w_ hw 47 rfl)) (ty := .long) (by decide)
      refine own_of st25 ?_
      show own_Out p e below _ (T25.setTop (mkF m 248 #[iv p0, iv p1, .val (.long q2), .second, .val (.long q3), .second, .val (.long q4), .second, iv p5, iv lia, iv lib, iv lja, iv ljb, iv ia0, iv ia1, iv ib0, iv ib1, iv ja0, iv ja1, iv jb0, iv jb1, rv r1, rv r3, rv r7, rv r11, iv 0, iv 0, .val (.long (q2 ^^^ q4)), .second, .val (.long (q3 ^^^ q4)), .second, rv b17, .unset, .unset, .unset] [.ref b25]))
      refine o_dup X25 hx hby at_248 rfl (q := 249) rfl ?_
      refine o_aload X25 hx hby at_249 rfl rfl (q := 251) rfl ?_
      refine o_aload X25 hx hby at_251 rfl rfl (q := 253) rfl ?_
      refine o_lload X25 hx hby at_253 rfl (q := 255) rfl ?_
      refine o_lload X25 hx hby at_255 rfl (q := 257) rfl ?_
      have qz28 := (((((E3.keep K7).keep K11).ext E17).keep K20).ext E25)
      have qz29 := (((E11.ext E17).keep K20).ext E25)
      have qz30 := (Nat.le_trans qz26 E25.1)
      obtain ⟨_, _, ⟨T27, L27, k27, n27⟩, -, X27, Sn27, gz27, ⟨Lc27, hQ27, l27, y27, z27⟩, st27⟩ := X25.specialBackS hx (y := (⟨"com/example/collector_urchin/collectorurchin/store/StampedRecord", "<init>", "(Ljava/lang/String;Ljava/lang/String;JJ)V"⟩ : MethodName)) rfl hown20 (mvT hZ20 (w_ hw 29 rfl)) (mvT hZ20 (w_ hw 30 rfl)) (mvT hZ20 (w_ hw 31 rfl)) (by decide) (backOfS (W := 1) (rm5 l Z a0 hw [] b25 r3 r11 (q2 ^^^ q4) (q3 ^^^ q4) h25 n0 qz30 A25 F_b25_id F_b25_body F_b25_created F_b25_modified g_b25 qz28 qz29) hZ20 (w_ hw 31 rfl) (w_ hw 28 rfl) (by decide) (by decide)) (g := (mkF m 257 #[iv p0, iv p1, .val (.long q2), .second, .val (.long q3), .second, .val (.long q4), .second, iv p5, iv lia, iv lib, iv lja, iv ljb, iv ia0, iv ia1, iv ib0, iv ib1, iv ja0, iv ja1, iv jb0, iv jb1, rv r1, rv r3, rv r7, rv r11, iv 0, iv 0, .val (.long (q2 ^^^ q4)), .second, .val (.long (q3 ^^^ q4)), .second, rv b17, .unset, .unset, .unset] [.long (q3 ^^^ q4), .long (q2 ^^^ q4), .ref r11, .ref r3, .ref b25, .ref b25])) rfl (by rw [hml]; rfl) (Steps.refl _) (a := b25) (argsL := [(.ref r3), (.ref r11), (.long (q2 ^^^ q4)), (.long (q3 ^^^ q4))]) (rest := [(.ref b25)]) (lenOf pd_9 rfl) rfl (by show 2 * 0 + _ ≤ _; exact Nat.le_of_eq rfl) (hb hby at_257) (fun _ _ => ⟨rfl, e25, (by decide : 22 + 4 ≤ _), (by decide : 72 + 32 ≤ _)⟩)
      dsimp only [Pt.U, Pt.locs, Pt.cells, Pt.slots] at X27 l27 y27 z27 st27 hQ27 Sn27 gz27
      subst l27 y27 z27
      have qz31 := (Nat.le_trans (Nat.le_refl T20.heap.size) E25.1)
      have S27 : s.Since T27.vm T27.heap.size := foldS (s := s) (vm0 := T20.vm) S20 (by rw [e25]; exact qz31) Sn27 gz27
      have hZ27 : Z.Warmed39 (s.setVm T27.vm).vm := State.Warmed39.trans (t := s.setVm T20.vm) hZ20 Sn27.1
      have hown27 : (s.setVm T27.vm).vm.findClass "com/example/collector_urchin/collectorurchin/store/StampedRecordEqualsPinLaw" = some m.cls := by rw [show (s.setVm T27.vm).vm = T27.vm from rfl, Sn27.1.alike.findClass]; exact hown20
      obtain ⟨rfl, N27q, K27, E27, F27_id, F27_body, F27_created, F27_modified⟩ := hQ27
      have N27 := Fr.app N20 N27q
      refine own_of (fun _ k => st27.trans k) ?_
      show own_Out p e below _ (T27.setTop (mkF m 260 #[iv p0, iv p1, .val (.long q2), .second, .val (.long q3), .second, .val (.long q4), .second, iv p5, iv lia, iv lib, iv lja, iv ljb, iv ia0, iv ia1, iv ib0, iv ib1, iv ja0, iv ja1, iv jb0, iv jb1, rv r1, rv r3, rv r7, rv r11, iv 0, iv 0, .val (.long (q2 ^^^ q4)), .second, .val (.long (q3 ^^^ q4)), .second, rv b17, .unset, .unset, .unset] [.ref b25]))
      refine o_astore X27 hx hby at_260 rfl (l' := #[iv p0, iv p1, .val (.long q2), .second, .val (.long q3), .second, .val (.long q4), .second, iv p5, iv lia, iv lib, iv lja, iv ljb, iv ia0, iv ia1, iv ib0, iv ib1, iv ja0, iv ja1, iv jb0, iv jb1, rv r1, rv r3, rv r7, rv r11, iv 0, iv 0, .val (.long (q2 ^^^ q4)), .second, .val (.long (q3 ^^^ q4)), .second, rv b17, rv b25, .unset, .unset]) rfl (q := 262) rfl ?_
      refine o_iload X27 hx hby at_262 rfl (q := 264) rfl ?_
      refine o_iconst X27 hx hby at_264 (z := 2) rfl (q := 265) rfl ?_
      refine o_iushr X27 hx hby at_265 rfl (q := 266) rfl ?_
      refine o_bipush X27 hx hby at_266 (z := 7) rfl (q := 268) rfl ?_
      refine o_iand X27 hx hby at_268 rfl (q := 269) rfl ?_
      refine o_istore X27 hx hby at_269 (l' := #[iv p0, iv p1, .val (.long q2), .second, .val (.long q3), .second, .val (.long q4), .second, iv p5, iv lia, iv lib, iv lja, iv ljb, iv ia0, iv ia1, iv ib0, iv ib1, iv ja0, iv ja1, iv jb0, iv jb1, rv r1, rv r3, rv r7, rv r11, iv 0, iv 0, .val (.long (q2 ^^^ q4)), .second, .val (.long (q3 ^^^ q4)), .second, rv b17, rv b25, iv (((p5.toUInt32 >>> ((2 : Int32) &&& 31).toUInt32).toInt32) &&& (7 : Int32)), .unset]) rfl (q := 271) rfl ?_
      refine o_iload X27 hx hby at_271 rfl (q := 273) rfl ?_
      refine o_iconst X27 hx hby at_273 (z := 5) rfl (q := 274) rfl ?_
      by_cases hc274_32 : (((p5.toUInt32 >>> ((2 : Int32) &&& 31).toUInt32).toInt32) &&& (7 : Int32)) = (5 : Int32)
      · skip
        refine o_icN X27 hx hby at_274 (teq hc274_32).2 (q := 277) rfl ?_
        refine o_aload X27 hx hby at_277 rfl rfl (q := 279) rfl ?_
        refine o_aconst_null X27 hx hby at_279 (q := 280) rfl ?_
        have qz34 := (Nat.le_trans qz30 K27.1)
        have qz35 := ((E20.ext E25).keep K27)
        obtain ⟨cq33, kq33, q33a, q33b, q33c⟩ := isOf hZ27 rfl qz35
        obtain ⟨_, _, ⟨T33, L33, k33, n33⟩, -, X33, ⟨Lc33, hQ33, l33, y33, z33⟩, st33⟩ := X27.virtualBack hx (y := (⟨"com/example/collector_urchin/collectorurchin/store/StampedRecord", "equals", "(Ljava/lang/Object;)Z"⟩ : MethodName)) (z := (⟨"com/example/collector_urchin/collectorurchin/store/StampedRecord", "equals", "(Ljava/lang/Object;)Z"⟩ : MethodName)) hown27 (mvT hZ27 (w_ hw 51 rfl)) (mvT hZ27 (w_ hw 52 rfl)) (notFace_of_selects (args := #[]) (mvT hZ27 (w_ hw 54 rfl))) (mvT hZ27 (w_ hw 54 rfl)) (mvT hZ27 (w_ hw 53 rfl)) (by decide) (backOf (W := 0) (rm8n l Z a0 hw [] b17 T27.heap n0 qz34 ) hZ27 (w_ hw 55 rfl) (w_ hw 28 rfl) (by decide) (by decide)) q33a q33c (g := (mkF m 280 #[iv p0, iv p1, .val (.long q2), .second, .val (.long q3), .second, .val (.long q4), .second, iv p5, iv lia, iv lib, iv lja, iv ljb, iv ia0, iv ia1, iv ib0, iv ib1, iv ja0, iv ja1, iv jb0, iv jb1, rv r1, rv r3, rv r7, rv r11, iv 0, iv 0, .val (.long (q2 ^^^ q4)), .second, .val (.long (q3 ^^^ q4)), .second, rv b17, rv b25, iv (((p5.toUInt32 >>> ((2 : Int32) &&& 31).toUInt32).toInt32) &&& (7 : Int32)), .unset] [.null, .ref b17])) rfl (by rw [hml]; rfl) (Steps.refl _) (argsL := [.null]) (rest := []) (lenOf pd_7 rfl) rfl (by show 2 * 0 + _ ≤ _; exact Nat.le_of_eq rfl) (hb hby at_280) (fun _ _ => ⟨rfl, rfl, (by decide : 26 + 0 ≤ _), (by decide : 104 + 0 ≤ _)⟩)
        dsimp only [Pt.U, Pt.locs, Pt.cells, Pt.slots] at X33 l33 y33 z33 st33 hQ33
        subst l33 y33 z33
        obtain ⟨rfl, N33q, hh33⟩ := hQ33
        have N33 := Fr.app N27 N33q
        refine own_of (fun _ k => st33.trans k) ?_
        show own_Out p e below _ (T33.setTop (mkF m 283 #[iv p0, iv p1, .val (.long q2), .second, .val (.long q3), .second, .val (.long q4), .second, iv p5, iv lia, iv lib, iv lja, iv ljb, iv ia0, iv ia1, iv ib0, iv ib1, iv ja0, iv ja1, iv jb0, iv jb1, rv r1, rv r3, rv r7, rv r11, iv 0, iv 0, .val (.long (q2 ^^^ q4)), .second, .val (.long (q3 ^^^ q4)), .second, rv b17, rv b25, iv (((p5.toUInt32 >>> ((2 : Int32) &&& 31).toUInt32).toInt32) &&& (7 : Int32)), .unset] [.int 0]))
        refine o_ifN X33 hx hby at_283 ((if0 _ _).trans (teq (by decide : (0 : Int32) = (0 : Int32))).2) (q := 286) rfl ?_
        refine o_iconst X33 hx hby at_286 (z := 1) rfl (q := 287) rfl ?_
        refine o_goto X33 hx hby at_287 (by decide) (q := 291) (by decide) ?_
        exact own_outNW (s := s) (vm₁ := T27.vm) X33 S27 (by rw [hh33]; exact (Nat.le_refl T27.heap.size)) hx hlk (t := .boolean) hret (by simp) (hb hby at_291) (z' := (1 : Int32)) rfl (Q := Q) (hQ _ _ N33) (by decide) (by decide)
      · skip
        refine o_icY X27 hx hby at_274 (feq hc274_32).2 (by decide) (q := 292) (by decide) ?_
        refine o_iload X27 hx hby at_292 rfl (q := 294) rfl ?_
        refine o_bipush X27 hx hby at_294 (z := 6) rfl (q := 296) rfl ?_
        by_cases hc296_36 : (((p5.toUInt32 >>> ((2 : Int32) &&& 31).toUInt32).toInt32) &&& (7 : Int32)) = (6 : Int32)
        · skip
          refine o_icN X27 hx hby at_296 (teq hc296_36).2 (q := 299) rfl ?_
          refine o_aload X27 hx hby at_299 rfl rfl (q := 301) rfl ?_
          refine o_aload X27 hx hby at_301 rfl rfl (q := 303) rfl ?_
          have qz38 := (((qz22.keep K20).ext E25).keep K27)
          have qz39 := (Nat.le_trans qz30 K27.1)
          have qz40 := ((E20.ext E25).keep K27)
          obtain ⟨cq37, kq37, q37a, q37b, q37c⟩ := isOf hZ27 rfl qz40
          obtain ⟨_, _, ⟨T37, L37, k37, n37⟩, -, X37, ⟨Lc37, hQ37, l37, y37, z37⟩, st37⟩ := X27.virtualBack hx (y := (⟨"com/example/collector_urchin/collectorurchin/store/StampedRecord", "equals", "(Ljava/lang/Object;)Z"⟩ : MethodName)) (z := (⟨"com/example/collector_urchin/collectorurchin/store/StampedRecord", "equals", "(Ljava/lang/Object;)Z"⟩ : MethodName)) hown27 (mvT hZ27 (w_ hw 51 rfl)) (mvT hZ27 (w_ hw 52 rfl)) (notFace_of_selects (args := #[]) (mvT hZ27 (w_ hw 54 rfl))) (mvT hZ27 (w_ hw 54 rfl)) (mvT hZ27 (w_ hw 53 rfl)) (by decide) (backOf (W := 0) (rm8s l Z a0 hw [] b17 r7 T27.heap n0 qz39 qz38) hZ27 (w_ hw 55 rfl) (w_ hw 28 rfl) (by decide) (by decide)) q37a q37c (g := (mkF m 303 #[iv p0, iv p1, .val (.long q2), .second, .val (.long q3), .second, .val (.long q4), .second, iv p5, iv lia, iv lib, iv lja, iv ljb, iv ia0, iv ia1, iv ib0, iv ib1, iv ja0, iv ja1, iv jb0, iv jb1, rv r1, rv r3, rv r7, rv r11, iv 0, iv 0, .val (.long (q2 ^^^ q4)), .second, .val (.long (q3 ^^^ q4)), .second, rv b17, rv b25, iv (((p5.toUInt32 >>> ((2 : Int32) &&& 31).toUInt32).toInt32) &&& (7 : Int32)), .unset] [.ref r7, .ref b17])) rfl (by rw [hml]; rfl) (Steps.refl _) (argsL := [(.ref r7)]) (rest := []) (lenOf pd_7 rfl) rfl (by show 2 * 0 + _ ≤ _; exact Nat.le_of_eq rfl) (hb hby at_303) (fun _ _ => ⟨rfl, rfl, (by decide : 26 + 0 ≤ _), (by decide : 104 + 0 ≤ _)⟩)
          dsimp only [Pt.U, Pt.locs, Pt.cells, Pt.slots] at X37 l37 y37 z37 st37 hQ37
          subst l37 y37 z37
          obtain ⟨rfl, N37q, hh37⟩ := hQ37
          have N37 := Fr.app N27 N37q
          refine own_of (fun _ k => st37.trans k) ?_
          show own_Out p e below _ (T37.setTop (mkF m 306 #[iv p0, iv p1, .val (.long q2), .second, .val (.long q3), .second, .val (.long q4), .second, iv p5, iv lia, iv lib, iv lja, iv ljb, iv ia0, iv ia1, iv ib0, iv ib1, iv ja0, iv ja1, iv jb0, iv jb1, rv r1, rv r3, rv r7, rv r11, iv 0, iv 0, .val (.long (q2 ^^^ q4)), .second, .val (.long (q3 ^^^ q4)), .second, rv b17, rv b25, iv (((p5.toUInt32 >>> ((2 : Int32) &&& 31).toUInt32).toInt32) &&& (7 : Int32)), .unset] [.int 0]))
          refine o_ifN X37 hx hby at_306 ((if0 _ _).trans (teq (by decide : (0 : Int32) = (0 : Int32))).2) (q := 309) rfl ?_
          refine o_iconst X37 hx hby at_309 (z := 1) rfl (q := 310) rfl ?_
          refine o_goto X37 hx hby at_310 (by decide) (q := 314) (by decide) ?_
          exact own_outNW (s := s) (vm₁ := T27.vm) X37 S27 (by rw [hh37]; exact (Nat.le_refl T27.heap.size)) hx hlk (t := .boolean) hret (by simp) (hb hby at_314) (z' := (1 : Int32)) rfl (Q := Q) (hQ _ _ N37) (by decide) (by decide)
        · skip
          refine o_icY X27 hx hby at_296 (feq hc296_36).2 (by decide) (q := 315) (by decide) ?_
          refine o_iload X27 hx hby at_315 rfl (q := 317) rfl ?_
          refine o_bipush X27 hx hby at_317 (z := 7) rfl (q := 319) rfl ?_
          by_cases hc319_41 : (((p5.toUInt32 >>> ((2 : Int32) &&& 31).toUInt32).toInt32) &&& (7 : Int32)) = (7 : Int32)
          · skip
            refine o_icN X27 hx hby at_319 (teq hc319_41).2 (q := 322) rfl ?_
            refine o_aload X27 hx hby at_322 rfl rfl (q := 324) rfl ?_
            refine o_aload X27 hx hby at_324 rfl rfl (q := 326) rfl ?_
            have qz43 := ((E20.ext E25).keep K27)
            have ne_b17_b25 : b17 ≠ b25 := Nat.ne_of_lt (Nat.lt_of_lt_of_le (Nat.lt_of_lt_of_le A17.lt K20.1) (Nat.le_of_eq g25.symm))
            have qz44 := ((F20_id.ext E25).keep K27 (ninS ne_b17_b25 nin0))
            have qz45 := ((F20_body.ext E25).keep K27 (ninS ne_b17_b25 nin0))
            have qz46 := (((qz21.keep K20).ext E25).keep K27)
            have qz47 := (((qz22.keep K20).ext E25).keep K27)
            have qz48 := ((F20_created.ext E25).keep K27 (ninS ne_b17_b25 nin0))
            have qz49 := ((F20_modified.ext E25).keep K27 (ninS ne_b17_b25 nin0))
            have qz50 := (Nat.le_trans qz30 K27.1)
            obtain ⟨cq42, kq42, q42a, q42b, q42c⟩ := isOf hZ27 rfl qz43
            obtain ⟨_, _, ⟨T42, L42, k42, n42⟩, -, X42, ⟨Lc42, hQ42, l42, y42, z42⟩, st42⟩ := X27.virtualBack hx (y := (⟨"com/example/collector_urchin/collectorurchin/store/StampedRecord", "equals", "(Ljava/lang/Object;)Z"⟩ : MethodName)) (z := (⟨"com/example/collector_urchin/collectorurchin/store/StampedRecord", "equals", "(Ljava/lang/Object;)Z"⟩ : MethodName)) hown27 (mvT hZ27 (w_ hw 51 rfl)) (mvT hZ27 (w_ hw 52 rfl)) (notFace_of_selects (args := #[]) (mvT hZ27 (w_ hw 54 rfl))) (mvT hZ27 (w_ hw 54 rfl)) (mvT hZ27 (w_ hw 53 rfl)) (by decide) (backOf (W := 0) (rm8f l Z a0 hw [] b17 r1 r7 q2 q3 T27.heap n0 qz50 qz43 qz44 qz45 qz46 qz47 qz48 qz49) hZ27 (w_ hw 55 rfl) (w_ hw 28 rfl) (by decide) (by decide)) q42a q42c (g := (mkF m 326 #[iv p0, iv p1, .val (.long q2), .second, .val (.long q3), .second, .val (.long q4), .second, iv p5, iv lia, iv lib, iv lja, iv ljb, iv ia0, iv ia1, iv ib0, iv ib1, iv ja0, iv ja1, iv jb0, iv jb1, rv r1, rv r3, rv r7, rv r11, iv 0, iv 0, .val (.long (q2 ^^^ q4)), .second, .val (.long (q3 ^^^ q4)), .second, rv b17, rv b25, iv (((p5.toUInt32 >>> ((2 : Int32) &&& 31).toUInt32).toInt32) &&& (7 : Int32)), .unset] [.ref b17, .ref b17])) rfl (by rw [hml]; rfl) (Steps.refl _) (argsL := [(.ref b17)]) (rest := []) (lenOf pd_7 rfl) rfl (by show 2 * 0 + _ ≤ _; exact Nat.le_of_eq rfl) (hb hby at_326) (fun _ _ => ⟨rfl, rfl, (by decide : 26 + 0 ≤ _), (by decide : 104 + 0 ≤ _)⟩)
            dsimp only [Pt.U, Pt.locs, Pt.cells, Pt.slots] at X42 l42 y42 z42 st42 hQ42
            subst l42 y42 z42
            obtain ⟨rfl, N42q, hh42⟩ := hQ42
            have N42 := Fr.app N27 N42q
            refine own_of (fun _ k => st42.trans k) ?_
            show own_Out p e below _ (T42.setTop (mkF m 329 #[iv p0, iv p1, .val (.long q2), .second, .val (.long q3), .second, .val (.long q4), .second, iv p5, iv lia, iv lib, iv lja, iv ljb, iv ia0, iv ia1, iv ib0, iv ib1, iv ja0, iv ja1, iv jb0, iv jb1, rv r1, rv r3, rv r7, rv r11, iv 0, iv 0, .val (.long (q2 ^^^ q4)), .second, .val (.long (q3 ^^^ q4)), .second, rv b17, rv b25, iv (((p5.toUInt32 >>> ((2 : Int32) &&& 31).toUInt32).toInt32) &&& (7 : Int32)), .unset] [.int 1]))
            refine o_ifN X42 hx hby at_329 ((if0 _ _).trans (feq (by decide : ¬ ((1 : Int32) = (0 : Int32)))).1) (q := 332) rfl ?_
            refine o_aload X42 hx hby at_332 rfl rfl (q := 334) rfl ?_
            refine o_aload X42 hx hby at_334 rfl rfl (q := 336) rfl ?_
            have qz52 := (qz28.keep K27)
            have qz53 := (qz29.keep K27)
            obtain ⟨cq51, kq51, q51a, q51b, q51c⟩ := isOf hZ27 hh42 E27
            obtain ⟨_, _, ⟨T51, L51, k51, n51⟩, -, X51, ⟨Lc51, hQ51, l51, y51, z51⟩, st51⟩ := X42.virtualBack hx (y := (⟨"com/example/collector_urchin/collectorurchin/store/StampedRecord", "equals", "(Ljava/lang/Object;)Z"⟩ : MethodName)) (z := (⟨"com/example/collector_urchin/collectorurchin/store/StampedRecord", "equals", "(Ljava/lang/Object;)Z"⟩ : MethodName)) hown27 (mvT hZ27 (w_ hw 51 rfl)) (mvT hZ27 (w_ hw 52 rfl)) (notFace_of_selects (args := #[]) (mvT hZ27 (w_ hw 54 rfl))) (mvT hZ27 (w_ hw 54 rfl)) (mvT hZ27 (w_ hw 53 rfl)) (by decide) (backOf (W := 0) (rm8f l Z a0 hw [] b25 r3 r11 (q2 ^^^ q4) (q3 ^^^ q4) T27.heap n0 qz50 E27 F27_id F27_body qz52 qz53 F27_created F27_modified) hZ27 (w_ hw 55 rfl) (w_ hw 28 rfl) (by decide) (by decide)) q51a q51c (g := (mkF m 336 #[iv p0, iv p1, .val (.long q2), .second, .val (.long q3), .second, .val (.long q4), .second, iv p5, iv lia, iv lib, iv lja, iv ljb, iv ia0, iv ia1, iv ib0, iv ib1, iv ja0, iv ja1, iv jb0, iv jb1, rv r1, rv r3, rv r7, rv r11, iv 0, iv 0, .val (.long (q2 ^^^ q4)), .second, .val (.long (q3 ^^^ q4)), .second, rv b17, rv b25, iv (((p5.toUInt32 >>> ((2 : Int32) &&& 31).toUInt32).toInt32) &&& (7 : Int32)), .unset] [.ref b25, .ref b25])) rfl (by rw [hml]; rfl) (Steps.refl _) (argsL := [(.ref b25)]) (rest := []) (lenOf pd_7 rfl) rfl (by show 2 * 0 + _ ≤ _; exact Nat.le_of_eq rfl) (hb hby at_336) (fun _ _ => ⟨rfl, hh42, (by decide : 26 + 0 ≤ _), (by decide : 104 + 0 ≤ _)⟩)
            dsimp only [Pt.U, Pt.locs, Pt.cells, Pt.slots] at X51 l51 y51 z51 st51 hQ51
            subst l51 y51 z51
            obtain ⟨rfl, N51q, hh51⟩ := hQ51
            have N51 := Fr.app N42 N51q
            refine own_of (fun _ k => st51.trans k) ?_
            show own_Out p e below _ (T51.setTop (mkF m 339 #[iv p0, iv p1, .val (.long q2), .second, .val (.long q3), .second, .val (.long q4), .second, iv p5, iv lia, iv lib, iv lja, iv ljb, iv ia0, iv ia1, iv ib0, iv ib1, iv ja0, iv ja1, iv jb0, iv jb1, rv r1, rv r3, rv r7, rv r11, iv 0, iv 0, .val (.long (q2 ^^^ q4)), .second, .val (.long (q3 ^^^ q4)), .second, rv b17, rv b25, iv (((p5.toUInt32 >>> ((2 : Int32) &&& 31).toUInt32).toInt32) &&& (7 : Int32)), .unset] [.int 1]))
            refine o_ifN X51 hx hby at_339 ((if0 _ _).trans (feq (by decide : ¬ ((1 : Int32) = (0 : Int32)))).1) (q := 342) rfl ?_
            refine o_iconst X51 hx hby at_342 (z := 1) rfl (q := 343) rfl ?_
            refine o_goto X51 hx hby at_343 (by decide) (q := 347) (by decide) ?_
            exact own_outNW (s := s) (vm₁ := T27.vm) X51 S27 (by rw [hh51]; exact (Nat.le_refl T27.heap.size)) hx hlk (t := .boolean) hret (by simp) (hb hby at_347) (z' := (1 : Int32)) rfl (Q := Q) (hQ _ _ N51) (by decide) (by decide)
          · skip
            refine o_icY X27 hx hby at_319 (feq hc319_41).2 (by decide) (q := 348) (by decide) ?_
            refine o_iload X27 hx hby at_348 rfl (q := 350) rfl ?_
            refine o_iload X27 hx hby at_350 rfl (q := 352) rfl ?_
            refine o_iload X27 hx hby at_352 rfl (q := 354) rfl ?_
            refine o_iload X27 hx hby at_354 rfl (q := 356) rfl ?_
            refine o_iload X27 hx hby at_356 rfl (q := 358) rfl ?_
            refine o_iload X27 hx hby at_358 rfl (q := 360) rfl ?_
            have qz55 := (Nat.le_trans qz30 K27.1)
            obtain ⟨_, _, ⟨T54, L54, k54, n54⟩, -, X54, ⟨Lc54, hQ54, l54, y54, z54⟩, st54⟩ := Jvm.LawKit.callS X27 hx (y := (⟨"com/example/collector_urchin/collectorurchin/store/StampedRecordEqualsPinLaw", "sameStr", "(ICCICC)Z"⟩ : MethodName)) hown27 (mvT hZ27 (w_ hw 48 rfl)) (mvT hZ27 (w_ hw 49 rfl)) (mvT hZ27 (w_ hw 2 rfl)) (mvT hZ27 (w_ hw 50 rfl)) (by decide) (backOf (W := 0) (rm7 l Z a0 hw [] lia ia0 ia1 lib ib0 ib1 T27.heap n0 qz55 ) hZ27 (w_ hw 50 rfl) (w_ hw 2 rfl) (by decide) (by decide)) (g := (mkF m 360 #[iv p0, iv p1, .val (.long q2), .second, .val (.long q3), .second, .val (.long q4), .second, iv p5, iv lia, iv lib, iv lja, iv ljb, iv ia0, iv ia1, iv ib0, iv ib1, iv ja0, iv ja1, iv jb0, iv jb1, rv r1, rv r3, rv r7, rv r11, iv 0, iv 0, .val (.long (q2 ^^^ q4)), .second, .val (.long (q3 ^^^ q4)), .second, rv b17, rv b25, iv (((p5.toUInt32 >>> ((2 : Int32) &&& 31).toUInt32).toInt32) &&& (7 : Int32)), .unset] [.int ib1, .int ib0, .int lib, .int ia1, .int ia0, .int lia])) rfl (by rw [hml]; rfl) (argsL := [(.int lia), (.int ia0), (.int ia1), (.int lib), (.int ib0), (.int ib1)]) (rest := []) (lenOf pd_10 rfl) rfl (by show 2 * 0 + _ ≤ _; exact Nat.le_of_eq rfl) (hb hby at_360) (fun _ _ => ⟨rfl, rfl, (by decide : 26 + 0 ≤ _), (by decide : 104 + 0 ≤ _)⟩)
            dsimp only [Pt.U, Pt.locs, Pt.cells, Pt.slots] at X54 l54 y54 z54 st54 hQ54
            subst l54 y54 z54
            obtain ⟨rfl, N54q, hh54⟩ := hQ54
            have N54 := Fr.app N27 N54q
            refine own_of st54 ?_
            show own_Out p e below _ (T54.setTop (mkF m 363 #[iv p0, iv p1, .val (.long q2), .second, .val (.long q3), .second, .val (.long q4), .second, iv p5, iv lia, iv lib, iv lja, iv ljb, iv ia0, iv ia1, iv ib0, iv ib1, iv ja0, iv ja1, iv jb0, iv jb1, rv r1, rv r3, rv r7, rv r11, iv 0, iv 0, .val (.long (q2 ^^^ q4)), .second, .val (.long (q3 ^^^ q4)), .second, rv b17, rv b25, iv (((p5.toUInt32 >>> ((2 : Int32) &&& 31).toUInt32).toInt32) &&& (7 : Int32)), .unset] [.int (fss lia ia0 ia1 lib ib0 ib1)]))
            by_cases hc363_56 : (fss lia ia0 ia1 lib ib0 ib1) = (0 : Int32)
            · skip
              refine o_ifY X54 hx hby at_363 ((if0 _ _).trans (teq hc363_56).1) (by decide) (q := 412) (by decide) ?_
              refine o_iconst X54 hx hby at_412 (z := 0) rfl (q := 413) rfl ?_
              refine o_istore X54 hx hby at_413 (l' := #[iv p0, iv p1, .val (.long q2), .second, .val (.long q3), .second, .val (.long q4), .second, iv p5, iv lia, iv lib, iv lja, iv ljb, iv ia0, iv ia1, iv ib0, iv ib1, iv ja0, iv ja1, iv jb0, iv jb1, rv r1, rv r3, rv r7, rv r11, iv 0, iv 0, .val (.long (q2 ^^^ q4)), .second, .val (.long (q3 ^^^ q4)), .second, rv b17, rv b25, iv (((p5.toUInt32 >>> ((2 : Int32) &&& 31).toUInt32).toInt32) &&& (7 : Int32)), iv 0]) rfl (q := 415) rfl ?_
              refine o_aload X54 hx hby at_415 rfl rfl (q := 417) rfl ?_
              refine o_aload X54 hx hby at_417 rfl rfl (q := 419) rfl ?_
              have ne_r1_r3 : r1 ≠ r3 := Nat.ne_of_lt (Nat.lt_of_lt_of_le E1.lt hs3)
              have ne_r7_r11 : r7 ≠ r11 := Nat.ne_of_lt (Nat.lt_of_lt_of_le E7.lt hs11)
              have qz58 := ((E20.ext E25).keep K27)
              have ne_b17_b25 : b17 ≠ b25 := Nat.ne_of_lt (Nat.lt_of_lt_of_le (Nat.lt_of_lt_of_le A17.lt K20.1) (Nat.le_of_eq g25.symm))
              have qz59 := ((F20_id.ext E25).keep K27 (ninS ne_b17_b25 nin0))
              have qz60 := (((qz21.keep K20).ext E25).keep K27)
              have ne_r1_b17 : r1 ≠ b17 := Nat.ne_of_lt (Nat.lt_of_lt_of_le (Nat.lt_of_lt_of_le (Nat.lt_of_lt_of_le (Nat.lt_of_lt_of_le E1.lt K3.1) K7.1) K11.1) (Nat.le_of_eq g17.symm))
              have ne_r1_b25 : r1 ≠ b25 := Nat.ne_of_lt (Nat.lt_of_lt_of_le (Nat.lt_of_lt_of_le (Nat.lt_of_lt_of_le (Nat.lt_of_lt_of_le (Nat.lt_of_lt_of_le (Nat.lt_of_lt_of_le E1.lt K3.1) K7.1) K11.1) E17.1) K20.1) (Nat.le_of_eq g25.symm))
              have qz61 := (((((((Fv1.keep K3 nin0).keep K7 nin0).keep K11 nin0).ext E17).keep K20 (ninS ne_r1_b17 nin0)).ext E25).keep K27 (ninS ne_r1_b25 nin0))
              have qz62 := (((((((Fc1.keep K3 nin0).keep K7 nin0).keep K11 nin0).ext E17).keep K20 (ninS ne_r1_b17 nin0)).ext E25).keep K27 (ninS ne_r1_b25 nin0))
              have ne_b1_b17 : b1 ≠ b17 := Nat.ne_of_lt (Nat.lt_of_lt_of_le (Nat.lt_of_lt_of_le (Nat.lt_of_lt_of_le (Nat.lt_of_lt_of_le V1.lt K3.1) K7.1) K11.1) (Nat.le_of_eq g17.symm))
              have ne_b1_b25 : b1 ≠ b25 := Nat.ne_of_lt (Nat.lt_of_lt_of_le (Nat.lt_of_lt_of_le (Nat.lt_of_lt_of_le (Nat.lt_of_lt_of_le (Nat.lt_of_lt_of_le (Nat.lt_of_lt_of_le V1.lt K3.1) K7.1) K11.1) E17.1) K20.1) (Nat.le_of_eq g25.symm))
              have qz63 := (((((((V1.keep K3 nin0).keep K7 nin0).keep K11 nin0).ext E17).keep K20 (ninS ne_b1_b17 nin0)).ext E25).keep K27 (ninS ne_b1_b25 nin0))
              have qz64 := ((F20_body.ext E25).keep K27 (ninS ne_b17_b25 nin0))
              have qz65 := (((qz22.keep K20).ext E25).keep K27)
              have ne_r7_b17 : r7 ≠ b17 := Nat.ne_of_lt (Nat.lt_of_lt_of_le (Nat.lt_of_lt_of_le E7.lt K11.1) (Nat.le_of_eq g17.symm))
              have ne_r7_b25 : r7 ≠ b25 := Nat.ne_of_lt (Nat.lt_of_lt_of_le (Nat.lt_of_lt_of_le (Nat.lt_of_lt_of_le (Nat.lt_of_lt_of_le E7.lt K11.1) E17.1) K20.1) (Nat.le_of_eq g25.symm))
              have qz66 := (((((Fv7.keep K11 nin0).ext E17).keep K20 (ninS ne_r7_b17 nin0)).ext E25).keep K27 (ninS ne_r7_b25 nin0))
              have qz67 := (((((Fc7.keep K11 nin0).ext E17).keep K20 (ninS ne_r7_b17 nin0)).ext E25).keep K27 (ninS ne_r7_b25 nin0))
              have ne_b7_b17 : b7 ≠ b17 := Nat.ne_of_lt (Nat.lt_of_lt_of_le (Nat.lt_of_lt_of_le V7.lt K11.1) (Nat.le_of_eq g17.symm))
              have ne_b7_b25 : b7 ≠ b25 := Nat.ne_of_lt (Nat.lt_of_lt_of_le (Nat.lt_of_lt_of_le (Nat.lt_of_lt_of_le (Nat.lt_of_lt_of_le V7.lt K11.1) E17.1) K20.1) (Nat.le_of_eq g25.symm))
              have qz68 := (((((V7.keep K11 nin0).ext E17).keep K20 (ninS ne_b7_b17 nin0)).ext E25).keep K27 (ninS ne_b7_b25 nin0))
              have qz69 := ((F20_created.ext E25).keep K27 (ninS ne_b17_b25 nin0))
              have qz70 := ((F20_modified.ext E25).keep K27 (ninS ne_b17_b25 nin0))
              have qz71 := (qz28.keep K27)
              have ne_r3_b17 : r3 ≠ b17 := Nat.ne_of_lt (Nat.lt_of_lt_of_le (Nat.lt_of_lt_of_le (Nat.lt_of_lt_of_le E3.lt K7.1) K11.1) (Nat.le_of_eq g17.symm))
              have ne_r3_b25 : r3 ≠ b25 := Nat.ne_of_lt (Nat.lt_of_lt_of_le (Nat.lt_of_lt_of_le (Nat.lt_of_lt_of_le (Nat.lt_of_lt_of_le (Nat.lt_of_lt_of_le E3.lt K7.1) K11.1) E17.1) K20.1) (Nat.le_of_eq g25.symm))
              have qz72 := ((((((Fv3.keep K7 nin0).keep K11 nin0).ext E17).keep K20 (ninS ne_r3_b17 nin0)).ext E25).keep K27 (ninS ne_r3_b25 nin0))
              have qz73 := ((((((Fc3.keep K7 nin0).keep K11 nin0).ext E17).keep K20 (ninS ne_r3_b17 nin0)).ext E25).keep K27 (ninS ne_r3_b25 nin0))
              have ne_b3_b17 : b3 ≠ b17 := Nat.ne_of_lt (Nat.lt_of_lt_of_le (Nat.lt_of_lt_of_le (Nat.lt_of_lt_of_le V3.lt K7.1) K11.1) (Nat.le_of_eq g17.symm))
              have ne_b3_b25 : b3 ≠ b25 := Nat.ne_of_lt (Nat.lt_of_lt_of_le (Nat.lt_of_lt_of_le (Nat.lt_of_lt_of_le (Nat.lt_of_lt_of_le (Nat.lt_of_lt_of_le V3.lt K7.1) K11.1) E17.1) K20.1) (Nat.le_of_eq g25.symm))
              have qz74 := ((((((V3.keep K7 nin0).keep K11 nin0).ext E17).keep K20 (ninS ne_b3_b17 nin0)).ext E25).keep K27 (ninS ne_b3_b25 nin0))
              have qz75 := (qz29.keep K27)
              have ne_r11_b17 : r11 ≠ b17 := Nat.ne_of_lt (Nat.lt_of_lt_of_le E11.lt (Nat.le_of_eq g17.symm))
              have ne_r11_b25 : r11 ≠ b25 := Nat.ne_of_lt (Nat.lt_of_lt_of_le (Nat.lt_of_lt_of_le (Nat.lt_of_lt_of_le E11.lt E17.1) K20.1) (Nat.le_of_eq g25.symm))
              have qz76 := ((((Fv11.ext E17).keep K20 (ninS ne_r11_b17 nin0)).ext E25).keep K27 (ninS ne_r11_b25 nin0))
              have qz77 := ((((Fc11.ext E17).keep K20 (ninS ne_r11_b17 nin0)).ext E25).keep K27 (ninS ne_r11_b25 nin0))
              have ne_b11_b17 : b11 ≠ b17 := Nat.ne_of_lt (Nat.lt_of_lt_of_le V11.lt (Nat.le_of_eq g17.symm))
              have ne_b11_b25 : b11 ≠ b25 := Nat.ne_of_lt (Nat.lt_of_lt_of_le (Nat.lt_of_lt_of_le (Nat.lt_of_lt_of_le V11.lt E17.1) K20.1) (Nat.le_of_eq g25.symm))
              have qz78 := ((((V11.ext E17).keep K20 (ninS ne_b11_b17 nin0)).ext E25).keep K27 (ninS ne_b11_b25 nin0))
              have qz79 := (own_staK1 ((own_staK1 ((own_staK0 qz12 K11).ext E17) K20 (own_plainE A17)).ext E25) K27 (own_plainE A25))
              obtain ⟨cq57, kq57, q57a, q57b, q57c⟩ := isOf hZ27 hh54 qz58
              obtain ⟨_, _, ⟨T57, L57, k57, n57⟩, -, X57, ⟨Lc57, hQ57, l57, y57, z57⟩, st57⟩ := X54.virtualBack hx (y := (⟨"com/example/collector_urchin/collectorurchin/store/StampedRecord", "equals", "(Ljava/lang/Object;)Z"⟩ : MethodName)) (z := (⟨"com/example/collector_urchin/collectorurchin/store/StampedRecord", "equals", "(Ljava/lang/Object;)Z"⟩ : MethodName)) hown27 (mvT hZ27 (w_ hw 51 rfl)) (mvT hZ27 (w_ hw 52 rfl)) (notFace_of_selects (args := #[]) (mvT hZ27 (w_ hw 54 rfl))) (mvT hZ27 (w_ hw 54 rfl)) (mvT hZ27 (w_ hw 53 rfl)) (by decide) (backOf (W := 0) (rm8c l Z a0 hw [] b17 b25 r1 b1 k1 lia ((ia0.toInt8.toInt32).toInt8.toInt32) ((ia1.toInt8.toInt32).toInt8.toInt32) r7 b7 k7 lja ((ja0.toInt8.toInt32).toInt8.toInt32) ((ja1.toInt8.toInt32).toInt8.toInt32) q2 q3 r3 b3 k3 lib ((ib0.toInt8.toInt32).toInt8.toInt32) ((ib1.toInt8.toInt32).toInt8.toInt32) r11 b11 k11 ljb ((jb0.toInt8.toInt32).toInt8.toInt32) ((jb1.toInt8.toInt32).toInt8.toInt32) (q2 ^^^ q4) (q3 ^^^ q4) cs T27.heap n0 qz55 qz58 E27 qz59 qz60 qz61 qz62 qz63 hl_lia qz64 qz65 qz66 qz67 qz68 hl_lja qz69 qz70 F27_id qz71 qz72 qz73 qz74 hl_lib F27_body qz75 qz76 qz77 qz78 hl_ljb F27_created F27_modified qz79 hcs ne_r1_r3 ne_r7_r11) hZ27 (w_ hw 55 rfl) (w_ hw 28 rfl) (by decide) (by decide)) q57a q57c (g := (mkF m 419 #[iv p0, iv p1, .val (.long q2), .second, .val (.long q3), .second, .val (.long q4), .second, iv p5, iv lia, iv lib, iv lja, iv ljb, iv ia0, iv ia1, iv ib0, iv ib1, iv ja0, iv ja1, iv jb0, iv jb1, rv r1, rv r3, rv r7, rv r11, iv 0, iv 0, .val (.long (q2 ^^^ q4)), .second, .val (.long (q3 ^^^ q4)), .second, rv b17, rv b25, iv (((p5.toUInt32 >>> ((2 : Int32) &&& 31).toUInt32).toInt32) &&& (7 : Int32)), iv 0] [.ref b25, .ref b17])) rfl (by rw [hml]; rfl) (Steps.refl _) (argsL := [(.ref b25)]) (rest := []) (lenOf pd_7 rfl) rfl (by show 2 * 0 + _ ≤ _; exact Nat.le_of_eq rfl) (hb hby at_419) (fun _ _ => ⟨rfl, hh54, (by decide : 26 + 0 ≤ _), (by decide : 104 + 0 ≤ _)⟩)
              dsimp only [Pt.U, Pt.locs, Pt.cells, Pt.slots] at X57 l57 y57 z57 st57 hQ57
              subst l57 y57 z57
              obtain ⟨rfl, N57q, hh57⟩ := hQ57
              have N57 := Fr.app N54 N57q
              refine own_of (fun _ k => st57.trans k) ?_
              show own_Out p e below _ (T57.setTop (mkF m 422 #[iv p0, iv p1, .val (.long q2), .second, .val (.long q3), .second, .val (.long q4), .second, iv p5, iv lia, iv lib, iv lja, iv ljb, iv ia0, iv ia1, iv ib0, iv ib1, iv ja0, iv ja1, iv jb0, iv jb1, rv r1, rv r3, rv r7, rv r11, iv 0, iv 0, .val (.long (q2 ^^^ q4)), .second, .val (.long (q3 ^^^ q4)), .second, rv b17, rv b25, iv (((p5.toUInt32 >>> ((2 : Int32) &&& 31).toUInt32).toInt32) &&& (7 : Int32)), iv 0] [.int (fqe lia ((ia0.toInt8.toInt32).toInt8.toInt32) ((ia1.toInt8.toInt32).toInt8.toInt32) lja ((ja0.toInt8.toInt32).toInt8.toInt32) ((ja1.toInt8.toInt32).toInt8.toInt32) q2 q3 lib ((ib0.toInt8.toInt32).toInt8.toInt32) ((ib1.toInt8.toInt32).toInt8.toInt32) ljb ((jb0.toInt8.toInt32).toInt8.toInt32) ((jb1.toInt8.toInt32).toInt8.toInt32) (q2 ^^^ q4) (q3 ^^^ q4) cs)]))
              refine o_iload X57 hx hby at_422 rfl (q := 424) rfl ?_
              by_cases hc424_80 : (fqe lia ((ia0.toInt8.toInt32).toInt8.toInt32) ((ia1.toInt8.toInt32).toInt8.toInt32) lja ((ja0.toInt8.toInt32).toInt8.toInt32) ((ja1.toInt8.toInt32).toInt8.toInt32) q2 q3 lib ((ib0.toInt8.toInt32).toInt8.toInt32) ((ib1.toInt8.toInt32).toInt8.toInt32) ljb ((jb0.toInt8.toInt32).toInt8.toInt32) ((jb1.toInt8.toInt32).toInt8.toInt32) (q2 ^^^ q4) (q3 ^^^ q4) cs) = (0 : Int32)
              · skip
                refine o_icN X57 hx hby at_424 (teq hc424_80).2 (q := 427) rfl ?_
                refine o_aload X57 hx hby at_427 rfl rfl (q := 429) rfl ?_
                refine o_aload X57 hx hby at_429 rfl rfl (q := 431) rfl ?_
                obtain ⟨cq81, kq81, q81a, q81b, q81c⟩ := isOf hZ27 hh57 E27
                obtain ⟨_, _, ⟨T81, L81, k81, n81⟩, -, X81, ⟨Lc81, hQ81, l81, y81, z81⟩, st81⟩ := X57.virtualBack hx (y := (⟨"com/example/collector_urchin/collectorurchin/store/StampedRecord", "equals", "(Ljava/lang/Object;)Z"⟩ : MethodName)) (z := (⟨"com/example/collector_urchin/collectorurchin/store/StampedRecord", "equals", "(Ljava/lang/Object;)Z"⟩ : MethodName)) hown27 (mvT hZ27 (w_ hw 51 rfl)) (mvT hZ27 (w_ hw 52 rfl)) (notFace_of_selects (args := #[]) (mvT hZ27 (w_ hw 54 rfl))) (mvT hZ27 (w_ hw 54 rfl)) (mvT hZ27 (w_ hw 53 rfl)) (by decide) (backOf (W := 0) (rm8c l Z a0 hw [] b25 b17 r3 b3 k3 lib ((ib0.toInt8.toInt32).toInt8.toInt32) ((ib1.toInt8.toInt32).toInt8.toInt32) r11 b11 k11 ljb ((jb0.toInt8.toInt32).toInt8.toInt32) ((jb1.toInt8.toInt32).toInt8.toInt32) (q2 ^^^ q4) (q3 ^^^ q4) r1 b1 k1 lia ((ia0.toInt8.toInt32).toInt8.toInt32) ((ia1.toInt8.toInt32).toInt8.toInt32) r7 b7 k7 lja ((ja0.toInt8.toInt32).toInt8.toInt32) ((ja1.toInt8.toInt32).toInt8.toInt32) q2 q3 cs T27.heap n0 qz55 E27 qz58 F27_id qz71 qz72 qz73 qz74 hl_lib F27_body qz75 qz76 qz77 qz78 hl_ljb F27_created F27_modified qz59 qz60 qz61 qz62 qz63 hl_lia qz64 qz65 qz66 qz67 qz68 hl_lja qz69 qz70 qz79 hcs (Ne.symm ne_r1_r3) (Ne.symm ne_r7_r11)) hZ27 (w_ hw 55 rfl) (w_ hw 28 rfl) (by decide) (by decide)) q81a q81c (g := (mkF m 431 #[iv p0, iv p1, .val (.long q2), .second, .val (.long q3), .second, .val (.long q4), .second, iv p5, iv lia, iv lib, iv lja, iv ljb, iv ia0, iv ia1, iv ib0, iv ib1, iv ja0, iv ja1, iv jb0, iv jb1, rv r1, rv r3, rv r7, rv r11, iv 0, iv 0, .val (.long (q2 ^^^ q4)), .second, .val (.long (q3 ^^^ q4)), .second, rv b17, rv b25, iv (((p5.toUInt32 >>> ((2 : Int32) &&& 31).toUInt32).toInt32) &&& (7 : Int32)), iv 0] [.ref b17, .ref b25])) rfl (by rw [hml]; rfl) (Steps.refl _) (argsL := [(.ref b17)]) (rest := []) (lenOf pd_7 rfl) rfl (by show 2 * 0 + _ ≤ _; exact Nat.le_of_eq rfl) (hb hby at_431) (fun _ _ => ⟨rfl, hh57, (by decide : 26 + 0 ≤ _), (by decide : 104 + 0 ≤ _)⟩)
                dsimp only [Pt.U, Pt.locs, Pt.cells, Pt.slots] at X81 l81 y81 z81 st81 hQ81
                subst l81 y81 z81
                obtain ⟨rfl, N81q, hh81⟩ := hQ81
                have N81 := Fr.app N57 N81q
                refine own_of (fun _ k => st81.trans k) ?_
                show own_Out p e below _ (T81.setTop (mkF m 434 #[iv p0, iv p1, .val (.long q2), .second, .val (.long q3), .second, .val (.long q4), .second, iv p5, iv lia, iv lib, iv lja, iv ljb, iv ia0, iv ia1, iv ib0, iv ib1, iv ja0, iv ja1, iv jb0, iv jb1, rv r1, rv r3, rv r7, rv r11, iv 0, iv 0, .val (.long (q2 ^^^ q4)), .second, .val (.long (q3 ^^^ q4)), .second, rv b17, rv b25, iv (((p5.toUInt32 >>> ((2 : Int32) &&& 31).toUInt32).toInt32) &&& (7 : Int32)), iv 0] [.int (fqe lib ((ib0.toInt8.toInt32).toInt8.toInt32) ((ib1.toInt8.toInt32).toInt8.toInt32) ljb ((jb0.toInt8.toInt32).toInt8.toInt32) ((jb1.toInt8.toInt32).toInt8.toInt32) (q2 ^^^ q4) (q3 ^^^ q4) lia ((ia0.toInt8.toInt32).toInt8.toInt32) ((ia1.toInt8.toInt32).toInt8.toInt32) lja ((ja0.toInt8.toInt32).toInt8.toInt32) ((ja1.toInt8.toInt32).toInt8.toInt32) q2 q3 cs)]))
                refine o_iload X81 hx hby at_434 rfl (q := 436) rfl ?_
                by_cases hc436_82 : (fqe lib ((ib0.toInt8.toInt32).toInt8.toInt32) ((ib1.toInt8.toInt32).toInt8.toInt32) ljb ((jb0.toInt8.toInt32).toInt8.toInt32) ((jb1.toInt8.toInt32).toInt8.toInt32) (q2 ^^^ q4) (q3 ^^^ q4) lia ((ia0.toInt8.toInt32).toInt8.toInt32) ((ia1.toInt8.toInt32).toInt8.toInt32) lja ((ja0.toInt8.toInt32).toInt8.toInt32) ((ja1.toInt8.toInt32).toInt8.toInt32) q2 q3 cs) = (0 : Int32)
                · skip
                  refine o_icN X81 hx hby at_436 (teq hc436_82).2 (q := 439) rfl ?_
                  refine o_iconst X81 hx hby at_439 (z := 1) rfl (q := 440) rfl ?_
                  refine o_goto X81 hx hby at_440 (by decide) (q := 444) (by decide) ?_
                  exact own_outNW (s := s) (vm₁ := T27.vm) X81 S27 (by rw [hh81]; exact (Nat.le_refl T27.heap.size)) hx hlk (t := .boolean) hret (by simp) (hb hby at_444) (z' := (1 : Int32)) rfl (Q := Q) (hQ _ _ N81) (by decide) (by decide)
                · skip
                  refine o_icY X81 hx hby at_436 (feq hc436_82).2 (by decide) (q := 443) (by decide) ?_
                  refine o_iconst X81 hx hby at_443 (z := 0) rfl (q := 444) rfl ?_
                  exact (sg125_dead0 p0 p1 q2 q3 q4 p5 lia lib lja ljb ia0 ia1 ib0 ib1 ja0 ja1 jb0 jb1 cs hcs hl_lia hl_lib hl_lja hl_ljb hr_ia0 hr_ia1 hr_ib0 hr_ib1 hr_ja0 hr_ja1 hr_jb0 hr_jb1 hc173_15 hc187_16 hc274_32 hc296_36 hc319_41 hc363_56 hc424_80 hc436_82).elim
              · skip
                refine o_icY X57 hx hby at_424 (feq hc424_80).2 (by decide) (q := 443) (by decide) ?_
                refine o_iconst X57 hx hby at_443 (z := 0) rfl (q := 444) rfl ?_
                exact (sg125_dead1 p0 p1 q2 q3 q4 p5 lia lib lja ljb ia0 ia1 ib0 ib1 ja0 ja1 jb0 jb1 cs hcs hl_lia hl_lib hl_lja hl_ljb hr_ia0 hr_ia1 hr_ib0 hr_ib1 hr_ja0 hr_ja1 hr_jb0 hr_jb1 hc173_15 hc187_16 hc274_32 hc296_36 hc319_41 hc363_56 hc424_80).elim
            · skip
              refine o_ifN X54 hx hby at_363 ((if0 _ _).trans (feq hc363_56).1) (q := 366) rfl ?_
              refine o_iload X54 hx hby at_366 rfl (q := 368) rfl ?_
              refine o_iload X54 hx hby at_368 rfl (q := 370) rfl ?_
              refine o_iload X54 hx hby at_370 rfl (q := 372) rfl ?_
              refine o_iload X54 hx hby at_372 rfl (q := 374) rfl ?_
              refine o_iload X54 hx hby at_374 rfl (q := 376) rfl ?_
              refine o_iload X54 hx hby at_376 rfl (q := 378) rfl ?_
              obtain ⟨_, _, ⟨T83, L83, k83, n83⟩, -, X83, ⟨Lc83, hQ83, l83, y83, z83⟩, st83⟩ := Jvm.LawKit.callS X54 hx (y := (⟨"com/example/collector_urchin/collectorurchin/store/StampedRecordEqualsPinLaw", "sameStr", "(ICCICC)Z"⟩ : MethodName)) hown27 (mvT hZ27 (w_ hw 48 rfl)) (mvT hZ27 (w_ hw 49 rfl)) (mvT hZ27 (w_ hw 2 rfl)) (mvT hZ27 (w_ hw 50 rfl)) (by decide) (backOf (W := 0) (rm7 l Z a0 hw [] lja ja0 ja1 ljb jb0 jb1 T27.heap n0 qz55 ) hZ27 (w_ hw 50 rfl) (w_ hw 2 rfl) (by decide) (by decide)) (g := (mkF m 378 #[iv p0, iv p1, .val (.long q2), .second, .val (.long q3), .second, .val (.long q4), .second, iv p5, iv lia, iv lib, iv lja, iv ljb, iv ia0, iv ia1, iv ib0, iv ib1, iv ja0, iv ja1, iv jb0, iv jb1, rv r1, rv r3, rv r7, rv r11, iv 0, iv 0, .val (.long (q2 ^^^ q4)), .second, .val (.long (q3 ^^^ q4)), .second, rv b17, rv b25, iv (((p5.toUInt32 >>> ((2 : Int32) &&& 31).toUInt32).toInt32) &&& (7 : Int32)), .unset] [.int jb1, .int jb0, .int ljb, .int ja1, .int ja0, .int lja])) rfl (by rw [hml]; rfl) (argsL := [(.int lja), (.int ja0), (.int ja1), (.int ljb), (.int jb0), (.int jb1)]) (rest := []) (lenOf pd_10 rfl) rfl (by show 2 * 0 + _ ≤ _; exact Nat.le_of_eq rfl) (hb hby at_378) (fun _ _ => ⟨rfl, hh54, (by decide : 26 + 0 ≤ _), (by decide : 104 + 0 ≤ _)⟩)
              dsimp only [Pt.U, Pt.locs, Pt.cells, Pt.slots] at X83 l83 y83 z83 st83 hQ83
              subst l83 y83 z83
              obtain ⟨rfl, N83q, hh83⟩ := hQ83
              have N83 := Fr.app N54 N83q
              refine own_of st83 ?_
              show own_Out p e below _ (T83.setTop (mkF m 381 #[iv p0, iv p1, .val (.long q2), .second, .val (.long q3), .second, .val (.long q4), .second, iv p5, iv lia, iv lib, iv lja, iv ljb, iv ia0, iv ia1, iv ib0, iv ib1, iv ja0, iv ja1, iv jb0, iv jb1, rv r1, rv r3, rv r7, rv r11, iv 0, iv 0, .val (.long (q2 ^^^ q4)), .second, .val (.long (q3 ^^^ q4)), .second, rv b17, rv b25, iv (((p5.toUInt32 >>> ((2 : Int32) &&& 31).toUInt32).toInt32) &&& (7 : Int32)), .unset] [.int (fss lja ja0 ja1 ljb jb0 jb1)]))
              by_cases hc381_84 : (fss lja ja0 ja1 ljb jb0 jb1) = (0 : Int32)
              · skip
                refine o_ifY X83 hx hby at_381 ((if0 _ _).trans (teq hc381_84).1) (by decide) (q := 412) (by decide) ?_
                refine o_iconst X83 hx hby at_412 (z := 0) rfl (q := 413) rfl ?_
                refine o_istore X83 hx hby at_413 (l' := #[iv p0, iv p1, .val (.long q2), .second, .val (.long q3), .second, .val (.long q4), .second, iv p5, iv lia, iv lib, iv lja, iv ljb, iv ia0, iv ia1, iv ib0, iv ib1, iv ja0, iv ja1, iv jb0, iv jb1, rv r1, rv r3, rv r7, rv r11, iv 0, iv 0, .val (.long (q2 ^^^ q4)), .second, .val (.long (q3 ^^^ q4)), .second, rv b17, rv b25, iv (((p5.toUInt32 >>> ((2 : Int32) &&& 31).toUInt32).toInt32) &&& (7 : Int32)), iv 0]) rfl (q := 415) rfl ?_
                refine o_aload X83 hx hby at_415 rfl rfl (q := 417) rfl ?_
                refine o_aload X83 hx hby at_417 rfl rfl (q := 419) rfl ?_
                have ne_r1_r3 : r1 ≠ r3 := Nat.ne_of_lt (Nat.lt_of_lt_of_le E1.lt hs3)
                have ne_r7_r11 : r7 ≠ r11 := Nat.ne_of_lt (Nat.lt_of_lt_of_le E7.lt hs11)
                have qz86 := ((E20.ext E25).keep K27)
                have ne_b17_b25 : b17 ≠ b25 := Nat.ne_of_lt (Nat.lt_of_lt_of_le (Nat.lt_of_lt_of_le A17.lt K20.1) (Nat.le_of_eq g25.symm))
                have qz87 := ((F20_id.ext E25).keep K27 (ninS ne_b17_b25 nin0))
                have qz88 := (((qz21.keep K20).ext E25).keep K27)
                have ne_r1_b17 : r1 ≠ b17 := Nat.ne_of_lt (Nat.lt_of_lt_of_le (Nat.lt_of_lt_of_le (Nat.lt_of_lt_of_le (Nat.lt_of_lt_of_le E1.lt K3.1) K7.1) K11.1) (Nat.le_of_eq g17.symm))
                have ne_r1_b25 : r1 ≠ b25 := Nat.ne_of_lt (Nat.lt_of_lt_of_le (Nat.lt_of_lt_of_le (Nat.lt_of_lt_of_le (Nat.lt_of_lt_of_le (Nat.lt_of_lt_of_le (Nat.lt_of_lt_of_le E1.lt K3.1) K7.1) K11.1) E17.1) K20.1) (Nat.le_of_eq g25.symm))
                have qz89 := (((((((Fv1.keep K3 nin0).keep K7 nin0).keep K11 nin0).ext E17).keep K20 (ninS ne_r1_b17 nin0)).ext E25).keep K27 (ninS ne_r1_b25 nin0))
                have qz90 := (((((((Fc1.keep K3 nin0).keep K7 nin0).keep K11 nin0).ext E17).keep K20 (ninS ne_r1_b17 nin0)).ext E25).keep K27 (ninS ne_r1_b25 nin0))
                have ne_b1_b17 : b1 ≠ b17 := Nat.ne_of_lt (Nat.lt_of_lt_of_le (Nat.lt_of_lt_of_le (Nat.lt_of_lt_of_le (Nat.lt_of_lt_of_le V1.lt K3.1) K7.1) K11.1) (Nat.le_of_eq g17.symm))
                have ne_b1_b25 : b1 ≠ b25 := Nat.ne_of_lt (Nat.lt_of_lt_of_le (Nat.lt_of_lt_of_le (Nat.lt_of_lt_of_le (Nat.lt_of_lt_of_le (Nat.lt_of_lt_of_le (Nat.lt_of_lt_of_le V1.lt K3.1) K7.1) K11.1) E17.1) K20.1) (Nat.le_of_eq g25.symm))
                have qz91 := (((((((V1.keep K3 nin0).keep K7 nin0).keep K11 nin0).ext E17).keep K20 (ninS ne_b1_b17 nin0)).ext E25).keep K27 (ninS ne_b1_b25 nin0))
                have qz92 := ((F20_body.ext E25).keep K27 (ninS ne_b17_b25 nin0))
                have qz93 := (((qz22.keep K20).ext E25).keep K27)
                have ne_r7_b17 : r7 ≠ b17 := Nat.ne_of_lt (Nat.lt_of_lt_of_le (Nat.lt_of_lt_of_le E7.lt K11.1) (Nat.le_of_eq g17.symm))
                have ne_r7_b25 : r7 ≠ b25 := Nat.ne_of_lt (Nat.lt_of_lt_of_le (Nat.lt_of_lt_of_le (Nat.lt_of_lt_of_le (Nat.lt_of_lt_of_le E7.lt K11.1) E17.1) K20.1) (Nat.le_of_eq g25.symm))
                have qz94 := (((((Fv7.keep K11 nin0).ext E17).keep K20 (ninS ne_r7_b17 nin0)).ext E25).keep K27 (ninS ne_r7_b25 nin0))
                have qz95 := (((((Fc7.keep K11 nin0).ext E17).keep K20 (ninS ne_r7_b17 nin0)).ext E25).keep K27 (ninS ne_r7_b25 nin0))
                have ne_b7_b17 : b7 ≠ b17 := Nat.ne_of_lt (Nat.lt_of_lt_of_le (Nat.lt_of_lt_of_le V7.lt K11.1) (Nat.le_of_eq g17.symm))
                have ne_b7_b25 : b7 ≠ b25 := Nat.ne_of_lt (Nat.lt_of_lt_of_le (Nat.lt_of_lt_of_le (Nat.lt_of_lt_of_le (Nat.lt_of_lt_of_le V7.lt K11.1) E17.1) K20.1) (Nat.le_of_eq g25.symm))
                have qz96 := (((((V7.keep K11 nin0).ext E17).keep K20 (ninS ne_b7_b17 nin0)).ext E25).keep K27 (ninS ne_b7_b25 nin0))
                have qz97 := ((F20_created.ext E25).keep K27 (ninS ne_b17_b25 nin0))
                have qz98 := ((F20_modified.ext E25).keep K27 (ninS ne_b17_b25 nin0))
                have qz99 := (qz28.keep K27)
                have ne_r3_b17 : r3 ≠ b17 := Nat.ne_of_lt (Nat.lt_of_lt_of_le (Nat.lt_of_lt_of_le (Nat.lt_of_lt_of_le E3.lt K7.1) K11.1) (Nat.le_of_eq g17.symm))
                have ne_r3_b25 : r3 ≠ b25 := Nat.ne_of_lt (Nat.lt_of_lt_of_le (Nat.lt_of_lt_of_le (Nat.lt_of_lt_of_le (Nat.lt_of_lt_of_le (Nat.lt_of_lt_of_le E3.lt K7.1) K11.1) E17.1) K20.1) (Nat.le_of_eq g25.symm))
                have qz100 := ((((((Fv3.keep K7 nin0).keep K11 nin0).ext E17).keep K20 (ninS ne_r3_b17 nin0)).ext E25).keep K27 (ninS ne_r3_b25 nin0))
                have qz101 := ((((((Fc3.keep K7 nin0).keep K11 nin0).ext E17).keep K20 (ninS ne_r3_b17 nin0)).ext E25).keep K27 (ninS ne_r3_b25 nin0))
                have ne_b3_b17 : b3 ≠ b17 := Nat.ne_of_lt (Nat.lt_of_lt_of_le (Nat.lt_of_lt_of_le (Nat.lt_of_lt_of_le V3.lt K7.1) K11.1) (Nat.le_of_eq g17.symm))
                have ne_b3_b25 : b3 ≠ b25 := Nat.ne_of_lt (Nat.lt_of_lt_of_le (Nat.lt_of_lt_of_le (Nat.lt_of_lt_of_le (Nat.lt_of_lt_of_le (Nat.lt_of_lt_of_le V3.lt K7.1) K11.1) E17.1) K20.1) (Nat.le_of_eq g25.symm))
                have qz102 := ((((((V3.keep K7 nin0).keep K11 nin0).ext E17).keep K20 (ninS ne_b3_b17 nin0)).ext E25).keep K27 (ninS ne_b3_b25 nin0))
                have qz103 := (qz29.keep K27)
                have ne_r11_b17 : r11 ≠ b17 := Nat.ne_of_lt (Nat.lt_of_lt_of_le E11.lt (Nat.le_of_eq g17.symm))
                have ne_r11_b25 : r11 ≠ b25 := Nat.ne_of_lt (Nat.lt_of_lt_of_le (Nat.lt_of_lt_of_le (Nat.lt_of_lt_of_le E11.lt E17.1) K20.1) (Nat.le_of_eq g25.symm))
                have qz104 := ((((Fv11.ext E17).keep K20 (ninS ne_r11_b17 nin0)).ext E25).keep K27 (ninS ne_r11_b25 nin0))
                have qz105 := ((((Fc11.ext E17).keep K20 (ninS ne_r11_b17 nin0)).ext E25).keep K27 (ninS ne_r11_b25 nin0))
                have ne_b11_b17 : b11 ≠ b17 := Nat.ne_of_lt (Nat.lt_of_lt_of_le V11.lt (Nat.le_of_eq g17.symm))
                have ne_b11_b25 : b11 ≠ b25 := Nat.ne_of_lt (Nat.lt_of_lt_of_le (Nat.lt_of_lt_of_le (Nat.lt_of_lt_of_le V11.lt E17.1) K20.1) (Nat.le_of_eq g25.symm))
                have qz106 := ((((V11.ext E17).keep K20 (ninS ne_b11_b17 nin0)).ext E25).keep K27 (ninS ne_b11_b25 nin0))
                have qz107 := (own_staK1 ((own_staK1 ((own_staK0 qz12 K11).ext E17) K20 (own_plainE A17)).ext E25) K27 (own_plainE A25))
                obtain ⟨cq85, kq85, q85a, q85b, q85c⟩ := isOf hZ27 hh83 qz86
                obtain ⟨_, _, ⟨T85, L85, k85, n85⟩, -, X85, ⟨Lc85, hQ85, l85, y85, z85⟩, st85⟩ := X83.virtualBack hx (y := (⟨"com/example/collector_urchin/collectorurchin/store/StampedRecord", "equals", "(Ljava/lang/Object;)Z"⟩ : MethodName)) (z := (⟨"com/example/collector_urchin/collectorurchin/store/StampedRecord", "equals", "(Ljava/lang/Object;)Z"⟩ : MethodName)) hown27 (mvT hZ27 (w_ hw 51 rfl)) (mvT hZ27 (w_ hw 52 rfl)) (notFace_of_selects (args := #[]) (mvT hZ27 (w_ hw 54 rfl))) (mvT hZ27 (w_ hw 54 rfl)) (mvT hZ27 (w_ hw 53 rfl)) (by decide) (backOf (W := 0) (rm8c l Z a0 hw [] b17 b25 r1 b1 k1 lia ((ia0.toInt8.toInt32).toInt8.toInt32) ((ia1.toInt8.toInt32).toInt8.toInt32) r7 b7 k7 lja ((ja0.toInt8.toInt32).toInt8.toInt32) ((ja1.toInt8.toInt32).toInt8.toInt32) q2 q3 r3 b3 k3 lib ((ib0.toInt8.toInt32).toInt8.toInt32) ((ib1.toInt8.toInt32).toInt8.toInt32) r11 b11 k11 ljb ((jb0.toInt8.toInt32).toInt8.toInt32) ((jb1.toInt8.toInt32).toInt8.toInt32) (q2 ^^^ q4) (q3 ^^^ q4) cs T27.heap n0 qz55 qz86 E27 qz87 qz88 qz89 qz90 qz91 hl_lia qz92 qz93 qz94 qz95 qz96 hl_lja qz97 qz98 F27_id qz99 qz100 qz101 qz102 hl_lib F27_body qz103 qz104 qz105 qz106 hl_ljb F27_created F27_modified qz107 hcs ne_r1_r3 ne_r7_r11) hZ27 (w_ hw 55 rfl) (w_ hw 28 rfl) (by decide) (by decide)) q85a q85c (g := (mkF m 419 #[iv p0, iv p1, .val (.long q2), .second, .val (.long q3), .second, .val (.long q4), .second, iv p5, iv lia, iv lib, iv lja, iv ljb, iv ia0, iv ia1, iv ib0, iv ib1, iv ja0, iv ja1, iv jb0, iv jb1, rv r1, rv r3, rv r7, rv r11, iv 0, iv 0, .val (.long (q2 ^^^ q4)), .second, .val (.long (q3 ^^^ q4)), .second, rv b17, rv b25, iv (((p5.toUInt32 >>> ((2 : Int32) &&& 31).toUInt32).toInt32) &&& (7 : Int32)), iv 0] [.ref b25, .ref b17])) rfl (by rw [hml]; rfl) (Steps.refl _) (argsL := [(.ref b25)]) (rest := []) (lenOf pd_7 rfl) rfl (by show 2 * 0 + _ ≤ _; exact Nat.le_of_eq rfl) (hb hby at_419) (fun _ _ => ⟨rfl, hh83, (by decide : 26 + 0 ≤ _), (by decide : 104 + 0 ≤ _)⟩)
                dsimp only [Pt.U, Pt.locs, Pt.cells, Pt.slots] at X85 l85 y85 z85 st85 hQ85
                subst l85 y85 z85
                obtain ⟨rfl, N85q, hh85⟩ := hQ85
                have N85 := Fr.app N83 N85q
                refine own_of (fun _ k => st85.trans k) ?_
                show own_Out p e below _ (T85.setTop (mkF m 422 #[iv p0, iv p1, .val (.long q2), .second, .val (.long q3), .second, .val (.long q4), .second, iv p5, iv lia, iv lib, iv lja, iv ljb, iv ia0, iv ia1, iv ib0, iv ib1, iv ja0, iv ja1, iv jb0, iv jb1, rv r1, rv r3, rv r7, rv r11, iv 0, iv 0, .val (.long (q2 ^^^ q4)), .second, .val (.long (q3 ^^^ q4)), .second, rv b17, rv b25, iv (((p5.toUInt32 >>> ((2 : Int32) &&& 31).toUInt32).toInt32) &&& (7 : Int32)), iv 0] [.int (fqe lia ((ia0.toInt8.toInt32).toInt8.toInt32) ((ia1.toInt8.toInt32).toInt8.toInt32) lja ((ja0.toInt8.toInt32).toInt8.toInt32) ((ja1.toInt8.toInt32).toInt8.toInt32) q2 q3 lib ((ib0.toInt8.toInt32).toInt8.toInt32) ((ib1.toInt8.toInt32).toInt8.toInt32) ljb ((jb0.toInt8.toInt32).toInt8.toInt32) ((jb1.toInt8.toInt32).toInt8.toInt32) (q2 ^^^ q4) (q3 ^^^ q4) cs)]))
                refine o_iload X85 hx hby at_422 rfl (q := 424) rfl ?_
                by_cases hc424_108 : (fqe lia ((ia0.toInt8.toInt32).toInt8.toInt32) ((ia1.toInt8.toInt32).toInt8.toInt32) lja ((ja0.toInt8.toInt32).toInt8.toInt32) ((ja1.toInt8.toInt32).toInt8.toInt32) q2 q3 lib ((ib0.toInt8.toInt32).toInt8.toInt32) ((ib1.toInt8.toInt32).toInt8.toInt32) ljb ((jb0.toInt8.toInt32).toInt8.toInt32) ((jb1.toInt8.toInt32).toInt8.toInt32) (q2 ^^^ q4) (q3 ^^^ q4) cs) = (0 : Int32)
                · skip
                  refine o_icN X85 hx hby at_424 (teq hc424_108).2 (q := 427) rfl ?_
                  refine o_aload X85 hx hby at_427 rfl rfl (q := 429) rfl ?_
                  refine o_aload X85 hx hby at_429 rfl rfl (q := 431) rfl ?_
                  obtain ⟨cq109, kq109, q109a, q109b, q109c⟩ := isOf hZ27 hh85 E27
                  obtain ⟨_, _, ⟨T109, L109, k109, n109⟩, -, X109, ⟨Lc109, hQ109, l109, y109, z109⟩, st109⟩ := X85.virtualBack hx (y := (⟨"com/example/collector_urchin/collectorurchin/store/StampedRecord", "equals", "(Ljava/lang/Object;)Z"⟩ : MethodName)) (z := (⟨"com/example/collector_urchin/collectorurchin/store/StampedRecord", "equals", "(Ljava/lang/Object;)Z"⟩ : MethodName)) hown27 (mvT hZ27 (w_ hw 51 rfl)) (mvT hZ27 (w_ hw 52 rfl)) (notFace_of_selects (args := #[]) (mvT hZ27 (w_ hw 54 rfl))) (mvT hZ27 (w_ hw 54 rfl)) (mvT hZ27 (w_ hw 53 rfl)) (by decide) (backOf (W := 0) (rm8c l Z a0 hw [] b25 b17 r3 b3 k3 lib ((ib0.toInt8.toInt32).toInt8.toInt32) ((ib1.toInt8.toInt32).toInt8.toInt32) r11 b11 k11 ljb ((jb0.toInt8.toInt32).toInt8.toInt32) ((jb1.toInt8.toInt32).toInt8.toInt32) (q2 ^^^ q4) (q3 ^^^ q4) r1 b1 k1 lia ((ia0.toInt8.toInt32).toInt8.toInt32) ((ia1.toInt8.toInt32).toInt8.toInt32) r7 b7 k7 lja ((ja0.toInt8.toInt32).toInt8.toInt32) ((ja1.toInt8.toInt32).toInt8.toInt32) q2 q3 cs T27.heap n0 qz55 E27 qz86 F27_id qz99 qz100 qz101 qz102 hl_lib F27_body qz103 qz104 qz105 qz106 hl_ljb F27_created F27_modified qz87 qz88 qz89 qz90 qz91 hl_lia qz92 qz93 qz94 qz95 qz96 hl_lja qz97 qz98 qz107 hcs (Ne.symm ne_r1_r3) (Ne.symm ne_r7_r11)) hZ27 (w_ hw 55 rfl) (w_ hw 28 rfl) (by decide) (by decide)) q109a q109c (g := (mkF m 431 #[iv p0, iv p1, .val (.long q2), .second, .val (.long q3), .second, .val (.long q4), .second, iv p5, iv lia, iv lib, iv lja, iv ljb, iv ia0, iv ia1, iv ib0, iv ib1, iv ja0, iv ja1, iv jb0, iv jb1, rv r1, rv r3, rv r7, rv r11, iv 0, iv 0, .val (.long (q2 ^^^ q4)), .second, .val (.long (q3 ^^^ q4)), .second, rv b17, rv b25, iv (((p5.toUInt32 >>> ((2 : Int32) &&& 31).toUInt32).toInt32) &&& (7 : Int32)), iv 0] [.ref b17, .ref b25])) rfl (by rw [hml]; rfl) (Steps.refl _) (argsL := [(.ref b17)]) (rest := []) (lenOf pd_7 rfl) rfl (by show 2 * 0 + _ ≤ _; exact Nat.le_of_eq rfl) (hb hby at_431) (fun _ _ => ⟨rfl, hh85, (by decide : 26 + 0 ≤ _), (by decide : 104 + 0 ≤ _)⟩)
                  dsimp only [Pt.U, Pt.locs, Pt.cells, Pt.slots] at X109 l109 y109 z109 st109 hQ109
                  subst l109 y109 z109
                  obtain ⟨rfl, N109q, hh109⟩ := hQ109
                  have N109 := Fr.app N85 N109q
                  refine own_of (fun _ k => st109.trans k) ?_
                  show own_Out p e below _ (T109.setTop (mkF m 434 #[iv p0, iv p1, .val (.long q2), .second, .val (.long q3), .second, .val (.long q4), .second, iv p5, iv lia, iv lib, iv lja, iv ljb, iv ia0, iv ia1, iv ib0, iv ib1, iv ja0, iv ja1, iv jb0, iv jb1, rv r1, rv r3, rv r7, rv r11, iv 0, iv 0, .val (.long (q2 ^^^ q4)), .second, .val (.long (q3 ^^^ q4)), .second, rv b17, rv b25, iv (((p5.toUInt32 >>> ((2 : Int32) &&& 31).toUInt32).toInt32) &&& (7 : Int32)), iv 0] [.int (fqe lib ((ib0.toInt8.toInt32).toInt8.toInt32) ((ib1.toInt8.toInt32).toInt8.toInt32) ljb ((jb0.toInt8.toInt32).toInt8.toInt32) ((jb1.toInt8.toInt32).toInt8.toInt32) (q2 ^^^ q4) (q3 ^^^ q4) lia ((ia0.toInt8.toInt32).toInt8.toInt32) ((ia1.toInt8.toInt32).toInt8.toInt32) lja ((ja0.toInt8.toInt32).toInt8.toInt32) ((ja1.toInt8.toInt32).toInt8.toInt32) q2 q3 cs)]))
                  refine o_iload X109 hx hby at_434 rfl (q := 436) rfl ?_
                  by_cases hc436_110 : (fqe lib ((ib0.toInt8.toInt32).toInt8.toInt32) ((ib1.toInt8.toInt32).toInt8.toInt32) ljb ((jb0.toInt8.toInt32).toInt8.toInt32) ((jb1.toInt8.toInt32).toInt8.toInt32) (q2 ^^^ q4) (q3 ^^^ q4) lia ((ia0.toInt8.toInt32).toInt8.toInt32) ((ia1.toInt8.toInt32).toInt8.toInt32) lja ((ja0.toInt8.toInt32).toInt8.toInt32) ((ja1.toInt8.toInt32).toInt8.toInt32) q2 q3 cs) = (0 : Int32)
                  · skip
                    refine o_icN X109 hx hby at_436 (teq hc436_110).2 (q := 439) rfl ?_
                    refine o_iconst X109 hx hby at_439 (z := 1) rfl (q := 440) rfl ?_
                    refine o_goto X109 hx hby at_440 (by decide) (q := 444) (by decide) ?_
                    exact own_outNW (s := s) (vm₁ := T27.vm) X109 S27 (by rw [hh109]; exact (Nat.le_refl T27.heap.size)) hx hlk (t := .boolean) hret (by simp) (hb hby at_444) (z' := (1 : Int32)) rfl (Q := Q) (hQ _ _ N109) (by decide) (by decide)
                  · skip
                    refine o_icY X109 hx hby at_436 (feq hc436_110).2 (by decide) (q := 443) (by decide) ?_
                    refine o_iconst X109 hx hby at_443 (z := 0) rfl (q := 444) rfl ?_
                    exact (sg125_dead2 p0 p1 q2 q3 q4 p5 lia lib lja ljb ia0 ia1 ib0 ib1 ja0 ja1 jb0 jb1 cs hcs hl_lia hl_lib hl_lja hl_ljb hr_ia0 hr_ia1 hr_ib0 hr_ib1 hr_ja0 hr_ja1 hr_jb0 hr_jb1 hc173_15 hc187_16 hc274_32 hc296_36 hc319_41 hc363_56 hc381_84 hc424_108 hc436_110).elim
                · skip
                  refine o_icY X85 hx hby at_424 (feq hc424_108).2 (by decide) (q := 443) (by decide) ?_
                  refine o_iconst X85 hx hby at_443 (z := 0) rfl (q := 444) rfl ?_
                  exact (sg125_dead3 p0 p1 q2 q3 q4 p5 lia lib lja ljb ia0 ia1 ib0 ib1 ja0 ja1 jb0 jb1 cs hcs hl_lia hl_lib hl_lja hl_ljb hr_ia0 hr_ia1 hr_ib0 hr_ib1 hr_ja0 hr_ja1 hr_jb0 hr_jb1 hc173_15 hc187_16 hc274_32 hc296_36 hc319_41 hc363_56 hc381_84 hc424_108).elim
              · skip
                refine o_ifN X83 hx hby at_381 ((if0 _ _).trans (feq hc381_84).1) (q := 384) rfl ?_
                refine o_iload X83 hx hby at_384 rfl (q := 386) rfl ?_
                refine o_ifN X83 hx hby at_386 ((if0 _ _).trans (teq (by decide : (0 : Int32) = (0 : Int32))).2) (q := 389) rfl ?_
                refine o_lload X83 hx hby at_389 rfl (q := 391) rfl ?_
                refine o_lconst X83 hx hby at_391 (z := 0) rfl (q := 392) rfl ?_
                refine o_lcmp X83 hx hby at_392 (q := 393) rfl ?_
                by_cases hc393_111 : q4 = (0 : Int64)
                · skip
                  refine o_ifN X83 hx hby at_393 (own_leq hc393_111).2 (q := 396) rfl ?_
                  refine o_iload X83 hx hby at_396 rfl (q := 398) rfl ?_
                  refine o_ifN X83 hx hby at_398 ((if0 _ _).trans (teq (by decide : (0 : Int32) = (0 : Int32))).2) (q := 401) rfl ?_
                  refine o_lload X83 hx hby at_401 rfl (q := 403) rfl ?_
                  refine o_lconst X83 hx hby at_403 (z := 0) rfl (q := 404) rfl ?_
                  refine o_lcmp X83 hx hby at_404 (q := 405) rfl ?_
                  refine o_ifN X83 hx hby at_405 (own_leq hc393_111).2 (q := 408) rfl ?_
                  refine o_iconst X83 hx hby at_408 (z := 1) rfl (q := 409) rfl ?_
                  refine o_goto X83 hx hby at_409 (by decide) (q := 413) (by decide) ?_
                  refine o_istore X83 hx hby at_413 (l' := #[iv p0, iv p1, .val (.long q2), .second, .val (.long q3), .second, .val (.long q4), .second, iv p5, iv lia, iv lib, iv lja, iv ljb, iv ia0, iv ia1, iv ib0, iv ib1, iv ja0, iv ja1, iv jb0, iv jb1, rv r1, rv r3, rv r7, rv r11, iv 0, iv 0, .val (.long (q2 ^^^ q4)), .second, .val (.long (q3 ^^^ q4)), .second, rv b17, rv b25, iv (((p5.toUInt32 >>> ((2 : Int32) &&& 31).toUInt32).toInt32) &&& (7 : Int32)), iv 1]) rfl (q := 415) rfl ?_
                  refine o_aload X83 hx hby at_415 rfl rfl (q := 417) rfl ?_
                  refine o_aload X83 hx hby at_417 rfl rfl (q := 419) rfl ?_
                  have ne_r1_r3 : r1 ≠ r3 := Nat.ne_of_lt (Nat.lt_of_lt_of_le E1.lt hs3)
                  have ne_r7_r11 : r7 ≠ r11 := Nat.ne_of_lt (Nat.lt_of_lt_of_le E7.lt hs11)
                  have qz113 := ((E20.ext E25).keep K27)
                  have ne_b17_b25 : b17 ≠ b25 := Nat.ne_of_lt (Nat.lt_of_lt_of_le (Nat.lt_of_lt_of_le A17.lt K20.1) (Nat.le_of_eq g25.symm))
                  have qz114 := ((F20_id.ext E25).keep K27 (ninS ne_b17_b25 nin0))
                  have qz115 := (((qz21.keep K20).ext E25).keep K27)
                  have ne_r1_b17 : r1 ≠ b17 := Nat.ne_of_lt (Nat.lt_of_lt_of_le (Nat.lt_of_lt_of_le (Nat.lt_of_lt_of_le (Nat.lt_of_lt_of_le E1.lt K3.1) K7.1) K11.1) (Nat.le_of_eq g17.symm))
                  have ne_r1_b25 : r1 ≠ b25 := Nat.ne_of_lt (Nat.lt_of_lt_of_le (Nat.lt_of_lt_of_le (Nat.lt_of_lt_of_le (Nat.lt_of_lt_of_le (Nat.lt_of_lt_of_le (Nat.lt_of_lt_of_le E1.lt K3.1) K7.1) K11.1) E17.1) K20.1) (Nat.le_of_eq g25.symm))
                  have qz116 := (((((((Fv1.keep K3 nin0).keep K7 nin0).keep K11 nin0).ext E17).keep K20 (ninS ne_r1_b17 nin0)).ext E25).keep K27 (ninS ne_r1_b25 nin0))
                  have qz117 := (((((((Fc1.keep K3 nin0).keep K7 nin0).keep K11 nin0).ext E17).keep K20 (ninS ne_r1_b17 nin0)).ext E25).keep K27 (ninS ne_r1_b25 nin0))
                  have ne_b1_b17 : b1 ≠ b17 := Nat.ne_of_lt (Nat.lt_of_lt_of_le (Nat.lt_of_lt_of_le (Nat.lt_of_lt_of_le (Nat.lt_of_lt_of_le V1.lt K3.1) K7.1) K11.1) (Nat.le_of_eq g17.symm))
                  have ne_b1_b25 : b1 ≠ b25 := Nat.ne_of_lt (Nat.lt_of_lt_of_le (Nat.lt_of_lt_of_le (Nat.lt_of_lt_of_le (Nat.lt_of_lt_of_le (Nat.lt_of_lt_of_le (Nat.lt_of_lt_of_le V1.lt K3.1) K7.1) K11.1) E17.1) K20.1) (Nat.le_of_eq g25.symm))
                  have qz118 := (((((((V1.keep K3 nin0).keep K7 nin0).keep K11 nin0).ext E17).keep K20 (ninS ne_b1_b17 nin0)).ext E25).keep K27 (ninS ne_b1_b25 nin0))
                  have qz119 := ((F20_body.ext E25).keep K27 (ninS ne_b17_b25 nin0))
                  have qz120 := (((qz22.keep K20).ext E25).keep K27)
                  have ne_r7_b17 : r7 ≠ b17 := Nat.ne_of_lt (Nat.lt_of_lt_of_le (Nat.lt_of_lt_of_le E7.lt K11.1) (Nat.le_of_eq g17.symm))
                  have ne_r7_b25 : r7 ≠ b25 := Nat.ne_of_lt (Nat.lt_of_lt_of_le (Nat.lt_of_lt_of_le (Nat.lt_of_lt_of_le (Nat.lt_of_lt_of_le E7.lt K11.1) E17.1) K20.1) (Nat.le_of_eq g25.symm))
                  have qz121 := (((((Fv7.keep K11 nin0).ext E17).keep K20 (ninS ne_r7_b17 nin0)).ext E25).keep K27 (ninS ne_r7_b25 nin0))
                  have qz122 := (((((Fc7.keep K11 nin0).ext E17).keep K20 (ninS ne_r7_b17 nin0)).ext E25).keep K27 (ninS ne_r7_b25 nin0))
                  have ne_b7_b17 : b7 ≠ b17 := Nat.ne_of_lt (Nat.lt_of_lt_of_le (Nat.lt_of_lt_of_le V7.lt K11.1) (Nat.le_of_eq g17.symm))
                  have ne_b7_b25 : b7 ≠ b25 := Nat.ne_of_lt (Nat.lt_of_lt_of_le (Nat.lt_of_lt_of_le (Nat.lt_of_lt_of_le (Nat.lt_of_lt_of_le V7.lt K11.1) E17.1) K20.1) (Nat.le_of_eq g25.symm))
                  have qz123 := (((((V7.keep K11 nin0).ext E17).keep K20 (ninS ne_b7_b17 nin0)).ext E25).keep K27 (ninS ne_b7_b25 nin0))
                  have qz124 := ((F20_created.ext E25).keep K27 (ninS ne_b17_b25 nin0))
                  have qz125 := ((F20_modified.ext E25).keep K27 (ninS ne_b17_b25 nin0))
                  have qz126 := (qz28.keep K27)
                  have ne_r3_b17 : r3 ≠ b17 := Nat.ne_of_lt (Nat.lt_of_lt_of_le (Nat.lt_of_lt_of_le (Nat.lt_of_lt_of_le E3.lt K7.1) K11.1) (Nat.le_of_eq g17.symm))
                  have ne_r3_b25 : r3 ≠ b25 := Nat.ne_of_lt (Nat.lt_of_lt_of_le (Nat.lt_of_lt_of_le (Nat.lt_of_lt_of_le (Nat.lt_of_lt_of_le (Nat.lt_of_lt_of_le E3.lt K7.1) K11.1) E17.1) K20.1) (Nat.le_of_eq g25.symm))
                  have qz127 := ((((((Fv3.keep K7 nin0).keep K11 nin0).ext E17).keep K20 (ninS ne_r3_b17 nin0)).ext E25).keep K27 (ninS ne_r3_b25 nin0))
                  have qz128 := ((((((Fc3.keep K7 nin0).keep K11 nin0).ext E17).keep K20 (ninS ne_r3_b17 nin0)).ext E25).keep K27 (ninS ne_r3_b25 nin0))
                  have ne_b3_b17 : b3 ≠ b17 := Nat.ne_of_lt (Nat.lt_of_lt_of_le (Nat.lt_of_lt_of_le (Nat.lt_of_lt_of_le V3.lt K7.1) K11.1) (Nat.le_of_eq g17.symm))
                  have ne_b3_b25 : b3 ≠ b25 := Nat.ne_of_lt (Nat.lt_of_lt_of_le (Nat.lt_of_lt_of_le (Nat.lt_of_lt_of_le (Nat.lt_of_lt_of_le (Nat.lt_of_lt_of_le V3.lt K7.1) K11.1) E17.1) K20.1) (Nat.le_of_eq g25.symm))
                  have qz129 := ((((((V3.keep K7 nin0).keep K11 nin0).ext E17).keep K20 (ninS ne_b3_b17 nin0)).ext E25).keep K27 (ninS ne_b3_b25 nin0))
                  have qz130 := (qz29.keep K27)
                  have ne_r11_b17 : r11 ≠ b17 := Nat.ne_of_lt (Nat.lt_of_lt_of_le E11.lt (Nat.le_of_eq g17.symm))
                  have ne_r11_b25 : r11 ≠ b25 := Nat.ne_of_lt (Nat.lt_of_lt_of_le (Nat.lt_of_lt_of_le (Nat.lt_of_lt_of_le E11.lt E17.1) K20.1) (Nat.le_of_eq g25.symm))
                  have qz131 := ((((Fv11.ext E17).keep K20 (ninS ne_r11_b17 nin0)).ext E25).keep K27 (ninS ne_r11_b25 nin0))
                  have qz132 := ((((Fc11.ext E17).keep K20 (ninS ne_r11_b17 nin0)).ext E25).keep K27 (ninS ne_r11_b25 nin0))
                  have ne_b11_b17 : b11 ≠ b17 := Nat.ne_of_lt (Nat.lt_of_lt_of_le V11.lt (Nat.le_of_eq g17.symm))
                  have ne_b11_b25 : b11 ≠ b25 := Nat.ne_of_lt (Nat.lt_of_lt_of_le (Nat.lt_of_lt_of_le (Nat.lt_of_lt_of_le V11.lt E17.1) K20.1) (Nat.le_of_eq g25.symm))
                  have qz133 := ((((V11.ext E17).keep K20 (ninS ne_b11_b17 nin0)).ext E25).keep K27 (ninS ne_b11_b25 nin0))
                  have qz134 := (own_staK1 ((own_staK1 ((own_staK0 qz12 K11).ext E17) K20 (own_plainE A17)).ext E25) K27 (own_plainE A25))
                  obtain ⟨cq112, kq112, q112a, q112b, q112c⟩ := isOf hZ27 hh83 qz113
                  obtain ⟨_, _, ⟨T112, L112, k112, n112⟩, -, X112, ⟨Lc112, hQ112, l112, y112, z112⟩, st112⟩ := X83.virtualBack hx (y := (⟨"com/example/collector_urchin/collectorurchin/store/StampedRecord", "equals", "(Ljava/lang/Object;)Z"⟩ : MethodName)) (z := (⟨"com/example/collector_urchin/collectorurchin/store/StampedRecord", "equals", "(Ljava/lang/Object;)Z"⟩ : MethodName)) hown27 (mvT hZ27 (w_ hw 51 rfl)) (mvT hZ27 (w_ hw 52 rfl)) (notFace_of_selects (args := #[]) (mvT hZ27 (w_ hw 54 rfl))) (mvT hZ27 (w_ hw 54 rfl)) (mvT hZ27 (w_ hw 53 rfl)) (by decide) (backOf (W := 0) (rm8c l Z a0 hw [] b17 b25 r1 b1 k1 lia ((ia0.toInt8.toInt32).toInt8.toInt32) ((ia1.toInt8.toInt32).toInt8.toInt32) r7 b7 k7 lja ((ja0.toInt8.toInt32).toInt8.toInt32) ((ja1.toInt8.toInt32).toInt8.toInt32) q2 q3 r3 b3 k3 lib ((ib0.toInt8.toInt32).toInt8.toInt32) ((ib1.toInt8.toInt32).toInt8.toInt32) r11 b11 k11 ljb ((jb0.toInt8.toInt32).toInt8.toInt32) ((jb1.toInt8.toInt32).toInt8.toInt32) (q2 ^^^ q4) (q3 ^^^ q4) cs T27.heap n0 qz55 qz113 E27 qz114 qz115 qz116 qz117 qz118 hl_lia qz119 qz120 qz121 qz122 qz123 hl_lja qz124 qz125 F27_id qz126 qz127 qz128 qz129 hl_lib F27_body qz130 qz131 qz132 qz133 hl_ljb F27_created F27_modified qz134 hcs ne_r1_r3 ne_r7_r11) hZ27 (w_ hw 55 rfl) (w_ hw 28 rfl) (by decide) (by decide)) q112a q112c (g := (mkF m 419 #[iv p0, iv p1, .val (.long q2), .second, .val (.long q3), .second, .val (.long q4), .second, iv p5, iv lia, iv lib, iv lja, iv ljb, iv ia0, iv ia1, iv ib0, iv ib1, iv ja0, iv ja1, iv jb0, iv jb1, rv r1, rv r3, rv r7, rv r11, iv 0, iv 0, .val (.long (q2 ^^^ q4)), .second, .val (.long (q3 ^^^ q4)), .second, rv b17, rv b25, iv (((p5.toUInt32 >>> ((2 : Int32) &&& 31).toUInt32).toInt32) &&& (7 : Int32)), iv 1] [.ref b25, .ref b17])) rfl (by rw [hml]; rfl) (Steps.refl _) (argsL := [(.ref b25)]) (rest := []) (lenOf pd_7 rfl) rfl (by show 2 * 0 + _ ≤ _; exact Nat.le_of_eq rfl) (hb hby at_419) (fun _ _ => ⟨rfl, hh83, (by decide : 26 + 0 ≤ _), (by decide : 104 + 0 ≤ _)⟩)
                  dsimp only [Pt.U, Pt.locs, Pt.cells, Pt.slots] at X112 l112 y112 z112 st112 hQ112
                  subst l112 y112 z112
                  obtain ⟨rfl, N112q, hh112⟩ := hQ112
                  have N112 := Fr.app N83 N112q
                  refine own_of (fun _ k => st112.trans k) ?_
                  show own_Out p e below _ (T112.setTop (mkF m 422 #[iv p0, iv p1, .val (.long q2), .second, .val (.long q3), .second, .val (.long q4), .second, iv p5, iv lia, iv lib, iv lja, iv ljb, iv ia0, iv ia1, iv ib0, iv ib1, iv ja0, iv ja1, iv jb0, iv jb1, rv r1, rv r3, rv r7, rv r11, iv 0, iv 0, .val (.long (q2 ^^^ q4)), .second, .val (.long (q3 ^^^ q4)), .second, rv b17, rv b25, iv (((p5.toUInt32 >>> ((2 : Int32) &&& 31).toUInt32).toInt32) &&& (7 : Int32)), iv 1] [.int (fqe lia ((ia0.toInt8.toInt32).toInt8.toInt32) ((ia1.toInt8.toInt32).toInt8.toInt32) lja ((ja0.toInt8.toInt32).toInt8.toInt32) ((ja1.toInt8.toInt32).toInt8.toInt32) q2 q3 lib ((ib0.toInt8.toInt32).toInt8.toInt32) ((ib1.toInt8.toInt32).toInt8.toInt32) ljb ((jb0.toInt8.toInt32).toInt8.toInt32) ((jb1.toInt8.toInt32).toInt8.toInt32) (q2 ^^^ q4) (q3 ^^^ q4) cs)]))
                  refine o_iload X112 hx hby at_422 rfl (q := 424) rfl ?_
                  by_cases hc424_135 : (fqe lia ((ia0.toInt8.toInt32).toInt8.toInt32) ((ia1.toInt8.toInt32).toInt8.toInt32) lja ((ja0.toInt8.toInt32).toInt8.toInt32) ((ja1.toInt8.toInt32).toInt8.toInt32) q2 q3 lib ((ib0.toInt8.toInt32).toInt8.toInt32) ((ib1.toInt8.toInt32).toInt8.toInt32) ljb ((jb0.toInt8.toInt32).toInt8.toInt32) ((jb1.toInt8.toInt32).toInt8.toInt32) (q2 ^^^ q4) (q3 ^^^ q4) cs) = (1 : Int32)
                  · skip
                    refine o_icN X112 hx hby at_424 (teq hc424_135).2 (q := 427) rfl ?_
                    refine o_aload X112 hx hby at_427 rfl rfl (q := 429) rfl ?_
                    refine o_aload X112 hx hby at_429 rfl rfl (q := 431) rfl ?_
                    obtain ⟨cq136, kq136, q136a, q136b, q136c⟩ := isOf hZ27 hh112 E27
                    obtain ⟨_, _, ⟨T136, L136, k136, n136⟩, -, X136, ⟨Lc136, hQ136, l136, y136, z136⟩, st136⟩ := X112.virtualBack hx (y := (⟨"com/example/collector_urchin/collectorurchin/store/StampedRecord", "equals", "(Ljava/lang/Object;)Z"⟩ : MethodName)) (z := (⟨"com/example/collector_urchin/collectorurchin/store/StampedRecord", "equals", "(Ljava/lang/Object;)Z"⟩ : MethodName)) hown27 (mvT hZ27 (w_ hw 51 rfl)) (mvT hZ27 (w_ hw 52 rfl)) (notFace_of_selects (args := #[]) (mvT hZ27 (w_ hw 54 rfl))) (mvT hZ27 (w_ hw 54 rfl)) (mvT hZ27 (w_ hw 53 rfl)) (by decide) (backOf (W := 0) (rm8c l Z a0 hw [] b25 b17 r3 b3 k3 lib ((ib0.toInt8.toInt32).toInt8.toInt32) ((ib1.toInt8.toInt32).toInt8.toInt32) r11 b11 k11 ljb ((jb0.toInt8.toInt32).toInt8.toInt32) ((jb1.toInt8.toInt32).toInt8.toInt32) (q2 ^^^ q4) (q3 ^^^ q4) r1 b1 k1 lia ((ia0.toInt8.toInt32).toInt8.toInt32) ((ia1.toInt8.toInt32).toInt8.toInt32) r7 b7 k7 lja ((ja0.toInt8.toInt32).toInt8.toInt32) ((ja1.toInt8.toInt32).toInt8.toInt32) q2 q3 cs T27.heap n0 qz55 E27 qz113 F27_id qz126 qz127 qz128 qz129 hl_lib F27_body qz130 qz131 qz132 qz133 hl_ljb F27_created F27_modified qz114 qz115 qz116 qz117 qz118 hl_lia qz119 qz120 qz121 qz122 qz123 hl_lja qz124 qz125 qz134 hcs (Ne.symm ne_r1_r3) (Ne.symm ne_r7_r11)) hZ27 (w_ hw 55 rfl) (w_ hw 28 rfl) (by decide) (by decide)) q136a q136c (g := (mkF m 431 #[iv p0, iv p1, .val (.long q2), .second, .val (.long q3), .second, .val (.long q4), .second, iv p5, iv lia, iv lib, iv lja, iv ljb, iv ia0, iv ia1, iv ib0, iv ib1, iv ja0, iv ja1, iv jb0, iv jb1, rv r1, rv r3, rv r7, rv r11, iv 0, iv 0, .val (.long (q2 ^^^ q4)), .second, .val (.long (q3 ^^^ q4)), .second, rv b17, rv b25, iv (((p5.toUInt32 >>> ((2 : Int32) &&& 31).toUInt32).toInt32) &&& (7 : Int32)), iv 1] [.ref b17, .ref b25])) rfl (by rw [hml]; rfl) (Steps.refl _) (argsL := [(.ref b17)]) (rest := []) (lenOf pd_7 rfl) rfl (by show 2 * 0 + _ ≤ _; exact Nat.le_of_eq rfl) (hb hby at_431) (fun _ _ => ⟨rfl, hh112, (by decide : 26 + 0 ≤ _), (by decide : 104 + 0 ≤ _)⟩)
                    dsimp only [Pt.U, Pt.locs, Pt.cells, Pt.slots] at X136 l136 y136 z136 st136 hQ136
                    subst l136 y136 z136
                    obtain ⟨rfl, N136q, hh136⟩ := hQ136
                    have N136 := Fr.app N112 N136q
                    refine own_of (fun _ k => st136.trans k) ?_
                    show own_Out p e below _ (T136.setTop (mkF m 434 #[iv p0, iv p1, .val (.long q2), .second, .val (.long q3), .second, .val (.long q4), .second, iv p5, iv lia, iv lib, iv lja, iv ljb, iv ia0, iv ia1, iv ib0, iv ib1, iv ja0, iv ja1, iv jb0, iv jb1, rv r1, rv r3, rv r7, rv r11, iv 0, iv 0, .val (.long (q2 ^^^ q4)), .second, .val (.long (q3 ^^^ q4)), .second, rv b17, rv b25, iv (((p5.toUInt32 >>> ((2 : Int32) &&& 31).toUInt32).toInt32) &&& (7 : Int32)), iv 1] [.int (fqe lib ((ib0.toInt8.toInt32).toInt8.toInt32) ((ib1.toInt8.toInt32).toInt8.toInt32) ljb ((jb0.toInt8.toInt32).toInt8.toInt32) ((jb1.toInt8.toInt32).toInt8.toInt32) (q2 ^^^ q4) (q3 ^^^ q4) lia ((ia0.toInt8.toInt32).toInt8.toInt32) ((ia1.toInt8.toInt32).toInt8.toInt32) lja ((ja0.toInt8.toInt32).toInt8.toInt32) ((ja1.toInt8.toInt32).toInt8.toInt32) q2 q3 cs)]))
                    refine o_iload X136 hx hby at_434 rfl (q := 436) rfl ?_
                    by_cases hc436_137 : (fqe lib ((ib0.toInt8.toInt32).toInt8.toInt32) ((ib1.toInt8.toInt32).toInt8.toInt32) ljb ((jb0.toInt8.toInt32).toInt8.toInt32) ((jb1.toInt8.toInt32).toInt8.toInt32) (q2 ^^^ q4) (q3 ^^^ q4) lia ((ia0.toInt8.toInt32).toInt8.toInt32) ((ia1.toInt8.toInt32).toInt8.toInt32) lja ((ja0.toInt8.toInt32).toInt8.toInt32) ((ja1.toInt8.toInt32).toInt8.toInt32) q2 q3 cs) = (1 : Int32)
                    · skip
                      refine o_icN X136 hx hby at_436 (teq hc436_137).2 (q := 439) rfl ?_
                      refine o_iconst X136 hx hby at_439 (z := 1) rfl (q := 440) rfl ?_
                      refine o_goto X136 hx hby at_440 (by decide) (q := 444) (by decide) ?_
                      exact own_outNW (s := s) (vm₁ := T27.vm) X136 S27 (by rw [hh136]; exact (Nat.le_refl T27.heap.size)) hx hlk (t := .boolean) hret (by simp) (hb hby at_444) (z' := (1 : Int32)) rfl (Q := Q) (hQ _ _ N136) (by decide) (by decide)
                    · skip
                      refine o_icY X136 hx hby at_436 (feq hc436_137).2 (by decide) (q := 443) (by decide) ?_
                      refine o_iconst X136 hx hby at_443 (z := 0) rfl (q := 444) rfl ?_
                      exact (sg125_dead4 p0 p1 q2 q3 q4 p5 lia lib lja ljb ia0 ia1 ib0 ib1 ja0 ja1 jb0 jb1 cs hcs hl_lia hl_lib hl_lja hl_ljb hr_ia0 hr_ia1 hr_ib0 hr_ib1 hr_ja0 hr_ja1 hr_jb0 hr_jb1 hc173_15 hc187_16 hc274_32 hc296_36 hc319_41 hc363_56 hc381_84 hc393_111 hc424_135 hc436_137).elim
                  · skip
                    refine o_icY X112 hx hby at_424 (feq hc424_135).2 (by decide) (q := 443) (by decide) ?_
                    refine o_iconst X112 hx hby at_443 (z := 0) rfl (q := 444) rfl ?_
                    exact (sg125_dead5 p0 p1 q2 q3 q4 p5 lia lib lja ljb ia0 ia1 ib0 ib1 ja0 ja1 jb0 jb1 cs hcs hl_lia hl_lib hl_lja hl_ljb hr_ia0 hr_ia1 hr_ib0 hr_ib1 hr_ja0 hr_ja1 hr_jb0 hr_jb1 hc173_15 hc187_16 hc274_32 hc296_36 hc319_41 hc363_56 hc381_84 hc393_111 hc424_135).elim
                · skip
                  refine o_ifY X83 hx hby at_393 (own_lfeq hc393_111).2 (by decide) (q := 412) (by decide) ?_
                  refine o_iconst X83 hx hby at_412 (z := 0) rfl (q := 413) rfl ?_
                  refine o_istore X83 hx hby at_413 (l' := #[iv p0, iv p1, .val (.long q2), .second, .val (.long q3), .second, .val (.long q4), .second, iv p5, iv lia, iv lib, iv lja, iv ljb, iv ia0, iv ia1, iv ib0, iv ib1, iv ja0, iv ja1, iv jb0, iv jb1, rv r1, rv r3, rv r7, rv r11, iv 0, iv 0, .val (.long (q2 ^^^ q4)), .second, .val (.long (q3 ^^^ q4)), .second, rv b17, rv b25, iv (((p5.toUInt32 >>> ((2 : Int32) &&& 31).toUInt32).toInt32) &&& (7 : Int32)), iv 0]) rfl (q := 415) rfl ?_
                  refine o_aload X83 hx hby at_415 rfl rfl (q := 417) rfl ?_
                  refine o_aload X83 hx hby at_417 rfl rfl (q := 419) rfl ?_
                  have ne_r1_r3 : r1 ≠ r3 := Nat.ne_of_lt (Nat.lt_of_lt_of_le E1.lt hs3)
                  have ne_r7_r11 : r7 ≠ r11 := Nat.ne_of_lt (Nat.lt_of_lt_of_le E7.lt hs11)
                  have qz139 := ((E20.ext E25).keep K27)
                  have ne_b17_b25 : b17 ≠ b25 := Nat.ne_of_lt (Nat.lt_of_lt_of_le (Nat.lt_of_lt_of_le A17.lt K20.1) (Nat.le_of_eq g25.symm))
                  have qz140 := ((F20_id.ext E25).keep K27 (ninS ne_b17_b25 nin0))
                  have qz141 := (((qz21.keep K20).ext E25).keep K27)
                  have ne_r1_b17 : r1 ≠ b17 := Nat.ne_of_lt (Nat.lt_of_lt_of_le (Nat.lt_of_lt_of_le (Nat.lt_of_lt_of_le (Nat.lt_of_lt_of_le E1.lt K3.1) K7.1) K11.1) (Nat.le_of_eq g17.symm))
                  have ne_r1_b25 : r1 ≠ b25 := Nat.ne_of_lt (Nat.lt_of_lt_of_le (Nat.lt_of_lt_of_le (Nat.lt_of_lt_of_le (Nat.lt_of_lt_of_le (Nat.lt_of_lt_of_le (Nat.lt_of_lt_of_le E1.lt K3.1) K7.1) K11.1) E17.1) K20.1) (Nat.le_of_eq g25.symm))
                  have qz142 := (((((((Fv1.keep K3 nin0).keep K7 nin0).keep K11 nin0).ext E17).keep K20 (ninS ne_r1_b17 nin0)).ext E25).keep K27 (ninS ne_r1_b25 nin0))
                  have qz143 := (((((((Fc1.keep K3 nin0).keep K7 nin0).keep K11 nin0).ext E17).keep K20 (ninS ne_r1_b17 nin0)).ext E25).keep K27 (ninS ne_r1_b25 nin0))
                  have ne_b1_b17 : b1 ≠ b17 := Nat.ne_of_lt (Nat.lt_of_lt_of_le (Nat.lt_of_lt_of_le (Nat.lt_of_lt_of_le (Nat.lt_of_lt_of_le V1.lt K3.1) K7.1) K11.1) (Nat.le_of_eq g17.symm))
                  have ne_b1_b25 : b1 ≠ b25 := Nat.ne_of_lt (Nat.lt_of_lt_of_le (Nat.lt_of_lt_of_le (Nat.lt_of_lt_of_le (Nat.lt_of_lt_of_le (Nat.lt_of_lt_of_le (Nat.lt_of_lt_of_le V1.lt K3.1) K7.1) K11.1) E17.1) K20.1) (Nat.le_of_eq g25.symm))
                  have qz144 := (((((((V1.keep K3 nin0).keep K7 nin0).keep K11 nin0).ext E17).keep K20 (ninS ne_b1_b17 nin0)).ext E25).keep K27 (ninS ne_b1_b25 nin0))
                  have qz145 := ((F20_body.ext E25).keep K27 (ninS ne_b17_b25 nin0))
                  have qz146 := (((qz22.keep K20).ext E25).keep K27)
                  have ne_r7_b17 : r7 ≠ b17 := Nat.ne_of_lt (Nat.lt_of_lt_of_le (Nat.lt_of_lt_of_le E7.lt K11.1) (Nat.le_of_eq g17.symm))
                  have ne_r7_b25 : r7 ≠ b25 := Nat.ne_of_lt (Nat.lt_of_lt_of_le (Nat.lt_of_lt_of_le (Nat.lt_of_lt_of_le (Nat.lt_of_lt_of_le E7.lt K11.1) E17.1) K20.1) (Nat.le_of_eq g25.symm))
                  have qz147 := (((((Fv7.keep K11 nin0).ext E17).keep K20 (ninS ne_r7_b17 nin0)).ext E25).keep K27 (ninS ne_r7_b25 nin0))
                  have qz148 := (((((Fc7.keep K11 nin0).ext E17).keep K20 (ninS ne_r7_b17 nin0)).ext E25).keep K27 (ninS ne_r7_b25 nin0))
                  have ne_b7_b17 : b7 ≠ b17 := Nat.ne_of_lt (Nat.lt_of_lt_of_le (Nat.lt_of_lt_of_le V7.lt K11.1) (Nat.le_of_eq g17.symm))
                  have ne_b7_b25 : b7 ≠ b25 := Nat.ne_of_lt (Nat.lt_of_lt_of_le (Nat.lt_of_lt_of_le (Nat.lt_of_lt_of_le (Nat.lt_of_lt_of_le V7.lt K11.1) E17.1) K20.1) (Nat.le_of_eq g25.symm))
                  have qz149 := (((((V7.keep K11 nin0).ext E17).keep K20 (ninS ne_b7_b17 nin0)).ext E25).keep K27 (ninS ne_b7_b25 nin0))
                  have qz150 := ((F20_created.ext E25).keep K27 (ninS ne_b17_b25 nin0))
                  have qz151 := ((F20_modified.ext E25).keep K27 (ninS ne_b17_b25 nin0))
                  have qz152 := (qz28.keep K27)
                  have ne_r3_b17 : r3 ≠ b17 := Nat.ne_of_lt (Nat.lt_of_lt_of_le (Nat.lt_of_lt_of_le (Nat.lt_of_lt_of_le E3.lt K7.1) K11.1) (Nat.le_of_eq g17.symm))
                  have ne_r3_b25 : r3 ≠ b25 := Nat.ne_of_lt (Nat.lt_of_lt_of_le (Nat.lt_of_lt_of_le (Nat.lt_of_lt_of_le (Nat.lt_of_lt_of_le (Nat.lt_of_lt_of_le E3.lt K7.1) K11.1) E17.1) K20.1) (Nat.le_of_eq g25.symm))
                  have qz153 := ((((((Fv3.keep K7 nin0).keep K11 nin0).ext E17).keep K20 (ninS ne_r3_b17 nin0)).ext E25).keep K27 (ninS ne_r3_b25 nin0))
                  have qz154 := ((((((Fc3.keep K7 nin0).keep K11 nin0).ext E17).keep K20 (ninS ne_r3_b17 nin0)).ext E25).keep K27 (ninS ne_r3_b25 nin0))
                  have ne_b3_b17 : b3 ≠ b17 := Nat.ne_of_lt (Nat.lt_of_lt_of_le (Nat.lt_of_lt_of_le (Nat.lt_of_lt_of_le V3.lt K7.1) K11.1) (Nat.le_of_eq g17.symm))
                  have ne_b3_b25 : b3 ≠ b25 := Nat.ne_of_lt (Nat.lt_of_lt_of_le (Nat.lt_of_lt_of_le (Nat.lt_of_lt_of_le (Nat.lt_of_lt_of_le (Nat.lt_of_lt_of_le V3.lt K7.1) K11.1) E17.1) K20.1) (Nat.le_of_eq g25.symm))
                  have qz155 := ((((((V3.keep K7 nin0).keep K11 nin0).ext E17).keep K20 (ninS ne_b3_b17 nin0)).ext E25).keep K27 (ninS ne_b3_b25 nin0))
                  have qz156 := (qz29.keep K27)
                  have ne_r11_b17 : r11 ≠ b17 := Nat.ne_of_lt (Nat.lt_of_lt_of_le E11.lt (Nat.le_of_eq g17.symm))
                  have ne_r11_b25 : r11 ≠ b25 := Nat.ne_of_lt (Nat.lt_of_lt_of_le (Nat.lt_of_lt_of_le (Nat.lt_of_lt_of_le E11.lt E17.1) K20.1) (Nat.le_of_eq g25.symm))
                  have qz157 := ((((Fv11.ext E17).keep K20 (ninS ne_r11_b17 nin0)).ext E25).keep K27 (ninS ne_r11_b25 nin0))
                  have qz158 := ((((Fc11.ext E17).keep K20 (ninS ne_r11_b17 nin0)).ext E25).keep K27 (ninS ne_r11_b25 nin0))
                  have ne_b11_b17 : b11 ≠ b17 := Nat.ne_of_lt (Nat.lt_of_lt_of_le V11.lt (Nat.le_of_eq g17.symm))
                  have ne_b11_b25 : b11 ≠ b25 := Nat.ne_of_lt (Nat.lt_of_lt_of_le (Nat.lt_of_lt_of_le (Nat.lt_of_lt_of_le V11.lt E17.1) K20.1) (Nat.le_of_eq g25.symm))
                  have qz159 := ((((V11.ext E17).keep K20 (ninS ne_b11_b17 nin0)).ext E25).keep K27 (ninS ne_b11_b25 nin0))
                  have qz160 := (own_staK1 ((own_staK1 ((own_staK0 qz12 K11).ext E17) K20 (own_plainE A17)).ext E25) K27 (own_plainE A25))
                  obtain ⟨cq138, kq138, q138a, q138b, q138c⟩ := isOf hZ27 hh83 qz139
                  obtain ⟨_, _, ⟨T138, L138, k138, n138⟩, -, X138, ⟨Lc138, hQ138, l138, y138, z138⟩, st138⟩ := X83.virtualBack hx (y := (⟨"com/example/collector_urchin/collectorurchin/store/StampedRecord", "equals", "(Ljava/lang/Object;)Z"⟩ : MethodName)) (z := (⟨"com/example/collector_urchin/collectorurchin/store/StampedRecord", "equals", "(Ljava/lang/Object;)Z"⟩ : MethodName)) hown27 (mvT hZ27 (w_ hw 51 rfl)) (mvT hZ27 (w_ hw 52 rfl)) (notFace_of_selects (args := #[]) (mvT hZ27 (w_ hw 54 rfl))) (mvT hZ27 (w_ hw 54 rfl)) (mvT hZ27 (w_ hw 53 rfl)) (by decide) (backOf (W := 0) (rm8c l Z a0 hw [] b17 b25 r1 b1 k1 lia ((ia0.toInt8.toInt32).toInt8.toInt32) ((ia1.toInt8.toInt32).toInt8.toInt32) r7 b7 k7 lja ((ja0.toInt8.toInt32).toInt8.toInt32) ((ja1.toInt8.toInt32).toInt8.toInt32) q2 q3 r3 b3 k3 lib ((ib0.toInt8.toInt32).toInt8.toInt32) ((ib1.toInt8.toInt32).toInt8.toInt32) r11 b11 k11 ljb ((jb0.toInt8.toInt32).toInt8.toInt32) ((jb1.toInt8.toInt32).toInt8.toInt32) (q2 ^^^ q4) (q3 ^^^ q4) cs T27.heap n0 qz55 qz139 E27 qz140 qz141 qz142 qz143 qz144 hl_lia qz145 qz146 qz147 qz148 qz149 hl_lja qz150 qz151 F27_id qz152 qz153 qz154 qz155 hl_lib F27_body qz156 qz157 qz158 qz159 hl_ljb F27_created F27_modified qz160 hcs ne_r1_r3 ne_r7_r11) hZ27 (w_ hw 55 rfl) (w_ hw 28 rfl) (by decide) (by decide)) q138a q138c (g := (mkF m 419 #[iv p0, iv p1, .val (.long q2), .second, .val (.long q3), .second, .val (.long q4), .second, iv p5, iv lia, iv lib, iv lja, iv ljb, iv ia0, iv ia1, iv ib0, iv ib1, iv ja0, iv ja1, iv jb0, iv jb1, rv r1, rv r3, rv r7, rv r11, iv 0, iv 0, .val (.long (q2 ^^^ q4)), .second, .val (.long (q3 ^^^ q4)), .second, rv b17, rv b25, iv (((p5.toUInt32 >>> ((2 : Int32) &&& 31).toUInt32).toInt32) &&& (7 : Int32)), iv 0] [.ref b25, .ref b17])) rfl (by rw [hml]; rfl) (Steps.refl _) (argsL := [(.ref b25)]) (rest := []) (lenOf pd_7 rfl) rfl (by show 2 * 0 + _ ≤ _; exact Nat.le_of_eq rfl) (hb hby at_419) (fun _ _ => ⟨rfl, hh83, (by decide : 26 + 0 ≤ _), (by decide : 104 + 0 ≤ _)⟩)
                  dsimp only [Pt.U, Pt.locs, Pt.cells, Pt.slots] at X138 l138 y138 z138 st138 hQ138
                  subst l138 y138 z138
                  obtain ⟨rfl, N138q, hh138⟩ := hQ138
                  have N138 := Fr.app N83 N138q
                  refine own_of (fun _ k => st138.trans k) ?_
                  show own_Out p e below _ (T138.setTop (mkF m 422 #[iv p0, iv p1, .val (.long q2), .second, .val (.long q3), .second, .val (.long q4), .second, iv p5, iv lia, iv lib, iv lja, iv ljb, iv ia0, iv ia1, iv ib0, iv ib1, iv ja0, iv ja1, iv jb0, iv jb1, rv r1, rv r3, rv r7, rv r11, iv 0, iv 0, .val (.long (q2 ^^^ q4)), .second, .val (.long (q3 ^^^ q4)), .second, rv b17, rv b25, iv (((p5.toUInt32 >>> ((2 : Int32) &&& 31).toUInt32).toInt32) &&& (7 : Int32)), iv 0] [.int (fqe lia ((ia0.toInt8.toInt32).toInt8.toInt32) ((ia1.toInt8.toInt32).toInt8.toInt32) lja ((ja0.toInt8.toInt32).toInt8.toInt32) ((ja1.toInt8.toInt32).toInt8.toInt32) q2 q3 lib ((ib0.toInt8.toInt32).toInt8.toInt32) ((ib1.toInt8.toInt32).toInt8.toInt32) ljb ((jb0.toInt8.toInt32).toInt8.toInt32) ((jb1.toInt8.toInt32).toInt8.toInt32) (q2 ^^^ q4) (q3 ^^^ q4) cs)]))
                  refine o_iload X138 hx hby at_422 rfl (q := 424) rfl ?_
                  by_cases hc424_161 : (fqe lia ((ia0.toInt8.toInt32).toInt8.toInt32) ((ia1.toInt8.toInt32).toInt8.toInt32) lja ((ja0.toInt8.toInt32).toInt8.toInt32) ((ja1.toInt8.toInt32).toInt8.toInt32) q2 q3 lib ((ib0.toInt8.toInt32).toInt8.toInt32) ((ib1.toInt8.toInt32).toInt8.toInt32) ljb ((jb0.toInt8.toInt32).toInt8.toInt32) ((jb1.toInt8.toInt32).toInt8.toInt32) (q2 ^^^ q4) (q3 ^^^ q4) cs) = (0 : Int32)
                  · skip
                    refine o_icN X138 hx hby at_424 (teq hc424_161).2 (q := 427) rfl ?_
                    refine o_aload X138 hx hby at_427 rfl rfl (q := 429) rfl ?_
                    refine o_aload X138 hx hby at_429 rfl rfl (q := 431) rfl ?_
                    obtain ⟨cq162, kq162, q162a, q162b, q162c⟩ := isOf hZ27 hh138 E27
                    obtain ⟨_, _, ⟨T162, L162, k162, n162⟩, -, X162, ⟨Lc162, hQ162, l162, y162, z162⟩, st162⟩ := X138.virtualBack hx (y := (⟨"com/example/collector_urchin/collectorurchin/store/StampedRecord", "equals", "(Ljava/lang/Object;)Z"⟩ : MethodName)) (z := (⟨"com/example/collector_urchin/collectorurchin/store/StampedRecord", "equals", "(Ljava/lang/Object;)Z"⟩ : MethodName)) hown27 (mvT hZ27 (w_ hw 51 rfl)) (mvT hZ27 (w_ hw 52 rfl)) (notFace_of_selects (args := #[]) (mvT hZ27 (w_ hw 54 rfl))) (mvT hZ27 (w_ hw 54 rfl)) (mvT hZ27 (w_ hw 53 rfl)) (by decide) (backOf (W := 0) (rm8c l Z a0 hw [] b25 b17 r3 b3 k3 lib ((ib0.toInt8.toInt32).toInt8.toInt32) ((ib1.toInt8.toInt32).toInt8.toInt32) r11 b11 k11 ljb ((jb0.toInt8.toInt32).toInt8.toInt32) ((jb1.toInt8.toInt32).toInt8.toInt32) (q2 ^^^ q4) (q3 ^^^ q4) r1 b1 k1 lia ((ia0.toInt8.toInt32).toInt8.toInt32) ((ia1.toInt8.toInt32).toInt8.toInt32) r7 b7 k7 lja ((ja0.toInt8.toInt32).toInt8.toInt32) ((ja1.toInt8.toInt32).toInt8.toInt32) q2 q3 cs T27.heap n0 qz55 E27 qz139 F27_id qz152 qz153 qz154 qz155 hl_lib F27_body qz156 qz157 qz158 qz159 hl_ljb F27_created F27_modified qz140 qz141 qz142 qz143 qz144 hl_lia qz145 qz146 qz147 qz148 qz149 hl_lja qz150 qz151 qz160 hcs (Ne.symm ne_r1_r3) (Ne.symm ne_r7_r11)) hZ27 (w_ hw 55 rfl) (w_ hw 28 rfl) (by decide) (by decide)) q162a q162c (g := (mkF m 431 #[iv p0, iv p1, .val (.long q2), .second, .val (.long q3), .second, .val (.long q4), .second, iv p5, iv lia, iv lib, iv lja, iv ljb, iv ia0, iv ia1, iv ib0, iv ib1, iv ja0, iv ja1, iv jb0, iv jb1, rv r1, rv r3, rv r7, rv r11, iv 0, iv 0, .val (.long (q2 ^^^ q4)), .second, .val (.long (q3 ^^^ q4)), .second, rv b17, rv b25, iv (((p5.toUInt32 >>> ((2 : Int32) &&& 31).toUInt32).toInt32) &&& (7 : Int32)), iv 0] [.ref b17, .ref b25])) rfl (by rw [hml]; rfl) (Steps.refl _) (argsL := [(.ref b17)]) (rest := []) (lenOf pd_7 rfl) rfl (by show 2 * 0 + _ ≤ _; exact Nat.le_of_eq rfl) (hb hby at_431) (fun _ _ => ⟨rfl, hh138, (by decide : 26 + 0 ≤ _), (by decide : 104 + 0 ≤ _)⟩)
                    dsimp only [Pt.U, Pt.locs, Pt.cells, Pt.slots] at X162 l162 y162 z162 st162 hQ162
                    subst l162 y162 z162
                    obtain ⟨rfl, N162q, hh162⟩ := hQ162
                    have N162 := Fr.app N138 N162q
                    refine own_of (fun _ k => st162.trans k) ?_
                    show own_Out p e below _ (T162.setTop (mkF m 434 #[iv p0, iv p1, .val (.long q2), .second, .val (.long q3), .second, .val (.long q4), .second, iv p5, iv lia, iv lib, iv lja, iv ljb, iv ia0, iv ia1, iv ib0, iv ib1, iv ja0, iv ja1, iv jb0, iv jb1, rv r1, rv r3, rv r7, rv r11, iv 0, iv 0, .val (.long (q2 ^^^ q4)), .second, .val (.long (q3 ^^^ q4)), .second, rv b17, rv b25, iv (((p5.toUInt32 >>> ((2 : Int32) &&& 31).toUInt32).toInt32) &&& (7 : Int32)), iv 0] [.int (fqe lib ((ib0.toInt8.toInt32).toInt8.toInt32) ((ib1.toInt8.toInt32).toInt8.toInt32) ljb ((jb0.toInt8.toInt32).toInt8.toInt32) ((jb1.toInt8.toInt32).toInt8.toInt32) (q2 ^^^ q4) (q3 ^^^ q4) lia ((ia0.toInt8.toInt32).toInt8.toInt32) ((ia1.toInt8.toInt32).toInt8.toInt32) lja ((ja0.toInt8.toInt32).toInt8.toInt32) ((ja1.toInt8.toInt32).toInt8.toInt32) q2 q3 cs)]))
                    refine o_iload X162 hx hby at_434 rfl (q := 436) rfl ?_
                    by_cases hc436_163 : (fqe lib ((ib0.toInt8.toInt32).toInt8.toInt32) ((ib1.toInt8.toInt32).toInt8.toInt32) ljb ((jb0.toInt8.toInt32).toInt8.toInt32) ((jb1.toInt8.toInt32).toInt8.toInt32) (q2 ^^^ q4) (q3 ^^^ q4) lia ((ia0.toInt8.toInt32).toInt8.toInt32) ((ia1.toInt8.toInt32).toInt8.toInt32) lja ((ja0.toInt8.toInt32).toInt8.toInt32) ((ja1.toInt8.toInt32).toInt8.toInt32) q2 q3 cs) = (0 : Int32)
                    · skip
                      refine o_icN X162 hx hby at_436 (teq hc436_163).2 (q := 439) rfl ?_
                      refine o_iconst X162 hx hby at_439 (z := 1) rfl (q := 440) rfl ?_
                      refine o_goto X162 hx hby at_440 (by decide) (q := 444) (by decide) ?_
                      exact own_outNW (s := s) (vm₁ := T27.vm) X162 S27 (by rw [hh162]; exact (Nat.le_refl T27.heap.size)) hx hlk (t := .boolean) hret (by simp) (hb hby at_444) (z' := (1 : Int32)) rfl (Q := Q) (hQ _ _ N162) (by decide) (by decide)
                    · skip
                      refine o_icY X162 hx hby at_436 (feq hc436_163).2 (by decide) (q := 443) (by decide) ?_
                      refine o_iconst X162 hx hby at_443 (z := 0) rfl (q := 444) rfl ?_
                      exact (sg125_dead6 p0 p1 q2 q3 q4 p5 lia lib lja ljb ia0 ia1 ib0 ib1 ja0 ja1 jb0 jb1 cs hcs hl_lia hl_lib hl_lja hl_ljb hr_ia0 hr_ia1 hr_ib0 hr_ib1 hr_ja0 hr_ja1 hr_jb0 hr_jb1 hc173_15 hc187_16 hc274_32 hc296_36 hc319_41 hc363_56 hc381_84 hc393_111 hc424_161 hc436_163).elim
                  · skip
                    refine o_icY X138 hx hby at_424 (feq hc424_161).2 (by decide) (q := 443) (by decide) ?_
                    refine o_iconst X138 hx hby at_443 (z := 0) rfl (q := 444) rfl ?_
                    exact (sg125_dead7 p0 p1 q2 q3 q4 p5 lia lib lja ljb ia0 ia1 ib0 ib1 ja0 ja1 jb0 jb1 cs hcs hl_lia hl_lib hl_lja hl_ljb hr_ia0 hr_ia1 hr_ib0 hr_ib1 hr_ja0 hr_ja1 hr_jb0 hr_jb1 hc173_15 hc187_16 hc274_32 hc296_36 hc319_41 hc363_56 hc381_84 hc393_111 hc424_161).elim
    · skip
      refine o_ifN X11 hx hby at_187 ((if0 _ _).trans (feq hc187_16).1) (q := 190) rfl ?_
      refine o_iconst X11 hx hby at_190 (z := 1) rfl (q := 191) rfl ?_
      refine o_goto X11 hx hby at_191 (by decide) (q := 195) (by decide) ?_
      refine o_istore X11 hx hby at_195 (l' := #[iv p0, iv p1, .val (.long q2), .second, .val (.long q3), .second, .val (.long q4), .second, iv p5, iv lia, iv lib, iv lja, iv ljb, iv ia0, iv ia1, iv ib0, iv ib1, iv ja0, iv ja1, iv jb0, iv jb1, rv r1, rv r3, rv r7, rv r11, iv 0, iv 1, .unset, .unset, .unset, .unset, .unset, .unset, .unset, .unset]) rfl (q := 197) rfl ?_
      refine o_iload X11 hx hby at_197 rfl (q := 199) rfl ?_
      refine o_ifY X11 hx hby at_199 ((if0 _ _).trans (teq (by decide : (0 : Int32) = (0 : Int32))).1) (by decide) (q := 206) (by decide) ?_
      refine o_lloadN X11 hx hby at_206 rfl (q := 207) rfl ?_
      refine o_lload X11 hx hby at_207 rfl (q := 209) rfl ?_
      refine o_lxor X11 hx hby at_209 rfl (q := 210) rfl ?_
      refine o_lstore X11 hx hby at_210 (l' := #[iv p0, iv p1, .val (.long q2), .second, .val (.long q3), .second, .val (.long q4), .second, iv p5, iv lia, iv lib, iv lja, iv ljb, iv ia0, iv ia1, iv ib0, iv ib1, iv ja0, iv ja1, iv jb0, iv jb1, rv r1, rv r3, rv r7, rv r11, iv 0, iv 1, .val (.long (q2 ^^^ q4)), .second, .unset, .unset, .unset, .unset, .unset, .unset]) rfl (q := 212) rfl ?_
      refine o_iload X11 hx hby at_212 rfl (q := 214) rfl ?_
      refine o_ifN X11 hx hby at_214 ((if0 _ _).trans (feq (by decide : ¬ ((1 : Int32) = (0 : Int32)))).1) (q := 217) rfl ?_
      refine o_lload X11 hx hby at_217 rfl (q := 219) rfl ?_
      refine o_goto X11 hx hby at_219 (by decide) (q := 227) (by decide) ?_
      refine o_lstore X11 hx hby at_227 (l' := #[iv p0, iv p1, .val (.long q2), .second, .val (.long q3), .second, .val (.long q4), .second, iv p5, iv lia, iv lib, iv lja, iv ljb, iv ia0, iv ia1, iv ib0, iv ib1, iv ja0, iv ja1, iv jb0, iv jb1, rv r1, rv r3, rv r7, rv r11, iv 0, iv 1, .val (.long (q2 ^^^ q4)), .second, .val (.long q3), .second, .unset, .unset, .unset, .unset]) rfl (q := 229) rfl ?_
      obtain ⟨T164, h164, X164, e164, E164, A164, D164, -, st164⟩ := newO X11 hx hZ11 hown11 (w_ hw 26 rfl) (w_ hw 27 rfl) (w_ hw 28 rfl) rfl (g := (mkF m 229 #[iv p0, iv p1, .val (.long q2), .second, .val (.long q3), .second, .val (.long q4), .second, iv p5, iv lia, iv lib, iv lja, iv ljb, iv ia0, iv ia1, iv ib0, iv ib1, iv ja0, iv ja1, iv jb0, iv jb1, rv r1, rv r3, rv r7, rv r11, iv 0, iv 1, .val (.long (q2 ^^^ q4)), .second, .val (.long q3), .second, .unset, .unset, .unset, .unset] [])) rfl (hb hby at_229) (by decide) (by decide)
      obtain ⟨b164, g164⟩ : ∃ z, z = T11.heap.size := ⟨_, rfl⟩
      rw [← g164] at A164 D164 st164
      have qz165 := (Nat.le_trans qz13 K11.1)
      have g_b164 : n0 ≤ b164 := Nat.le_trans qz165 (Nat.le_of_eq g164.symm)
      have CA166 := CA14.trans (CHr.ext E164 CA14.1)
      have F_b164_id : Fld Z h164 b164 "com/example/collector_urchin/collectorurchin/store/StampedRecord" "id" "Ljava/lang/String;" .null := D164 (Or.inr (w_ hw 40 rfl)) (ty := (.object "java/lang/String")) (by decide)
      have F_b164_body : Fld Z h164 b164 "com/example/collector_urchin/collectorurchin/store/StampedRecord" "body" "Ljava/lang/String;" .null := D164 (Or.inr (w_ hw 43 rfl)) (ty := (.object "java/lang/String")) (by decide)
      have F_b164_created : Fld Z h164 b164 "com/example/collector_urchin/collectorurchin/store/StampedRecord" "created" "J" (.long (0 : Int64)) := D164 (Or.inr (w_ hw 45 rfl)) (ty := .long) (by decide)
      have F_b164_modified : Fld Z h164 b164 "com/example/collector_urchin/collectorurchin/store/StampedRecord" "modified" "J" (.long (0 : Int64)) := D164 (Or.inr (w_ hw 47 rfl)) (ty := .long) (by decide)
      refine own_of st164 ?_
      show own_Out p e below _ (T164.setTop (mkF m 232 #[iv p0, iv p1, .val (.long q2), .second, .val (.long q3), .second, .val (.long q4), .second, iv p5, iv lia, iv lib, iv lja, iv ljb, iv ia0, iv ia1, iv ib0, iv ib1, iv ja0, iv ja1, iv jb0, iv jb1, rv r1, rv r3, rv r7, rv r11, iv 0, iv 1, .val (.long (q2 ^^^ q4)), .second, .val (.long q3), .second, .unset, .unset, .unset, .unset] [.ref b164]))
      refine o_dup X164 hx hby at_232 rfl (q := 233) rfl ?_
      refine o_aload X164 hx hby at_233 rfl rfl (q := 235) rfl ?_
      refine o_aload X164 hx hby at_235 rfl rfl (q := 237) rfl ?_
      refine o_lloadN X164 hx hby at_237 rfl (q := 238) rfl ?_
      refine o_lload X164 hx hby at_238 rfl (q := 240) rfl ?_
      have qz168 := ((((E1.keep K3).keep K7).keep K11).ext E164)
      have qz169 := ((E7.keep K11).ext E164)
      have qz170 := (Nat.le_trans qz165 E164.1)
      obtain ⟨_, _, ⟨T167, L167, k167, n167⟩, -, X167, Sn167, gz167, ⟨Lc167, hQ167, l167, y167, z167⟩, st167⟩ := X164.specialBackS hx (y := (⟨"com/example/collector_urchin/collectorurchin/store/StampedRecord", "<init>", "(Ljava/lang/String;Ljava/lang/String;JJ)V"⟩ : MethodName)) rfl hown11 (mvT hZ11 (w_ hw 29 rfl)) (mvT hZ11 (w_ hw 30 rfl)) (mvT hZ11 (w_ hw 31 rfl)) (by decide) (backOfS (W := 1) (rm5 l Z a0 hw [] b164 r1 r7 q2 q3 h164 n0 qz170 A164 F_b164_id F_b164_body F_b164_created F_b164_modified g_b164 qz168 qz169) hZ11 (w_ hw 31 rfl) (w_ hw 28 rfl) (by decide) (by decide)) (g := (mkF m 240 #[iv p0, iv p1, .val (.long q2), .second, .val (.long q3), .second, .val (.long q4), .second, iv p5, iv lia, iv lib, iv lja, iv ljb, iv ia0, iv ia1, iv ib0, iv ib1, iv ja0, iv ja1, iv jb0, iv jb1, rv r1, rv r3, rv r7, rv r11, iv 0, iv 1, .val (.long (q2 ^^^ q4)), .second, .val (.long q3), .second, .unset, .unset, .unset, .unset] [.long q3, .long q2, .ref r7, .ref r1, .ref b164, .ref b164])) rfl (by rw [hml]; rfl) (Steps.refl _) (a := b164) (argsL := [(.ref r1), (.ref r7), (.long q2), (.long q3)]) (rest := [(.ref b164)]) (lenOf pd_9 rfl) rfl (by show 2 * 0 + _ ≤ _; exact Nat.le_of_eq rfl) (hb hby at_240) (fun _ _ => ⟨rfl, e164, (by decide : 17 + 4 ≤ _), (by decide : 36 + 32 ≤ _)⟩)
      dsimp only [Pt.U, Pt.locs, Pt.cells, Pt.slots] at X167 l167 y167 z167 st167 hQ167 Sn167 gz167
      subst l167 y167 z167
      have qz171 := (Nat.le_trans (Nat.le_refl T11.heap.size) E164.1)
      have S167 : s.Since T167.vm T167.heap.size := foldS (s := s) (vm0 := T11.vm) S11 (by rw [e164]; exact qz171) Sn167 gz167
      have hZ167 : Z.Warmed39 (s.setVm T167.vm).vm := State.Warmed39.trans (t := s.setVm T11.vm) hZ11 Sn167.1
      have hown167 : (s.setVm T167.vm).vm.findClass "com/example/collector_urchin/collectorurchin/store/StampedRecordEqualsPinLaw" = some m.cls := by rw [show (s.setVm T167.vm).vm = T167.vm from rfl, Sn167.1.alike.findClass]; exact hown11
      obtain ⟨rfl, N167q, K167, E167, F167_id, F167_body, F167_created, F167_modified⟩ := hQ167
      have N167 := Fr.app N11 N167q
      refine own_of (fun _ k => st167.trans k) ?_
      show own_Out p e below _ (T167.setTop (mkF m 243 #[iv p0, iv p1, .val (.long q2), .second, .val (.long q3), .second, .val (.long q4), .second, iv p5, iv lia, iv lib, iv lja, iv ljb, iv ia0, iv ia1, iv ib0, iv ib1, iv ja0, iv ja1, iv jb0, iv jb1, rv r1, rv r3, rv r7, rv r11, iv 0, iv 1, .val (.long (q2 ^^^ q4)), .second, .val (.long q3), .second, .unset, .unset, .unset, .unset] [.ref b164]))
      refine o_astore X167 hx hby at_243 rfl (l' := #[iv p0, iv p1, .val (.long q2), .second, .val (.long q3), .second, .val (.long q4), .second, iv p5, iv lia, iv lib, iv lja, iv ljb, iv ia0, iv ia1, iv ib0, iv ib1, iv ja0, iv ja1, iv jb0, iv jb1, rv r1, rv r3, rv r7, rv r11, iv 0, iv 1, .val (.long (q2 ^^^ q4)), .second, .val (.long q3), .second, rv b164, .unset, .unset, .unset]) rfl (q := 245) rfl ?_
      obtain ⟨T172, h172, X172, e172, E172, A172, D172, -, st172⟩ := newO X167 hx hZ167 hown167 (w_ hw 26 rfl) (w_ hw 27 rfl) (w_ hw 28 rfl) rfl (g := (mkF m 245 #[iv p0, iv p1, .val (.long q2), .second, .val (.long q3), .second, .val (.long q4), .second, iv p5, iv lia, iv lib, iv lja, iv ljb, iv ia0, iv ia1, iv ib0, iv ib1, iv ja0, iv ja1, iv jb0, iv jb1, rv r1, rv r3, rv r7, rv r11, iv 0, iv 1, .val (.long (q2 ^^^ q4)), .second, .val (.long q3), .second, rv b164, .unset, .unset, .unset] [])) rfl (hb hby at_245) (by decide) (by decide)
      obtain ⟨b172, g172⟩ : ∃ z, z = T167.heap.size := ⟨_, rfl⟩
      rw [← g172] at A172 D172 st172
      have qz173 := (Nat.le_trans qz170 K167.1)
      have g_b172 : n0 ≤ b172 := Nat.le_trans qz173 (Nat.le_of_eq g172.symm)
      have F_b172_id : Fld Z h172 b172 "com/example/collector_urchin/collectorurchin/store/StampedRecord" "id" "Ljava/lang/String;" .null := D172 (Or.inr (w_ hw 40 rfl)) (ty := (.object "java/lang/String")) (by decide)
      have F_b172_body : Fld Z h172 b172 "com/example/collector_urchin/collectorurchin/store/StampedRecord" "body" "Ljava/lang/String;" .null := D172 (Or.inr (w_ hw 43 rfl)) (ty := (.object "java/lang/String")) (by decide)
      have F_b172_created : Fld Z h172 b172 "com/example/collector_urchin/collectorurchin/store/StampedRecord" "created" "J" (.long (0 : Int64)) := D172 (Or.inr (w_ hw 45 rfl)) (ty := .long) (by decide)
      have F_b172_modified : Fld Z h172 b172 "com/example/collector_urchin/collectorurchin/store/StampedRecord" "modified" "J" (.long (0 : Int64)) := D172 (Or.inr (w_ hw 47 rfl)) (ty := .long) (by decide)
      refine own_of st172 ?_
      show own_Out p e below _ (T172.setTop (mkF m 248 #[iv p0, iv p1, .val (.long q2), .second, .val (.long q3), .second, .val (.long q4), .second, iv p5, iv lia, iv lib, iv lja, iv ljb, iv ia0, iv ia1, iv ib0, iv ib1, iv ja0, iv ja1, iv jb0, iv jb1, rv r1, rv r3, rv r7, rv r11, iv 0, iv 1, .val (.long (q2 ^^^ q4)), .second, .val (.long q3), .second, rv b164, .unset, .unset, .unset] [.ref b172]))
      refine o_dup X172 hx hby at_248 rfl (q := 249) rfl ?_
      refine o_aload X172 hx hby at_249 rfl rfl (q := 251) rfl ?_
      refine o_aload X172 hx hby at_251 rfl rfl (q := 253) rfl ?_
      refine o_lload X172 hx hby at_253 rfl (q := 255) rfl ?_
      refine o_lload X172 hx hby at_255 rfl (q := 257) rfl ?_
      have qz175 := (((((E3.keep K7).keep K11).ext E164).keep K167).ext E172)
      have qz176 := (((E11.ext E164).keep K167).ext E172)
      have qz177 := (Nat.le_trans qz173 E172.1)
      obtain ⟨_, _, ⟨T174, L174, k174, n174⟩, -, X174, Sn174, gz174, ⟨Lc174, hQ174, l174, y174, z174⟩, st174⟩ := X172.specialBackS hx (y := (⟨"com/example/collector_urchin/collectorurchin/store/StampedRecord", "<init>", "(Ljava/lang/String;Ljava/lang/String;JJ)V"⟩ : MethodName)) rfl hown167 (mvT hZ167 (w_ hw 29 rfl)) (mvT hZ167 (w_ hw 30 rfl)) (mvT hZ167 (w_ hw 31 rfl)) (by decide) (backOfS (W := 1) (rm5 l Z a0 hw [] b172 r3 r11 (q2 ^^^ q4) q3 h172 n0 qz177 A172 F_b172_id F_b172_body F_b172_created F_b172_modified g_b172 qz175 qz176) hZ167 (w_ hw 31 rfl) (w_ hw 28 rfl) (by decide) (by decide)) (g := (mkF m 257 #[iv p0, iv p1, .val (.long q2), .second, .val (.long q3), .second, .val (.long q4), .second, iv p5, iv lia, iv lib, iv lja, iv ljb, iv ia0, iv ia1, iv ib0, iv ib1, iv ja0, iv ja1, iv jb0, iv jb1, rv r1, rv r3, rv r7, rv r11, iv 0, iv 1, .val (.long (q2 ^^^ q4)), .second, .val (.long q3), .second, rv b164, .unset, .unset, .unset] [.long q3, .long (q2 ^^^ q4), .ref r11, .ref r3, .ref b172, .ref b172])) rfl (by rw [hml]; rfl) (Steps.refl _) (a := b172) (argsL := [(.ref r3), (.ref r11), (.long (q2 ^^^ q4)), (.long q3)]) (rest := [(.ref b172)]) (lenOf pd_9 rfl) rfl (by show 2 * 0 + _ ≤ _; exact Nat.le_of_eq rfl) (hb hby at_257) (fun _ _ => ⟨rfl, e172, (by decide : 22 + 4 ≤ _), (by decide : 72 + 32 ≤ _)⟩)
      dsimp only [Pt.U, Pt.locs, Pt.cells, Pt.slots] at X174 l174 y174 z174 st174 hQ174 Sn174 gz174
      subst l174 y174 z174
      have qz178 := (Nat.le_trans (Nat.le_refl T167.heap.size) E172.1)
      have S174 : s.Since T174.vm T174.heap.size := foldS (s := s) (vm0 := T167.vm) S167 (by rw [e172]; exact qz178) Sn174 gz174
      have hZ174 : Z.Warmed39 (s.setVm T174.vm).vm := State.Warmed39.trans (t := s.setVm T167.vm) hZ167 Sn174.1
      have hown174 : (s.setVm T174.vm).vm.findClass "com/example/collector_urchin/collectorurchin/store/StampedRecordEqualsPinLaw" = some m.cls := by rw [show (s.setVm T174.vm).vm = T174.vm from rfl, Sn174.1.alike.findClass]; exact hown167
      obtain ⟨rfl, N174q, K174, E174, F174_id, F174_body, F174_created, F174_modified⟩ := hQ174
      have N174 := Fr.app N167 N174q
      refine own_of (fun _ k => st174.trans k) ?_
      show own_Out p e below _ (T174.setTop (mkF m 260 #[iv p0, iv p1, .val (.long q2), .second, .val (.long q3), .second, .val (.long q4), .second, iv p5, iv lia, iv lib, iv lja, iv ljb, iv ia0, iv ia1, iv ib0, iv ib1, iv ja0, iv ja1, iv jb0, iv jb1, rv r1, rv r3, rv r7, rv r11, iv 0, iv 1, .val (.long (q2 ^^^ q4)), .second, .val (.long q3), .second, rv b164, .unset, .unset, .unset] [.ref b172]))
      refine o_astore X174 hx hby at_260 rfl (l' := #[iv p0, iv p1, .val (.long q2), .second, .val (.long q3), .second, .val (.long q4), .second, iv p5, iv lia, iv lib, iv lja, iv ljb, iv ia0, iv ia1, iv ib0, iv ib1, iv ja0, iv ja1, iv jb0, iv jb1, rv r1, rv r3, rv r7, rv r11, iv 0, iv 1, .val (.long (q2 ^^^ q4)), .second, .val (.long q3), .second, rv b164, rv b172, .unset, .unset]) rfl (q := 262) rfl ?_
      refine o_iload X174 hx hby at_262 rfl (q := 264) rfl ?_
      refine o_iconst X174 hx hby at_264 (z := 2) rfl (q := 265) rfl ?_
      refine o_iushr X174 hx hby at_265 rfl (q := 266) rfl ?_
      refine o_bipush X174 hx hby at_266 (z := 7) rfl (q := 268) rfl ?_
      refine o_iand X174 hx hby at_268 rfl (q := 269) rfl ?_
      refine o_istore X174 hx hby at_269 (l' := #[iv p0, iv p1, .val (.long q2), .second, .val (.long q3), .second, .val (.long q4), .second, iv p5, iv lia, iv lib, iv lja, iv ljb, iv ia0, iv ia1, iv ib0, iv ib1, iv ja0, iv ja1, iv jb0, iv jb1, rv r1, rv r3, rv r7, rv r11, iv 0, iv 1, .val (.long (q2 ^^^ q4)), .second, .val (.long q3), .second, rv b164, rv b172, iv (((p5.toUInt32 >>> ((2 : Int32) &&& 31).toUInt32).toInt32) &&& (7 : Int32)), .unset]) rfl (q := 271) rfl ?_
      refine o_iload X174 hx hby at_271 rfl (q := 273) rfl ?_
      refine o_iconst X174 hx hby at_273 (z := 5) rfl (q := 274) rfl ?_
      by_cases hc274_179 : (((p5.toUInt32 >>> ((2 : Int32) &&& 31).toUInt32).toInt32) &&& (7 : Int32)) = (5 : Int32)
      · skip
        refine o_icN X174 hx hby at_274 (teq hc274_179).2 (q := 277) rfl ?_
        refine o_aload X174 hx hby at_277 rfl rfl (q := 279) rfl ?_
        refine o_aconst_null X174 hx hby at_279 (q := 280) rfl ?_
        have qz181 := (Nat.le_trans qz177 K174.1)
        have qz182 := ((E167.ext E172).keep K174)
        obtain ⟨cq180, kq180, q180a, q180b, q180c⟩ := isOf hZ174 rfl qz182
        obtain ⟨_, _, ⟨T180, L180, k180, n180⟩, -, X180, ⟨Lc180, hQ180, l180, y180, z180⟩, st180⟩ := X174.virtualBack hx (y := (⟨"com/example/collector_urchin/collectorurchin/store/StampedRecord", "equals", "(Ljava/lang/Object;)Z"⟩ : MethodName)) (z := (⟨"com/example/collector_urchin/collectorurchin/store/StampedRecord", "equals", "(Ljava/lang/Object;)Z"⟩ : MethodName)) hown174 (mvT hZ174 (w_ hw 51 rfl)) (mvT hZ174 (w_ hw 52 rfl)) (notFace_of_selects (args := #[]) (mvT hZ174 (w_ hw 54 rfl))) (mvT hZ174 (w_ hw 54 rfl)) (mvT hZ174 (w_ hw 53 rfl)) (by decide) (backOf (W := 0) (rm8n l Z a0 hw [] b164 T174.heap n0 qz181 ) hZ174 (w_ hw 55 rfl) (w_ hw 28 rfl) (by decide) (by decide)) q180a q180c (g := (mkF m 280 #[iv p0, iv p1, .val (.long q2), .second, .val (.long q3), .second, .val (.long q4), .second, iv p5, iv lia, iv lib, iv lja, iv ljb, iv ia0, iv ia1, iv ib0, iv ib1, iv ja0, iv ja1, iv jb0, iv jb1, rv r1, rv r3, rv r7, rv r11, iv 0, iv 1, .val (.long (q2 ^^^ q4)), .second, .val (.long q3), .second, rv b164, rv b172, iv (((p5.toUInt32 >>> ((2 : Int32) &&& 31).toUInt32).toInt32) &&& (7 : Int32)), .unset] [.null, .ref b164])) rfl (by rw [hml]; rfl) (Steps.refl _) (argsL := [.null]) (rest := []) (lenOf pd_7 rfl) rfl (by show 2 * 0 + _ ≤ _; exact Nat.le_of_eq rfl) (hb hby at_280) (fun _ _ => ⟨rfl, rfl, (by decide : 26 + 0 ≤ _), (by decide : 104 + 0 ≤ _)⟩)
        dsimp only [Pt.U, Pt.locs, Pt.cells, Pt.slots] at X180 l180 y180 z180 st180 hQ180
        subst l180 y180 z180
        obtain ⟨rfl, N180q, hh180⟩ := hQ180
        have N180 := Fr.app N174 N180q
        refine own_of (fun _ k => st180.trans k) ?_
        show own_Out p e below _ (T180.setTop (mkF m 283 #[iv p0, iv p1, .val (.long q2), .second, .val (.long q3), .second, .val (.long q4), .second, iv p5, iv lia, iv lib, iv lja, iv ljb, iv ia0, iv ia1, iv ib0, iv ib1, iv ja0, iv ja1, iv jb0, iv jb1, rv r1, rv r3, rv r7, rv r11, iv 0, iv 1, .val (.long (q2 ^^^ q4)), .second, .val (.long q3), .second, rv b164, rv b172, iv (((p5.toUInt32 >>> ((2 : Int32) &&& 31).toUInt32).toInt32) &&& (7 : Int32)), .unset] [.int 0]))
        refine o_ifN X180 hx hby at_283 ((if0 _ _).trans (teq (by decide : (0 : Int32) = (0 : Int32))).2) (q := 286) rfl ?_
        refine o_iconst X180 hx hby at_286 (z := 1) rfl (q := 287) rfl ?_
        refine o_goto X180 hx hby at_287 (by decide) (q := 291) (by decide) ?_
        exact own_outNW (s := s) (vm₁ := T174.vm) X180 S174 (by rw [hh180]; exact (Nat.le_refl T174.heap.size)) hx hlk (t := .boolean) hret (by simp) (hb hby at_291) (z' := (1 : Int32)) rfl (Q := Q) (hQ _ _ N180) (by decide) (by decide)
      · skip
        refine o_icY X174 hx hby at_274 (feq hc274_179).2 (by decide) (q := 292) (by decide) ?_
        refine o_iload X174 hx hby at_292 rfl (q := 294) rfl ?_
        refine o_bipush X174 hx hby at_294 (z := 6) rfl (q := 296) rfl ?_
        by_cases hc296_183 : (((p5.toUInt32 >>> ((2 : Int32) &&& 31).toUInt32).toInt32) &&& (7 : Int32)) = (6 : Int32)
        · skip
          refine o_icN X174 hx hby at_296 (teq hc296_183).2 (q := 299) rfl ?_
          refine o_aload X174 hx hby at_299 rfl rfl (q := 301) rfl ?_
          refine o_aload X174 hx hby at_301 rfl rfl (q := 303) rfl ?_
          have qz185 := (((qz169.keep K167).ext E172).keep K174)
          have qz186 := (Nat.le_trans qz177 K174.1)
          have qz187 := ((E167.ext E172).keep K174)
          obtain ⟨cq184, kq184, q184a, q184b, q184c⟩ := isOf hZ174 rfl qz187
          obtain ⟨_, _, ⟨T184, L184, k184, n184⟩, -, X184, ⟨Lc184, hQ184, l184, y184, z184⟩, st184⟩ := X174.virtualBack hx (y := (⟨"com/example/collector_urchin/collectorurchin/store/StampedRecord", "equals", "(Ljava/lang/Object;)Z"⟩ : MethodName)) (z := (⟨"com/example/collector_urchin/collectorurchin/store/StampedRecord", "equals", "(Ljava/lang/Object;)Z"⟩ : MethodName)) hown174 (mvT hZ174 (w_ hw 51 rfl)) (mvT hZ174 (w_ hw 52 rfl)) (notFace_of_selects (args := #[]) (mvT hZ174 (w_ hw 54 rfl))) (mvT hZ174 (w_ hw 54 rfl)) (mvT hZ174 (w_ hw 53 rfl)) (by decide) (backOf (W := 0) (rm8s l Z a0 hw [] b164 r7 T174.heap n0 qz186 qz185) hZ174 (w_ hw 55 rfl) (w_ hw 28 rfl) (by decide) (by decide)) q184a q184c (g := (mkF m 303 #[iv p0, iv p1, .val (.long q2), .second, .val (.long q3), .second, .val (.long q4), .second, iv p5, iv lia, iv lib, iv lja, iv ljb, iv ia0, iv ia1, iv ib0, iv ib1, iv ja0, iv ja1, iv jb0, iv jb1, rv r1, rv r3, rv r7, rv r11, iv 0, iv 1, .val (.long (q2 ^^^ q4)), .second, .val (.long q3), .second, rv b164, rv b172, iv (((p5.toUInt32 >>> ((2 : Int32) &&& 31).toUInt32).toInt32) &&& (7 : Int32)), .unset] [.ref r7, .ref b164])) rfl (by rw [hml]; rfl) (Steps.refl _) (argsL := [(.ref r7)]) (rest := []) (lenOf pd_7 rfl) rfl (by show 2 * 0 + _ ≤ _; exact Nat.le_of_eq rfl) (hb hby at_303) (fun _ _ => ⟨rfl, rfl, (by decide : 26 + 0 ≤ _), (by decide : 104 + 0 ≤ _)⟩)
          dsimp only [Pt.U, Pt.locs, Pt.cells, Pt.slots] at X184 l184 y184 z184 st184 hQ184
          subst l184 y184 z184
          obtain ⟨rfl, N184q, hh184⟩ := hQ184
          have N184 := Fr.app N174 N184q
          refine own_of (fun _ k => st184.trans k) ?_
          show own_Out p e below _ (T184.setTop (mkF m 306 #[iv p0, iv p1, .val (.long q2), .second, .val (.long q3), .second, .val (.long q4), .second, iv p5, iv lia, iv lib, iv lja, iv ljb, iv ia0, iv ia1, iv ib0, iv ib1, iv ja0, iv ja1, iv jb0, iv jb1, rv r1, rv r3, rv r7, rv r11, iv 0, iv 1, .val (.long (q2 ^^^ q4)), .second, .val (.long q3), .second, rv b164, rv b172, iv (((p5.toUInt32 >>> ((2 : Int32) &&& 31).toUInt32).toInt32) &&& (7 : Int32)), .unset] [.int 0]))
          refine o_ifN X184 hx hby at_306 ((if0 _ _).trans (teq (by decide : (0 : Int32) = (0 : Int32))).2) (q := 309) rfl ?_
          refine o_iconst X184 hx hby at_309 (z := 1) rfl (q := 310) rfl ?_
          refine o_goto X184 hx hby at_310 (by decide) (q := 314) (by decide) ?_
          exact own_outNW (s := s) (vm₁ := T174.vm) X184 S174 (by rw [hh184]; exact (Nat.le_refl T174.heap.size)) hx hlk (t := .boolean) hret (by simp) (hb hby at_314) (z' := (1 : Int32)) rfl (Q := Q) (hQ _ _ N184) (by decide) (by decide)
        · skip
          refine o_icY X174 hx hby at_296 (feq hc296_183).2 (by decide) (q := 315) (by decide) ?_
          refine o_iload X174 hx hby at_315 rfl (q := 317) rfl ?_
          refine o_bipush X174 hx hby at_317 (z := 7) rfl (q := 319) rfl ?_
          by_cases hc319_188 : (((p5.toUInt32 >>> ((2 : Int32) &&& 31).toUInt32).toInt32) &&& (7 : Int32)) = (7 : Int32)
          · skip
            refine o_icN X174 hx hby at_319 (teq hc319_188).2 (q := 322) rfl ?_
            refine o_aload X174 hx hby at_322 rfl rfl (q := 324) rfl ?_
            refine o_aload X174 hx hby at_324 rfl rfl (q := 326) rfl ?_
            have qz190 := ((E167.ext E172).keep K174)
            have ne_b164_b172 : b164 ≠ b172 := Nat.ne_of_lt (Nat.lt_of_lt_of_le (Nat.lt_of_lt_of_le A164.lt K167.1) (Nat.le_of_eq g172.symm))
            have qz191 := ((F167_id.ext E172).keep K174 (ninS ne_b164_b172 nin0))
            have qz192 := ((F167_body.ext E172).keep K174 (ninS ne_b164_b172 nin0))
            have qz193 := (((qz168.keep K167).ext E172).keep K174)
            have qz194 := (((qz169.keep K167).ext E172).keep K174)
            have qz195 := ((F167_created.ext E172).keep K174 (ninS ne_b164_b172 nin0))
            have qz196 := ((F167_modified.ext E172).keep K174 (ninS ne_b164_b172 nin0))
            have qz197 := (Nat.le_trans qz177 K174.1)
            obtain ⟨cq189, kq189, q189a, q189b, q189c⟩ := isOf hZ174 rfl qz190
            obtain ⟨_, _, ⟨T189, L189, k189, n189⟩, -, X189, ⟨Lc189, hQ189, l189, y189, z189⟩, st189⟩ := X174.virtualBack hx (y := (⟨"com/example/collector_urchin/collectorurchin/store/StampedRecord", "equals", "(Ljava/lang/Object;)Z"⟩ : MethodName)) (z := (⟨"com/example/collector_urchin/collectorurchin/store/StampedRecord", "equals", "(Ljava/lang/Object;)Z"⟩ : MethodName)) hown174 (mvT hZ174 (w_ hw 51 rfl)) (mvT hZ174 (w_ hw 52 rfl)) (notFace_of_selects (args := #[]) (mvT hZ174 (w_ hw 54 rfl))) (mvT hZ174 (w_ hw 54 rfl)) (mvT hZ174 (w_ hw 53 rfl)) (by decide) (backOf (W := 0) (rm8f l Z a0 hw [] b164 r1 r7 q2 q3 T174.heap n0 qz197 qz190 qz191 qz192 qz193 qz194 qz195 qz196) hZ174 (w_ hw 55 rfl) (w_ hw 28 rfl) (by decide) (by decide)) q189a q189c (g := (mkF m 326 #[iv p0, iv p1, .val (.long q2), .second, .val (.long q3), .second, .val (.long q4), .second, iv p5, iv lia, iv lib, iv lja, iv ljb, iv ia0, iv ia1, iv ib0, iv ib1, iv ja0, iv ja1, iv jb0, iv jb1, rv r1, rv r3, rv r7, rv r11, iv 0, iv 1, .val (.long (q2 ^^^ q4)), .second, .val (.long q3), .second, rv b164, rv b172, iv (((p5.toUInt32 >>> ((2 : Int32) &&& 31).toUInt32).toInt32) &&& (7 : Int32)), .unset] [.ref b164, .ref b164])) rfl (by rw [hml]; rfl) (Steps.refl _) (argsL := [(.ref b164)]) (rest := []) (lenOf pd_7 rfl) rfl (by show 2 * 0 + _ ≤ _; exact Nat.le_of_eq rfl) (hb hby at_326) (fun _ _ => ⟨rfl, rfl, (by decide : 26 + 0 ≤ _), (by decide : 104 + 0 ≤ _)⟩)
            dsimp only [Pt.U, Pt.locs, Pt.cells, Pt.slots] at X189 l189 y189 z189 st189 hQ189
            subst l189 y189 z189
            obtain ⟨rfl, N189q, hh189⟩ := hQ189
            have N189 := Fr.app N174 N189q
            refine own_of (fun _ k => st189.trans k) ?_
            show own_Out p e below _ (T189.setTop (mkF m 329 #[iv p0, iv p1, .val (.long q2), .second, .val (.long q3), .second, .val (.long q4), .second, iv p5, iv lia, iv lib, iv lja, iv ljb, iv ia0, iv ia1, iv ib0, iv ib1, iv ja0, iv ja1, iv jb0, iv jb1, rv r1, rv r3, rv r7, rv r11, iv 0, iv 1, .val (.long (q2 ^^^ q4)), .second, .val (.long q3), .second, rv b164, rv b172, iv (((p5.toUInt32 >>> ((2 : Int32) &&& 31).toUInt32).toInt32) &&& (7 : Int32)), .unset] [.int 1]))
            refine o_ifN X189 hx hby at_329 ((if0 _ _).trans (feq (by decide : ¬ ((1 : Int32) = (0 : Int32)))).1) (q := 332) rfl ?_
            refine o_aload X189 hx hby at_332 rfl rfl (q := 334) rfl ?_
            refine o_aload X189 hx hby at_334 rfl rfl (q := 336) rfl ?_
            have qz199 := (qz175.keep K174)
            have qz200 := (qz176.keep K174)
            obtain ⟨cq198, kq198, q198a, q198b, q198c⟩ := isOf hZ174 hh189 E174
            obtain ⟨_, _, ⟨T198, L198, k198, n198⟩, -, X198, ⟨Lc198, hQ198, l198, y198, z198⟩, st198⟩ := X189.virtualBack hx (y := (⟨"com/example/collector_urchin/collectorurchin/store/StampedRecord", "equals", "(Ljava/lang/Object;)Z"⟩ : MethodName)) (z := (⟨"com/example/collector_urchin/collectorurchin/store/StampedRecord", "equals", "(Ljava/lang/Object;)Z"⟩ : MethodName)) hown174 (mvT hZ174 (w_ hw 51 rfl)) (mvT hZ174 (w_ hw 52 rfl)) (notFace_of_selects (args := #[]) (mvT hZ174 (w_ hw 54 rfl))) (mvT hZ174 (w_ hw 54 rfl)) (mvT hZ174 (w_ hw 53 rfl)) (by decide) (backOf (W := 0) (rm8f l Z a0 hw [] b172 r3 r11 (q2 ^^^ q4) q3 T174.heap n0 qz197 E174 F174_id F174_body qz199 qz200 F174_created F174_modified) hZ174 (w_ hw 55 rfl) (w_ hw 28 rfl) (by decide) (by decide)) q198a q198c (g := (mkF m 336 #[iv p0, iv p1, .val (.long q2), .second, .val (.long q3), .second, .val (.long q4), .second, iv p5, iv lia, iv lib, iv lja, iv ljb, iv ia0, iv ia1, iv ib0, iv ib1, iv ja0, iv ja1, iv jb0, iv jb1, rv r1, rv r3, rv r7, rv r11, iv 0, iv 1, .val (.long (q2 ^^^ q4)), .second, .val (.long q3), .second, rv b164, rv b172, iv (((p5.toUInt32 >>> ((2 : Int32) &&& 31).toUInt32).toInt32) &&& (7 : Int32)), .unset] [.ref b172, .ref b172])) rfl (by rw [hml]; rfl) (Steps.refl _) (argsL := [(.ref b172)]) (rest := []) (lenOf pd_7 rfl) rfl (by show 2 * 0 + _ ≤ _; exact Nat.le_of_eq rfl) (hb hby at_336) (fun _ _ => ⟨rfl, hh189, (by decide : 26 + 0 ≤ _), (by decide : 104 + 0 ≤ _)⟩)
            dsimp only [Pt.U, Pt.locs, Pt.cells, Pt.slots] at X198 l198 y198 z198 st198 hQ198
            subst l198 y198 z198
            obtain ⟨rfl, N198q, hh198⟩ := hQ198
            have N198 := Fr.app N189 N198q
            refine own_of (fun _ k => st198.trans k) ?_
            show own_Out p e below _ (T198.setTop (mkF m 339 #[iv p0, iv p1, .val (.long q2), .second, .val (.long q3), .second, .val (.long q4), .second, iv p5, iv lia, iv lib, iv lja, iv ljb, iv ia0, iv ia1, iv ib0, iv ib1, iv ja0, iv ja1, iv jb0, iv jb1, rv r1, rv r3, rv r7, rv r11, iv 0, iv 1, .val (.long (q2 ^^^ q4)), .second, .val (.long q3), .second, rv b164, rv b172, iv (((p5.toUInt32 >>> ((2 : Int32) &&& 31).toUInt32).toInt32) &&& (7 : Int32)), .unset] [.int 1]))
            refine o_ifN X198 hx hby at_339 ((if0 _ _).trans (feq (by decide : ¬ ((1 : Int32) = (0 : Int32)))).1) (q := 342) rfl ?_
            refine o_iconst X198 hx hby at_342 (z := 1) rfl (q := 343) rfl ?_
            refine o_goto X198 hx hby at_343 (by decide) (q := 347) (by decide) ?_
            exact own_outNW (s := s) (vm₁ := T174.vm) X198 S174 (by rw [hh198]; exact (Nat.le_refl T174.heap.size)) hx hlk (t := .boolean) hret (by simp) (hb hby at_347) (z' := (1 : Int32)) rfl (Q := Q) (hQ _ _ N198) (by decide) (by decide)
          · skip
            refine o_icY X174 hx hby at_319 (feq hc319_188).2 (by decide) (q := 348) (by decide) ?_
            refine o_iload X174 hx hby at_348 rfl (q := 350) rfl ?_
            refine o_iload X174 hx hby at_350 rfl (q := 352) rfl ?_
            refine o_iload X174 hx hby at_352 rfl (q := 354) rfl ?_
            refine o_iload X174 hx hby at_354 rfl (q := 356) rfl ?_
            refine o_iload X174 hx hby at_356 rfl (q := 358) rfl ?_
            refine o_iload X174 hx hby at_358 rfl (q := 360) rfl ?_
            have qz202 := (Nat.le_trans qz177 K174.1)
            obtain ⟨_, _, ⟨T201, L201, k201, n201⟩, -, X201, ⟨Lc201, hQ201, l201, y201, z201⟩, st201⟩ := Jvm.LawKit.callS X174 hx (y := (⟨"com/example/collector_urchin/collectorurchin/store/StampedRecordEqualsPinLaw", "sameStr", "(ICCICC)Z"⟩ : MethodName)) hown174 (mvT hZ174 (w_ hw 48 rfl)) (mvT hZ174 (w_ hw 49 rfl)) (mvT hZ174 (w_ hw 2 rfl)) (mvT hZ174 (w_ hw 50 rfl)) (by decide) (backOf (W := 0) (rm7 l Z a0 hw [] lia ia0 ia1 lib ib0 ib1 T174.heap n0 qz202 ) hZ174 (w_ hw 50 rfl) (w_ hw 2 rfl) (by decide) (by decide)) (g := (mkF m 360 #[iv p0, iv p1, .val (.long q2), .second, .val (.long q3), .second, .val (.long q4), .second, iv p5, iv lia, iv lib, iv lja, iv ljb, iv ia0, iv ia1, iv ib0, iv ib1, iv ja0, iv ja1, iv jb0, iv jb1, rv r1, rv r3, rv r7, rv r11, iv 0, iv 1, .val (.long (q2 ^^^ q4)), .second, .val (.long q3), .second, rv b164, rv b172, iv (((p5.toUInt32 >>> ((2 : Int32) &&& 31).toUInt32).toInt32) &&& (7 : Int32)), .unset] [.int ib1, .int ib0, .int lib, .int ia1, .int ia0, .int lia])) rfl (by rw [hml]; rfl) (argsL := [(.int lia), (.int ia0), (.int ia1), (.int lib), (.int ib0), (.int ib1)]) (rest := []) (lenOf pd_10 rfl) rfl (by show 2 * 0 + _ ≤ _; exact Nat.le_of_eq rfl) (hb hby at_360) (fun _ _ => ⟨rfl, rfl, (by decide : 26 + 0 ≤ _), (by decide : 104 + 0 ≤ _)⟩)
            dsimp only [Pt.U, Pt.locs, Pt.cells, Pt.slots] at X201 l201 y201 z201 st201 hQ201
            subst l201 y201 z201
            obtain ⟨rfl, N201q, hh201⟩ := hQ201
            have N201 := Fr.app N174 N201q
            refine own_of st201 ?_
            show own_Out p e below _ (T201.setTop (mkF m 363 #[iv p0, iv p1, .val (.long q2), .second, .val (.long q3), .second, .val (.long q4), .second, iv p5, iv lia, iv lib, iv lja, iv ljb, iv ia0, iv ia1, iv ib0, iv ib1, iv ja0, iv ja1, iv jb0, iv jb1, rv r1, rv r3, rv r7, rv r11, iv 0, iv 1, .val (.long (q2 ^^^ q4)), .second, .val (.long q3), .second, rv b164, rv b172, iv (((p5.toUInt32 >>> ((2 : Int32) &&& 31).toUInt32).toInt32) &&& (7 : Int32)), .unset] [.int (fss lia ia0 ia1 lib ib0 ib1)]))
            by_cases hc363_203 : (fss lia ia0 ia1 lib ib0 ib1) = (0 : Int32)
            · skip
              refine o_ifY X201 hx hby at_363 ((if0 _ _).trans (teq hc363_203).1) (by decide) (q := 412) (by decide) ?_
              refine o_iconst X201 hx hby at_412 (z := 0) rfl (q := 413) rfl ?_
              refine o_istore X201 hx hby at_413 (l' := #[iv p0, iv p1, .val (.long q2), .second, .val (.long q3), .second, .val (.long q4), .second, iv p5, iv lia, iv lib, iv lja, iv ljb, iv ia0, iv ia1, iv ib0, iv ib1, iv ja0, iv ja1, iv jb0, iv jb1, rv r1, rv r3, rv r7, rv r11, iv 0, iv 1, .val (.long (q2 ^^^ q4)), .second, .val (.long q3), .second, rv b164, rv b172, iv (((p5.toUInt32 >>> ((2 : Int32) &&& 31).toUInt32).toInt32) &&& (7 : Int32)), iv 0]) rfl (q := 415) rfl ?_
              refine o_aload X201 hx hby at_415 rfl rfl (q := 417) rfl ?_
              refine o_aload X201 hx hby at_417 rfl rfl (q := 419) rfl ?_
              have ne_r1_r3 : r1 ≠ r3 := Nat.ne_of_lt (Nat.lt_of_lt_of_le E1.lt hs3)
              have ne_r7_r11 : r7 ≠ r11 := Nat.ne_of_lt (Nat.lt_of_lt_of_le E7.lt hs11)
              have qz205 := ((E167.ext E172).keep K174)
              have ne_b164_b172 : b164 ≠ b172 := Nat.ne_of_lt (Nat.lt_of_lt_of_le (Nat.lt_of_lt_of_le A164.lt K167.1) (Nat.le_of_eq g172.symm))
              have qz206 := ((F167_id.ext E172).keep K174 (ninS ne_b164_b172 nin0))
              have qz207 := (((qz168.keep K167).ext E172).keep K174)
              have ne_r1_b164 : r1 ≠ b164 := Nat.ne_of_lt (Nat.lt_of_lt_of_le (Nat.lt_of_lt_of_le (Nat.lt_of_lt_of_le (Nat.lt_of_lt_of_le E1.lt K3.1) K7.1) K11.1) (Nat.le_of_eq g164.symm))
              have ne_r1_b172 : r1 ≠ b172 := Nat.ne_of_lt (Nat.lt_of_lt_of_le (Nat.lt_of_lt_of_le (Nat.lt_of_lt_of_le (Nat.lt_of_lt_of_le (Nat.lt_of_lt_of_le (Nat.lt_of_lt_of_le E1.lt K3.1) K7.1) K11.1) E164.1) K167.1) (Nat.le_of_eq g172.symm))
              have qz208 := (((((((Fv1.keep K3 nin0).keep K7 nin0).keep K11 nin0).ext E164).keep K167 (ninS ne_r1_b164 nin0)).ext E172).keep K174 (ninS ne_r1_b172 nin0))
              have qz209 := (((((((Fc1.keep K3 nin0).keep K7 nin0).keep K11 nin0).ext E164).keep K167 (ninS ne_r1_b164 nin0)).ext E172).keep K174 (ninS ne_r1_b172 nin0))
              have ne_b1_b164 : b1 ≠ b164 := Nat.ne_of_lt (Nat.lt_of_lt_of_le (Nat.lt_of_lt_of_le (Nat.lt_of_lt_of_le (Nat.lt_of_lt_of_le V1.lt K3.1) K7.1) K11.1) (Nat.le_of_eq g164.symm))
              have ne_b1_b172 : b1 ≠ b172 := Nat.ne_of_lt (Nat.lt_of_lt_of_le (Nat.lt_of_lt_of_le (Nat.lt_of_lt_of_le (Nat.lt_of_lt_of_le (Nat.lt_of_lt_of_le (Nat.lt_of_lt_of_le V1.lt K3.1) K7.1) K11.1) E164.1) K167.1) (Nat.le_of_eq g172.symm))
              have qz210 := (((((((V1.keep K3 nin0).keep K7 nin0).keep K11 nin0).ext E164).keep K167 (ninS ne_b1_b164 nin0)).ext E172).keep K174 (ninS ne_b1_b172 nin0))
              have qz211 := ((F167_body.ext E172).keep K174 (ninS ne_b164_b172 nin0))
              have qz212 := (((qz169.keep K167).ext E172).keep K174)
              have ne_r7_b164 : r7 ≠ b164 := Nat.ne_of_lt (Nat.lt_of_lt_of_le (Nat.lt_of_lt_of_le E7.lt K11.1) (Nat.le_of_eq g164.symm))
              have ne_r7_b172 : r7 ≠ b172 := Nat.ne_of_lt (Nat.lt_of_lt_of_le (Nat.lt_of_lt_of_le (Nat.lt_of_lt_of_le (Nat.lt_of_lt_of_le E7.lt K11.1) E164.1) K167.1) (Nat.le_of_eq g172.symm))
              have qz213 := (((((Fv7.keep K11 nin0).ext E164).keep K167 (ninS ne_r7_b164 nin0)).ext E172).keep K174 (ninS ne_r7_b172 nin0))
              have qz214 := (((((Fc7.keep K11 nin0).ext E164).keep K167 (ninS ne_r7_b164 nin0)).ext E172).keep K174 (ninS ne_r7_b172 nin0))
              have ne_b7_b164 : b7 ≠ b164 := Nat.ne_of_lt (Nat.lt_of_lt_of_le (Nat.lt_of_lt_of_le V7.lt K11.1) (Nat.le_of_eq g164.symm))
              have ne_b7_b172 : b7 ≠ b172 := Nat.ne_of_lt (Nat.lt_of_lt_of_le (Nat.lt_of_lt_of_le (Nat.lt_of_lt_of_le (Nat.lt_of_lt_of_le V7.lt K11.1) E164.1) K167.1) (Nat.le_of_eq g172.symm))
              have qz215 := (((((V7.keep K11 nin0).ext E164).keep K167 (ninS ne_b7_b164 nin0)).ext E172).keep K174 (ninS ne_b7_b172 nin0))
              have qz216 := ((F167_created.ext E172).keep K174 (ninS ne_b164_b172 nin0))
              have qz217 := ((F167_modified.ext E172).keep K174 (ninS ne_b164_b172 nin0))
              have qz218 := (qz175.keep K174)
              have ne_r3_b164 : r3 ≠ b164 := Nat.ne_of_lt (Nat.lt_of_lt_of_le (Nat.lt_of_lt_of_le (Nat.lt_of_lt_of_le E3.lt K7.1) K11.1) (Nat.le_of_eq g164.symm))
              have ne_r3_b172 : r3 ≠ b172 := Nat.ne_of_lt (Nat.lt_of_lt_of_le (Nat.lt_of_lt_of_le (Nat.lt_of_lt_of_le (Nat.lt_of_lt_of_le (Nat.lt_of_lt_of_le E3.lt K7.1) K11.1) E164.1) K167.1) (Nat.le_of_eq g172.symm))
              have qz219 := ((((((Fv3.keep K7 nin0).keep K11 nin0).ext E164).keep K167 (ninS ne_r3_b164 nin0)).ext E172).keep K174 (ninS ne_r3_b172 nin0))
              have qz220 := ((((((Fc3.keep K7 nin0).keep K11 nin0).ext E164).keep K167 (ninS ne_r3_b164 nin0)).ext E172).keep K174 (ninS ne_r3_b172 nin0))
              have ne_b3_b164 : b3 ≠ b164 := Nat.ne_of_lt (Nat.lt_of_lt_of_le (Nat.lt_of_lt_of_le (Nat.lt_of_lt_of_le V3.lt K7.1) K11.1) (Nat.le_of_eq g164.symm))
              have ne_b3_b172 : b3 ≠ b172 := Nat.ne_of_lt (Nat.lt_of_lt_of_le (Nat.lt_of_lt_of_le (Nat.lt_of_lt_of_le (Nat.lt_of_lt_of_le (Nat.lt_of_lt_of_le V3.lt K7.1) K11.1) E164.1) K167.1) (Nat.le_of_eq g172.symm))
              have qz221 := ((((((V3.keep K7 nin0).keep K11 nin0).ext E164).keep K167 (ninS ne_b3_b164 nin0)).ext E172).keep K174 (ninS ne_b3_b172 nin0))
              have qz222 := (qz176.keep K174)
              have ne_r11_b164 : r11 ≠ b164 := Nat.ne_of_lt (Nat.lt_of_lt_of_le E11.lt (Nat.le_of_eq g164.symm))
              have ne_r11_b172 : r11 ≠ b172 := Nat.ne_of_lt (Nat.lt_of_lt_of_le (Nat.lt_of_lt_of_le (Nat.lt_of_lt_of_le E11.lt E164.1) K167.1) (Nat.le_of_eq g172.symm))
              have qz223 := ((((Fv11.ext E164).keep K167 (ninS ne_r11_b164 nin0)).ext E172).keep K174 (ninS ne_r11_b172 nin0))
              have qz224 := ((((Fc11.ext E164).keep K167 (ninS ne_r11_b164 nin0)).ext E172).keep K174 (ninS ne_r11_b172 nin0))
              have ne_b11_b164 : b11 ≠ b164 := Nat.ne_of_lt (Nat.lt_of_lt_of_le V11.lt (Nat.le_of_eq g164.symm))
              have ne_b11_b172 : b11 ≠ b172 := Nat.ne_of_lt (Nat.lt_of_lt_of_le (Nat.lt_of_lt_of_le (Nat.lt_of_lt_of_le V11.lt E164.1) K167.1) (Nat.le_of_eq g172.symm))
              have qz225 := ((((V11.ext E164).keep K167 (ninS ne_b11_b164 nin0)).ext E172).keep K174 (ninS ne_b11_b172 nin0))
              have qz226 := (own_staK1 ((own_staK1 ((own_staK0 qz12 K11).ext E164) K167 (own_plainE A164)).ext E172) K174 (own_plainE A172))
              obtain ⟨cq204, kq204, q204a, q204b, q204c⟩ := isOf hZ174 hh201 qz205
              obtain ⟨_, _, ⟨T204, L204, k204, n204⟩, -, X204, ⟨Lc204, hQ204, l204, y204, z204⟩, st204⟩ := X201.virtualBack hx (y := (⟨"com/example/collector_urchin/collectorurchin/store/StampedRecord", "equals", "(Ljava/lang/Object;)Z"⟩ : MethodName)) (z := (⟨"com/example/collector_urchin/collectorurchin/store/StampedRecord", "equals", "(Ljava/lang/Object;)Z"⟩ : MethodName)) hown174 (mvT hZ174 (w_ hw 51 rfl)) (mvT hZ174 (w_ hw 52 rfl)) (notFace_of_selects (args := #[]) (mvT hZ174 (w_ hw 54 rfl))) (mvT hZ174 (w_ hw 54 rfl)) (mvT hZ174 (w_ hw 53 rfl)) (by decide) (backOf (W := 0) (rm8c l Z a0 hw [] b164 b172 r1 b1 k1 lia ((ia0.toInt8.toInt32).toInt8.toInt32) ((ia1.toInt8.toInt32).toInt8.toInt32) r7 b7 k7 lja ((ja0.toInt8.toInt32).toInt8.toInt32) ((ja1.toInt8.toInt32).toInt8.toInt32) q2 q3 r3 b3 k3 lib ((ib0.toInt8.toInt32).toInt8.toInt32) ((ib1.toInt8.toInt32).toInt8.toInt32) r11 b11 k11 ljb ((jb0.toInt8.toInt32).toInt8.toInt32) ((jb1.toInt8.toInt32).toInt8.toInt32) (q2 ^^^ q4) q3 cs T174.heap n0 qz202 qz205 E174 qz206 qz207 qz208 qz209 qz210 hl_lia qz211 qz212 qz213 qz214 qz215 hl_lja qz216 qz217 F174_id qz218 qz219 qz220 qz221 hl_lib F174_body qz222 qz223 qz224 qz225 hl_ljb F174_created F174_modified qz226 hcs ne_r1_r3 ne_r7_r11) hZ174 (w_ hw 55 rfl) (w_ hw 28 rfl) (by decide) (by decide)) q204a q204c (g := (mkF m 419 #[iv p0, iv p1, .val (.long q2), .second, .val (.long q3), .second, .val (.long q4), .second, iv p5, iv lia, iv lib, iv lja, iv ljb, iv ia0, iv ia1, iv ib0, iv ib1, iv ja0, iv ja1, iv jb0, iv jb1, rv r1, rv r3, rv r7, rv r11, iv 0, iv 1, .val (.long (q2 ^^^ q4)), .second, .val (.long q3), .second, rv b164, rv b172, iv (((p5.toUInt32 >>> ((2 : Int32) &&& 31).toUInt32).toInt32) &&& (7 : Int32)), iv 0] [.ref b172, .ref b164])) rfl (by rw [hml]; rfl) (Steps.refl _) (argsL := [(.ref b172)]) (rest := []) (lenOf pd_7 rfl) rfl (by show 2 * 0 + _ ≤ _; exact Nat.le_of_eq rfl) (hb hby at_419) (fun _ _ => ⟨rfl, hh201, (by decide : 26 + 0 ≤ _), (by decide : 104 + 0 ≤ _)⟩)
              dsimp only [Pt.U, Pt.locs, Pt.cells, Pt.slots] at X204 l204 y204 z204 st204 hQ204
              subst l204 y204 z204
              obtain ⟨rfl, N204q, hh204⟩ := hQ204
              have N204 := Fr.app N201 N204q
              refine own_of (fun _ k => st204.trans k) ?_
              show own_Out p e below _ (T204.setTop (mkF m 422 #[iv p0, iv p1, .val (.long q2), .second, .val (.long q3), .second, .val (.long q4), .second, iv p5, iv lia, iv lib, iv lja, iv ljb, iv ia0, iv ia1, iv ib0, iv ib1, iv ja0, iv ja1, iv jb0, iv jb1, rv r1, rv r3, rv r7, rv r11, iv 0, iv 1, .val (.long (q2 ^^^ q4)), .second, .val (.long q3), .second, rv b164, rv b172, iv (((p5.toUInt32 >>> ((2 : Int32) &&& 31).toUInt32).toInt32) &&& (7 : Int32)), iv 0] [.int (fqe lia ((ia0.toInt8.toInt32).toInt8.toInt32) ((ia1.toInt8.toInt32).toInt8.toInt32) lja ((ja0.toInt8.toInt32).toInt8.toInt32) ((ja1.toInt8.toInt32).toInt8.toInt32) q2 q3 lib ((ib0.toInt8.toInt32).toInt8.toInt32) ((ib1.toInt8.toInt32).toInt8.toInt32) ljb ((jb0.toInt8.toInt32).toInt8.toInt32) ((jb1.toInt8.toInt32).toInt8.toInt32) (q2 ^^^ q4) q3 cs)]))
              refine o_iload X204 hx hby at_422 rfl (q := 424) rfl ?_
              by_cases hc424_227 : (fqe lia ((ia0.toInt8.toInt32).toInt8.toInt32) ((ia1.toInt8.toInt32).toInt8.toInt32) lja ((ja0.toInt8.toInt32).toInt8.toInt32) ((ja1.toInt8.toInt32).toInt8.toInt32) q2 q3 lib ((ib0.toInt8.toInt32).toInt8.toInt32) ((ib1.toInt8.toInt32).toInt8.toInt32) ljb ((jb0.toInt8.toInt32).toInt8.toInt32) ((jb1.toInt8.toInt32).toInt8.toInt32) (q2 ^^^ q4) q3 cs) = (0 : Int32)
              · skip
                refine o_icN X204 hx hby at_424 (teq hc424_227).2 (q := 427) rfl ?_
                refine o_aload X204 hx hby at_427 rfl rfl (q := 429) rfl ?_
                refine o_aload X204 hx hby at_429 rfl rfl (q := 431) rfl ?_
                obtain ⟨cq228, kq228, q228a, q228b, q228c⟩ := isOf hZ174 hh204 E174
                obtain ⟨_, _, ⟨T228, L228, k228, n228⟩, -, X228, ⟨Lc228, hQ228, l228, y228, z228⟩, st228⟩ := X204.virtualBack hx (y := (⟨"com/example/collector_urchin/collectorurchin/store/StampedRecord", "equals", "(Ljava/lang/Object;)Z"⟩ : MethodName)) (z := (⟨"com/example/collector_urchin/collectorurchin/store/StampedRecord", "equals", "(Ljava/lang/Object;)Z"⟩ : MethodName)) hown174 (mvT hZ174 (w_ hw 51 rfl)) (mvT hZ174 (w_ hw 52 rfl)) (notFace_of_selects (args := #[]) (mvT hZ174 (w_ hw 54 rfl))) (mvT hZ174 (w_ hw 54 rfl)) (mvT hZ174 (w_ hw 53 rfl)) (by decide) (backOf (W := 0) (rm8c l Z a0 hw [] b172 b164 r3 b3 k3 lib ((ib0.toInt8.toInt32).toInt8.toInt32) ((ib1.toInt8.toInt32).toInt8.toInt32) r11 b11 k11 ljb ((jb0.toInt8.toInt32).toInt8.toInt32) ((jb1.toInt8.toInt32).toInt8.toInt32) (q2 ^^^ q4) q3 r1 b1 k1 lia ((ia0.toInt8.toInt32).toInt8.toInt32) ((ia1.toInt8.toInt32).toInt8.toInt32) r7 b7 k7 lja ((ja0.toInt8.toInt32).toInt8.toInt32) ((ja1.toInt8.toInt32).toInt8.toInt32) q2 q3 cs T174.heap n0 qz202 E174 qz205 F174_id qz218 qz219 qz220 qz221 hl_lib F174_body qz222 qz223 qz224 qz225 hl_ljb F174_created F174_modified qz206 qz207 qz208 qz209 qz210 hl_lia qz211 qz212 qz213 qz214 qz215 hl_lja qz216 qz217 qz226 hcs (Ne.symm ne_r1_r3) (Ne.symm ne_r7_r11)) hZ174 (w_ hw 55 rfl) (w_ hw 28 rfl) (by decide) (by decide)) q228a q228c (g := (mkF m 431 #[iv p0, iv p1, .val (.long q2), .second, .val (.long q3), .second, .val (.long q4), .second, iv p5, iv lia, iv lib, iv lja, iv ljb, iv ia0, iv ia1, iv ib0, iv ib1, iv ja0, iv ja1, iv jb0, iv jb1, rv r1, rv r3, rv r7, rv r11, iv 0, iv 1, .val (.long (q2 ^^^ q4)), .second, .val (.long q3), .second, rv b164, rv b172, iv (((p5.toUInt32 >>> ((2 : Int32) &&& 31).toUInt32).toInt32) &&& (7 : Int32)), iv 0] [.ref b164, .ref b172])) rfl (by rw [hml]; rfl) (Steps.refl _) (argsL := [(.ref b164)]) (rest := []) (lenOf pd_7 rfl) rfl (by show 2 * 0 + _ ≤ _; exact Nat.le_of_eq rfl) (hb hby at_431) (fun _ _ => ⟨rfl, hh204, (by decide : 26 + 0 ≤ _), (by decide : 104 + 0 ≤ _)⟩)
                dsimp only [Pt.U, Pt.locs, Pt.cells, Pt.slots] at X228 l228 y228 z228 st228 hQ228
                subst l228 y228 z228
                obtain ⟨rfl, N228q, hh228⟩ := hQ228
                have N228 := Fr.app N204 N228q
                refine own_of (fun _ k => st228.trans k) ?_
                show own_Out p e below _ (T228.setTop (mkF m 434 #[iv p0, iv p1, .val (.long q2), .second, .val (.long q3), .second, .val (.long q4), .second, iv p5, iv lia, iv lib, iv lja, iv ljb, iv ia0, iv ia1, iv ib0, iv ib1, iv ja0, iv ja1, iv jb0, iv jb1, rv r1, rv r3, rv r7, rv r11, iv 0, iv 1, .val (.long (q2 ^^^ q4)), .second, .val (.long q3), .second, rv b164, rv b172, iv (((p5.toUInt32 >>> ((2 : Int32) &&& 31).toUInt32).toInt32) &&& (7 : Int32)), iv 0] [.int (fqe lib ((ib0.toInt8.toInt32).toInt8.toInt32) ((ib1.toInt8.toInt32).toInt8.toInt32) ljb ((jb0.toInt8.toInt32).toInt8.toInt32) ((jb1.toInt8.toInt32).toInt8.toInt32) (q2 ^^^ q4) q3 lia ((ia0.toInt8.toInt32).toInt8.toInt32) ((ia1.toInt8.toInt32).toInt8.toInt32) lja ((ja0.toInt8.toInt32).toInt8.toInt32) ((ja1.toInt8.toInt32).toInt8.toInt32) q2 q3 cs)]))
                refine o_iload X228 hx hby at_434 rfl (q := 436) rfl ?_
                by_cases hc436_229 : (fqe lib ((ib0.toInt8.toInt32).toInt8.toInt32) ((ib1.toInt8.toInt32).toInt8.toInt32) ljb ((jb0.toInt8.toInt32).toInt8.toInt32) ((jb1.toInt8.toInt32).toInt8.toInt32) (q2 ^^^ q4) q3 lia ((ia0.toInt8.toInt32).toInt8.toInt32) ((ia1.toInt8.toInt32).toInt8.toInt32) lja ((ja0.toInt8.toInt32).toInt8.toInt32) ((ja1.toInt8.toInt32).toInt8.toInt32) q2 q3 cs) = (0 : Int32)
                · skip
                  refine o_icN X228 hx hby at_436 (teq hc436_229).2 (q := 439) rfl ?_
                  refine o_iconst X228 hx hby at_439 (z := 1) rfl (q := 440) rfl ?_
                  refine o_goto X228 hx hby at_440 (by decide) (q := 444) (by decide) ?_
                  exact own_outNW (s := s) (vm₁ := T174.vm) X228 S174 (by rw [hh228]; exact (Nat.le_refl T174.heap.size)) hx hlk (t := .boolean) hret (by simp) (hb hby at_444) (z' := (1 : Int32)) rfl (Q := Q) (hQ _ _ N228) (by decide) (by decide)
                · skip
                  refine o_icY X228 hx hby at_436 (feq hc436_229).2 (by decide) (q := 443) (by decide) ?_
                  refine o_iconst X228 hx hby at_443 (z := 0) rfl (q := 444) rfl ?_
                  exact (sg125_dead8 p0 p1 q2 q3 q4 p5 lia lib lja ljb ia0 ia1 ib0 ib1 ja0 ja1 jb0 jb1 cs hcs hl_lia hl_lib hl_lja hl_ljb hr_ia0 hr_ia1 hr_ib0 hr_ib1 hr_ja0 hr_ja1 hr_jb0 hr_jb1 hc173_15 hc187_16 hc274_179 hc296_183 hc319_188 hc363_203 hc424_227 hc436_229).elim
              · skip
                refine o_icY X204 hx hby at_424 (feq hc424_227).2 (by decide) (q := 443) (by decide) ?_
                refine o_iconst X204 hx hby at_443 (z := 0) rfl (q := 444) rfl ?_
                exact (sg125_dead9 p0 p1 q2 q3 q4 p5 lia lib lja ljb ia0 ia1 ib0 ib1 ja0 ja1 jb0 jb1 cs hcs hl_lia hl_lib hl_lja hl_ljb hr_ia0 hr_ia1 hr_ib0 hr_ib1 hr_ja0 hr_ja1 hr_jb0 hr_jb1 hc173_15 hc187_16 hc274_179 hc296_183 hc319_188 hc363_203 hc424_227).elim
            · skip
              refine o_ifN X201 hx hby at_363 ((if0 _ _).trans (feq hc363_203).1) (q := 366) rfl ?_
              refine o_iload X201 hx hby at_366 rfl (q := 368) rfl ?_
              refine o_iload X201 hx hby at_368 rfl (q := 370) rfl ?_
              refine o_iload X201 hx hby at_370 rfl (q := 372) rfl ?_
              refine o_iload X201 hx hby at_372 rfl (q := 374) rfl ?_
              refine o_iload X201 hx hby at_374 rfl (q := 376) rfl ?_
              refine o_iload X201 hx hby at_376 rfl (q := 378) rfl ?_
              obtain ⟨_, _, ⟨T230, L230, k230, n230⟩, -, X230, ⟨Lc230, hQ230, l230, y230, z230⟩, st230⟩ := Jvm.LawKit.callS X201 hx (y := (⟨"com/example/collector_urchin/collectorurchin/store/StampedRecordEqualsPinLaw", "sameStr", "(ICCICC)Z"⟩ : MethodName)) hown174 (mvT hZ174 (w_ hw 48 rfl)) (mvT hZ174 (w_ hw 49 rfl)) (mvT hZ174 (w_ hw 2 rfl)) (mvT hZ174 (w_ hw 50 rfl)) (by decide) (backOf (W := 0) (rm7 l Z a0 hw [] lja ja0 ja1 ljb jb0 jb1 T174.heap n0 qz202 ) hZ174 (w_ hw 50 rfl) (w_ hw 2 rfl) (by decide) (by decide)) (g := (mkF m 378 #[iv p0, iv p1, .val (.long q2), .second, .val (.long q3), .second, .val (.long q4), .second, iv p5, iv lia, iv lib, iv lja, iv ljb, iv ia0, iv ia1, iv ib0, iv ib1, iv ja0, iv ja1, iv jb0, iv jb1, rv r1, rv r3, rv r7, rv r11, iv 0, iv 1, .val (.long (q2 ^^^ q4)), .second, .val (.long q3), .second, rv b164, rv b172, iv (((p5.toUInt32 >>> ((2 : Int32) &&& 31).toUInt32).toInt32) &&& (7 : Int32)), .unset] [.int jb1, .int jb0, .int ljb, .int ja1, .int ja0, .int lja])) rfl (by rw [hml]; rfl) (argsL := [(.int lja), (.int ja0), (.int ja1), (.int ljb), (.int jb0), (.int jb1)]) (rest := []) (lenOf pd_10 rfl) rfl (by show 2 * 0 + _ ≤ _; exact Nat.le_of_eq rfl) (hb hby at_378) (fun _ _ => ⟨rfl, hh201, (by decide : 26 + 0 ≤ _), (by decide : 104 + 0 ≤ _)⟩)
              dsimp only [Pt.U, Pt.locs, Pt.cells, Pt.slots] at X230 l230 y230 z230 st230 hQ230
              subst l230 y230 z230
              obtain ⟨rfl, N230q, hh230⟩ := hQ230
              have N230 := Fr.app N201 N230q
              refine own_of st230 ?_
              show own_Out p e below _ (T230.setTop (mkF m 381 #[iv p0, iv p1, .val (.long q2), .second, .val (.long q3), .second, .val (.long q4), .second, iv p5, iv lia, iv lib, iv lja, iv ljb, iv ia0, iv ia1, iv ib0, iv ib1, iv ja0, iv ja1, iv jb0, iv jb1, rv r1, rv r3, rv r7, rv r11, iv 0, iv 1, .val (.long (q2 ^^^ q4)), .second, .val (.long q3), .second, rv b164, rv b172, iv (((p5.toUInt32 >>> ((2 : Int32) &&& 31).toUInt32).toInt32) &&& (7 : Int32)), .unset] [.int (fss lja ja0 ja1 ljb jb0 jb1)]))
              by_cases hc381_231 : (fss lja ja0 ja1 ljb jb0 jb1) = (0 : Int32)
              · skip
                refine o_ifY X230 hx hby at_381 ((if0 _ _).trans (teq hc381_231).1) (by decide) (q := 412) (by decide) ?_
                refine o_iconst X230 hx hby at_412 (z := 0) rfl (q := 413) rfl ?_
                refine o_istore X230 hx hby at_413 (l' := #[iv p0, iv p1, .val (.long q2), .second, .val (.long q3), .second, .val (.long q4), .second, iv p5, iv lia, iv lib, iv lja, iv ljb, iv ia0, iv ia1, iv ib0, iv ib1, iv ja0, iv ja1, iv jb0, iv jb1, rv r1, rv r3, rv r7, rv r11, iv 0, iv 1, .val (.long (q2 ^^^ q4)), .second, .val (.long q3), .second, rv b164, rv b172, iv (((p5.toUInt32 >>> ((2 : Int32) &&& 31).toUInt32).toInt32) &&& (7 : Int32)), iv 0]) rfl (q := 415) rfl ?_
                refine o_aload X230 hx hby at_415 rfl rfl (q := 417) rfl ?_
                refine o_aload X230 hx hby at_417 rfl rfl (q := 419) rfl ?_
                have ne_r1_r3 : r1 ≠ r3 := Nat.ne_of_lt (Nat.lt_of_lt_of_le E1.lt hs3)
                have ne_r7_r11 : r7 ≠ r11 := Nat.ne_of_lt (Nat.lt_of_lt_of_le E7.lt hs11)
                have qz233 := ((E167.ext E172).keep K174)
                have ne_b164_b172 : b164 ≠ b172 := Nat.ne_of_lt (Nat.lt_of_lt_of_le (Nat.lt_of_lt_of_le A164.lt K167.1) (Nat.le_of_eq g172.symm))
                have qz234 := ((F167_id.ext E172).keep K174 (ninS ne_b164_b172 nin0))
                have qz235 := (((qz168.keep K167).ext E172).keep K174)
                have ne_r1_b164 : r1 ≠ b164 := Nat.ne_of_lt (Nat.lt_of_lt_of_le (Nat.lt_of_lt_of_le (Nat.lt_of_lt_of_le (Nat.lt_of_lt_of_le E1.lt K3.1) K7.1) K11.1) (Nat.le_of_eq g164.symm))
                have ne_r1_b172 : r1 ≠ b172 := Nat.ne_of_lt (Nat.lt_of_lt_of_le (Nat.lt_of_lt_of_le (Nat.lt_of_lt_of_le (Nat.lt_of_lt_of_le (Nat.lt_of_lt_of_le (Nat.lt_of_lt_of_le E1.lt K3.1) K7.1) K11.1) E164.1) K167.1) (Nat.le_of_eq g172.symm))
                have qz236 := (((((((Fv1.keep K3 nin0).keep K7 nin0).keep K11 nin0).ext E164).keep K167 (ninS ne_r1_b164 nin0)).ext E172).keep K174 (ninS ne_r1_b172 nin0))
                have qz237 := (((((((Fc1.keep K3 nin0).keep K7 nin0).keep K11 nin0).ext E164).keep K167 (ninS ne_r1_b164 nin0)).ext E172).keep K174 (ninS ne_r1_b172 nin0))
                have ne_b1_b164 : b1 ≠ b164 := Nat.ne_of_lt (Nat.lt_of_lt_of_le (Nat.lt_of_lt_of_le (Nat.lt_of_lt_of_le (Nat.lt_of_lt_of_le V1.lt K3.1) K7.1) K11.1) (Nat.le_of_eq g164.symm))
                have ne_b1_b172 : b1 ≠ b172 := Nat.ne_of_lt (Nat.lt_of_lt_of_le (Nat.lt_of_lt_of_le (Nat.lt_of_lt_of_le (Nat.lt_of_lt_of_le (Nat.lt_of_lt_of_le (Nat.lt_of_lt_of_le V1.lt K3.1) K7.1) K11.1) E164.1) K167.1) (Nat.le_of_eq g172.symm))
                have qz238 := (((((((V1.keep K3 nin0).keep K7 nin0).keep K11 nin0).ext E164).keep K167 (ninS ne_b1_b164 nin0)).ext E172).keep K174 (ninS ne_b1_b172 nin0))
                have qz239 := ((F167_body.ext E172).keep K174 (ninS ne_b164_b172 nin0))
                have qz240 := (((qz169.keep K167).ext E172).keep K174)
                have ne_r7_b164 : r7 ≠ b164 := Nat.ne_of_lt (Nat.lt_of_lt_of_le (Nat.lt_of_lt_of_le E7.lt K11.1) (Nat.le_of_eq g164.symm))
                have ne_r7_b172 : r7 ≠ b172 := Nat.ne_of_lt (Nat.lt_of_lt_of_le (Nat.lt_of_lt_of_le (Nat.lt_of_lt_of_le (Nat.lt_of_lt_of_le E7.lt K11.1) E164.1) K167.1) (Nat.le_of_eq g172.symm))
                have qz241 := (((((Fv7.keep K11 nin0).ext E164).keep K167 (ninS ne_r7_b164 nin0)).ext E172).keep K174 (ninS ne_r7_b172 nin0))
                have qz242 := (((((Fc7.keep K11 nin0).ext E164).keep K167 (ninS ne_r7_b164 nin0)).ext E172).keep K174 (ninS ne_r7_b172 nin0))
                have ne_b7_b164 : b7 ≠ b164 := Nat.ne_of_lt (Nat.lt_of_lt_of_le (Nat.lt_of_lt_of_le V7.lt K11.1) (Nat.le_of_eq g164.symm))
                have ne_b7_b172 : b7 ≠ b172 := Nat.ne_of_lt (Nat.lt_of_lt_of_le (Nat.lt_of_lt_of_le (Nat.lt_of_lt_of_le (Nat.lt_of_lt_of_le V7.lt K11.1) E164.1) K167.1) (Nat.le_of_eq g172.symm))
                have qz243 := (((((V7.keep K11 nin0).ext E164).keep K167 (ninS ne_b7_b164 nin0)).ext E172).keep K174 (ninS ne_b7_b172 nin0))
                have qz244 := ((F167_created.ext E172).keep K174 (ninS ne_b164_b172 nin0))
                have qz245 := ((F167_modified.ext E172).keep K174 (ninS ne_b164_b172 nin0))
                have qz246 := (qz175.keep K174)
                have ne_r3_b164 : r3 ≠ b164 := Nat.ne_of_lt (Nat.lt_of_lt_of_le (Nat.lt_of_lt_of_le (Nat.lt_of_lt_of_le E3.lt K7.1) K11.1) (Nat.le_of_eq g164.symm))
                have ne_r3_b172 : r3 ≠ b172 := Nat.ne_of_lt (Nat.lt_of_lt_of_le (Nat.lt_of_lt_of_le (Nat.lt_of_lt_of_le (Nat.lt_of_lt_of_le (Nat.lt_of_lt_of_le E3.lt K7.1) K11.1) E164.1) K167.1) (Nat.le_of_eq g172.symm))
                have qz247 := ((((((Fv3.keep K7 nin0).keep K11 nin0).ext E164).keep K167 (ninS ne_r3_b164 nin0)).ext E172).keep K174 (ninS ne_r3_b172 nin0))
                have qz248 := ((((((Fc3.keep K7 nin0).keep K11 nin0).ext E164).keep K167 (ninS ne_r3_b164 nin0)).ext E172).keep K174 (ninS ne_r3_b172 nin0))
                have ne_b3_b164 : b3 ≠ b164 := Nat.ne_of_lt (Nat.lt_of_lt_of_le (Nat.lt_of_lt_of_le (Nat.lt_of_lt_of_le V3.lt K7.1) K11.1) (Nat.le_of_eq g164.symm))
                have ne_b3_b172 : b3 ≠ b172 := Nat.ne_of_lt (Nat.lt_of_lt_of_le (Nat.lt_of_lt_of_le (Nat.lt_of_lt_of_le (Nat.lt_of_lt_of_le (Nat.lt_of_lt_of_le V3.lt K7.1) K11.1) E164.1) K167.1) (Nat.le_of_eq g172.symm))
                have qz249 := ((((((V3.keep K7 nin0).keep K11 nin0).ext E164).keep K167 (ninS ne_b3_b164 nin0)).ext E172).keep K174 (ninS ne_b3_b172 nin0))
                have qz250 := (qz176.keep K174)
                have ne_r11_b164 : r11 ≠ b164 := Nat.ne_of_lt (Nat.lt_of_lt_of_le E11.lt (Nat.le_of_eq g164.symm))
                have ne_r11_b172 : r11 ≠ b172 := Nat.ne_of_lt (Nat.lt_of_lt_of_le (Nat.lt_of_lt_of_le (Nat.lt_of_lt_of_le E11.lt E164.1) K167.1) (Nat.le_of_eq g172.symm))
                have qz251 := ((((Fv11.ext E164).keep K167 (ninS ne_r11_b164 nin0)).ext E172).keep K174 (ninS ne_r11_b172 nin0))
                have qz252 := ((((Fc11.ext E164).keep K167 (ninS ne_r11_b164 nin0)).ext E172).keep K174 (ninS ne_r11_b172 nin0))
                have ne_b11_b164 : b11 ≠ b164 := Nat.ne_of_lt (Nat.lt_of_lt_of_le V11.lt (Nat.le_of_eq g164.symm))
                have ne_b11_b172 : b11 ≠ b172 := Nat.ne_of_lt (Nat.lt_of_lt_of_le (Nat.lt_of_lt_of_le (Nat.lt_of_lt_of_le V11.lt E164.1) K167.1) (Nat.le_of_eq g172.symm))
                have qz253 := ((((V11.ext E164).keep K167 (ninS ne_b11_b164 nin0)).ext E172).keep K174 (ninS ne_b11_b172 nin0))
                have qz254 := (own_staK1 ((own_staK1 ((own_staK0 qz12 K11).ext E164) K167 (own_plainE A164)).ext E172) K174 (own_plainE A172))
                obtain ⟨cq232, kq232, q232a, q232b, q232c⟩ := isOf hZ174 hh230 qz233
                obtain ⟨_, _, ⟨T232, L232, k232, n232⟩, -, X232, ⟨Lc232, hQ232, l232, y232, z232⟩, st232⟩ := X230.virtualBack hx (y := (⟨"com/example/collector_urchin/collectorurchin/store/StampedRecord", "equals", "(Ljava/lang/Object;)Z"⟩ : MethodName)) (z := (⟨"com/example/collector_urchin/collectorurchin/store/StampedRecord", "equals", "(Ljava/lang/Object;)Z"⟩ : MethodName)) hown174 (mvT hZ174 (w_ hw 51 rfl)) (mvT hZ174 (w_ hw 52 rfl)) (notFace_of_selects (args := #[]) (mvT hZ174 (w_ hw 54 rfl))) (mvT hZ174 (w_ hw 54 rfl)) (mvT hZ174 (w_ hw 53 rfl)) (by decide) (backOf (W := 0) (rm8c l Z a0 hw [] b164 b172 r1 b1 k1 lia ((ia0.toInt8.toInt32).toInt8.toInt32) ((ia1.toInt8.toInt32).toInt8.toInt32) r7 b7 k7 lja ((ja0.toInt8.toInt32).toInt8.toInt32) ((ja1.toInt8.toInt32).toInt8.toInt32) q2 q3 r3 b3 k3 lib ((ib0.toInt8.toInt32).toInt8.toInt32) ((ib1.toInt8.toInt32).toInt8.toInt32) r11 b11 k11 ljb ((jb0.toInt8.toInt32).toInt8.toInt32) ((jb1.toInt8.toInt32).toInt8.toInt32) (q2 ^^^ q4) q3 cs T174.heap n0 qz202 qz233 E174 qz234 qz235 qz236 qz237 qz238 hl_lia qz239 qz240 qz241 qz242 qz243 hl_lja qz244 qz245 F174_id qz246 qz247 qz248 qz249 hl_lib F174_body qz250 qz251 qz252 qz253 hl_ljb F174_created F174_modified qz254 hcs ne_r1_r3 ne_r7_r11) hZ174 (w_ hw 55 rfl) (w_ hw 28 rfl) (by decide) (by decide)) q232a q232c (g := (mkF m 419 #[iv p0, iv p1, .val (.long q2), .second, .val (.long q3), .second, .val (.long q4), .second, iv p5, iv lia, iv lib, iv lja, iv ljb, iv ia0, iv ia1, iv ib0, iv ib1, iv ja0, iv ja1, iv jb0, iv jb1, rv r1, rv r3, rv r7, rv r11, iv 0, iv 1, .val (.long (q2 ^^^ q4)), .second, .val (.long q3), .second, rv b164, rv b172, iv (((p5.toUInt32 >>> ((2 : Int32) &&& 31).toUInt32).toInt32) &&& (7 : Int32)), iv 0] [.ref b172, .ref b164])) rfl (by rw [hml]; rfl) (Steps.refl _) (argsL := [(.ref b172)]) (rest := []) (lenOf pd_7 rfl) rfl (by show 2 * 0 + _ ≤ _; exact Nat.le_of_eq rfl) (hb hby at_419) (fun _ _ => ⟨rfl, hh230, (by decide : 26 + 0 ≤ _), (by decide : 104 + 0 ≤ _)⟩)
                dsimp only [Pt.U, Pt.locs, Pt.cells, Pt.slots] at X232 l232 y232 z232 st232 hQ232
                subst l232 y232 z232
                obtain ⟨rfl, N232q, hh232⟩ := hQ232
                have N232 := Fr.app N230 N232q
                refine own_of (fun _ k => st232.trans k) ?_
                show own_Out p e below _ (T232.setTop (mkF m 422 #[iv p0, iv p1, .val (.long q2), .second, .val (.long q3), .second, .val (.long q4), .second, iv p5, iv lia, iv lib, iv lja, iv ljb, iv ia0, iv ia1, iv ib0, iv ib1, iv ja0, iv ja1, iv jb0, iv jb1, rv r1, rv r3, rv r7, rv r11, iv 0, iv 1, .val (.long (q2 ^^^ q4)), .second, .val (.long q3), .second, rv b164, rv b172, iv (((p5.toUInt32 >>> ((2 : Int32) &&& 31).toUInt32).toInt32) &&& (7 : Int32)), iv 0] [.int (fqe lia ((ia0.toInt8.toInt32).toInt8.toInt32) ((ia1.toInt8.toInt32).toInt8.toInt32) lja ((ja0.toInt8.toInt32).toInt8.toInt32) ((ja1.toInt8.toInt32).toInt8.toInt32) q2 q3 lib ((ib0.toInt8.toInt32).toInt8.toInt32) ((ib1.toInt8.toInt32).toInt8.toInt32) ljb ((jb0.toInt8.toInt32).toInt8.toInt32) ((jb1.toInt8.toInt32).toInt8.toInt32) (q2 ^^^ q4) q3 cs)]))
                refine o_iload X232 hx hby at_422 rfl (q := 424) rfl ?_
                by_cases hc424_255 : (fqe lia ((ia0.toInt8.toInt32).toInt8.toInt32) ((ia1.toInt8.toInt32).toInt8.toInt32) lja ((ja0.toInt8.toInt32).toInt8.toInt32) ((ja1.toInt8.toInt32).toInt8.toInt32) q2 q3 lib ((ib0.toInt8.toInt32).toInt8.toInt32) ((ib1.toInt8.toInt32).toInt8.toInt32) ljb ((jb0.toInt8.toInt32).toInt8.toInt32) ((jb1.toInt8.toInt32).toInt8.toInt32) (q2 ^^^ q4) q3 cs) = (0 : Int32)
                · skip
                  refine o_icN X232 hx hby at_424 (teq hc424_255).2 (q := 427) rfl ?_
                  refine o_aload X232 hx hby at_427 rfl rfl (q := 429) rfl ?_
                  refine o_aload X232 hx hby at_429 rfl rfl (q := 431) rfl ?_
                  obtain ⟨cq256, kq256, q256a, q256b, q256c⟩ := isOf hZ174 hh232 E174
                  obtain ⟨_, _, ⟨T256, L256, k256, n256⟩, -, X256, ⟨Lc256, hQ256, l256, y256, z256⟩, st256⟩ := X232.virtualBack hx (y := (⟨"com/example/collector_urchin/collectorurchin/store/StampedRecord", "equals", "(Ljava/lang/Object;)Z"⟩ : MethodName)) (z := (⟨"com/example/collector_urchin/collectorurchin/store/StampedRecord", "equals", "(Ljava/lang/Object;)Z"⟩ : MethodName)) hown174 (mvT hZ174 (w_ hw 51 rfl)) (mvT hZ174 (w_ hw 52 rfl)) (notFace_of_selects (args := #[]) (mvT hZ174 (w_ hw 54 rfl))) (mvT hZ174 (w_ hw 54 rfl)) (mvT hZ174 (w_ hw 53 rfl)) (by decide) (backOf (W := 0) (rm8c l Z a0 hw [] b172 b164 r3 b3 k3 lib ((ib0.toInt8.toInt32).toInt8.toInt32) ((ib1.toInt8.toInt32).toInt8.toInt32) r11 b11 k11 ljb ((jb0.toInt8.toInt32).toInt8.toInt32) ((jb1.toInt8.toInt32).toInt8.toInt32) (q2 ^^^ q4) q3 r1 b1 k1 lia ((ia0.toInt8.toInt32).toInt8.toInt32) ((ia1.toInt8.toInt32).toInt8.toInt32) r7 b7 k7 lja ((ja0.toInt8.toInt32).toInt8.toInt32) ((ja1.toInt8.toInt32).toInt8.toInt32) q2 q3 cs T174.heap n0 qz202 E174 qz233 F174_id qz246 qz247 qz248 qz249 hl_lib F174_body qz250 qz251 qz252 qz253 hl_ljb F174_created F174_modified qz234 qz235 qz236 qz237 qz238 hl_lia qz239 qz240 qz241 qz242 qz243 hl_lja qz244 qz245 qz254 hcs (Ne.symm ne_r1_r3) (Ne.symm ne_r7_r11)) hZ174 (w_ hw 55 rfl) (w_ hw 28 rfl) (by decide) (by decide)) q256a q256c (g := (mkF m 431 #[iv p0, iv p1, .val (.long q2), .second, .val (.long q3), .second, .val (.long q4), .second, iv p5, iv lia, iv lib, iv lja, iv ljb, iv ia0, iv ia1, iv ib0, iv ib1, iv ja0, iv ja1, iv jb0, iv jb1, rv r1, rv r3, rv r7, rv r11, iv 0, iv 1, .val (.long (q2 ^^^ q4)), .second, .val (.long q3), .second, rv b164, rv b172, iv (((p5.toUInt32 >>> ((2 : Int32) &&& 31).toUInt32).toInt32) &&& (7 : Int32)), iv 0] [.ref b164, .ref b172])) rfl (by rw [hml]; rfl) (Steps.refl _) (argsL := [(.ref b164)]) (rest := []) (lenOf pd_7 rfl) rfl (by show 2 * 0 + _ ≤ _; exact Nat.le_of_eq rfl) (hb hby at_431) (fun _ _ => ⟨rfl, hh232, (by decide : 26 + 0 ≤ _), (by decide : 104 + 0 ≤ _)⟩)
                  dsimp only [Pt.U, Pt.locs, Pt.cells, Pt.slots] at X256 l256 y256 z256 st256 hQ256
                  subst l256 y256 z256
                  obtain ⟨rfl, N256q, hh256⟩ := hQ256
                  have N256 := Fr.app N232 N256q
                  refine own_of (fun _ k => st256.trans k) ?_
                  show own_Out p e below _ (T256.setTop (mkF m 434 #[iv p0, iv p1, .val (.long q2), .second, .val (.long q3), .second, .val (.long q4), .second, iv p5, iv lia, iv lib, iv lja, iv ljb, iv ia0, iv ia1, iv ib0, iv ib1, iv ja0, iv ja1, iv jb0, iv jb1, rv r1, rv r3, rv r7, rv r11, iv 0, iv 1, .val (.long (q2 ^^^ q4)), .second, .val (.long q3), .second, rv b164, rv b172, iv (((p5.toUInt32 >>> ((2 : Int32) &&& 31).toUInt32).toInt32) &&& (7 : Int32)), iv 0] [.int (fqe lib ((ib0.toInt8.toInt32).toInt8.toInt32) ((ib1.toInt8.toInt32).toInt8.toInt32) ljb ((jb0.toInt8.toInt32).toInt8.toInt32) ((jb1.toInt8.toInt32).toInt8.toInt32) (q2 ^^^ q4) q3 lia ((ia0.toInt8.toInt32).toInt8.toInt32) ((ia1.toInt8.toInt32).toInt8.toInt32) lja ((ja0.toInt8.toInt32).toInt8.toInt32) ((ja1.toInt8.toInt32).toInt8.toInt32) q2 q3 cs)]))
                  refine o_iload X256 hx hby at_434 rfl (q := 436) rfl ?_
                  by_cases hc436_257 : (fqe lib ((ib0.toInt8.toInt32).toInt8.toInt32) ((ib1.toInt8.toInt32).toInt8.toInt32) ljb ((jb0.toInt8.toInt32).toInt8.toInt32) ((jb1.toInt8.toInt32).toInt8.toInt32) (q2 ^^^ q4) q3 lia ((ia0.toInt8.toInt32).toInt8.toInt32) ((ia1.toInt8.toInt32).toInt8.toInt32) lja ((ja0.toInt8.toInt32).toInt8.toInt32) ((ja1.toInt8.toInt32).toInt8.toInt32) q2 q3 cs) = (0 : Int32)
                  · skip
                    refine o_icN X256 hx hby at_436 (teq hc436_257).2 (q := 439) rfl ?_
                    refine o_iconst X256 hx hby at_439 (z := 1) rfl (q := 440) rfl ?_
                    refine o_goto X256 hx hby at_440 (by decide) (q := 444) (by decide) ?_
                    exact own_outNW (s := s) (vm₁ := T174.vm) X256 S174 (by rw [hh256]; exact (Nat.le_refl T174.heap.size)) hx hlk (t := .boolean) hret (by simp) (hb hby at_444) (z' := (1 : Int32)) rfl (Q := Q) (hQ _ _ N256) (by decide) (by decide)
                  · skip
                    refine o_icY X256 hx hby at_436 (feq hc436_257).2 (by decide) (q := 443) (by decide) ?_
                    refine o_iconst X256 hx hby at_443 (z := 0) rfl (q := 444) rfl ?_
                    exact (sg125_dead10 p0 p1 q2 q3 q4 p5 lia lib lja ljb ia0 ia1 ib0 ib1 ja0 ja1 jb0 jb1 cs hcs hl_lia hl_lib hl_lja hl_ljb hr_ia0 hr_ia1 hr_ib0 hr_ib1 hr_ja0 hr_ja1 hr_jb0 hr_jb1 hc173_15 hc187_16 hc274_179 hc296_183 hc319_188 hc363_203 hc381_231 hc424_255 hc436_257).elim
                · skip
                  refine o_icY X232 hx hby at_424 (feq hc424_255).2 (by decide) (q := 443) (by decide) ?_
                  refine o_iconst X232 hx hby at_443 (z := 0) rfl (q := 444) rfl ?_
                  exact (sg125_dead11 p0 p1 q2 q3 q4 p5 lia lib lja ljb ia0 ia1 ib0 ib1 ja0 ja1 jb0 jb1 cs hcs hl_lia hl_lib hl_lja hl_ljb hr_ia0 hr_ia1 hr_ib0 hr_ib1 hr_ja0 hr_ja1 hr_jb0 hr_jb1 hc173_15 hc187_16 hc274_179 hc296_183 hc319_188 hc363_203 hc381_231 hc424_255).elim
              · skip
                refine o_ifN X230 hx hby at_381 ((if0 _ _).trans (feq hc381_231).1) (q := 384) rfl ?_
                refine o_iload X230 hx hby at_384 rfl (q := 386) rfl ?_
                refine o_ifN X230 hx hby at_386 ((if0 _ _).trans (teq (by decide : (0 : Int32) = (0 : Int32))).2) (q := 389) rfl ?_
                refine o_lload X230 hx hby at_389 rfl (q := 391) rfl ?_
                refine o_lconst X230 hx hby at_391 (z := 0) rfl (q := 392) rfl ?_
                refine o_lcmp X230 hx hby at_392 (q := 393) rfl ?_
                by_cases hc393_258 : q4 = (0 : Int64)
                · skip
                  refine o_ifN X230 hx hby at_393 (own_leq hc393_258).2 (q := 396) rfl ?_
                  refine o_iload X230 hx hby at_396 rfl (q := 398) rfl ?_
                  refine o_ifY X230 hx hby at_398 ((if0 _ _).trans (feq (by decide : ¬ ((1 : Int32) = (0 : Int32)))).2) (by decide) (q := 408) (by decide) ?_
                  refine o_iconst X230 hx hby at_408 (z := 1) rfl (q := 409) rfl ?_
                  refine o_goto X230 hx hby at_409 (by decide) (q := 413) (by decide) ?_
                  refine o_istore X230 hx hby at_413 (l' := #[iv p0, iv p1, .val (.long q2), .second, .val (.long q3), .second, .val (.long q4), .second, iv p5, iv lia, iv lib, iv lja, iv ljb, iv ia0, iv ia1, iv ib0, iv ib1, iv ja0, iv ja1, iv jb0, iv jb1, rv r1, rv r3, rv r7, rv r11, iv 0, iv 1, .val (.long (q2 ^^^ q4)), .second, .val (.long q3), .second, rv b164, rv b172, iv (((p5.toUInt32 >>> ((2 : Int32) &&& 31).toUInt32).toInt32) &&& (7 : Int32)), iv 1]) rfl (q := 415) rfl ?_
                  refine o_aload X230 hx hby at_415 rfl rfl (q := 417) rfl ?_
                  refine o_aload X230 hx hby at_417 rfl rfl (q := 419) rfl ?_
                  have ne_r1_r3 : r1 ≠ r3 := Nat.ne_of_lt (Nat.lt_of_lt_of_le E1.lt hs3)
                  have ne_r7_r11 : r7 ≠ r11 := Nat.ne_of_lt (Nat.lt_of_lt_of_le E7.lt hs11)
                  have qz260 := ((E167.ext E172).keep K174)
                  have ne_b164_b172 : b164 ≠ b172 := Nat.ne_of_lt (Nat.lt_of_lt_of_le (Nat.lt_of_lt_of_le A164.lt K167.1) (Nat.le_of_eq g172.symm))
                  have qz261 := ((F167_id.ext E172).keep K174 (ninS ne_b164_b172 nin0))
                  have qz262 := (((qz168.keep K167).ext E172).keep K174)
                  have ne_r1_b164 : r1 ≠ b164 := Nat.ne_of_lt (Nat.lt_of_lt_of_le (Nat.lt_of_lt_of_le (Nat.lt_of_lt_of_le (Nat.lt_of_lt_of_le E1.lt K3.1) K7.1) K11.1) (Nat.le_of_eq g164.symm))
                  have ne_r1_b172 : r1 ≠ b172 := Nat.ne_of_lt (Nat.lt_of_lt_of_le (Nat.lt_of_lt_of_le (Nat.lt_of_lt_of_le (Nat.lt_of_lt_of_le (Nat.lt_of_lt_of_le (Nat.lt_of_lt_of_le E1.lt K3.1) K7.1) K11.1) E164.1) K167.1) (Nat.le_of_eq g172.symm))
                  have qz263 := (((((((Fv1.keep K3 nin0).keep K7 nin0).keep K11 nin0).ext E164).keep K167 (ninS ne_r1_b164 nin0)).ext E172).keep K174 (ninS ne_r1_b172 nin0))
                  have qz264 := (((((((Fc1.keep K3 nin0).keep K7 nin0).keep K11 nin0).ext E164).keep K167 (ninS ne_r1_b164 nin0)).ext E172).keep K174 (ninS ne_r1_b172 nin0))
                  have ne_b1_b164 : b1 ≠ b164 := Nat.ne_of_lt (Nat.lt_of_lt_of_le (Nat.lt_of_lt_of_le (Nat.lt_of_lt_of_le (Nat.lt_of_lt_of_le V1.lt K3.1) K7.1) K11.1) (Nat.le_of_eq g164.symm))
                  have ne_b1_b172 : b1 ≠ b172 := Nat.ne_of_lt (Nat.lt_of_lt_of_le (Nat.lt_of_lt_of_le (Nat.lt_of_lt_of_le (Nat.lt_of_lt_of_le (Nat.lt_of_lt_of_le (Nat.lt_of_lt_of_le V1.lt K3.1) K7.1) K11.1) E164.1) K167.1) (Nat.le_of_eq g172.symm))
                  have qz265 := (((((((V1.keep K3 nin0).keep K7 nin0).keep K11 nin0).ext E164).keep K167 (ninS ne_b1_b164 nin0)).ext E172).keep K174 (ninS ne_b1_b172 nin0))
                  have qz266 := ((F167_body.ext E172).keep K174 (ninS ne_b164_b172 nin0))
                  have qz267 := (((qz169.keep K167).ext E172).keep K174)
                  have ne_r7_b164 : r7 ≠ b164 := Nat.ne_of_lt (Nat.lt_of_lt_of_le (Nat.lt_of_lt_of_le E7.lt K11.1) (Nat.le_of_eq g164.symm))
                  have ne_r7_b172 : r7 ≠ b172 := Nat.ne_of_lt (Nat.lt_of_lt_of_le (Nat.lt_of_lt_of_le (Nat.lt_of_lt_of_le (Nat.lt_of_lt_of_le E7.lt K11.1) E164.1) K167.1) (Nat.le_of_eq g172.symm))
                  have qz268 := (((((Fv7.keep K11 nin0).ext E164).keep K167 (ninS ne_r7_b164 nin0)).ext E172).keep K174 (ninS ne_r7_b172 nin0))
                  have qz269 := (((((Fc7.keep K11 nin0).ext E164).keep K167 (ninS ne_r7_b164 nin0)).ext E172).keep K174 (ninS ne_r7_b172 nin0))
                  have ne_b7_b164 : b7 ≠ b164 := Nat.ne_of_lt (Nat.lt_of_lt_of_le (Nat.lt_of_lt_of_le V7.lt K11.1) (Nat.le_of_eq g164.symm))
                  have ne_b7_b172 : b7 ≠ b172 := Nat.ne_of_lt (Nat.lt_of_lt_of_le (Nat.lt_of_lt_of_le (Nat.lt_of_lt_of_le (Nat.lt_of_lt_of_le V7.lt K11.1) E164.1) K167.1) (Nat.le_of_eq g172.symm))
                  have qz270 := (((((V7.keep K11 nin0).ext E164).keep K167 (ninS ne_b7_b164 nin0)).ext E172).keep K174 (ninS ne_b7_b172 nin0))
                  have qz271 := ((F167_created.ext E172).keep K174 (ninS ne_b164_b172 nin0))
                  have qz272 := ((F167_modified.ext E172).keep K174 (ninS ne_b164_b172 nin0))
                  have qz273 := (qz175.keep K174)
                  have ne_r3_b164 : r3 ≠ b164 := Nat.ne_of_lt (Nat.lt_of_lt_of_le (Nat.lt_of_lt_of_le (Nat.lt_of_lt_of_le E3.lt K7.1) K11.1) (Nat.le_of_eq g164.symm))
                  have ne_r3_b172 : r3 ≠ b172 := Nat.ne_of_lt (Nat.lt_of_lt_of_le (Nat.lt_of_lt_of_le (Nat.lt_of_lt_of_le (Nat.lt_of_lt_of_le (Nat.lt_of_lt_of_le E3.lt K7.1) K11.1) E164.1) K167.1) (Nat.le_of_eq g172.symm))
                  have qz274 := ((((((Fv3.keep K7 nin0).keep K11 nin0).ext E164).keep K167 (ninS ne_r3_b164 nin0)).ext E172).keep K174 (ninS ne_r3_b172 nin0))
                  have qz275 := ((((((Fc3.keep K7 nin0).keep K11 nin0).ext E164).keep K167 (ninS ne_r3_b164 nin0)).ext E172).keep K174 (ninS ne_r3_b172 nin0))
                  have ne_b3_b164 : b3 ≠ b164 := Nat.ne_of_lt (Nat.lt_of_lt_of_le (Nat.lt_of_lt_of_le (Nat.lt_of_lt_of_le V3.lt K7.1) K11.1) (Nat.le_of_eq g164.symm))
                  have ne_b3_b172 : b3 ≠ b172 := Nat.ne_of_lt (Nat.lt_of_lt_of_le (Nat.lt_of_lt_of_le (Nat.lt_of_lt_of_le (Nat.lt_of_lt_of_le (Nat.lt_of_lt_of_le V3.lt K7.1) K11.1) E164.1) K167.1) (Nat.le_of_eq g172.symm))
                  have qz276 := ((((((V3.keep K7 nin0).keep K11 nin0).ext E164).keep K167 (ninS ne_b3_b164 nin0)).ext E172).keep K174 (ninS ne_b3_b172 nin0))
                  have qz277 := (qz176.keep K174)
                  have ne_r11_b164 : r11 ≠ b164 := Nat.ne_of_lt (Nat.lt_of_lt_of_le E11.lt (Nat.le_of_eq g164.symm))
                  have ne_r11_b172 : r11 ≠ b172 := Nat.ne_of_lt (Nat.lt_of_lt_of_le (Nat.lt_of_lt_of_le (Nat.lt_of_lt_of_le E11.lt E164.1) K167.1) (Nat.le_of_eq g172.symm))
                  have qz278 := ((((Fv11.ext E164).keep K167 (ninS ne_r11_b164 nin0)).ext E172).keep K174 (ninS ne_r11_b172 nin0))
                  have qz279 := ((((Fc11.ext E164).keep K167 (ninS ne_r11_b164 nin0)).ext E172).keep K174 (ninS ne_r11_b172 nin0))
                  have ne_b11_b164 : b11 ≠ b164 := Nat.ne_of_lt (Nat.lt_of_lt_of_le V11.lt (Nat.le_of_eq g164.symm))
                  have ne_b11_b172 : b11 ≠ b172 := Nat.ne_of_lt (Nat.lt_of_lt_of_le (Nat.lt_of_lt_of_le (Nat.lt_of_lt_of_le V11.lt E164.1) K167.1) (Nat.le_of_eq g172.symm))
                  have qz280 := ((((V11.ext E164).keep K167 (ninS ne_b11_b164 nin0)).ext E172).keep K174 (ninS ne_b11_b172 nin0))
                  have qz281 := (own_staK1 ((own_staK1 ((own_staK0 qz12 K11).ext E164) K167 (own_plainE A164)).ext E172) K174 (own_plainE A172))
                  obtain ⟨cq259, kq259, q259a, q259b, q259c⟩ := isOf hZ174 hh230 qz260
                  obtain ⟨_, _, ⟨T259, L259, k259, n259⟩, -, X259, ⟨Lc259, hQ259, l259, y259, z259⟩, st259⟩ := X230.virtualBack hx (y := (⟨"com/example/collector_urchin/collectorurchin/store/StampedRecord", "equals", "(Ljava/lang/Object;)Z"⟩ : MethodName)) (z := (⟨"com/example/collector_urchin/collectorurchin/store/StampedRecord", "equals", "(Ljava/lang/Object;)Z"⟩ : MethodName)) hown174 (mvT hZ174 (w_ hw 51 rfl)) (mvT hZ174 (w_ hw 52 rfl)) (notFace_of_selects (args := #[]) (mvT hZ174 (w_ hw 54 rfl))) (mvT hZ174 (w_ hw 54 rfl)) (mvT hZ174 (w_ hw 53 rfl)) (by decide) (backOf (W := 0) (rm8c l Z a0 hw [] b164 b172 r1 b1 k1 lia ((ia0.toInt8.toInt32).toInt8.toInt32) ((ia1.toInt8.toInt32).toInt8.toInt32) r7 b7 k7 lja ((ja0.toInt8.toInt32).toInt8.toInt32) ((ja1.toInt8.toInt32).toInt8.toInt32) q2 q3 r3 b3 k3 lib ((ib0.toInt8.toInt32).toInt8.toInt32) ((ib1.toInt8.toInt32).toInt8.toInt32) r11 b11 k11 ljb ((jb0.toInt8.toInt32).toInt8.toInt32) ((jb1.toInt8.toInt32).toInt8.toInt32) (q2 ^^^ q4) q3 cs T174.heap n0 qz202 qz260 E174 qz261 qz262 qz263 qz264 qz265 hl_lia qz266 qz267 qz268 qz269 qz270 hl_lja qz271 qz272 F174_id qz273 qz274 qz275 qz276 hl_lib F174_body qz277 qz278 qz279 qz280 hl_ljb F174_created F174_modified qz281 hcs ne_r1_r3 ne_r7_r11) hZ174 (w_ hw 55 rfl) (w_ hw 28 rfl) (by decide) (by decide)) q259a q259c (g := (mkF m 419 #[iv p0, iv p1, .val (.long q2), .second, .val (.long q3), .second, .val (.long q4), .second, iv p5, iv lia, iv lib, iv lja, iv ljb, iv ia0, iv ia1, iv ib0, iv ib1, iv ja0, iv ja1, iv jb0, iv jb1, rv r1, rv r3, rv r7, rv r11, iv 0, iv 1, .val (.long (q2 ^^^ q4)), .second, .val (.long q3), .second, rv b164, rv b172, iv (((p5.toUInt32 >>> ((2 : Int32) &&& 31).toUInt32).toInt32) &&& (7 : Int32)), iv 1] [.ref b172, .ref b164])) rfl (by rw [hml]; rfl) (Steps.refl _) (argsL := [(.ref b172)]) (rest := []) (lenOf pd_7 rfl) rfl (by show 2 * 0 + _ ≤ _; exact Nat.le_of_eq rfl) (hb hby at_419) (fun _ _ => ⟨rfl, hh230, (by decide : 26 + 0 ≤ _), (by decide : 104 + 0 ≤ _)⟩)
                  dsimp only [Pt.U, Pt.locs, Pt.cells, Pt.slots] at X259 l259 y259 z259 st259 hQ259
                  subst l259 y259 z259
                  obtain ⟨rfl, N259q, hh259⟩ := hQ259
                  have N259 := Fr.app N230 N259q
                  refine own_of (fun _ k => st259.trans k) ?_
                  show own_Out p e below _ (T259.setTop (mkF m 422 #[iv p0, iv p1, .val (.long q2), .second, .val (.long q3), .second, .val (.long q4), .second, iv p5, iv lia, iv lib, iv lja, iv ljb, iv ia0, iv ia1, iv ib0, iv ib1, iv ja0, iv ja1, iv jb0, iv jb1, rv r1, rv r3, rv r7, rv r11, iv 0, iv 1, .val (.long (q2 ^^^ q4)), .second, .val (.long q3), .second, rv b164, rv b172, iv (((p5.toUInt32 >>> ((2 : Int32) &&& 31).toUInt32).toInt32) &&& (7 : Int32)), iv 1] [.int (fqe lia ((ia0.toInt8.toInt32).toInt8.toInt32) ((ia1.toInt8.toInt32).toInt8.toInt32) lja ((ja0.toInt8.toInt32).toInt8.toInt32) ((ja1.toInt8.toInt32).toInt8.toInt32) q2 q3 lib ((ib0.toInt8.toInt32).toInt8.toInt32) ((ib1.toInt8.toInt32).toInt8.toInt32) ljb ((jb0.toInt8.toInt32).toInt8.toInt32) ((jb1.toInt8.toInt32).toInt8.toInt32) (q2 ^^^ q4) q3 cs)]))
                  refine o_iload X259 hx hby at_422 rfl (q := 424) rfl ?_
                  by_cases hc424_282 : (fqe lia ((ia0.toInt8.toInt32).toInt8.toInt32) ((ia1.toInt8.toInt32).toInt8.toInt32) lja ((ja0.toInt8.toInt32).toInt8.toInt32) ((ja1.toInt8.toInt32).toInt8.toInt32) q2 q3 lib ((ib0.toInt8.toInt32).toInt8.toInt32) ((ib1.toInt8.toInt32).toInt8.toInt32) ljb ((jb0.toInt8.toInt32).toInt8.toInt32) ((jb1.toInt8.toInt32).toInt8.toInt32) (q2 ^^^ q4) q3 cs) = (1 : Int32)
                  · skip
                    refine o_icN X259 hx hby at_424 (teq hc424_282).2 (q := 427) rfl ?_
                    refine o_aload X259 hx hby at_427 rfl rfl (q := 429) rfl ?_
                    refine o_aload X259 hx hby at_429 rfl rfl (q := 431) rfl ?_
                    obtain ⟨cq283, kq283, q283a, q283b, q283c⟩ := isOf hZ174 hh259 E174
                    obtain ⟨_, _, ⟨T283, L283, k283, n283⟩, -, X283, ⟨Lc283, hQ283, l283, y283, z283⟩, st283⟩ := X259.virtualBack hx (y := (⟨"com/example/collector_urchin/collectorurchin/store/StampedRecord", "equals", "(Ljava/lang/Object;)Z"⟩ : MethodName)) (z := (⟨"com/example/collector_urchin/collectorurchin/store/StampedRecord", "equals", "(Ljava/lang/Object;)Z"⟩ : MethodName)) hown174 (mvT hZ174 (w_ hw 51 rfl)) (mvT hZ174 (w_ hw 52 rfl)) (notFace_of_selects (args := #[]) (mvT hZ174 (w_ hw 54 rfl))) (mvT hZ174 (w_ hw 54 rfl)) (mvT hZ174 (w_ hw 53 rfl)) (by decide) (backOf (W := 0) (rm8c l Z a0 hw [] b172 b164 r3 b3 k3 lib ((ib0.toInt8.toInt32).toInt8.toInt32) ((ib1.toInt8.toInt32).toInt8.toInt32) r11 b11 k11 ljb ((jb0.toInt8.toInt32).toInt8.toInt32) ((jb1.toInt8.toInt32).toInt8.toInt32) (q2 ^^^ q4) q3 r1 b1 k1 lia ((ia0.toInt8.toInt32).toInt8.toInt32) ((ia1.toInt8.toInt32).toInt8.toInt32) r7 b7 k7 lja ((ja0.toInt8.toInt32).toInt8.toInt32) ((ja1.toInt8.toInt32).toInt8.toInt32) q2 q3 cs T174.heap n0 qz202 E174 qz260 F174_id qz273 qz274 qz275 qz276 hl_lib F174_body qz277 qz278 qz279 qz280 hl_ljb F174_created F174_modified qz261 qz262 qz263 qz264 qz265 hl_lia qz266 qz267 qz268 qz269 qz270 hl_lja qz271 qz272 qz281 hcs (Ne.symm ne_r1_r3) (Ne.symm ne_r7_r11)) hZ174 (w_ hw 55 rfl) (w_ hw 28 rfl) (by decide) (by decide)) q283a q283c (g := (mkF m 431 #[iv p0, iv p1, .val (.long q2), .second, .val (.long q3), .second, .val (.long q4), .second, iv p5, iv lia, iv lib, iv lja, iv ljb, iv ia0, iv ia1, iv ib0, iv ib1, iv ja0, iv ja1, iv jb0, iv jb1, rv r1, rv r3, rv r7, rv r11, iv 0, iv 1, .val (.long (q2 ^^^ q4)), .second, .val (.long q3), .second, rv b164, rv b172, iv (((p5.toUInt32 >>> ((2 : Int32) &&& 31).toUInt32).toInt32) &&& (7 : Int32)), iv 1] [.ref b164, .ref b172])) rfl (by rw [hml]; rfl) (Steps.refl _) (argsL := [(.ref b164)]) (rest := []) (lenOf pd_7 rfl) rfl (by show 2 * 0 + _ ≤ _; exact Nat.le_of_eq rfl) (hb hby at_431) (fun _ _ => ⟨rfl, hh259, (by decide : 26 + 0 ≤ _), (by decide : 104 + 0 ≤ _)⟩)
                    dsimp only [Pt.U, Pt.locs, Pt.cells, Pt.slots] at X283 l283 y283 z283 st283 hQ283
                    subst l283 y283 z283
                    obtain ⟨rfl, N283q, hh283⟩ := hQ283
                    have N283 := Fr.app N259 N283q
                    refine own_of (fun _ k => st283.trans k) ?_
                    show own_Out p e below _ (T283.setTop (mkF m 434 #[iv p0, iv p1, .val (.long q2), .second, .val (.long q3), .second, .val (.long q4), .second, iv p5, iv lia, iv lib, iv lja, iv ljb, iv ia0, iv ia1, iv ib0, iv ib1, iv ja0, iv ja1, iv jb0, iv jb1, rv r1, rv r3, rv r7, rv r11, iv 0, iv 1, .val (.long (q2 ^^^ q4)), .second, .val (.long q3), .second, rv b164, rv b172, iv (((p5.toUInt32 >>> ((2 : Int32) &&& 31).toUInt32).toInt32) &&& (7 : Int32)), iv 1] [.int (fqe lib ((ib0.toInt8.toInt32).toInt8.toInt32) ((ib1.toInt8.toInt32).toInt8.toInt32) ljb ((jb0.toInt8.toInt32).toInt8.toInt32) ((jb1.toInt8.toInt32).toInt8.toInt32) (q2 ^^^ q4) q3 lia ((ia0.toInt8.toInt32).toInt8.toInt32) ((ia1.toInt8.toInt32).toInt8.toInt32) lja ((ja0.toInt8.toInt32).toInt8.toInt32) ((ja1.toInt8.toInt32).toInt8.toInt32) q2 q3 cs)]))
                    refine o_iload X283 hx hby at_434 rfl (q := 436) rfl ?_
                    by_cases hc436_284 : (fqe lib ((ib0.toInt8.toInt32).toInt8.toInt32) ((ib1.toInt8.toInt32).toInt8.toInt32) ljb ((jb0.toInt8.toInt32).toInt8.toInt32) ((jb1.toInt8.toInt32).toInt8.toInt32) (q2 ^^^ q4) q3 lia ((ia0.toInt8.toInt32).toInt8.toInt32) ((ia1.toInt8.toInt32).toInt8.toInt32) lja ((ja0.toInt8.toInt32).toInt8.toInt32) ((ja1.toInt8.toInt32).toInt8.toInt32) q2 q3 cs) = (1 : Int32)
                    · skip
                      refine o_icN X283 hx hby at_436 (teq hc436_284).2 (q := 439) rfl ?_
                      refine o_iconst X283 hx hby at_439 (z := 1) rfl (q := 440) rfl ?_
                      refine o_goto X283 hx hby at_440 (by decide) (q := 444) (by decide) ?_
                      exact own_outNW (s := s) (vm₁ := T174.vm) X283 S174 (by rw [hh283]; exact (Nat.le_refl T174.heap.size)) hx hlk (t := .boolean) hret (by simp) (hb hby at_444) (z' := (1 : Int32)) rfl (Q := Q) (hQ _ _ N283) (by decide) (by decide)
                    · skip
                      refine o_icY X283 hx hby at_436 (feq hc436_284).2 (by decide) (q := 443) (by decide) ?_
                      refine o_iconst X283 hx hby at_443 (z := 0) rfl (q := 444) rfl ?_
                      exact (sg125_dead12 p0 p1 q2 q3 q4 p5 lia lib lja ljb ia0 ia1 ib0 ib1 ja0 ja1 jb0 jb1 cs hcs hl_lia hl_lib hl_lja hl_ljb hr_ia0 hr_ia1 hr_ib0 hr_ib1 hr_ja0 hr_ja1 hr_jb0 hr_jb1 hc173_15 hc187_16 hc274_179 hc296_183 hc319_188 hc363_203 hc381_231 hc393_258 hc424_282 hc436_284).elim
                  · skip
                    refine o_icY X259 hx hby at_424 (feq hc424_282).2 (by decide) (q := 443) (by decide) ?_
                    refine o_iconst X259 hx hby at_443 (z := 0) rfl (q := 444) rfl ?_
                    exact (sg125_dead13 p0 p1 q2 q3 q4 p5 lia lib lja ljb ia0 ia1 ib0 ib1 ja0 ja1 jb0 jb1 cs hcs hl_lia hl_lib hl_lja hl_ljb hr_ia0 hr_ia1 hr_ib0 hr_ib1 hr_ja0 hr_ja1 hr_jb0 hr_jb1 hc173_15 hc187_16 hc274_179 hc296_183 hc319_188 hc363_203 hc381_231 hc393_258 hc424_282).elim
                · skip
                  refine o_ifY X230 hx hby at_393 (own_lfeq hc393_258).2 (by decide) (q := 412) (by decide) ?_
                  refine o_iconst X230 hx hby at_412 (z := 0) rfl (q := 413) rfl ?_
                  refine o_istore X230 hx hby at_413 (l' := #[iv p0, iv p1, .val (.long q2), .second, .val (.long q3), .second, .val (.long q4), .second, iv p5, iv lia, iv lib, iv lja, iv ljb, iv ia0, iv ia1, iv ib0, iv ib1, iv ja0, iv ja1, iv jb0, iv jb1, rv r1, rv r3, rv r7, rv r11, iv 0, iv 1, .val (.long (q2 ^^^ q4)), .second, .val (.long q3), .second, rv b164, rv b172, iv (((p5.toUInt32 >>> ((2 : Int32) &&& 31).toUInt32).toInt32) &&& (7 : Int32)), iv 0]) rfl (q := 415) rfl ?_
                  refine o_aload X230 hx hby at_415 rfl rfl (q := 417) rfl ?_
                  refine o_aload X230 hx hby at_417 rfl rfl (q := 419) rfl ?_
                  have ne_r1_r3 : r1 ≠ r3 := Nat.ne_of_lt (Nat.lt_of_lt_of_le E1.lt hs3)
                  have ne_r7_r11 : r7 ≠ r11 := Nat.ne_of_lt (Nat.lt_of_lt_of_le E7.lt hs11)
                  have qz286 := ((E167.ext E172).keep K174)
                  have ne_b164_b172 : b164 ≠ b172 := Nat.ne_of_lt (Nat.lt_of_lt_of_le (Nat.lt_of_lt_of_le A164.lt K167.1) (Nat.le_of_eq g172.symm))
                  have qz287 := ((F167_id.ext E172).keep K174 (ninS ne_b164_b172 nin0))
                  have qz288 := (((qz168.keep K167).ext E172).keep K174)
                  have ne_r1_b164 : r1 ≠ b164 := Nat.ne_of_lt (Nat.lt_of_lt_of_le (Nat.lt_of_lt_of_le (Nat.lt_of_lt_of_le (Nat.lt_of_lt_of_le E1.lt K3.1) K7.1) K11.1) (Nat.le_of_eq g164.symm))
                  have ne_r1_b172 : r1 ≠ b172 := Nat.ne_of_lt (Nat.lt_of_lt_of_le (Nat.lt_of_lt_of_le (Nat.lt_of_lt_of_le (Nat.lt_of_lt_of_le (Nat.lt_of_lt_of_le (Nat.lt_of_lt_of_le E1.lt K3.1) K7.1) K11.1) E164.1) K167.1) (Nat.le_of_eq g172.symm))
                  have qz289 := (((((((Fv1.keep K3 nin0).keep K7 nin0).keep K11 nin0).ext E164).keep K167 (ninS ne_r1_b164 nin0)).ext E172).keep K174 (ninS ne_r1_b172 nin0))
                  have qz290 := (((((((Fc1.keep K3 nin0).keep K7 nin0).keep K11 nin0).ext E164).keep K167 (ninS ne_r1_b164 nin0)).ext E172).keep K174 (ninS ne_r1_b172 nin0))
                  have ne_b1_b164 : b1 ≠ b164 := Nat.ne_of_lt (Nat.lt_of_lt_of_le (Nat.lt_of_lt_of_le (Nat.lt_of_lt_of_le (Nat.lt_of_lt_of_le V1.lt K3.1) K7.1) K11.1) (Nat.le_of_eq g164.symm))
                  have ne_b1_b172 : b1 ≠ b172 := Nat.ne_of_lt (Nat.lt_of_lt_of_le (Nat.lt_of_lt_of_le (Nat.lt_of_lt_of_le (Nat.lt_of_lt_of_le (Nat.lt_of_lt_of_le (Nat.lt_of_lt_of_le V1.lt K3.1) K7.1) K11.1) E164.1) K167.1) (Nat.le_of_eq g172.symm))
                  have qz291 := (((((((V1.keep K3 nin0).keep K7 nin0).keep K11 nin0).ext E164).keep K167 (ninS ne_b1_b164 nin0)).ext E172).keep K174 (ninS ne_b1_b172 nin0))
                  have qz292 := ((F167_body.ext E172).keep K174 (ninS ne_b164_b172 nin0))
                  have qz293 := (((qz169.keep K167).ext E172).keep K174)
                  have ne_r7_b164 : r7 ≠ b164 := Nat.ne_of_lt (Nat.lt_of_lt_of_le (Nat.lt_of_lt_of_le E7.lt K11.1) (Nat.le_of_eq g164.symm))
                  have ne_r7_b172 : r7 ≠ b172 := Nat.ne_of_lt (Nat.lt_of_lt_of_le (Nat.lt_of_lt_of_le (Nat.lt_of_lt_of_le (Nat.lt_of_lt_of_le E7.lt K11.1) E164.1) K167.1) (Nat.le_of_eq g172.symm))
                  have qz294 := (((((Fv7.keep K11 nin0).ext E164).keep K167 (ninS ne_r7_b164 nin0)).ext E172).keep K174 (ninS ne_r7_b172 nin0))
                  have qz295 := (((((Fc7.keep K11 nin0).ext E164).keep K167 (ninS ne_r7_b164 nin0)).ext E172).keep K174 (ninS ne_r7_b172 nin0))
                  have ne_b7_b164 : b7 ≠ b164 := Nat.ne_of_lt (Nat.lt_of_lt_of_le (Nat.lt_of_lt_of_le V7.lt K11.1) (Nat.le_of_eq g164.symm))
                  have ne_b7_b172 : b7 ≠ b172 := Nat.ne_of_lt (Nat.lt_of_lt_of_le (Nat.lt_of_lt_of_le (Nat.lt_of_lt_of_le (Nat.lt_of_lt_of_le V7.lt K11.1) E164.1) K167.1) (Nat.le_of_eq g172.symm))
                  have qz296 := (((((V7.keep K11 nin0).ext E164).keep K167 (ninS ne_b7_b164 nin0)).ext E172).keep K174 (ninS ne_b7_b172 nin0))
                  have qz297 := ((F167_created.ext E172).keep K174 (ninS ne_b164_b172 nin0))
                  have qz298 := ((F167_modified.ext E172).keep K174 (ninS ne_b164_b172 nin0))
                  have qz299 := (qz175.keep K174)
                  have ne_r3_b164 : r3 ≠ b164 := Nat.ne_of_lt (Nat.lt_of_lt_of_le (Nat.lt_of_lt_of_le (Nat.lt_of_lt_of_le E3.lt K7.1) K11.1) (Nat.le_of_eq g164.symm))
                  have ne_r3_b172 : r3 ≠ b172 := Nat.ne_of_lt (Nat.lt_of_lt_of_le (Nat.lt_of_lt_of_le (Nat.lt_of_lt_of_le (Nat.lt_of_lt_of_le (Nat.lt_of_lt_of_le E3.lt K7.1) K11.1) E164.1) K167.1) (Nat.le_of_eq g172.symm))
                  have qz300 := ((((((Fv3.keep K7 nin0).keep K11 nin0).ext E164).keep K167 (ninS ne_r3_b164 nin0)).ext E172).keep K174 (ninS ne_r3_b172 nin0))
                  have qz301 := ((((((Fc3.keep K7 nin0).keep K11 nin0).ext E164).keep K167 (ninS ne_r3_b164 nin0)).ext E172).keep K174 (ninS ne_r3_b172 nin0))
                  have ne_b3_b164 : b3 ≠ b164 := Nat.ne_of_lt (Nat.lt_of_lt_of_le (Nat.lt_of_lt_of_le (Nat.lt_of_lt_of_le V3.lt K7.1) K11.1) (Nat.le_of_eq g164.symm))
                  have ne_b3_b172 : b3 ≠ b172 := Nat.ne_of_lt (Nat.lt_of_lt_of_le (Nat.lt_of_lt_of_le (Nat.lt_of_lt_of_le (Nat.lt_of_lt_of_le (Nat.lt_of_lt_of_le V3.lt K7.1) K11.1) E164.1) K167.1) (Nat.le_of_eq g172.symm))
                  have qz302 := ((((((V3.keep K7 nin0).keep K11 nin0).ext E164).keep K167 (ninS ne_b3_b164 nin0)).ext E172).keep K174 (ninS ne_b3_b172 nin0))
                  have qz303 := (qz176.keep K174)
                  have ne_r11_b164 : r11 ≠ b164 := Nat.ne_of_lt (Nat.lt_of_lt_of_le E11.lt (Nat.le_of_eq g164.symm))
                  have ne_r11_b172 : r11 ≠ b172 := Nat.ne_of_lt (Nat.lt_of_lt_of_le (Nat.lt_of_lt_of_le (Nat.lt_of_lt_of_le E11.lt E164.1) K167.1) (Nat.le_of_eq g172.symm))
                  have qz304 := ((((Fv11.ext E164).keep K167 (ninS ne_r11_b164 nin0)).ext E172).keep K174 (ninS ne_r11_b172 nin0))
                  have qz305 := ((((Fc11.ext E164).keep K167 (ninS ne_r11_b164 nin0)).ext E172).keep K174 (ninS ne_r11_b172 nin0))
                  have ne_b11_b164 : b11 ≠ b164 := Nat.ne_of_lt (Nat.lt_of_lt_of_le V11.lt (Nat.le_of_eq g164.symm))
                  have ne_b11_b172 : b11 ≠ b172 := Nat.ne_of_lt (Nat.lt_of_lt_of_le (Nat.lt_of_lt_of_le (Nat.lt_of_lt_of_le V11.lt E164.1) K167.1) (Nat.le_of_eq g172.symm))
                  have qz306 := ((((V11.ext E164).keep K167 (ninS ne_b11_b164 nin0)).ext E172).keep K174 (ninS ne_b11_b172 nin0))
                  have qz307 := (own_staK1 ((own_staK1 ((own_staK0 qz12 K11).ext E164) K167 (own_plainE A164)).ext E172) K174 (own_plainE A172))
                  obtain ⟨cq285, kq285, q285a, q285b, q285c⟩ := isOf hZ174 hh230 qz286
                  obtain ⟨_, _, ⟨T285, L285, k285, n285⟩, -, X285, ⟨Lc285, hQ285, l285, y285, z285⟩, st285⟩ := X230.virtualBack hx (y := (⟨"com/example/collector_urchin/collectorurchin/store/StampedRecord", "equals", "(Ljava/lang/Object;)Z"⟩ : MethodName)) (z := (⟨"com/example/collector_urchin/collectorurchin/store/StampedRecord", "equals", "(Ljava/lang/Object;)Z"⟩ : MethodName)) hown174 (mvT hZ174 (w_ hw 51 rfl)) (mvT hZ174 (w_ hw 52 rfl)) (notFace_of_selects (args := #[]) (mvT hZ174 (w_ hw 54 rfl))) (mvT hZ174 (w_ hw 54 rfl)) (mvT hZ174 (w_ hw 53 rfl)) (by decide) (backOf (W := 0) (rm8c l Z a0 hw [] b164 b172 r1 b1 k1 lia ((ia0.toInt8.toInt32).toInt8.toInt32) ((ia1.toInt8.toInt32).toInt8.toInt32) r7 b7 k7 lja ((ja0.toInt8.toInt32).toInt8.toInt32) ((ja1.toInt8.toInt32).toInt8.toInt32) q2 q3 r3 b3 k3 lib ((ib0.toInt8.toInt32).toInt8.toInt32) ((ib1.toInt8.toInt32).toInt8.toInt32) r11 b11 k11 ljb ((jb0.toInt8.toInt32).toInt8.toInt32) ((jb1.toInt8.toInt32).toInt8.toInt32) (q2 ^^^ q4) q3 cs T174.heap n0 qz202 qz286 E174 qz287 qz288 qz289 qz290 qz291 hl_lia qz292 qz293 qz294 qz295 qz296 hl_lja qz297 qz298 F174_id qz299 qz300 qz301 qz302 hl_lib F174_body qz303 qz304 qz305 qz306 hl_ljb F174_created F174_modified qz307 hcs ne_r1_r3 ne_r7_r11) hZ174 (w_ hw 55 rfl) (w_ hw 28 rfl) (by decide) (by decide)) q285a q285c (g := (mkF m 419 #[iv p0, iv p1, .val (.long q2), .second, .val (.long q3), .second, .val (.long q4), .second, iv p5, iv lia, iv lib, iv lja, iv ljb, iv ia0, iv ia1, iv ib0, iv ib1, iv ja0, iv ja1, iv jb0, iv jb1, rv r1, rv r3, rv r7, rv r11, iv 0, iv 1, .val (.long (q2 ^^^ q4)), .second, .val (.long q3), .second, rv b164, rv b172, iv (((p5.toUInt32 >>> ((2 : Int32) &&& 31).toUInt32).toInt32) &&& (7 : Int32)), iv 0] [.ref b172, .ref b164])) rfl (by rw [hml]; rfl) (Steps.refl _) (argsL := [(.ref b172)]) (rest := []) (lenOf pd_7 rfl) rfl (by show 2 * 0 + _ ≤ _; exact Nat.le_of_eq rfl) (hb hby at_419) (fun _ _ => ⟨rfl, hh230, (by decide : 26 + 0 ≤ _), (by decide : 104 + 0 ≤ _)⟩)
                  dsimp only [Pt.U, Pt.locs, Pt.cells, Pt.slots] at X285 l285 y285 z285 st285 hQ285
                  subst l285 y285 z285
                  obtain ⟨rfl, N285q, hh285⟩ := hQ285
                  have N285 := Fr.app N230 N285q
                  refine own_of (fun _ k => st285.trans k) ?_
                  show own_Out p e below _ (T285.setTop (mkF m 422 #[iv p0, iv p1, .val (.long q2), .second, .val (.long q3), .second, .val (.long q4), .second, iv p5, iv lia, iv lib, iv lja, iv ljb, iv ia0, iv ia1, iv ib0, iv ib1, iv ja0, iv ja1, iv jb0, iv jb1, rv r1, rv r3, rv r7, rv r11, iv 0, iv 1, .val (.long (q2 ^^^ q4)), .second, .val (.long q3), .second, rv b164, rv b172, iv (((p5.toUInt32 >>> ((2 : Int32) &&& 31).toUInt32).toInt32) &&& (7 : Int32)), iv 0] [.int (fqe lia ((ia0.toInt8.toInt32).toInt8.toInt32) ((ia1.toInt8.toInt32).toInt8.toInt32) lja ((ja0.toInt8.toInt32).toInt8.toInt32) ((ja1.toInt8.toInt32).toInt8.toInt32) q2 q3 lib ((ib0.toInt8.toInt32).toInt8.toInt32) ((ib1.toInt8.toInt32).toInt8.toInt32) ljb ((jb0.toInt8.toInt32).toInt8.toInt32) ((jb1.toInt8.toInt32).toInt8.toInt32) (q2 ^^^ q4) q3 cs)]))
                  refine o_iload X285 hx hby at_422 rfl (q := 424) rfl ?_
                  by_cases hc424_308 : (fqe lia ((ia0.toInt8.toInt32).toInt8.toInt32) ((ia1.toInt8.toInt32).toInt8.toInt32) lja ((ja0.toInt8.toInt32).toInt8.toInt32) ((ja1.toInt8.toInt32).toInt8.toInt32) q2 q3 lib ((ib0.toInt8.toInt32).toInt8.toInt32) ((ib1.toInt8.toInt32).toInt8.toInt32) ljb ((jb0.toInt8.toInt32).toInt8.toInt32) ((jb1.toInt8.toInt32).toInt8.toInt32) (q2 ^^^ q4) q3 cs) = (0 : Int32)
                  · skip
                    refine o_icN X285 hx hby at_424 (teq hc424_308).2 (q := 427) rfl ?_
                    refine o_aload X285 hx hby at_427 rfl rfl (q := 429) rfl ?_
                    refine o_aload X285 hx hby at_429 rfl rfl (q := 431) rfl ?_
                    obtain ⟨cq309, kq309, q309a, q309b, q309c⟩ := isOf hZ174 hh285 E174
                    obtain ⟨_, _, ⟨T309, L309, k309, n309⟩, -, X309, ⟨Lc309, hQ309, l309, y309, z309⟩, st309⟩ := X285.virtualBack hx (y := (⟨"com/example/collector_urchin/collectorurchin/store/StampedRecord", "equals", "(Ljava/lang/Object;)Z"⟩ : MethodName)) (z := (⟨"com/example/collector_urchin/collectorurchin/store/StampedRecord", "equals", "(Ljava/lang/Object;)Z"⟩ : MethodName)) hown174 (mvT hZ174 (w_ hw 51 rfl)) (mvT hZ174 (w_ hw 52 rfl)) (notFace_of_selects (args := #[]) (mvT hZ174 (w_ hw 54 rfl))) (mvT hZ174 (w_ hw 54 rfl)) (mvT hZ174 (w_ hw 53 rfl)) (by decide) (backOf (W := 0) (rm8c l Z a0 hw [] b172 b164 r3 b3 k3 lib ((ib0.toInt8.toInt32).toInt8.toInt32) ((ib1.toInt8.toInt32).toInt8.toInt32) r11 b11 k11 ljb ((jb0.toInt8.toInt32).toInt8.toInt32) ((jb1.toInt8.toInt32).toInt8.toInt32) (q2 ^^^ q4) q3 r1 b1 k1 lia ((ia0.toInt8.toInt32).toInt8.toInt32) ((ia1.toInt8.toInt32).toInt8.toInt32) r7 b7 k7 lja ((ja0.toInt8.toInt32).toInt8.toInt32) ((ja1.toInt8.toInt32).toInt8.toInt32) q2 q3 cs T174.heap n0 qz202 E174 qz286 F174_id qz299 qz300 qz301 qz302 hl_lib F174_body qz303 qz304 qz305 qz306 hl_ljb F174_created F174_modified qz287 qz288 qz289 qz290 qz291 hl_lia qz292 qz293 qz294 qz295 qz296 hl_lja qz297 qz298 qz307 hcs (Ne.symm ne_r1_r3) (Ne.symm ne_r7_r11)) hZ174 (w_ hw 55 rfl) (w_ hw 28 rfl) (by decide) (by decide)) q309a q309c (g := (mkF m 431 #[iv p0, iv p1, .val (.long q2), .second, .val (.long q3), .second, .val (.long q4), .second, iv p5, iv lia, iv lib, iv lja, iv ljb, iv ia0, iv ia1, iv ib0, iv ib1, iv ja0, iv ja1, iv jb0, iv jb1, rv r1, rv r3, rv r7, rv r11, iv 0, iv 1, .val (.long (q2 ^^^ q4)), .second, .val (.long q3), .second, rv b164, rv b172, iv (((p5.toUInt32 >>> ((2 : Int32) &&& 31).toUInt32).toInt32) &&& (7 : Int32)), iv 0] [.ref b164, .ref b172])) rfl (by rw [hml]; rfl) (Steps.refl _) (argsL := [(.ref b164)]) (rest := []) (lenOf pd_7 rfl) rfl (by show 2 * 0 + _ ≤ _; exact Nat.le_of_eq rfl) (hb hby at_431) (fun _ _ => ⟨rfl, hh285, (by decide : 26 + 0 ≤ _), (by decide : 104 + 0 ≤ _)⟩)
                    dsimp only [Pt.U, Pt.locs, Pt.cells, Pt.slots] at X309 l309 y309 z309 st309 hQ309
                    subst l309 y309 z309
                    obtain ⟨rfl, N309q, hh309⟩ := hQ309
                    have N309 := Fr.app N285 N309q
                    refine own_of (fun _ k => st309.trans k) ?_
                    show own_Out p e below _ (T309.setTop (mkF m 434 #[iv p0, iv p1, .val (.long q2), .second, .val (.long q3), .second, .val (.long q4), .second, iv p5, iv lia, iv lib, iv lja, iv ljb, iv ia0, iv ia1, iv ib0, iv ib1, iv ja0, iv ja1, iv jb0, iv jb1, rv r1, rv r3, rv r7, rv r11, iv 0, iv 1, .val (.long (q2 ^^^ q4)), .second, .val (.long q3), .second, rv b164, rv b172, iv (((p5.toUInt32 >>> ((2 : Int32) &&& 31).toUInt32).toInt32) &&& (7 : Int32)), iv 0] [.int (fqe lib ((ib0.toInt8.toInt32).toInt8.toInt32) ((ib1.toInt8.toInt32).toInt8.toInt32) ljb ((jb0.toInt8.toInt32).toInt8.toInt32) ((jb1.toInt8.toInt32).toInt8.toInt32) (q2 ^^^ q4) q3 lia ((ia0.toInt8.toInt32).toInt8.toInt32) ((ia1.toInt8.toInt32).toInt8.toInt32) lja ((ja0.toInt8.toInt32).toInt8.toInt32) ((ja1.toInt8.toInt32).toInt8.toInt32) q2 q3 cs)]))
                    refine o_iload X309 hx hby at_434 rfl (q := 436) rfl ?_
                    by_cases hc436_310 : (fqe lib ((ib0.toInt8.toInt32).toInt8.toInt32) ((ib1.toInt8.toInt32).toInt8.toInt32) ljb ((jb0.toInt8.toInt32).toInt8.toInt32) ((jb1.toInt8.toInt32).toInt8.toInt32) (q2 ^^^ q4) q3 lia ((ia0.toInt8.toInt32).toInt8.toInt32) ((ia1.toInt8.toInt32).toInt8.toInt32) lja ((ja0.toInt8.toInt32).toInt8.toInt32) ((ja1.toInt8.toInt32).toInt8.toInt32) q2 q3 cs) = (0 : Int32)
                    · skip
                      refine o_icN X309 hx hby at_436 (teq hc436_310).2 (q := 439) rfl ?_
                      refine o_iconst X309 hx hby at_439 (z := 1) rfl (q := 440) rfl ?_
                      refine o_goto X309 hx hby at_440 (by decide) (q := 444) (by decide) ?_
                      exact own_outNW (s := s) (vm₁ := T174.vm) X309 S174 (by rw [hh309]; exact (Nat.le_refl T174.heap.size)) hx hlk (t := .boolean) hret (by simp) (hb hby at_444) (z' := (1 : Int32)) rfl (Q := Q) (hQ _ _ N309) (by decide) (by decide)
                    · skip
                      refine o_icY X309 hx hby at_436 (feq hc436_310).2 (by decide) (q := 443) (by decide) ?_
                      refine o_iconst X309 hx hby at_443 (z := 0) rfl (q := 444) rfl ?_
                      exact (sg125_dead14 p0 p1 q2 q3 q4 p5 lia lib lja ljb ia0 ia1 ib0 ib1 ja0 ja1 jb0 jb1 cs hcs hl_lia hl_lib hl_lja hl_ljb hr_ia0 hr_ia1 hr_ib0 hr_ib1 hr_ja0 hr_ja1 hr_jb0 hr_jb1 hc173_15 hc187_16 hc274_179 hc296_183 hc319_188 hc363_203 hc381_231 hc393_258 hc424_308 hc436_310).elim
                  · skip
                    refine o_icY X285 hx hby at_424 (feq hc424_308).2 (by decide) (q := 443) (by decide) ?_
                    refine o_iconst X285 hx hby at_443 (z := 0) rfl (q := 444) rfl ?_
                    exact (sg125_dead15 p0 p1 q2 q3 q4 p5 lia lib lja ljb ia0 ia1 ib0 ib1 ja0 ja1 jb0 jb1 cs hcs hl_lia hl_lib hl_lja hl_ljb hr_ia0 hr_ia1 hr_ib0 hr_ib1 hr_ja0 hr_ja1 hr_jb0 hr_jb1 hc173_15 hc187_16 hc274_179 hc296_183 hc319_188 hc363_203 hc381_231 hc393_258 hc424_308).elim
  · skip
    refine o_ifN X11 hx hby at_173 ((if0 _ _).trans (feq hc173_15).1) (q := 176) rfl ?_
    refine o_iconst X11 hx hby at_176 (z := 1) rfl (q := 177) rfl ?_
    refine o_goto X11 hx hby at_177 (by decide) (q := 181) (by decide) ?_
    refine o_istore X11 hx hby at_181 (l' := #[iv p0, iv p1, .val (.long q2), .second, .val (.long q3), .second, .val (.long q4), .second, iv p5, iv lia, iv lib, iv lja, iv ljb, iv ia0, iv ia1, iv ib0, iv ib1, iv ja0, iv ja1, iv jb0, iv jb1, rv r1, rv r3, rv r7, rv r11, iv 1, .unset, .unset, .unset, .unset, .unset, .unset, .unset, .unset, .unset]) rfl (q := 183) rfl ?_
    refine o_iload X11 hx hby at_183 rfl (q := 185) rfl ?_
    refine o_iconst X11 hx hby at_185 (z := 2) rfl (q := 186) rfl ?_
    refine o_iand X11 hx hby at_186 rfl (q := 187) rfl ?_
    by_cases hc187_311 : (p5 &&& (2 : Int32)) = (0 : Int32)
    · skip
      refine o_ifY X11 hx hby at_187 ((if0 _ _).trans (teq hc187_311).1) (by decide) (q := 194) (by decide) ?_
      refine o_iconst X11 hx hby at_194 (z := 0) rfl (q := 195) rfl ?_
      refine o_istore X11 hx hby at_195 (l' := #[iv p0, iv p1, .val (.long q2), .second, .val (.long q3), .second, .val (.long q4), .second, iv p5, iv lia, iv lib, iv lja, iv ljb, iv ia0, iv ia1, iv ib0, iv ib1, iv ja0, iv ja1, iv jb0, iv jb1, rv r1, rv r3, rv r7, rv r11, iv 1, iv 0, .unset, .unset, .unset, .unset, .unset, .unset, .unset, .unset]) rfl (q := 197) rfl ?_
      refine o_iload X11 hx hby at_197 rfl (q := 199) rfl ?_
      refine o_ifN X11 hx hby at_199 ((if0 _ _).trans (feq (by decide : ¬ ((1 : Int32) = (0 : Int32)))).1) (q := 202) rfl ?_
      refine o_lloadN X11 hx hby at_202 rfl (q := 203) rfl ?_
      refine o_goto X11 hx hby at_203 (by decide) (q := 210) (by decide) ?_
      refine o_lstore X11 hx hby at_210 (l' := #[iv p0, iv p1, .val (.long q2), .second, .val (.long q3), .second, .val (.long q4), .second, iv p5, iv lia, iv lib, iv lja, iv ljb, iv ia0, iv ia1, iv ib0, iv ib1, iv ja0, iv ja1, iv jb0, iv jb1, rv r1, rv r3, rv r7, rv r11, iv 1, iv 0, .val (.long q2), .second, .unset, .unset, .unset, .unset, .unset, .unset]) rfl (q := 212) rfl ?_
      refine o_iload X11 hx hby at_212 rfl (q := 214) rfl ?_
      refine o_ifY X11 hx hby at_214 ((if0 _ _).trans (teq (by decide : (0 : Int32) = (0 : Int32))).1) (by decide) (q := 222) (by decide) ?_
      refine o_lload X11 hx hby at_222 rfl (q := 224) rfl ?_
      refine o_lload X11 hx hby at_224 rfl (q := 226) rfl ?_
      refine o_lxor X11 hx hby at_226 rfl (q := 227) rfl ?_
      refine o_lstore X11 hx hby at_227 (l' := #[iv p0, iv p1, .val (.long q2), .second, .val (.long q3), .second, .val (.long q4), .second, iv p5, iv lia, iv lib, iv lja, iv ljb, iv ia0, iv ia1, iv ib0, iv ib1, iv ja0, iv ja1, iv jb0, iv jb1, rv r1, rv r3, rv r7, rv r11, iv 1, iv 0, .val (.long q2), .second, .val (.long (q3 ^^^ q4)), .second, .unset, .unset, .unset, .unset]) rfl (q := 229) rfl ?_
      obtain ⟨T312, h312, X312, e312, E312, A312, D312, -, st312⟩ := newO X11 hx hZ11 hown11 (w_ hw 26 rfl) (w_ hw 27 rfl) (w_ hw 28 rfl) rfl (g := (mkF m 229 #[iv p0, iv p1, .val (.long q2), .second, .val (.long q3), .second, .val (.long q4), .second, iv p5, iv lia, iv lib, iv lja, iv ljb, iv ia0, iv ia1, iv ib0, iv ib1, iv ja0, iv ja1, iv jb0, iv jb1, rv r1, rv r3, rv r7, rv r11, iv 1, iv 0, .val (.long q2), .second, .val (.long (q3 ^^^ q4)), .second, .unset, .unset, .unset, .unset] [])) rfl (hb hby at_229) (by decide) (by decide)
      obtain ⟨b312, g312⟩ : ∃ z, z = T11.heap.size := ⟨_, rfl⟩
      rw [← g312] at A312 D312 st312
      have qz313 := (Nat.le_trans qz13 K11.1)
      have g_b312 : n0 ≤ b312 := Nat.le_trans qz313 (Nat.le_of_eq g312.symm)
      have CA314 := CA14.trans (CHr.ext E312 CA14.1)
      have F_b312_id : Fld Z h312 b312 "com/example/collector_urchin/collectorurchin/store/StampedRecord" "id" "Ljava/lang/String;" .null := D312 (Or.inr (w_ hw 40 rfl)) (ty := (.object "java/lang/String")) (by decide)
      have F_b312_body : Fld Z h312 b312 "com/example/collector_urchin/collectorurchin/store/StampedRecord" "body" "Ljava/lang/String;" .null := D312 (Or.inr (w_ hw 43 rfl)) (ty := (.object "java/lang/String")) (by decide)
      have F_b312_created : Fld Z h312 b312 "com/example/collector_urchin/collectorurchin/store/StampedRecord" "created" "J" (.long (0 : Int64)) := D312 (Or.inr (w_ hw 45 rfl)) (ty := .long) (by decide)
      have F_b312_modified : Fld Z h312 b312 "com/example/collector_urchin/collectorurchin/store/StampedRecord" "modified" "J" (.long (0 : Int64)) := D312 (Or.inr (w_ hw 47 rfl)) (ty := .long) (by decide)
      refine own_of st312 ?_
      show own_Out p e below _ (T312.setTop (mkF m 232 #[iv p0, iv p1, .val (.long q2), .second, .val (.long q3), .second, .val (.long q4), .second, iv p5, iv lia, iv lib, iv lja, iv ljb, iv ia0, iv ia1, iv ib0, iv ib1, iv ja0, iv ja1, iv jb0, iv jb1, rv r1, rv r3, rv r7, rv r11, iv 1, iv 0, .val (.long q2), .second, .val (.long (q3 ^^^ q4)), .second, .unset, .unset, .unset, .unset] [.ref b312]))
      refine o_dup X312 hx hby at_232 rfl (q := 233) rfl ?_
      refine o_aload X312 hx hby at_233 rfl rfl (q := 235) rfl ?_
      refine o_aload X312 hx hby at_235 rfl rfl (q := 237) rfl ?_
      refine o_lloadN X312 hx hby at_237 rfl (q := 238) rfl ?_
      refine o_lload X312 hx hby at_238 rfl (q := 240) rfl ?_
      have qz316 := ((((E1.keep K3).keep K7).keep K11).ext E312)
      have qz317 := ((E7.keep K11).ext E312)
      have qz318 := (Nat.le_trans qz313 E312.1)
      obtain ⟨_, _, ⟨T315, L315, k315, n315⟩, -, X315, Sn315, gz315, ⟨Lc315, hQ315, l315, y315, z315⟩, st315⟩ := X312.specialBackS hx (y := (⟨"com/example/collector_urchin/collectorurchin/store/StampedRecord", "<init>", "(Ljava/lang/String;Ljava/lang/String;JJ)V"⟩ : MethodName)) rfl hown11 (mvT hZ11 (w_ hw 29 rfl)) (mvT hZ11 (w_ hw 30 rfl)) (mvT hZ11 (w_ hw 31 rfl)) (by decide) (backOfS (W := 1) (rm5 l Z a0 hw [] b312 r1 r7 q2 q3 h312 n0 qz318 A312 F_b312_id F_b312_body F_b312_created F_b312_modified g_b312 qz316 qz317) hZ11 (w_ hw 31 rfl) (w_ hw 28 rfl) (by decide) (by decide)) (g := (mkF m 240 #[iv p0, iv p1, .val (.long q2), .second, .val (.long q3), .second, .val (.long q4), .second, iv p5, iv lia, iv lib, iv lja, iv ljb, iv ia0, iv ia1, iv ib0, iv ib1, iv ja0, iv ja1, iv jb0, iv jb1, rv r1, rv r3, rv r7, rv r11, iv 1, iv 0, .val (.long q2), .second, .val (.long (q3 ^^^ q4)), .second, .unset, .unset, .unset, .unset] [.long q3, .long q2, .ref r7, .ref r1, .ref b312, .ref b312])) rfl (by rw [hml]; rfl) (Steps.refl _) (a := b312) (argsL := [(.ref r1), (.ref r7), (.long q2), (.long q3)]) (rest := [(.ref b312)]) (lenOf pd_9 rfl) rfl (by show 2 * 0 + _ ≤ _; exact Nat.le_of_eq rfl) (hb hby at_240) (fun _ _ => ⟨rfl, e312, (by decide : 17 + 4 ≤ _), (by decide : 36 + 32 ≤ _)⟩)
      dsimp only [Pt.U, Pt.locs, Pt.cells, Pt.slots] at X315 l315 y315 z315 st315 hQ315 Sn315 gz315
      subst l315 y315 z315
      have qz319 := (Nat.le_trans (Nat.le_refl T11.heap.size) E312.1)
      have S315 : s.Since T315.vm T315.heap.size := foldS (s := s) (vm0 := T11.vm) S11 (by rw [e312]; exact qz319) Sn315 gz315
      have hZ315 : Z.Warmed39 (s.setVm T315.vm).vm := State.Warmed39.trans (t := s.setVm T11.vm) hZ11 Sn315.1
      have hown315 : (s.setVm T315.vm).vm.findClass "com/example/collector_urchin/collectorurchin/store/StampedRecordEqualsPinLaw" = some m.cls := by rw [show (s.setVm T315.vm).vm = T315.vm from rfl, Sn315.1.alike.findClass]; exact hown11
      obtain ⟨rfl, N315q, K315, E315, F315_id, F315_body, F315_created, F315_modified⟩ := hQ315
      have N315 := Fr.app N11 N315q
      refine own_of (fun _ k => st315.trans k) ?_
      show own_Out p e below _ (T315.setTop (mkF m 243 #[iv p0, iv p1, .val (.long q2), .second, .val (.long q3), .second, .val (.long q4), .second, iv p5, iv lia, iv lib, iv lja, iv ljb, iv ia0, iv ia1, iv ib0, iv ib1, iv ja0, iv ja1, iv jb0, iv jb1, rv r1, rv r3, rv r7, rv r11, iv 1, iv 0, .val (.long q2), .second, .val (.long (q3 ^^^ q4)), .second, .unset, .unset, .unset, .unset] [.ref b312]))
      refine o_astore X315 hx hby at_243 rfl (l' := #[iv p0, iv p1, .val (.long q2), .second, .val (.long q3), .second, .val (.long q4), .second, iv p5, iv lia, iv lib, iv lja, iv ljb, iv ia0, iv ia1, iv ib0, iv ib1, iv ja0, iv ja1, iv jb0, iv jb1, rv r1, rv r3, rv r7, rv r11, iv 1, iv 0, .val (.long q2), .second, .val (.long (q3 ^^^ q4)), .second, rv b312, .unset, .unset, .unset]) rfl (q := 245) rfl ?_
      obtain ⟨T320, h320, X320, e320, E320, A320, D320, -, st320⟩ := newO X315 hx hZ315 hown315 (w_ hw 26 rfl) (w_ hw 27 rfl) (w_ hw 28 rfl) rfl (g := (mkF m 245 #[iv p0, iv p1, .val (.long q2), .second, .val (.long q3), .second, .val (.long q4), .second, iv p5, iv lia, iv lib, iv lja, iv ljb, iv ia0, iv ia1, iv ib0, iv ib1, iv ja0, iv ja1, iv jb0, iv jb1, rv r1, rv r3, rv r7, rv r11, iv 1, iv 0, .val (.long q2), .second, .val (.long (q3 ^^^ q4)), .second, rv b312, .unset, .unset, .unset] [])) rfl (hb hby at_245) (by decide) (by decide)
      obtain ⟨b320, g320⟩ : ∃ z, z = T315.heap.size := ⟨_, rfl⟩
      rw [← g320] at A320 D320 st320
      have qz321 := (Nat.le_trans qz318 K315.1)
      have g_b320 : n0 ≤ b320 := Nat.le_trans qz321 (Nat.le_of_eq g320.symm)
      have F_b320_id : Fld Z h320 b320 "com/example/collector_urchin/collectorurchin/store/StampedRecord" "id" "Ljava/lang/String;" .null := D320 (Or.inr (w_ hw 40 rfl)) (ty := (.object "java/lang/String")) (by decide)
      have F_b320_body : Fld Z h320 b320 "com/example/collector_urchin/collectorurchin/store/StampedRecord" "body" "Ljava/lang/String;" .null := D320 (Or.inr (w_ hw 43 rfl)) (ty := (.object "java/lang/String")) (by decide)
      have F_b320_created : Fld Z h320 b320 "com/example/collector_urchin/collectorurchin/store/StampedRecord" "created" "J" (.long (0 : Int64)) := D320 (Or.inr (w_ hw 45 rfl)) (ty := .long) (by decide)
      have F_b320_modified : Fld Z h320 b320 "com/example/collector_urchin/collectorurchin/store/StampedRecord" "modified" "J" (.long (0 : Int64)) := D320 (Or.inr (w_ hw 47 rfl)) (ty := .long) (by decide)
      refine own_of st320 ?_
      show own_Out p e below _ (T320.setTop (mkF m 248 #[iv p0, iv p1, .val (.long q2), .second, .val (.long q3), .second, .val (.long q4), .second, iv p5, iv lia, iv lib, iv lja, iv ljb, iv ia0, iv ia1, iv ib0, iv ib1, iv ja0, iv ja1, iv jb0, iv jb1, rv r1, rv r3, rv r7, rv r11, iv 1, iv 0, .val (.long q2), .second, .val (.long (q3 ^^^ q4)), .second, rv b312, .unset, .unset, .unset] [.ref b320]))
      refine o_dup X320 hx hby at_248 rfl (q := 249) rfl ?_
      refine o_aload X320 hx hby at_249 rfl rfl (q := 251) rfl ?_
      refine o_aload X320 hx hby at_251 rfl rfl (q := 253) rfl ?_
      refine o_lload X320 hx hby at_253 rfl (q := 255) rfl ?_
      refine o_lload X320 hx hby at_255 rfl (q := 257) rfl ?_
      have qz323 := (((((E3.keep K7).keep K11).ext E312).keep K315).ext E320)
      have qz324 := (((E11.ext E312).keep K315).ext E320)
      have qz325 := (Nat.le_trans qz321 E320.1)
      obtain ⟨_, _, ⟨T322, L322, k322, n322⟩, -, X322, Sn322, gz322, ⟨Lc322, hQ322, l322, y322, z322⟩, st322⟩ := X320.specialBackS hx (y := (⟨"com/example/collector_urchin/collectorurchin/store/StampedRecord", "<init>", "(Ljava/lang/String;Ljava/lang/String;JJ)V"⟩ : MethodName)) rfl hown315 (mvT hZ315 (w_ hw 29 rfl)) (mvT hZ315 (w_ hw 30 rfl)) (mvT hZ315 (w_ hw 31 rfl)) (by decide) (backOfS (W := 1) (rm5 l Z a0 hw [] b320 r3 r11 q2 (q3 ^^^ q4) h320 n0 qz325 A320 F_b320_id F_b320_body F_b320_created F_b320_modified g_b320 qz323 qz324) hZ315 (w_ hw 31 rfl) (w_ hw 28 rfl) (by decide) (by decide)) (g := (mkF m 257 #[iv p0, iv p1, .val (.long q2), .second, .val (.long q3), .second, .val (.long q4), .second, iv p5, iv lia, iv lib, iv lja, iv ljb, iv ia0, iv ia1, iv ib0, iv ib1, iv ja0, iv ja1, iv jb0, iv jb1, rv r1, rv r3, rv r7, rv r11, iv 1, iv 0, .val (.long q2), .second, .val (.long (q3 ^^^ q4)), .second, rv b312, .unset, .unset, .unset] [.long (q3 ^^^ q4), .long q2, .ref r11, .ref r3, .ref b320, .ref b320])) rfl (by rw [hml]; rfl) (Steps.refl _) (a := b320) (argsL := [(.ref r3), (.ref r11), (.long q2), (.long (q3 ^^^ q4))]) (rest := [(.ref b320)]) (lenOf pd_9 rfl) rfl (by show 2 * 0 + _ ≤ _; exact Nat.le_of_eq rfl) (hb hby at_257) (fun _ _ => ⟨rfl, e320, (by decide : 22 + 4 ≤ _), (by decide : 72 + 32 ≤ _)⟩)
      dsimp only [Pt.U, Pt.locs, Pt.cells, Pt.slots] at X322 l322 y322 z322 st322 hQ322 Sn322 gz322
      subst l322 y322 z322
      have qz326 := (Nat.le_trans (Nat.le_refl T315.heap.size) E320.1)
      have S322 : s.Since T322.vm T322.heap.size := foldS (s := s) (vm0 := T315.vm) S315 (by rw [e320]; exact qz326) Sn322 gz322
      have hZ322 : Z.Warmed39 (s.setVm T322.vm).vm := State.Warmed39.trans (t := s.setVm T315.vm) hZ315 Sn322.1
      have hown322 : (s.setVm T322.vm).vm.findClass "com/example/collector_urchin/collectorurchin/store/StampedRecordEqualsPinLaw" = some m.cls := by rw [show (s.setVm T322.vm).vm = T322.vm from rfl, Sn322.1.alike.findClass]; exact hown315
      obtain ⟨rfl, N322q, K322, E322, F322_id, F322_body, F322_created, F322_modified⟩ := hQ322
      have N322 := Fr.app N315 N322q
      refine own_of (fun _ k => st322.trans k) ?_
      show own_Out p e below _ (T322.setTop (mkF m 260 #[iv p0, iv p1, .val (.long q2), .second, .val (.long q3), .second, .val (.long q4), .second, iv p5, iv lia, iv lib, iv lja, iv ljb, iv ia0, iv ia1, iv ib0, iv ib1, iv ja0, iv ja1, iv jb0, iv jb1, rv r1, rv r3, rv r7, rv r11, iv 1, iv 0, .val (.long q2), .second, .val (.long (q3 ^^^ q4)), .second, rv b312, .unset, .unset, .unset] [.ref b320]))
      refine o_astore X322 hx hby at_260 rfl (l' := #[iv p0, iv p1, .val (.long q2), .second, .val (.long q3), .second, .val (.long q4), .second, iv p5, iv lia, iv lib, iv lja, iv ljb, iv ia0, iv ia1, iv ib0, iv ib1, iv ja0, iv ja1, iv jb0, iv jb1, rv r1, rv r3, rv r7, rv r11, iv 1, iv 0, .val (.long q2), .second, .val (.long (q3 ^^^ q4)), .second, rv b312, rv b320, .unset, .unset]) rfl (q := 262) rfl ?_
      refine o_iload X322 hx hby at_262 rfl (q := 264) rfl ?_
      refine o_iconst X322 hx hby at_264 (z := 2) rfl (q := 265) rfl ?_
      refine o_iushr X322 hx hby at_265 rfl (q := 266) rfl ?_
      refine o_bipush X322 hx hby at_266 (z := 7) rfl (q := 268) rfl ?_
      refine o_iand X322 hx hby at_268 rfl (q := 269) rfl ?_
      refine o_istore X322 hx hby at_269 (l' := #[iv p0, iv p1, .val (.long q2), .second, .val (.long q3), .second, .val (.long q4), .second, iv p5, iv lia, iv lib, iv lja, iv ljb, iv ia0, iv ia1, iv ib0, iv ib1, iv ja0, iv ja1, iv jb0, iv jb1, rv r1, rv r3, rv r7, rv r11, iv 1, iv 0, .val (.long q2), .second, .val (.long (q3 ^^^ q4)), .second, rv b312, rv b320, iv (((p5.toUInt32 >>> ((2 : Int32) &&& 31).toUInt32).toInt32) &&& (7 : Int32)), .unset]) rfl (q := 271) rfl ?_
      refine o_iload X322 hx hby at_271 rfl (q := 273) rfl ?_
      refine o_iconst X322 hx hby at_273 (z := 5) rfl (q := 274) rfl ?_
      by_cases hc274_327 : (((p5.toUInt32 >>> ((2 : Int32) &&& 31).toUInt32).toInt32) &&& (7 : Int32)) = (5 : Int32)
      · skip
        refine o_icN X322 hx hby at_274 (teq hc274_327).2 (q := 277) rfl ?_
        refine o_aload X322 hx hby at_277 rfl rfl (q := 279) rfl ?_
        refine o_aconst_null X322 hx hby at_279 (q := 280) rfl ?_
        have qz329 := (Nat.le_trans qz325 K322.1)
        have qz330 := ((E315.ext E320).keep K322)
        obtain ⟨cq328, kq328, q328a, q328b, q328c⟩ := isOf hZ322 rfl qz330
        obtain ⟨_, _, ⟨T328, L328, k328, n328⟩, -, X328, ⟨Lc328, hQ328, l328, y328, z328⟩, st328⟩ := X322.virtualBack hx (y := (⟨"com/example/collector_urchin/collectorurchin/store/StampedRecord", "equals", "(Ljava/lang/Object;)Z"⟩ : MethodName)) (z := (⟨"com/example/collector_urchin/collectorurchin/store/StampedRecord", "equals", "(Ljava/lang/Object;)Z"⟩ : MethodName)) hown322 (mvT hZ322 (w_ hw 51 rfl)) (mvT hZ322 (w_ hw 52 rfl)) (notFace_of_selects (args := #[]) (mvT hZ322 (w_ hw 54 rfl))) (mvT hZ322 (w_ hw 54 rfl)) (mvT hZ322 (w_ hw 53 rfl)) (by decide) (backOf (W := 0) (rm8n l Z a0 hw [] b312 T322.heap n0 qz329 ) hZ322 (w_ hw 55 rfl) (w_ hw 28 rfl) (by decide) (by decide)) q328a q328c (g := (mkF m 280 #[iv p0, iv p1, .val (.long q2), .second, .val (.long q3), .second, .val (.long q4), .second, iv p5, iv lia, iv lib, iv lja, iv ljb, iv ia0, iv ia1, iv ib0, iv ib1, iv ja0, iv ja1, iv jb0, iv jb1, rv r1, rv r3, rv r7, rv r11, iv 1, iv 0, .val (.long q2), .second, .val (.long (q3 ^^^ q4)), .second, rv b312, rv b320, iv (((p5.toUInt32 >>> ((2 : Int32) &&& 31).toUInt32).toInt32) &&& (7 : Int32)), .unset] [.null, .ref b312])) rfl (by rw [hml]; rfl) (Steps.refl _) (argsL := [.null]) (rest := []) (lenOf pd_7 rfl) rfl (by show 2 * 0 + _ ≤ _; exact Nat.le_of_eq rfl) (hb hby at_280) (fun _ _ => ⟨rfl, rfl, (by decide : 26 + 0 ≤ _), (by decide : 104 + 0 ≤ _)⟩)
        dsimp only [Pt.U, Pt.locs, Pt.cells, Pt.slots] at X328 l328 y328 z328 st328 hQ328
        subst l328 y328 z328
        obtain ⟨rfl, N328q, hh328⟩ := hQ328
        have N328 := Fr.app N322 N328q
        refine own_of (fun _ k => st328.trans k) ?_
        show own_Out p e below _ (T328.setTop (mkF m 283 #[iv p0, iv p1, .val (.long q2), .second, .val (.long q3), .second, .val (.long q4), .second, iv p5, iv lia, iv lib, iv lja, iv ljb, iv ia0, iv ia1, iv ib0, iv ib1, iv ja0, iv ja1, iv jb0, iv jb1, rv r1, rv r3, rv r7, rv r11, iv 1, iv 0, .val (.long q2), .second, .val (.long (q3 ^^^ q4)), .second, rv b312, rv b320, iv (((p5.toUInt32 >>> ((2 : Int32) &&& 31).toUInt32).toInt32) &&& (7 : Int32)), .unset] [.int 0]))
        refine o_ifN X328 hx hby at_283 ((if0 _ _).trans (teq (by decide : (0 : Int32) = (0 : Int32))).2) (q := 286) rfl ?_
        refine o_iconst X328 hx hby at_286 (z := 1) rfl (q := 287) rfl ?_
        refine o_goto X328 hx hby at_287 (by decide) (q := 291) (by decide) ?_
        exact own_outNW (s := s) (vm₁ := T322.vm) X328 S322 (by rw [hh328]; exact (Nat.le_refl T322.heap.size)) hx hlk (t := .boolean) hret (by simp) (hb hby at_291) (z' := (1 : Int32)) rfl (Q := Q) (hQ _ _ N328) (by decide) (by decide)
      · skip
        refine o_icY X322 hx hby at_274 (feq hc274_327).2 (by decide) (q := 292) (by decide) ?_
        refine o_iload X322 hx hby at_292 rfl (q := 294) rfl ?_
        refine o_bipush X322 hx hby at_294 (z := 6) rfl (q := 296) rfl ?_
        by_cases hc296_331 : (((p5.toUInt32 >>> ((2 : Int32) &&& 31).toUInt32).toInt32) &&& (7 : Int32)) = (6 : Int32)
        · skip
          refine o_icN X322 hx hby at_296 (teq hc296_331).2 (q := 299) rfl ?_
          refine o_aload X322 hx hby at_299 rfl rfl (q := 301) rfl ?_
          refine o_aload X322 hx hby at_301 rfl rfl (q := 303) rfl ?_
          have qz333 := (((qz317.keep K315).ext E320).keep K322)
          have qz334 := (Nat.le_trans qz325 K322.1)
          have qz335 := ((E315.ext E320).keep K322)
          obtain ⟨cq332, kq332, q332a, q332b, q332c⟩ := isOf hZ322 rfl qz335
          obtain ⟨_, _, ⟨T332, L332, k332, n332⟩, -, X332, ⟨Lc332, hQ332, l332, y332, z332⟩, st332⟩ := X322.virtualBack hx (y := (⟨"com/example/collector_urchin/collectorurchin/store/StampedRecord", "equals", "(Ljava/lang/Object;)Z"⟩ : MethodName)) (z := (⟨"com/example/collector_urchin/collectorurchin/store/StampedRecord", "equals", "(Ljava/lang/Object;)Z"⟩ : MethodName)) hown322 (mvT hZ322 (w_ hw 51 rfl)) (mvT hZ322 (w_ hw 52 rfl)) (notFace_of_selects (args := #[]) (mvT hZ322 (w_ hw 54 rfl))) (mvT hZ322 (w_ hw 54 rfl)) (mvT hZ322 (w_ hw 53 rfl)) (by decide) (backOf (W := 0) (rm8s l Z a0 hw [] b312 r7 T322.heap n0 qz334 qz333) hZ322 (w_ hw 55 rfl) (w_ hw 28 rfl) (by decide) (by decide)) q332a q332c (g := (mkF m 303 #[iv p0, iv p1, .val (.long q2), .second, .val (.long q3), .second, .val (.long q4), .second, iv p5, iv lia, iv lib, iv lja, iv ljb, iv ia0, iv ia1, iv ib0, iv ib1, iv ja0, iv ja1, iv jb0, iv jb1, rv r1, rv r3, rv r7, rv r11, iv 1, iv 0, .val (.long q2), .second, .val (.long (q3 ^^^ q4)), .second, rv b312, rv b320, iv (((p5.toUInt32 >>> ((2 : Int32) &&& 31).toUInt32).toInt32) &&& (7 : Int32)), .unset] [.ref r7, .ref b312])) rfl (by rw [hml]; rfl) (Steps.refl _) (argsL := [(.ref r7)]) (rest := []) (lenOf pd_7 rfl) rfl (by show 2 * 0 + _ ≤ _; exact Nat.le_of_eq rfl) (hb hby at_303) (fun _ _ => ⟨rfl, rfl, (by decide : 26 + 0 ≤ _), (by decide : 104 + 0 ≤ _)⟩)
          dsimp only [Pt.U, Pt.locs, Pt.cells, Pt.slots] at X332 l332 y332 z332 st332 hQ332
          subst l332 y332 z332
          obtain ⟨rfl, N332q, hh332⟩ := hQ332
          have N332 := Fr.app N322 N332q
          refine own_of (fun _ k => st332.trans k) ?_
          show own_Out p e below _ (T332.setTop (mkF m 306 #[iv p0, iv p1, .val (.long q2), .second, .val (.long q3), .second, .val (.long q4), .second, iv p5, iv lia, iv lib, iv lja, iv ljb, iv ia0, iv ia1, iv ib0, iv ib1, iv ja0, iv ja1, iv jb0, iv jb1, rv r1, rv r3, rv r7, rv r11, iv 1, iv 0, .val (.long q2), .second, .val (.long (q3 ^^^ q4)), .second, rv b312, rv b320, iv (((p5.toUInt32 >>> ((2 : Int32) &&& 31).toUInt32).toInt32) &&& (7 : Int32)), .unset] [.int 0]))
          refine o_ifN X332 hx hby at_306 ((if0 _ _).trans (teq (by decide : (0 : Int32) = (0 : Int32))).2) (q := 309) rfl ?_
          refine o_iconst X332 hx hby at_309 (z := 1) rfl (q := 310) rfl ?_
          refine o_goto X332 hx hby at_310 (by decide) (q := 314) (by decide) ?_
          exact own_outNW (s := s) (vm₁ := T322.vm) X332 S322 (by rw [hh332]; exact (Nat.le_refl T322.heap.size)) hx hlk (t := .boolean) hret (by simp) (hb hby at_314) (z' := (1 : Int32)) rfl (Q := Q) (hQ _ _ N332) (by decide) (by decide)
        · skip
          refine o_icY X322 hx hby at_296 (feq hc296_331).2 (by decide) (q := 315) (by decide) ?_
          refine o_iload X322 hx hby at_315 rfl (q := 317) rfl ?_
          refine o_bipush X322 hx hby at_317 (z := 7) rfl (q := 319) rfl ?_
          by_cases hc319_336 : (((p5.toUInt32 >>> ((2 : Int32) &&& 31).toUInt32).toInt32) &&& (7 : Int32)) = (7 : Int32)
          · skip
            refine o_icN X322 hx hby at_319 (teq hc319_336).2 (q := 322) rfl ?_
            refine o_aload X322 hx hby at_322 rfl rfl (q := 324) rfl ?_
            refine o_aload X322 hx hby at_324 rfl rfl (q := 326) rfl ?_
            have qz338 := ((E315.ext E320).keep K322)
            have ne_b312_b320 : b312 ≠ b320 := Nat.ne_of_lt (Nat.lt_of_lt_of_le (Nat.lt_of_lt_of_le A312.lt K315.1) (Nat.le_of_eq g320.symm))
            have qz339 := ((F315_id.ext E320).keep K322 (ninS ne_b312_b320 nin0))
            have qz340 := ((F315_body.ext E320).keep K322 (ninS ne_b312_b320 nin0))
            have qz341 := (((qz316.keep K315).ext E320).keep K322)
            have qz342 := (((qz317.keep K315).ext E320).keep K322)
            have qz343 := ((F315_created.ext E320).keep K322 (ninS ne_b312_b320 nin0))
            have qz344 := ((F315_modified.ext E320).keep K322 (ninS ne_b312_b320 nin0))
            have qz345 := (Nat.le_trans qz325 K322.1)
            obtain ⟨cq337, kq337, q337a, q337b, q337c⟩ := isOf hZ322 rfl qz338
            obtain ⟨_, _, ⟨T337, L337, k337, n337⟩, -, X337, ⟨Lc337, hQ337, l337, y337, z337⟩, st337⟩ := X322.virtualBack hx (y := (⟨"com/example/collector_urchin/collectorurchin/store/StampedRecord", "equals", "(Ljava/lang/Object;)Z"⟩ : MethodName)) (z := (⟨"com/example/collector_urchin/collectorurchin/store/StampedRecord", "equals", "(Ljava/lang/Object;)Z"⟩ : MethodName)) hown322 (mvT hZ322 (w_ hw 51 rfl)) (mvT hZ322 (w_ hw 52 rfl)) (notFace_of_selects (args := #[]) (mvT hZ322 (w_ hw 54 rfl))) (mvT hZ322 (w_ hw 54 rfl)) (mvT hZ322 (w_ hw 53 rfl)) (by decide) (backOf (W := 0) (rm8f l Z a0 hw [] b312 r1 r7 q2 q3 T322.heap n0 qz345 qz338 qz339 qz340 qz341 qz342 qz343 qz344) hZ322 (w_ hw 55 rfl) (w_ hw 28 rfl) (by decide) (by decide)) q337a q337c (g := (mkF m 326 #[iv p0, iv p1, .val (.long q2), .second, .val (.long q3), .second, .val (.long q4), .second, iv p5, iv lia, iv lib, iv lja, iv ljb, iv ia0, iv ia1, iv ib0, iv ib1, iv ja0, iv ja1, iv jb0, iv jb1, rv r1, rv r3, rv r7, rv r11, iv 1, iv 0, .val (.long q2), .second, .val (.long (q3 ^^^ q4)), .second, rv b312, rv b320, iv (((p5.toUInt32 >>> ((2 : Int32) &&& 31).toUInt32).toInt32) &&& (7 : Int32)), .unset] [.ref b312, .ref b312])) rfl (by rw [hml]; rfl) (Steps.refl _) (argsL := [(.ref b312)]) (rest := []) (lenOf pd_7 rfl) rfl (by show 2 * 0 + _ ≤ _; exact Nat.le_of_eq rfl) (hb hby at_326) (fun _ _ => ⟨rfl, rfl, (by decide : 26 + 0 ≤ _), (by decide : 104 + 0 ≤ _)⟩)
            dsimp only [Pt.U, Pt.locs, Pt.cells, Pt.slots] at X337 l337 y337 z337 st337 hQ337
            subst l337 y337 z337
            obtain ⟨rfl, N337q, hh337⟩ := hQ337
            have N337 := Fr.app N322 N337q
            refine own_of (fun _ k => st337.trans k) ?_
            show own_Out p e below _ (T337.setTop (mkF m 329 #[iv p0, iv p1, .val (.long q2), .second, .val (.long q3), .second, .val (.long q4), .second, iv p5, iv lia, iv lib, iv lja, iv ljb, iv ia0, iv ia1, iv ib0, iv ib1, iv ja0, iv ja1, iv jb0, iv jb1, rv r1, rv r3, rv r7, rv r11, iv 1, iv 0, .val (.long q2), .second, .val (.long (q3 ^^^ q4)), .second, rv b312, rv b320, iv (((p5.toUInt32 >>> ((2 : Int32) &&& 31).toUInt32).toInt32) &&& (7 : Int32)), .unset] [.int 1]))
            refine o_ifN X337 hx hby at_329 ((if0 _ _).trans (feq (by decide : ¬ ((1 : Int32) = (0 : Int32)))).1) (q := 332) rfl ?_
            refine o_aload X337 hx hby at_332 rfl rfl (q := 334) rfl ?_
            refine o_aload X337 hx hby at_334 rfl rfl (q := 336) rfl ?_
            have qz347 := (qz323.keep K322)
            have qz348 := (qz324.keep K322)
            obtain ⟨cq346, kq346, q346a, q346b, q346c⟩ := isOf hZ322 hh337 E322
            obtain ⟨_, _, ⟨T346, L346, k346, n346⟩, -, X346, ⟨Lc346, hQ346, l346, y346, z346⟩, st346⟩ := X337.virtualBack hx (y := (⟨"com/example/collector_urchin/collectorurchin/store/StampedRecord", "equals", "(Ljava/lang/Object;)Z"⟩ : MethodName)) (z := (⟨"com/example/collector_urchin/collectorurchin/store/StampedRecord", "equals", "(Ljava/lang/Object;)Z"⟩ : MethodName)) hown322 (mvT hZ322 (w_ hw 51 rfl)) (mvT hZ322 (w_ hw 52 rfl)) (notFace_of_selects (args := #[]) (mvT hZ322 (w_ hw 54 rfl))) (mvT hZ322 (w_ hw 54 rfl)) (mvT hZ322 (w_ hw 53 rfl)) (by decide) (backOf (W := 0) (rm8f l Z a0 hw [] b320 r3 r11 q2 (q3 ^^^ q4) T322.heap n0 qz345 E322 F322_id F322_body qz347 qz348 F322_created F322_modified) hZ322 (w_ hw 55 rfl) (w_ hw 28 rfl) (by decide) (by decide)) q346a q346c (g := (mkF m 336 #[iv p0, iv p1, .val (.long q2), .second, .val (.long q3), .second, .val (.long q4), .second, iv p5, iv lia, iv lib, iv lja, iv ljb, iv ia0, iv ia1, iv ib0, iv ib1, iv ja0, iv ja1, iv jb0, iv jb1, rv r1, rv r3, rv r7, rv r11, iv 1, iv 0, .val (.long q2), .second, .val (.long (q3 ^^^ q4)), .second, rv b312, rv b320, iv (((p5.toUInt32 >>> ((2 : Int32) &&& 31).toUInt32).toInt32) &&& (7 : Int32)), .unset] [.ref b320, .ref b320])) rfl (by rw [hml]; rfl) (Steps.refl _) (argsL := [(.ref b320)]) (rest := []) (lenOf pd_7 rfl) rfl (by show 2 * 0 + _ ≤ _; exact Nat.le_of_eq rfl) (hb hby at_336) (fun _ _ => ⟨rfl, hh337, (by decide : 26 + 0 ≤ _), (by decide : 104 + 0 ≤ _)⟩)
            dsimp only [Pt.U, Pt.locs, Pt.cells, Pt.slots] at X346 l346 y346 z346 st346 hQ346
            subst l346 y346 z346
            obtain ⟨rfl, N346q, hh346⟩ := hQ346
            have N346 := Fr.app N337 N346q
            refine own_of (fun _ k => st346.trans k) ?_
            show own_Out p e below _ (T346.setTop (mkF m 339 #[iv p0, iv p1, .val (.long q2), .second, .val (.long q3), .second, .val (.long q4), .second, iv p5, iv lia, iv lib, iv lja, iv ljb, iv ia0, iv ia1, iv ib0, iv ib1, iv ja0, iv ja1, iv jb0, iv jb1, rv r1, rv r3, rv r7, rv r11, iv 1, iv 0, .val (.long q2), .second, .val (.long (q3 ^^^ q4)), .second, rv b312, rv b320, iv (((p5.toUInt32 >>> ((2 : Int32) &&& 31).toUInt32).toInt32) &&& (7 : Int32)), .unset] [.int 1]))
            refine o_ifN X346 hx hby at_339 ((if0 _ _).trans (feq (by decide : ¬ ((1 : Int32) = (0 : Int32)))).1) (q := 342) rfl ?_
            refine o_iconst X346 hx hby at_342 (z := 1) rfl (q := 343) rfl ?_
            refine o_goto X346 hx hby at_343 (by decide) (q := 347) (by decide) ?_
            exact own_outNW (s := s) (vm₁ := T322.vm) X346 S322 (by rw [hh346]; exact (Nat.le_refl T322.heap.size)) hx hlk (t := .boolean) hret (by simp) (hb hby at_347) (z' := (1 : Int32)) rfl (Q := Q) (hQ _ _ N346) (by decide) (by decide)
          · skip
            refine o_icY X322 hx hby at_319 (feq hc319_336).2 (by decide) (q := 348) (by decide) ?_
            refine o_iload X322 hx hby at_348 rfl (q := 350) rfl ?_
            refine o_iload X322 hx hby at_350 rfl (q := 352) rfl ?_
            refine o_iload X322 hx hby at_352 rfl (q := 354) rfl ?_
            refine o_iload X322 hx hby at_354 rfl (q := 356) rfl ?_
            refine o_iload X322 hx hby at_356 rfl (q := 358) rfl ?_
            refine o_iload X322 hx hby at_358 rfl (q := 360) rfl ?_
            have qz350 := (Nat.le_trans qz325 K322.1)
            obtain ⟨_, _, ⟨T349, L349, k349, n349⟩, -, X349, ⟨Lc349, hQ349, l349, y349, z349⟩, st349⟩ := Jvm.LawKit.callS X322 hx (y := (⟨"com/example/collector_urchin/collectorurchin/store/StampedRecordEqualsPinLaw", "sameStr", "(ICCICC)Z"⟩ : MethodName)) hown322 (mvT hZ322 (w_ hw 48 rfl)) (mvT hZ322 (w_ hw 49 rfl)) (mvT hZ322 (w_ hw 2 rfl)) (mvT hZ322 (w_ hw 50 rfl)) (by decide) (backOf (W := 0) (rm7 l Z a0 hw [] lia ia0 ia1 lib ib0 ib1 T322.heap n0 qz350 ) hZ322 (w_ hw 50 rfl) (w_ hw 2 rfl) (by decide) (by decide)) (g := (mkF m 360 #[iv p0, iv p1, .val (.long q2), .second, .val (.long q3), .second, .val (.long q4), .second, iv p5, iv lia, iv lib, iv lja, iv ljb, iv ia0, iv ia1, iv ib0, iv ib1, iv ja0, iv ja1, iv jb0, iv jb1, rv r1, rv r3, rv r7, rv r11, iv 1, iv 0, .val (.long q2), .second, .val (.long (q3 ^^^ q4)), .second, rv b312, rv b320, iv (((p5.toUInt32 >>> ((2 : Int32) &&& 31).toUInt32).toInt32) &&& (7 : Int32)), .unset] [.int ib1, .int ib0, .int lib, .int ia1, .int ia0, .int lia])) rfl (by rw [hml]; rfl) (argsL := [(.int lia), (.int ia0), (.int ia1), (.int lib), (.int ib0), (.int ib1)]) (rest := []) (lenOf pd_10 rfl) rfl (by show 2 * 0 + _ ≤ _; exact Nat.le_of_eq rfl) (hb hby at_360) (fun _ _ => ⟨rfl, rfl, (by decide : 26 + 0 ≤ _), (by decide : 104 + 0 ≤ _)⟩)
            dsimp only [Pt.U, Pt.locs, Pt.cells, Pt.slots] at X349 l349 y349 z349 st349 hQ349
            subst l349 y349 z349
            obtain ⟨rfl, N349q, hh349⟩ := hQ349
            have N349 := Fr.app N322 N349q
            refine own_of st349 ?_
            show own_Out p e below _ (T349.setTop (mkF m 363 #[iv p0, iv p1, .val (.long q2), .second, .val (.long q3), .second, .val (.long q4), .second, iv p5, iv lia, iv lib, iv lja, iv ljb, iv ia0, iv ia1, iv ib0, iv ib1, iv ja0, iv ja1, iv jb0, iv jb1, rv r1, rv r3, rv r7, rv r11, iv 1, iv 0, .val (.long q2), .second, .val (.long (q3 ^^^ q4)), .second, rv b312, rv b320, iv (((p5.toUInt32 >>> ((2 : Int32) &&& 31).toUInt32).toInt32) &&& (7 : Int32)), .unset] [.int (fss lia ia0 ia1 lib ib0 ib1)]))
            by_cases hc363_351 : (fss lia ia0 ia1 lib ib0 ib1) = (0 : Int32)
            · skip
              refine o_ifY X349 hx hby at_363 ((if0 _ _).trans (teq hc363_351).1) (by decide) (q := 412) (by decide) ?_
              refine o_iconst X349 hx hby at_412 (z := 0) rfl (q := 413) rfl ?_
              refine o_istore X349 hx hby at_413 (l' := #[iv p0, iv p1, .val (.long q2), .second, .val (.long q3), .second, .val (.long q4), .second, iv p5, iv lia, iv lib, iv lja, iv ljb, iv ia0, iv ia1, iv ib0, iv ib1, iv ja0, iv ja1, iv jb0, iv jb1, rv r1, rv r3, rv r7, rv r11, iv 1, iv 0, .val (.long q2), .second, .val (.long (q3 ^^^ q4)), .second, rv b312, rv b320, iv (((p5.toUInt32 >>> ((2 : Int32) &&& 31).toUInt32).toInt32) &&& (7 : Int32)), iv 0]) rfl (q := 415) rfl ?_
              refine o_aload X349 hx hby at_415 rfl rfl (q := 417) rfl ?_
              refine o_aload X349 hx hby at_417 rfl rfl (q := 419) rfl ?_
              have ne_r1_r3 : r1 ≠ r3 := Nat.ne_of_lt (Nat.lt_of_lt_of_le E1.lt hs3)
              have ne_r7_r11 : r7 ≠ r11 := Nat.ne_of_lt (Nat.lt_of_lt_of_le E7.lt hs11)
              have qz353 := ((E315.ext E320).keep K322)
              have ne_b312_b320 : b312 ≠ b320 := Nat.ne_of_lt (Nat.lt_of_lt_of_le (Nat.lt_of_lt_of_le A312.lt K315.1) (Nat.le_of_eq g320.symm))
              have qz354 := ((F315_id.ext E320).keep K322 (ninS ne_b312_b320 nin0))
              have qz355 := (((qz316.keep K315).ext E320).keep K322)
              have ne_r1_b312 : r1 ≠ b312 := Nat.ne_of_lt (Nat.lt_of_lt_of_le (Nat.lt_of_lt_of_le (Nat.lt_of_lt_of_le (Nat.lt_of_lt_of_le E1.lt K3.1) K7.1) K11.1) (Nat.le_of_eq g312.symm))
              have ne_r1_b320 : r1 ≠ b320 := Nat.ne_of_lt (Nat.lt_of_lt_of_le (Nat.lt_of_lt_of_le (Nat.lt_of_lt_of_le (Nat.lt_of_lt_of_le (Nat.lt_of_lt_of_le (Nat.lt_of_lt_of_le E1.lt K3.1) K7.1) K11.1) E312.1) K315.1) (Nat.le_of_eq g320.symm))
              have qz356 := (((((((Fv1.keep K3 nin0).keep K7 nin0).keep K11 nin0).ext E312).keep K315 (ninS ne_r1_b312 nin0)).ext E320).keep K322 (ninS ne_r1_b320 nin0))
              have qz357 := (((((((Fc1.keep K3 nin0).keep K7 nin0).keep K11 nin0).ext E312).keep K315 (ninS ne_r1_b312 nin0)).ext E320).keep K322 (ninS ne_r1_b320 nin0))
              have ne_b1_b312 : b1 ≠ b312 := Nat.ne_of_lt (Nat.lt_of_lt_of_le (Nat.lt_of_lt_of_le (Nat.lt_of_lt_of_le (Nat.lt_of_lt_of_le V1.lt K3.1) K7.1) K11.1) (Nat.le_of_eq g312.symm))
              have ne_b1_b320 : b1 ≠ b320 := Nat.ne_of_lt (Nat.lt_of_lt_of_le (Nat.lt_of_lt_of_le (Nat.lt_of_lt_of_le (Nat.lt_of_lt_of_le (Nat.lt_of_lt_of_le (Nat.lt_of_lt_of_le V1.lt K3.1) K7.1) K11.1) E312.1) K315.1) (Nat.le_of_eq g320.symm))
              have qz358 := (((((((V1.keep K3 nin0).keep K7 nin0).keep K11 nin0).ext E312).keep K315 (ninS ne_b1_b312 nin0)).ext E320).keep K322 (ninS ne_b1_b320 nin0))
              have qz359 := ((F315_body.ext E320).keep K322 (ninS ne_b312_b320 nin0))
              have qz360 := (((qz317.keep K315).ext E320).keep K322)
              have ne_r7_b312 : r7 ≠ b312 := Nat.ne_of_lt (Nat.lt_of_lt_of_le (Nat.lt_of_lt_of_le E7.lt K11.1) (Nat.le_of_eq g312.symm))
              have ne_r7_b320 : r7 ≠ b320 := Nat.ne_of_lt (Nat.lt_of_lt_of_le (Nat.lt_of_lt_of_le (Nat.lt_of_lt_of_le (Nat.lt_of_lt_of_le E7.lt K11.1) E312.1) K315.1) (Nat.le_of_eq g320.symm))
              have qz361 := (((((Fv7.keep K11 nin0).ext E312).keep K315 (ninS ne_r7_b312 nin0)).ext E320).keep K322 (ninS ne_r7_b320 nin0))
              have qz362 := (((((Fc7.keep K11 nin0).ext E312).keep K315 (ninS ne_r7_b312 nin0)).ext E320).keep K322 (ninS ne_r7_b320 nin0))
              have ne_b7_b312 : b7 ≠ b312 := Nat.ne_of_lt (Nat.lt_of_lt_of_le (Nat.lt_of_lt_of_le V7.lt K11.1) (Nat.le_of_eq g312.symm))
              have ne_b7_b320 : b7 ≠ b320 := Nat.ne_of_lt (Nat.lt_of_lt_of_le (Nat.lt_of_lt_of_le (Nat.lt_of_lt_of_le (Nat.lt_of_lt_of_le V7.lt K11.1) E312.1) K315.1) (Nat.le_of_eq g320.symm))
              have qz363 := (((((V7.keep K11 nin0).ext E312).keep K315 (ninS ne_b7_b312 nin0)).ext E320).keep K322 (ninS ne_b7_b320 nin0))
              have qz364 := ((F315_created.ext E320).keep K322 (ninS ne_b312_b320 nin0))
              have qz365 := ((F315_modified.ext E320).keep K322 (ninS ne_b312_b320 nin0))
              have qz366 := (qz323.keep K322)
              have ne_r3_b312 : r3 ≠ b312 := Nat.ne_of_lt (Nat.lt_of_lt_of_le (Nat.lt_of_lt_of_le (Nat.lt_of_lt_of_le E3.lt K7.1) K11.1) (Nat.le_of_eq g312.symm))
              have ne_r3_b320 : r3 ≠ b320 := Nat.ne_of_lt (Nat.lt_of_lt_of_le (Nat.lt_of_lt_of_le (Nat.lt_of_lt_of_le (Nat.lt_of_lt_of_le (Nat.lt_of_lt_of_le E3.lt K7.1) K11.1) E312.1) K315.1) (Nat.le_of_eq g320.symm))
              have qz367 := ((((((Fv3.keep K7 nin0).keep K11 nin0).ext E312).keep K315 (ninS ne_r3_b312 nin0)).ext E320).keep K322 (ninS ne_r3_b320 nin0))
              have qz368 := ((((((Fc3.keep K7 nin0).keep K11 nin0).ext E312).keep K315 (ninS ne_r3_b312 nin0)).ext E320).keep K322 (ninS ne_r3_b320 nin0))
              have ne_b3_b312 : b3 ≠ b312 := Nat.ne_of_lt (Nat.lt_of_lt_of_le (Nat.lt_of_lt_of_le (Nat.lt_of_lt_of_le V3.lt K7.1) K11.1) (Nat.le_of_eq g312.symm))
              have ne_b3_b320 : b3 ≠ b320 := Nat.ne_of_lt (Nat.lt_of_lt_of_le (Nat.lt_of_lt_of_le (Nat.lt_of_lt_of_le (Nat.lt_of_lt_of_le (Nat.lt_of_lt_of_le V3.lt K7.1) K11.1) E312.1) K315.1) (Nat.le_of_eq g320.symm))
              have qz369 := ((((((V3.keep K7 nin0).keep K11 nin0).ext E312).keep K315 (ninS ne_b3_b312 nin0)).ext E320).keep K322 (ninS ne_b3_b320 nin0))
              have qz370 := (qz324.keep K322)
              have ne_r11_b312 : r11 ≠ b312 := Nat.ne_of_lt (Nat.lt_of_lt_of_le E11.lt (Nat.le_of_eq g312.symm))
              have ne_r11_b320 : r11 ≠ b320 := Nat.ne_of_lt (Nat.lt_of_lt_of_le (Nat.lt_of_lt_of_le (Nat.lt_of_lt_of_le E11.lt E312.1) K315.1) (Nat.le_of_eq g320.symm))
              have qz371 := ((((Fv11.ext E312).keep K315 (ninS ne_r11_b312 nin0)).ext E320).keep K322 (ninS ne_r11_b320 nin0))
              have qz372 := ((((Fc11.ext E312).keep K315 (ninS ne_r11_b312 nin0)).ext E320).keep K322 (ninS ne_r11_b320 nin0))
              have ne_b11_b312 : b11 ≠ b312 := Nat.ne_of_lt (Nat.lt_of_lt_of_le V11.lt (Nat.le_of_eq g312.symm))
              have ne_b11_b320 : b11 ≠ b320 := Nat.ne_of_lt (Nat.lt_of_lt_of_le (Nat.lt_of_lt_of_le (Nat.lt_of_lt_of_le V11.lt E312.1) K315.1) (Nat.le_of_eq g320.symm))
              have qz373 := ((((V11.ext E312).keep K315 (ninS ne_b11_b312 nin0)).ext E320).keep K322 (ninS ne_b11_b320 nin0))
              have qz374 := (own_staK1 ((own_staK1 ((own_staK0 qz12 K11).ext E312) K315 (own_plainE A312)).ext E320) K322 (own_plainE A320))
              obtain ⟨cq352, kq352, q352a, q352b, q352c⟩ := isOf hZ322 hh349 qz353
              obtain ⟨_, _, ⟨T352, L352, k352, n352⟩, -, X352, ⟨Lc352, hQ352, l352, y352, z352⟩, st352⟩ := X349.virtualBack hx (y := (⟨"com/example/collector_urchin/collectorurchin/store/StampedRecord", "equals", "(Ljava/lang/Object;)Z"⟩ : MethodName)) (z := (⟨"com/example/collector_urchin/collectorurchin/store/StampedRecord", "equals", "(Ljava/lang/Object;)Z"⟩ : MethodName)) hown322 (mvT hZ322 (w_ hw 51 rfl)) (mvT hZ322 (w_ hw 52 rfl)) (notFace_of_selects (args := #[]) (mvT hZ322 (w_ hw 54 rfl))) (mvT hZ322 (w_ hw 54 rfl)) (mvT hZ322 (w_ hw 53 rfl)) (by decide) (backOf (W := 0) (rm8c l Z a0 hw [] b312 b320 r1 b1 k1 lia ((ia0.toInt8.toInt32).toInt8.toInt32) ((ia1.toInt8.toInt32).toInt8.toInt32) r7 b7 k7 lja ((ja0.toInt8.toInt32).toInt8.toInt32) ((ja1.toInt8.toInt32).toInt8.toInt32) q2 q3 r3 b3 k3 lib ((ib0.toInt8.toInt32).toInt8.toInt32) ((ib1.toInt8.toInt32).toInt8.toInt32) r11 b11 k11 ljb ((jb0.toInt8.toInt32).toInt8.toInt32) ((jb1.toInt8.toInt32).toInt8.toInt32) q2 (q3 ^^^ q4) cs T322.heap n0 qz350 qz353 E322 qz354 qz355 qz356 qz357 qz358 hl_lia qz359 qz360 qz361 qz362 qz363 hl_lja qz364 qz365 F322_id qz366 qz367 qz368 qz369 hl_lib F322_body qz370 qz371 qz372 qz373 hl_ljb F322_created F322_modified qz374 hcs ne_r1_r3 ne_r7_r11) hZ322 (w_ hw 55 rfl) (w_ hw 28 rfl) (by decide) (by decide)) q352a q352c (g := (mkF m 419 #[iv p0, iv p1, .val (.long q2), .second, .val (.long q3), .second, .val (.long q4), .second, iv p5, iv lia, iv lib, iv lja, iv ljb, iv ia0, iv ia1, iv ib0, iv ib1, iv ja0, iv ja1, iv jb0, iv jb1, rv r1, rv r3, rv r7, rv r11, iv 1, iv 0, .val (.long q2), .second, .val (.long (q3 ^^^ q4)), .second, rv b312, rv b320, iv (((p5.toUInt32 >>> ((2 : Int32) &&& 31).toUInt32).toInt32) &&& (7 : Int32)), iv 0] [.ref b320, .ref b312])) rfl (by rw [hml]; rfl) (Steps.refl _) (argsL := [(.ref b320)]) (rest := []) (lenOf pd_7 rfl) rfl (by show 2 * 0 + _ ≤ _; exact Nat.le_of_eq rfl) (hb hby at_419) (fun _ _ => ⟨rfl, hh349, (by decide : 26 + 0 ≤ _), (by decide : 104 + 0 ≤ _)⟩)
              dsimp only [Pt.U, Pt.locs, Pt.cells, Pt.slots] at X352 l352 y352 z352 st352 hQ352
              subst l352 y352 z352
              obtain ⟨rfl, N352q, hh352⟩ := hQ352
              have N352 := Fr.app N349 N352q
              refine own_of (fun _ k => st352.trans k) ?_
              show own_Out p e below _ (T352.setTop (mkF m 422 #[iv p0, iv p1, .val (.long q2), .second, .val (.long q3), .second, .val (.long q4), .second, iv p5, iv lia, iv lib, iv lja, iv ljb, iv ia0, iv ia1, iv ib0, iv ib1, iv ja0, iv ja1, iv jb0, iv jb1, rv r1, rv r3, rv r7, rv r11, iv 1, iv 0, .val (.long q2), .second, .val (.long (q3 ^^^ q4)), .second, rv b312, rv b320, iv (((p5.toUInt32 >>> ((2 : Int32) &&& 31).toUInt32).toInt32) &&& (7 : Int32)), iv 0] [.int (fqe lia ((ia0.toInt8.toInt32).toInt8.toInt32) ((ia1.toInt8.toInt32).toInt8.toInt32) lja ((ja0.toInt8.toInt32).toInt8.toInt32) ((ja1.toInt8.toInt32).toInt8.toInt32) q2 q3 lib ((ib0.toInt8.toInt32).toInt8.toInt32) ((ib1.toInt8.toInt32).toInt8.toInt32) ljb ((jb0.toInt8.toInt32).toInt8.toInt32) ((jb1.toInt8.toInt32).toInt8.toInt32) q2 (q3 ^^^ q4) cs)]))
              refine o_iload X352 hx hby at_422 rfl (q := 424) rfl ?_
              by_cases hc424_375 : (fqe lia ((ia0.toInt8.toInt32).toInt8.toInt32) ((ia1.toInt8.toInt32).toInt8.toInt32) lja ((ja0.toInt8.toInt32).toInt8.toInt32) ((ja1.toInt8.toInt32).toInt8.toInt32) q2 q3 lib ((ib0.toInt8.toInt32).toInt8.toInt32) ((ib1.toInt8.toInt32).toInt8.toInt32) ljb ((jb0.toInt8.toInt32).toInt8.toInt32) ((jb1.toInt8.toInt32).toInt8.toInt32) q2 (q3 ^^^ q4) cs) = (0 : Int32)
              · skip
                refine o_icN X352 hx hby at_424 (teq hc424_375).2 (q := 427) rfl ?_
                refine o_aload X352 hx hby at_427 rfl rfl (q := 429) rfl ?_
                refine o_aload X352 hx hby at_429 rfl rfl (q := 431) rfl ?_
                obtain ⟨cq376, kq376, q376a, q376b, q376c⟩ := isOf hZ322 hh352 E322
                obtain ⟨_, _, ⟨T376, L376, k376, n376⟩, -, X376, ⟨Lc376, hQ376, l376, y376, z376⟩, st376⟩ := X352.virtualBack hx (y := (⟨"com/example/collector_urchin/collectorurchin/store/StampedRecord", "equals", "(Ljava/lang/Object;)Z"⟩ : MethodName)) (z := (⟨"com/example/collector_urchin/collectorurchin/store/StampedRecord", "equals", "(Ljava/lang/Object;)Z"⟩ : MethodName)) hown322 (mvT hZ322 (w_ hw 51 rfl)) (mvT hZ322 (w_ hw 52 rfl)) (notFace_of_selects (args := #[]) (mvT hZ322 (w_ hw 54 rfl))) (mvT hZ322 (w_ hw 54 rfl)) (mvT hZ322 (w_ hw 53 rfl)) (by decide) (backOf (W := 0) (rm8c l Z a0 hw [] b320 b312 r3 b3 k3 lib ((ib0.toInt8.toInt32).toInt8.toInt32) ((ib1.toInt8.toInt32).toInt8.toInt32) r11 b11 k11 ljb ((jb0.toInt8.toInt32).toInt8.toInt32) ((jb1.toInt8.toInt32).toInt8.toInt32) q2 (q3 ^^^ q4) r1 b1 k1 lia ((ia0.toInt8.toInt32).toInt8.toInt32) ((ia1.toInt8.toInt32).toInt8.toInt32) r7 b7 k7 lja ((ja0.toInt8.toInt32).toInt8.toInt32) ((ja1.toInt8.toInt32).toInt8.toInt32) q2 q3 cs T322.heap n0 qz350 E322 qz353 F322_id qz366 qz367 qz368 qz369 hl_lib F322_body qz370 qz371 qz372 qz373 hl_ljb F322_created F322_modified qz354 qz355 qz356 qz357 qz358 hl_lia qz359 qz360 qz361 qz362 qz363 hl_lja qz364 qz365 qz374 hcs (Ne.symm ne_r1_r3) (Ne.symm ne_r7_r11)) hZ322 (w_ hw 55 rfl) (w_ hw 28 rfl) (by decide) (by decide)) q376a q376c (g := (mkF m 431 #[iv p0, iv p1, .val (.long q2), .second, .val (.long q3), .second, .val (.long q4), .second, iv p5, iv lia, iv lib, iv lja, iv ljb, iv ia0, iv ia1, iv ib0, iv ib1, iv ja0, iv ja1, iv jb0, iv jb1, rv r1, rv r3, rv r7, rv r11, iv 1, iv 0, .val (.long q2), .second, .val (.long (q3 ^^^ q4)), .second, rv b312, rv b320, iv (((p5.toUInt32 >>> ((2 : Int32) &&& 31).toUInt32).toInt32) &&& (7 : Int32)), iv 0] [.ref b312, .ref b320])) rfl (by rw [hml]; rfl) (Steps.refl _) (argsL := [(.ref b312)]) (rest := []) (lenOf pd_7 rfl) rfl (by show 2 * 0 + _ ≤ _; exact Nat.le_of_eq rfl) (hb hby at_431) (fun _ _ => ⟨rfl, hh352, (by decide : 26 + 0 ≤ _), (by decide : 104 + 0 ≤ _)⟩)
                dsimp only [Pt.U, Pt.locs, Pt.cells, Pt.slots] at X376 l376 y376 z376 st376 hQ376
                subst l376 y376 z376
                obtain ⟨rfl, N376q, hh376⟩ := hQ376
                have N376 := Fr.app N352 N376q
                refine own_of (fun _ k => st376.trans k) ?_
                show own_Out p e below _ (T376.setTop (mkF m 434 #[iv p0, iv p1, .val (.long q2), .second, .val (.long q3), .second, .val (.long q4), .second, iv p5, iv lia, iv lib, iv lja, iv ljb, iv ia0, iv ia1, iv ib0, iv ib1, iv ja0, iv ja1, iv jb0, iv jb1, rv r1, rv r3, rv r7, rv r11, iv 1, iv 0, .val (.long q2), .second, .val (.long (q3 ^^^ q4)), .second, rv b312, rv b320, iv (((p5.toUInt32 >>> ((2 : Int32) &&& 31).toUInt32).toInt32) &&& (7 : Int32)), iv 0] [.int (fqe lib ((ib0.toInt8.toInt32).toInt8.toInt32) ((ib1.toInt8.toInt32).toInt8.toInt32) ljb ((jb0.toInt8.toInt32).toInt8.toInt32) ((jb1.toInt8.toInt32).toInt8.toInt32) q2 (q3 ^^^ q4) lia ((ia0.toInt8.toInt32).toInt8.toInt32) ((ia1.toInt8.toInt32).toInt8.toInt32) lja ((ja0.toInt8.toInt32).toInt8.toInt32) ((ja1.toInt8.toInt32).toInt8.toInt32) q2 q3 cs)]))
                refine o_iload X376 hx hby at_434 rfl (q := 436) rfl ?_
                by_cases hc436_377 : (fqe lib ((ib0.toInt8.toInt32).toInt8.toInt32) ((ib1.toInt8.toInt32).toInt8.toInt32) ljb ((jb0.toInt8.toInt32).toInt8.toInt32) ((jb1.toInt8.toInt32).toInt8.toInt32) q2 (q3 ^^^ q4) lia ((ia0.toInt8.toInt32).toInt8.toInt32) ((ia1.toInt8.toInt32).toInt8.toInt32) lja ((ja0.toInt8.toInt32).toInt8.toInt32) ((ja1.toInt8.toInt32).toInt8.toInt32) q2 q3 cs) = (0 : Int32)
                · skip
                  refine o_icN X376 hx hby at_436 (teq hc436_377).2 (q := 439) rfl ?_
                  refine o_iconst X376 hx hby at_439 (z := 1) rfl (q := 440) rfl ?_
                  refine o_goto X376 hx hby at_440 (by decide) (q := 444) (by decide) ?_
                  exact own_outNW (s := s) (vm₁ := T322.vm) X376 S322 (by rw [hh376]; exact (Nat.le_refl T322.heap.size)) hx hlk (t := .boolean) hret (by simp) (hb hby at_444) (z' := (1 : Int32)) rfl (Q := Q) (hQ _ _ N376) (by decide) (by decide)
                · skip
                  refine o_icY X376 hx hby at_436 (feq hc436_377).2 (by decide) (q := 443) (by decide) ?_
                  refine o_iconst X376 hx hby at_443 (z := 0) rfl (q := 444) rfl ?_
                  exact (sg125_dead16 p0 p1 q2 q3 q4 p5 lia lib lja ljb ia0 ia1 ib0 ib1 ja0 ja1 jb0 jb1 cs hcs hl_lia hl_lib hl_lja hl_ljb hr_ia0 hr_ia1 hr_ib0 hr_ib1 hr_ja0 hr_ja1 hr_jb0 hr_jb1 hc173_15 hc187_311 hc274_327 hc296_331 hc319_336 hc363_351 hc424_375 hc436_377).elim
              · skip
                refine o_icY X352 hx hby at_424 (feq hc424_375).2 (by decide) (q := 443) (by decide) ?_
                refine o_iconst X352 hx hby at_443 (z := 0) rfl (q := 444) rfl ?_
                exact (sg125_dead17 p0 p1 q2 q3 q4 p5 lia lib lja ljb ia0 ia1 ib0 ib1 ja0 ja1 jb0 jb1 cs hcs hl_lia hl_lib hl_lja hl_ljb hr_ia0 hr_ia1 hr_ib0 hr_ib1 hr_ja0 hr_ja1 hr_jb0 hr_jb1 hc173_15 hc187_311 hc274_327 hc296_331 hc319_336 hc363_351 hc424_375).elim
            · skip
              refine o_ifN X349 hx hby at_363 ((if0 _ _).trans (feq hc363_351).1) (q := 366) rfl ?_
              refine o_iload X349 hx hby at_366 rfl (q := 368) rfl ?_
              refine o_iload X349 hx hby at_368 rfl (q := 370) rfl ?_
              refine o_iload X349 hx hby at_370 rfl (q := 372) rfl ?_
              refine o_iload X349 hx hby at_372 rfl (q := 374) rfl ?_
              refine o_iload X349 hx hby at_374 rfl (q := 376) rfl ?_
              refine o_iload X349 hx hby at_376 rfl (q := 378) rfl ?_
              obtain ⟨_, _, ⟨T378, L378, k378, n378⟩, -, X378, ⟨Lc378, hQ378, l378, y378, z378⟩, st378⟩ := Jvm.LawKit.callS X349 hx (y := (⟨"com/example/collector_urchin/collectorurchin/store/StampedRecordEqualsPinLaw", "sameStr", "(ICCICC)Z"⟩ : MethodName)) hown322 (mvT hZ322 (w_ hw 48 rfl)) (mvT hZ322 (w_ hw 49 rfl)) (mvT hZ322 (w_ hw 2 rfl)) (mvT hZ322 (w_ hw 50 rfl)) (by decide) (backOf (W := 0) (rm7 l Z a0 hw [] lja ja0 ja1 ljb jb0 jb1 T322.heap n0 qz350 ) hZ322 (w_ hw 50 rfl) (w_ hw 2 rfl) (by decide) (by decide)) (g := (mkF m 378 #[iv p0, iv p1, .val (.long q2), .second, .val (.long q3), .second, .val (.long q4), .second, iv p5, iv lia, iv lib, iv lja, iv ljb, iv ia0, iv ia1, iv ib0, iv ib1, iv ja0, iv ja1, iv jb0, iv jb1, rv r1, rv r3, rv r7, rv r11, iv 1, iv 0, .val (.long q2), .second, .val (.long (q3 ^^^ q4)), .second, rv b312, rv b320, iv (((p5.toUInt32 >>> ((2 : Int32) &&& 31).toUInt32).toInt32) &&& (7 : Int32)), .unset] [.int jb1, .int jb0, .int ljb, .int ja1, .int ja0, .int lja])) rfl (by rw [hml]; rfl) (argsL := [(.int lja), (.int ja0), (.int ja1), (.int ljb), (.int jb0), (.int jb1)]) (rest := []) (lenOf pd_10 rfl) rfl (by show 2 * 0 + _ ≤ _; exact Nat.le_of_eq rfl) (hb hby at_378) (fun _ _ => ⟨rfl, hh349, (by decide : 26 + 0 ≤ _), (by decide : 104 + 0 ≤ _)⟩)
              dsimp only [Pt.U, Pt.locs, Pt.cells, Pt.slots] at X378 l378 y378 z378 st378 hQ378
              subst l378 y378 z378
              obtain ⟨rfl, N378q, hh378⟩ := hQ378
              have N378 := Fr.app N349 N378q
              refine own_of st378 ?_
              show own_Out p e below _ (T378.setTop (mkF m 381 #[iv p0, iv p1, .val (.long q2), .second, .val (.long q3), .second, .val (.long q4), .second, iv p5, iv lia, iv lib, iv lja, iv ljb, iv ia0, iv ia1, iv ib0, iv ib1, iv ja0, iv ja1, iv jb0, iv jb1, rv r1, rv r3, rv r7, rv r11, iv 1, iv 0, .val (.long q2), .second, .val (.long (q3 ^^^ q4)), .second, rv b312, rv b320, iv (((p5.toUInt32 >>> ((2 : Int32) &&& 31).toUInt32).toInt32) &&& (7 : Int32)), .unset] [.int (fss lja ja0 ja1 ljb jb0 jb1)]))
              by_cases hc381_379 : (fss lja ja0 ja1 ljb jb0 jb1) = (0 : Int32)
              · skip
                refine o_ifY X378 hx hby at_381 ((if0 _ _).trans (teq hc381_379).1) (by decide) (q := 412) (by decide) ?_
                refine o_iconst X378 hx hby at_412 (z := 0) rfl (q := 413) rfl ?_
                refine o_istore X378 hx hby at_413 (l' := #[iv p0, iv p1, .val (.long q2), .second, .val (.long q3), .second, .val (.long q4), .second, iv p5, iv lia, iv lib, iv lja, iv ljb, iv ia0, iv ia1, iv ib0, iv ib1, iv ja0, iv ja1, iv jb0, iv jb1, rv r1, rv r3, rv r7, rv r11, iv 1, iv 0, .val (.long q2), .second, .val (.long (q3 ^^^ q4)), .second, rv b312, rv b320, iv (((p5.toUInt32 >>> ((2 : Int32) &&& 31).toUInt32).toInt32) &&& (7 : Int32)), iv 0]) rfl (q := 415) rfl ?_
                refine o_aload X378 hx hby at_415 rfl rfl (q := 417) rfl ?_
                refine o_aload X378 hx hby at_417 rfl rfl (q := 419) rfl ?_
                have ne_r1_r3 : r1 ≠ r3 := Nat.ne_of_lt (Nat.lt_of_lt_of_le E1.lt hs3)
                have ne_r7_r11 : r7 ≠ r11 := Nat.ne_of_lt (Nat.lt_of_lt_of_le E7.lt hs11)
                have qz381 := ((E315.ext E320).keep K322)
                have ne_b312_b320 : b312 ≠ b320 := Nat.ne_of_lt (Nat.lt_of_lt_of_le (Nat.lt_of_lt_of_le A312.lt K315.1) (Nat.le_of_eq g320.symm))
                have qz382 := ((F315_id.ext E320).keep K322 (ninS ne_b312_b320 nin0))
                have qz383 := (((qz316.keep K315).ext E320).keep K322)
                have ne_r1_b312 : r1 ≠ b312 := Nat.ne_of_lt (Nat.lt_of_lt_of_le (Nat.lt_of_lt_of_le (Nat.lt_of_lt_of_le (Nat.lt_of_lt_of_le E1.lt K3.1) K7.1) K11.1) (Nat.le_of_eq g312.symm))
                have ne_r1_b320 : r1 ≠ b320 := Nat.ne_of_lt (Nat.lt_of_lt_of_le (Nat.lt_of_lt_of_le (Nat.lt_of_lt_of_le (Nat.lt_of_lt_of_le (Nat.lt_of_lt_of_le (Nat.lt_of_lt_of_le E1.lt K3.1) K7.1) K11.1) E312.1) K315.1) (Nat.le_of_eq g320.symm))
                have qz384 := (((((((Fv1.keep K3 nin0).keep K7 nin0).keep K11 nin0).ext E312).keep K315 (ninS ne_r1_b312 nin0)).ext E320).keep K322 (ninS ne_r1_b320 nin0))
                have qz385 := (((((((Fc1.keep K3 nin0).keep K7 nin0).keep K11 nin0).ext E312).keep K315 (ninS ne_r1_b312 nin0)).ext E320).keep K322 (ninS ne_r1_b320 nin0))
                have ne_b1_b312 : b1 ≠ b312 := Nat.ne_of_lt (Nat.lt_of_lt_of_le (Nat.lt_of_lt_of_le (Nat.lt_of_lt_of_le (Nat.lt_of_lt_of_le V1.lt K3.1) K7.1) K11.1) (Nat.le_of_eq g312.symm))
                have ne_b1_b320 : b1 ≠ b320 := Nat.ne_of_lt (Nat.lt_of_lt_of_le (Nat.lt_of_lt_of_le (Nat.lt_of_lt_of_le (Nat.lt_of_lt_of_le (Nat.lt_of_lt_of_le (Nat.lt_of_lt_of_le V1.lt K3.1) K7.1) K11.1) E312.1) K315.1) (Nat.le_of_eq g320.symm))
                have qz386 := (((((((V1.keep K3 nin0).keep K7 nin0).keep K11 nin0).ext E312).keep K315 (ninS ne_b1_b312 nin0)).ext E320).keep K322 (ninS ne_b1_b320 nin0))
                have qz387 := ((F315_body.ext E320).keep K322 (ninS ne_b312_b320 nin0))
                have qz388 := (((qz317.keep K315).ext E320).keep K322)
                have ne_r7_b312 : r7 ≠ b312 := Nat.ne_of_lt (Nat.lt_of_lt_of_le (Nat.lt_of_lt_of_le E7.lt K11.1) (Nat.le_of_eq g312.symm))
                have ne_r7_b320 : r7 ≠ b320 := Nat.ne_of_lt (Nat.lt_of_lt_of_le (Nat.lt_of_lt_of_le (Nat.lt_of_lt_of_le (Nat.lt_of_lt_of_le E7.lt K11.1) E312.1) K315.1) (Nat.le_of_eq g320.symm))
                have qz389 := (((((Fv7.keep K11 nin0).ext E312).keep K315 (ninS ne_r7_b312 nin0)).ext E320).keep K322 (ninS ne_r7_b320 nin0))
                have qz390 := (((((Fc7.keep K11 nin0).ext E312).keep K315 (ninS ne_r7_b312 nin0)).ext E320).keep K322 (ninS ne_r7_b320 nin0))
                have ne_b7_b312 : b7 ≠ b312 := Nat.ne_of_lt (Nat.lt_of_lt_of_le (Nat.lt_of_lt_of_le V7.lt K11.1) (Nat.le_of_eq g312.symm))
                have ne_b7_b320 : b7 ≠ b320 := Nat.ne_of_lt (Nat.lt_of_lt_of_le (Nat.lt_of_lt_of_le (Nat.lt_of_lt_of_le (Nat.lt_of_lt_of_le V7.lt K11.1) E312.1) K315.1) (Nat.le_of_eq g320.symm))
                have qz391 := (((((V7.keep K11 nin0).ext E312).keep K315 (ninS ne_b7_b312 nin0)).ext E320).keep K322 (ninS ne_b7_b320 nin0))
                have qz392 := ((F315_created.ext E320).keep K322 (ninS ne_b312_b320 nin0))
                have qz393 := ((F315_modified.ext E320).keep K322 (ninS ne_b312_b320 nin0))
                have qz394 := (qz323.keep K322)
                have ne_r3_b312 : r3 ≠ b312 := Nat.ne_of_lt (Nat.lt_of_lt_of_le (Nat.lt_of_lt_of_le (Nat.lt_of_lt_of_le E3.lt K7.1) K11.1) (Nat.le_of_eq g312.symm))
                have ne_r3_b320 : r3 ≠ b320 := Nat.ne_of_lt (Nat.lt_of_lt_of_le (Nat.lt_of_lt_of_le (Nat.lt_of_lt_of_le (Nat.lt_of_lt_of_le (Nat.lt_of_lt_of_le E3.lt K7.1) K11.1) E312.1) K315.1) (Nat.le_of_eq g320.symm))
                have qz395 := ((((((Fv3.keep K7 nin0).keep K11 nin0).ext E312).keep K315 (ninS ne_r3_b312 nin0)).ext E320).keep K322 (ninS ne_r3_b320 nin0))
                have qz396 := ((((((Fc3.keep K7 nin0).keep K11 nin0).ext E312).keep K315 (ninS ne_r3_b312 nin0)).ext E320).keep K322 (ninS ne_r3_b320 nin0))
                have ne_b3_b312 : b3 ≠ b312 := Nat.ne_of_lt (Nat.lt_of_lt_of_le (Nat.lt_of_lt_of_le (Nat.lt_of_lt_of_le V3.lt K7.1) K11.1) (Nat.le_of_eq g312.symm))
                have ne_b3_b320 : b3 ≠ b320 := Nat.ne_of_lt (Nat.lt_of_lt_of_le (Nat.lt_of_lt_of_le (Nat.lt_of_lt_of_le (Nat.lt_of_lt_of_le (Nat.lt_of_lt_of_le V3.lt K7.1) K11.1) E312.1) K315.1) (Nat.le_of_eq g320.symm))
                have qz397 := ((((((V3.keep K7 nin0).keep K11 nin0).ext E312).keep K315 (ninS ne_b3_b312 nin0)).ext E320).keep K322 (ninS ne_b3_b320 nin0))
                have qz398 := (qz324.keep K322)
                have ne_r11_b312 : r11 ≠ b312 := Nat.ne_of_lt (Nat.lt_of_lt_of_le E11.lt (Nat.le_of_eq g312.symm))
                have ne_r11_b320 : r11 ≠ b320 := Nat.ne_of_lt (Nat.lt_of_lt_of_le (Nat.lt_of_lt_of_le (Nat.lt_of_lt_of_le E11.lt E312.1) K315.1) (Nat.le_of_eq g320.symm))
                have qz399 := ((((Fv11.ext E312).keep K315 (ninS ne_r11_b312 nin0)).ext E320).keep K322 (ninS ne_r11_b320 nin0))
                have qz400 := ((((Fc11.ext E312).keep K315 (ninS ne_r11_b312 nin0)).ext E320).keep K322 (ninS ne_r11_b320 nin0))
                have ne_b11_b312 : b11 ≠ b312 := Nat.ne_of_lt (Nat.lt_of_lt_of_le V11.lt (Nat.le_of_eq g312.symm))
                have ne_b11_b320 : b11 ≠ b320 := Nat.ne_of_lt (Nat.lt_of_lt_of_le (Nat.lt_of_lt_of_le (Nat.lt_of_lt_of_le V11.lt E312.1) K315.1) (Nat.le_of_eq g320.symm))
                have qz401 := ((((V11.ext E312).keep K315 (ninS ne_b11_b312 nin0)).ext E320).keep K322 (ninS ne_b11_b320 nin0))
                have qz402 := (own_staK1 ((own_staK1 ((own_staK0 qz12 K11).ext E312) K315 (own_plainE A312)).ext E320) K322 (own_plainE A320))
                obtain ⟨cq380, kq380, q380a, q380b, q380c⟩ := isOf hZ322 hh378 qz381
                obtain ⟨_, _, ⟨T380, L380, k380, n380⟩, -, X380, ⟨Lc380, hQ380, l380, y380, z380⟩, st380⟩ := X378.virtualBack hx (y := (⟨"com/example/collector_urchin/collectorurchin/store/StampedRecord", "equals", "(Ljava/lang/Object;)Z"⟩ : MethodName)) (z := (⟨"com/example/collector_urchin/collectorurchin/store/StampedRecord", "equals", "(Ljava/lang/Object;)Z"⟩ : MethodName)) hown322 (mvT hZ322 (w_ hw 51 rfl)) (mvT hZ322 (w_ hw 52 rfl)) (notFace_of_selects (args := #[]) (mvT hZ322 (w_ hw 54 rfl))) (mvT hZ322 (w_ hw 54 rfl)) (mvT hZ322 (w_ hw 53 rfl)) (by decide) (backOf (W := 0) (rm8c l Z a0 hw [] b312 b320 r1 b1 k1 lia ((ia0.toInt8.toInt32).toInt8.toInt32) ((ia1.toInt8.toInt32).toInt8.toInt32) r7 b7 k7 lja ((ja0.toInt8.toInt32).toInt8.toInt32) ((ja1.toInt8.toInt32).toInt8.toInt32) q2 q3 r3 b3 k3 lib ((ib0.toInt8.toInt32).toInt8.toInt32) ((ib1.toInt8.toInt32).toInt8.toInt32) r11 b11 k11 ljb ((jb0.toInt8.toInt32).toInt8.toInt32) ((jb1.toInt8.toInt32).toInt8.toInt32) q2 (q3 ^^^ q4) cs T322.heap n0 qz350 qz381 E322 qz382 qz383 qz384 qz385 qz386 hl_lia qz387 qz388 qz389 qz390 qz391 hl_lja qz392 qz393 F322_id qz394 qz395 qz396 qz397 hl_lib F322_body qz398 qz399 qz400 qz401 hl_ljb F322_created F322_modified qz402 hcs ne_r1_r3 ne_r7_r11) hZ322 (w_ hw 55 rfl) (w_ hw 28 rfl) (by decide) (by decide)) q380a q380c (g := (mkF m 419 #[iv p0, iv p1, .val (.long q2), .second, .val (.long q3), .second, .val (.long q4), .second, iv p5, iv lia, iv lib, iv lja, iv ljb, iv ia0, iv ia1, iv ib0, iv ib1, iv ja0, iv ja1, iv jb0, iv jb1, rv r1, rv r3, rv r7, rv r11, iv 1, iv 0, .val (.long q2), .second, .val (.long (q3 ^^^ q4)), .second, rv b312, rv b320, iv (((p5.toUInt32 >>> ((2 : Int32) &&& 31).toUInt32).toInt32) &&& (7 : Int32)), iv 0] [.ref b320, .ref b312])) rfl (by rw [hml]; rfl) (Steps.refl _) (argsL := [(.ref b320)]) (rest := []) (lenOf pd_7 rfl) rfl (by show 2 * 0 + _ ≤ _; exact Nat.le_of_eq rfl) (hb hby at_419) (fun _ _ => ⟨rfl, hh378, (by decide : 26 + 0 ≤ _), (by decide : 104 + 0 ≤ _)⟩)
                dsimp only [Pt.U, Pt.locs, Pt.cells, Pt.slots] at X380 l380 y380 z380 st380 hQ380
                subst l380 y380 z380
                obtain ⟨rfl, N380q, hh380⟩ := hQ380
                have N380 := Fr.app N378 N380q
                refine own_of (fun _ k => st380.trans k) ?_
                show own_Out p e below _ (T380.setTop (mkF m 422 #[iv p0, iv p1, .val (.long q2), .second, .val (.long q3), .second, .val (.long q4), .second, iv p5, iv lia, iv lib, iv lja, iv ljb, iv ia0, iv ia1, iv ib0, iv ib1, iv ja0, iv ja1, iv jb0, iv jb1, rv r1, rv r3, rv r7, rv r11, iv 1, iv 0, .val (.long q2), .second, .val (.long (q3 ^^^ q4)), .second, rv b312, rv b320, iv (((p5.toUInt32 >>> ((2 : Int32) &&& 31).toUInt32).toInt32) &&& (7 : Int32)), iv 0] [.int (fqe lia ((ia0.toInt8.toInt32).toInt8.toInt32) ((ia1.toInt8.toInt32).toInt8.toInt32) lja ((ja0.toInt8.toInt32).toInt8.toInt32) ((ja1.toInt8.toInt32).toInt8.toInt32) q2 q3 lib ((ib0.toInt8.toInt32).toInt8.toInt32) ((ib1.toInt8.toInt32).toInt8.toInt32) ljb ((jb0.toInt8.toInt32).toInt8.toInt32) ((jb1.toInt8.toInt32).toInt8.toInt32) q2 (q3 ^^^ q4) cs)]))
                refine o_iload X380 hx hby at_422 rfl (q := 424) rfl ?_
                by_cases hc424_403 : (fqe lia ((ia0.toInt8.toInt32).toInt8.toInt32) ((ia1.toInt8.toInt32).toInt8.toInt32) lja ((ja0.toInt8.toInt32).toInt8.toInt32) ((ja1.toInt8.toInt32).toInt8.toInt32) q2 q3 lib ((ib0.toInt8.toInt32).toInt8.toInt32) ((ib1.toInt8.toInt32).toInt8.toInt32) ljb ((jb0.toInt8.toInt32).toInt8.toInt32) ((jb1.toInt8.toInt32).toInt8.toInt32) q2 (q3 ^^^ q4) cs) = (0 : Int32)
                · skip
                  refine o_icN X380 hx hby at_424 (teq hc424_403).2 (q := 427) rfl ?_
                  refine o_aload X380 hx hby at_427 rfl rfl (q := 429) rfl ?_
                  refine o_aload X380 hx hby at_429 rfl rfl (q := 431) rfl ?_
                  obtain ⟨cq404, kq404, q404a, q404b, q404c⟩ := isOf hZ322 hh380 E322
                  obtain ⟨_, _, ⟨T404, L404, k404, n404⟩, -, X404, ⟨Lc404, hQ404, l404, y404, z404⟩, st404⟩ := X380.virtualBack hx (y := (⟨"com/example/collector_urchin/collectorurchin/store/StampedRecord", "equals", "(Ljava/lang/Object;)Z"⟩ : MethodName)) (z := (⟨"com/example/collector_urchin/collectorurchin/store/StampedRecord", "equals", "(Ljava/lang/Object;)Z"⟩ : MethodName)) hown322 (mvT hZ322 (w_ hw 51 rfl)) (mvT hZ322 (w_ hw 52 rfl)) (notFace_of_selects (args := #[]) (mvT hZ322 (w_ hw 54 rfl))) (mvT hZ322 (w_ hw 54 rfl)) (mvT hZ322 (w_ hw 53 rfl)) (by decide) (backOf (W := 0) (rm8c l Z a0 hw [] b320 b312 r3 b3 k3 lib ((ib0.toInt8.toInt32).toInt8.toInt32) ((ib1.toInt8.toInt32).toInt8.toInt32) r11 b11 k11 ljb ((jb0.toInt8.toInt32).toInt8.toInt32) ((jb1.toInt8.toInt32).toInt8.toInt32) q2 (q3 ^^^ q4) r1 b1 k1 lia ((ia0.toInt8.toInt32).toInt8.toInt32) ((ia1.toInt8.toInt32).toInt8.toInt32) r7 b7 k7 lja ((ja0.toInt8.toInt32).toInt8.toInt32) ((ja1.toInt8.toInt32).toInt8.toInt32) q2 q3 cs T322.heap n0 qz350 E322 qz381 F322_id qz394 qz395 qz396 qz397 hl_lib F322_body qz398 qz399 qz400 qz401 hl_ljb F322_created F322_modified qz382 qz383 qz384 qz385 qz386 hl_lia qz387 qz388 qz389 qz390 qz391 hl_lja qz392 qz393 qz402 hcs (Ne.symm ne_r1_r3) (Ne.symm ne_r7_r11)) hZ322 (w_ hw 55 rfl) (w_ hw 28 rfl) (by decide) (by decide)) q404a q404c (g := (mkF m 431 #[iv p0, iv p1, .val (.long q2), .second, .val (.long q3), .second, .val (.long q4), .second, iv p5, iv lia, iv lib, iv lja, iv ljb, iv ia0, iv ia1, iv ib0, iv ib1, iv ja0, iv ja1, iv jb0, iv jb1, rv r1, rv r3, rv r7, rv r11, iv 1, iv 0, .val (.long q2), .second, .val (.long (q3 ^^^ q4)), .second, rv b312, rv b320, iv (((p5.toUInt32 >>> ((2 : Int32) &&& 31).toUInt32).toInt32) &&& (7 : Int32)), iv 0] [.ref b312, .ref b320])) rfl (by rw [hml]; rfl) (Steps.refl _) (argsL := [(.ref b312)]) (rest := []) (lenOf pd_7 rfl) rfl (by show 2 * 0 + _ ≤ _; exact Nat.le_of_eq rfl) (hb hby at_431) (fun _ _ => ⟨rfl, hh380, (by decide : 26 + 0 ≤ _), (by decide : 104 + 0 ≤ _)⟩)
                  dsimp only [Pt.U, Pt.locs, Pt.cells, Pt.slots] at X404 l404 y404 z404 st404 hQ404
                  subst l404 y404 z404
                  obtain ⟨rfl, N404q, hh404⟩ := hQ404
                  have N404 := Fr.app N380 N404q
                  refine own_of (fun _ k => st404.trans k) ?_
                  show own_Out p e below _ (T404.setTop (mkF m 434 #[iv p0, iv p1, .val (.long q2), .second, .val (.long q3), .second, .val (.long q4), .second, iv p5, iv lia, iv lib, iv lja, iv ljb, iv ia0, iv ia1, iv ib0, iv ib1, iv ja0, iv ja1, iv jb0, iv jb1, rv r1, rv r3, rv r7, rv r11, iv 1, iv 0, .val (.long q2), .second, .val (.long (q3 ^^^ q4)), .second, rv b312, rv b320, iv (((p5.toUInt32 >>> ((2 : Int32) &&& 31).toUInt32).toInt32) &&& (7 : Int32)), iv 0] [.int (fqe lib ((ib0.toInt8.toInt32).toInt8.toInt32) ((ib1.toInt8.toInt32).toInt8.toInt32) ljb ((jb0.toInt8.toInt32).toInt8.toInt32) ((jb1.toInt8.toInt32).toInt8.toInt32) q2 (q3 ^^^ q4) lia ((ia0.toInt8.toInt32).toInt8.toInt32) ((ia1.toInt8.toInt32).toInt8.toInt32) lja ((ja0.toInt8.toInt32).toInt8.toInt32) ((ja1.toInt8.toInt32).toInt8.toInt32) q2 q3 cs)]))
                  refine o_iload X404 hx hby at_434 rfl (q := 436) rfl ?_
                  by_cases hc436_405 : (fqe lib ((ib0.toInt8.toInt32).toInt8.toInt32) ((ib1.toInt8.toInt32).toInt8.toInt32) ljb ((jb0.toInt8.toInt32).toInt8.toInt32) ((jb1.toInt8.toInt32).toInt8.toInt32) q2 (q3 ^^^ q4) lia ((ia0.toInt8.toInt32).toInt8.toInt32) ((ia1.toInt8.toInt32).toInt8.toInt32) lja ((ja0.toInt8.toInt32).toInt8.toInt32) ((ja1.toInt8.toInt32).toInt8.toInt32) q2 q3 cs) = (0 : Int32)
                  · skip
                    refine o_icN X404 hx hby at_436 (teq hc436_405).2 (q := 439) rfl ?_
                    refine o_iconst X404 hx hby at_439 (z := 1) rfl (q := 440) rfl ?_
                    refine o_goto X404 hx hby at_440 (by decide) (q := 444) (by decide) ?_
                    exact own_outNW (s := s) (vm₁ := T322.vm) X404 S322 (by rw [hh404]; exact (Nat.le_refl T322.heap.size)) hx hlk (t := .boolean) hret (by simp) (hb hby at_444) (z' := (1 : Int32)) rfl (Q := Q) (hQ _ _ N404) (by decide) (by decide)
                  · skip
                    refine o_icY X404 hx hby at_436 (feq hc436_405).2 (by decide) (q := 443) (by decide) ?_
                    refine o_iconst X404 hx hby at_443 (z := 0) rfl (q := 444) rfl ?_
                    exact (sg125_dead18 p0 p1 q2 q3 q4 p5 lia lib lja ljb ia0 ia1 ib0 ib1 ja0 ja1 jb0 jb1 cs hcs hl_lia hl_lib hl_lja hl_ljb hr_ia0 hr_ia1 hr_ib0 hr_ib1 hr_ja0 hr_ja1 hr_jb0 hr_jb1 hc173_15 hc187_311 hc274_327 hc296_331 hc319_336 hc363_351 hc381_379 hc424_403 hc436_405).elim
                · skip
                  refine o_icY X380 hx hby at_424 (feq hc424_403).2 (by decide) (q := 443) (by decide) ?_
                  refine o_iconst X380 hx hby at_443 (z := 0) rfl (q := 444) rfl ?_
                  exact (sg125_dead19 p0 p1 q2 q3 q4 p5 lia lib lja ljb ia0 ia1 ib0 ib1 ja0 ja1 jb0 jb1 cs hcs hl_lia hl_lib hl_lja hl_ljb hr_ia0 hr_ia1 hr_ib0 hr_ib1 hr_ja0 hr_ja1 hr_jb0 hr_jb1 hc173_15 hc187_311 hc274_327 hc296_331 hc319_336 hc363_351 hc381_379 hc424_403).elim
              · skip
                refine o_ifN X378 hx hby at_381 ((if0 _ _).trans (feq hc381_379).1) (q := 384) rfl ?_
                refine o_iload X378 hx hby at_384 rfl (q := 386) rfl ?_
                refine o_ifY X378 hx hby at_386 ((if0 _ _).trans (feq (by decide : ¬ ((1 : Int32) = (0 : Int32)))).2) (by decide) (q := 396) (by decide) ?_
                refine o_iload X378 hx hby at_396 rfl (q := 398) rfl ?_
                refine o_ifN X378 hx hby at_398 ((if0 _ _).trans (teq (by decide : (0 : Int32) = (0 : Int32))).2) (q := 401) rfl ?_
                refine o_lload X378 hx hby at_401 rfl (q := 403) rfl ?_
                refine o_lconst X378 hx hby at_403 (z := 0) rfl (q := 404) rfl ?_
                refine o_lcmp X378 hx hby at_404 (q := 405) rfl ?_
                by_cases hc405_406 : q4 = (0 : Int64)
                · skip
                  refine o_ifN X378 hx hby at_405 (own_leq hc405_406).2 (q := 408) rfl ?_
                  refine o_iconst X378 hx hby at_408 (z := 1) rfl (q := 409) rfl ?_
                  refine o_goto X378 hx hby at_409 (by decide) (q := 413) (by decide) ?_
                  refine o_istore X378 hx hby at_413 (l' := #[iv p0, iv p1, .val (.long q2), .second, .val (.long q3), .second, .val (.long q4), .second, iv p5, iv lia, iv lib, iv lja, iv ljb, iv ia0, iv ia1, iv ib0, iv ib1, iv ja0, iv ja1, iv jb0, iv jb1, rv r1, rv r3, rv r7, rv r11, iv 1, iv 0, .val (.long q2), .second, .val (.long (q3 ^^^ q4)), .second, rv b312, rv b320, iv (((p5.toUInt32 >>> ((2 : Int32) &&& 31).toUInt32).toInt32) &&& (7 : Int32)), iv 1]) rfl (q := 415) rfl ?_
                  refine o_aload X378 hx hby at_415 rfl rfl (q := 417) rfl ?_
                  refine o_aload X378 hx hby at_417 rfl rfl (q := 419) rfl ?_
                  have ne_r1_r3 : r1 ≠ r3 := Nat.ne_of_lt (Nat.lt_of_lt_of_le E1.lt hs3)
                  have ne_r7_r11 : r7 ≠ r11 := Nat.ne_of_lt (Nat.lt_of_lt_of_le E7.lt hs11)
                  have qz408 := ((E315.ext E320).keep K322)
                  have ne_b312_b320 : b312 ≠ b320 := Nat.ne_of_lt (Nat.lt_of_lt_of_le (Nat.lt_of_lt_of_le A312.lt K315.1) (Nat.le_of_eq g320.symm))
                  have qz409 := ((F315_id.ext E320).keep K322 (ninS ne_b312_b320 nin0))
                  have qz410 := (((qz316.keep K315).ext E320).keep K322)
                  have ne_r1_b312 : r1 ≠ b312 := Nat.ne_of_lt (Nat.lt_of_lt_of_le (Nat.lt_of_lt_of_le (Nat.lt_of_lt_of_le (Nat.lt_of_lt_of_le E1.lt K3.1) K7.1) K11.1) (Nat.le_of_eq g312.symm))
                  have ne_r1_b320 : r1 ≠ b320 := Nat.ne_of_lt (Nat.lt_of_lt_of_le (Nat.lt_of_lt_of_le (Nat.lt_of_lt_of_le (Nat.lt_of_lt_of_le (Nat.lt_of_lt_of_le (Nat.lt_of_lt_of_le E1.lt K3.1) K7.1) K11.1) E312.1) K315.1) (Nat.le_of_eq g320.symm))
                  have qz411 := (((((((Fv1.keep K3 nin0).keep K7 nin0).keep K11 nin0).ext E312).keep K315 (ninS ne_r1_b312 nin0)).ext E320).keep K322 (ninS ne_r1_b320 nin0))
                  have qz412 := (((((((Fc1.keep K3 nin0).keep K7 nin0).keep K11 nin0).ext E312).keep K315 (ninS ne_r1_b312 nin0)).ext E320).keep K322 (ninS ne_r1_b320 nin0))
                  have ne_b1_b312 : b1 ≠ b312 := Nat.ne_of_lt (Nat.lt_of_lt_of_le (Nat.lt_of_lt_of_le (Nat.lt_of_lt_of_le (Nat.lt_of_lt_of_le V1.lt K3.1) K7.1) K11.1) (Nat.le_of_eq g312.symm))
                  have ne_b1_b320 : b1 ≠ b320 := Nat.ne_of_lt (Nat.lt_of_lt_of_le (Nat.lt_of_lt_of_le (Nat.lt_of_lt_of_le (Nat.lt_of_lt_of_le (Nat.lt_of_lt_of_le (Nat.lt_of_lt_of_le V1.lt K3.1) K7.1) K11.1) E312.1) K315.1) (Nat.le_of_eq g320.symm))
                  have qz413 := (((((((V1.keep K3 nin0).keep K7 nin0).keep K11 nin0).ext E312).keep K315 (ninS ne_b1_b312 nin0)).ext E320).keep K322 (ninS ne_b1_b320 nin0))
                  have qz414 := ((F315_body.ext E320).keep K322 (ninS ne_b312_b320 nin0))
                  have qz415 := (((qz317.keep K315).ext E320).keep K322)
                  have ne_r7_b312 : r7 ≠ b312 := Nat.ne_of_lt (Nat.lt_of_lt_of_le (Nat.lt_of_lt_of_le E7.lt K11.1) (Nat.le_of_eq g312.symm))
                  have ne_r7_b320 : r7 ≠ b320 := Nat.ne_of_lt (Nat.lt_of_lt_of_le (Nat.lt_of_lt_of_le (Nat.lt_of_lt_of_le (Nat.lt_of_lt_of_le E7.lt K11.1) E312.1) K315.1) (Nat.le_of_eq g320.symm))
                  have qz416 := (((((Fv7.keep K11 nin0).ext E312).keep K315 (ninS ne_r7_b312 nin0)).ext E320).keep K322 (ninS ne_r7_b320 nin0))
                  have qz417 := (((((Fc7.keep K11 nin0).ext E312).keep K315 (ninS ne_r7_b312 nin0)).ext E320).keep K322 (ninS ne_r7_b320 nin0))
                  have ne_b7_b312 : b7 ≠ b312 := Nat.ne_of_lt (Nat.lt_of_lt_of_le (Nat.lt_of_lt_of_le V7.lt K11.1) (Nat.le_of_eq g312.symm))
                  have ne_b7_b320 : b7 ≠ b320 := Nat.ne_of_lt (Nat.lt_of_lt_of_le (Nat.lt_of_lt_of_le (Nat.lt_of_lt_of_le (Nat.lt_of_lt_of_le V7.lt K11.1) E312.1) K315.1) (Nat.le_of_eq g320.symm))
                  have qz418 := (((((V7.keep K11 nin0).ext E312).keep K315 (ninS ne_b7_b312 nin0)).ext E320).keep K322 (ninS ne_b7_b320 nin0))
                  have qz419 := ((F315_created.ext E320).keep K322 (ninS ne_b312_b320 nin0))
                  have qz420 := ((F315_modified.ext E320).keep K322 (ninS ne_b312_b320 nin0))
                  have qz421 := (qz323.keep K322)
                  have ne_r3_b312 : r3 ≠ b312 := Nat.ne_of_lt (Nat.lt_of_lt_of_le (Nat.lt_of_lt_of_le (Nat.lt_of_lt_of_le E3.lt K7.1) K11.1) (Nat.le_of_eq g312.symm))
                  have ne_r3_b320 : r3 ≠ b320 := Nat.ne_of_lt (Nat.lt_of_lt_of_le (Nat.lt_of_lt_of_le (Nat.lt_of_lt_of_le (Nat.lt_of_lt_of_le (Nat.lt_of_lt_of_le E3.lt K7.1) K11.1) E312.1) K315.1) (Nat.le_of_eq g320.symm))
                  have qz422 := ((((((Fv3.keep K7 nin0).keep K11 nin0).ext E312).keep K315 (ninS ne_r3_b312 nin0)).ext E320).keep K322 (ninS ne_r3_b320 nin0))
                  have qz423 := ((((((Fc3.keep K7 nin0).keep K11 nin0).ext E312).keep K315 (ninS ne_r3_b312 nin0)).ext E320).keep K322 (ninS ne_r3_b320 nin0))
                  have ne_b3_b312 : b3 ≠ b312 := Nat.ne_of_lt (Nat.lt_of_lt_of_le (Nat.lt_of_lt_of_le (Nat.lt_of_lt_of_le V3.lt K7.1) K11.1) (Nat.le_of_eq g312.symm))
                  have ne_b3_b320 : b3 ≠ b320 := Nat.ne_of_lt (Nat.lt_of_lt_of_le (Nat.lt_of_lt_of_le (Nat.lt_of_lt_of_le (Nat.lt_of_lt_of_le (Nat.lt_of_lt_of_le V3.lt K7.1) K11.1) E312.1) K315.1) (Nat.le_of_eq g320.symm))
                  have qz424 := ((((((V3.keep K7 nin0).keep K11 nin0).ext E312).keep K315 (ninS ne_b3_b312 nin0)).ext E320).keep K322 (ninS ne_b3_b320 nin0))
                  have qz425 := (qz324.keep K322)
                  have ne_r11_b312 : r11 ≠ b312 := Nat.ne_of_lt (Nat.lt_of_lt_of_le E11.lt (Nat.le_of_eq g312.symm))
                  have ne_r11_b320 : r11 ≠ b320 := Nat.ne_of_lt (Nat.lt_of_lt_of_le (Nat.lt_of_lt_of_le (Nat.lt_of_lt_of_le E11.lt E312.1) K315.1) (Nat.le_of_eq g320.symm))
                  have qz426 := ((((Fv11.ext E312).keep K315 (ninS ne_r11_b312 nin0)).ext E320).keep K322 (ninS ne_r11_b320 nin0))
                  have qz427 := ((((Fc11.ext E312).keep K315 (ninS ne_r11_b312 nin0)).ext E320).keep K322 (ninS ne_r11_b320 nin0))
                  have ne_b11_b312 : b11 ≠ b312 := Nat.ne_of_lt (Nat.lt_of_lt_of_le V11.lt (Nat.le_of_eq g312.symm))
                  have ne_b11_b320 : b11 ≠ b320 := Nat.ne_of_lt (Nat.lt_of_lt_of_le (Nat.lt_of_lt_of_le (Nat.lt_of_lt_of_le V11.lt E312.1) K315.1) (Nat.le_of_eq g320.symm))
                  have qz428 := ((((V11.ext E312).keep K315 (ninS ne_b11_b312 nin0)).ext E320).keep K322 (ninS ne_b11_b320 nin0))
                  have qz429 := (own_staK1 ((own_staK1 ((own_staK0 qz12 K11).ext E312) K315 (own_plainE A312)).ext E320) K322 (own_plainE A320))
                  obtain ⟨cq407, kq407, q407a, q407b, q407c⟩ := isOf hZ322 hh378 qz408
                  obtain ⟨_, _, ⟨T407, L407, k407, n407⟩, -, X407, ⟨Lc407, hQ407, l407, y407, z407⟩, st407⟩ := X378.virtualBack hx (y := (⟨"com/example/collector_urchin/collectorurchin/store/StampedRecord", "equals", "(Ljava/lang/Object;)Z"⟩ : MethodName)) (z := (⟨"com/example/collector_urchin/collectorurchin/store/StampedRecord", "equals", "(Ljava/lang/Object;)Z"⟩ : MethodName)) hown322 (mvT hZ322 (w_ hw 51 rfl)) (mvT hZ322 (w_ hw 52 rfl)) (notFace_of_selects (args := #[]) (mvT hZ322 (w_ hw 54 rfl))) (mvT hZ322 (w_ hw 54 rfl)) (mvT hZ322 (w_ hw 53 rfl)) (by decide) (backOf (W := 0) (rm8c l Z a0 hw [] b312 b320 r1 b1 k1 lia ((ia0.toInt8.toInt32).toInt8.toInt32) ((ia1.toInt8.toInt32).toInt8.toInt32) r7 b7 k7 lja ((ja0.toInt8.toInt32).toInt8.toInt32) ((ja1.toInt8.toInt32).toInt8.toInt32) q2 q3 r3 b3 k3 lib ((ib0.toInt8.toInt32).toInt8.toInt32) ((ib1.toInt8.toInt32).toInt8.toInt32) r11 b11 k11 ljb ((jb0.toInt8.toInt32).toInt8.toInt32) ((jb1.toInt8.toInt32).toInt8.toInt32) q2 (q3 ^^^ q4) cs T322.heap n0 qz350 qz408 E322 qz409 qz410 qz411 qz412 qz413 hl_lia qz414 qz415 qz416 qz417 qz418 hl_lja qz419 qz420 F322_id qz421 qz422 qz423 qz424 hl_lib F322_body qz425 qz426 qz427 qz428 hl_ljb F322_created F322_modified qz429 hcs ne_r1_r3 ne_r7_r11) hZ322 (w_ hw 55 rfl) (w_ hw 28 rfl) (by decide) (by decide)) q407a q407c (g := (mkF m 419 #[iv p0, iv p1, .val (.long q2), .second, .val (.long q3), .second, .val (.long q4), .second, iv p5, iv lia, iv lib, iv lja, iv ljb, iv ia0, iv ia1, iv ib0, iv ib1, iv ja0, iv ja1, iv jb0, iv jb1, rv r1, rv r3, rv r7, rv r11, iv 1, iv 0, .val (.long q2), .second, .val (.long (q3 ^^^ q4)), .second, rv b312, rv b320, iv (((p5.toUInt32 >>> ((2 : Int32) &&& 31).toUInt32).toInt32) &&& (7 : Int32)), iv 1] [.ref b320, .ref b312])) rfl (by rw [hml]; rfl) (Steps.refl _) (argsL := [(.ref b320)]) (rest := []) (lenOf pd_7 rfl) rfl (by show 2 * 0 + _ ≤ _; exact Nat.le_of_eq rfl) (hb hby at_419) (fun _ _ => ⟨rfl, hh378, (by decide : 26 + 0 ≤ _), (by decide : 104 + 0 ≤ _)⟩)
                  dsimp only [Pt.U, Pt.locs, Pt.cells, Pt.slots] at X407 l407 y407 z407 st407 hQ407
                  subst l407 y407 z407
                  obtain ⟨rfl, N407q, hh407⟩ := hQ407
                  have N407 := Fr.app N378 N407q
                  refine own_of (fun _ k => st407.trans k) ?_
                  show own_Out p e below _ (T407.setTop (mkF m 422 #[iv p0, iv p1, .val (.long q2), .second, .val (.long q3), .second, .val (.long q4), .second, iv p5, iv lia, iv lib, iv lja, iv ljb, iv ia0, iv ia1, iv ib0, iv ib1, iv ja0, iv ja1, iv jb0, iv jb1, rv r1, rv r3, rv r7, rv r11, iv 1, iv 0, .val (.long q2), .second, .val (.long (q3 ^^^ q4)), .second, rv b312, rv b320, iv (((p5.toUInt32 >>> ((2 : Int32) &&& 31).toUInt32).toInt32) &&& (7 : Int32)), iv 1] [.int (fqe lia ((ia0.toInt8.toInt32).toInt8.toInt32) ((ia1.toInt8.toInt32).toInt8.toInt32) lja ((ja0.toInt8.toInt32).toInt8.toInt32) ((ja1.toInt8.toInt32).toInt8.toInt32) q2 q3 lib ((ib0.toInt8.toInt32).toInt8.toInt32) ((ib1.toInt8.toInt32).toInt8.toInt32) ljb ((jb0.toInt8.toInt32).toInt8.toInt32) ((jb1.toInt8.toInt32).toInt8.toInt32) q2 (q3 ^^^ q4) cs)]))
                  refine o_iload X407 hx hby at_422 rfl (q := 424) rfl ?_
                  by_cases hc424_430 : (fqe lia ((ia0.toInt8.toInt32).toInt8.toInt32) ((ia1.toInt8.toInt32).toInt8.toInt32) lja ((ja0.toInt8.toInt32).toInt8.toInt32) ((ja1.toInt8.toInt32).toInt8.toInt32) q2 q3 lib ((ib0.toInt8.toInt32).toInt8.toInt32) ((ib1.toInt8.toInt32).toInt8.toInt32) ljb ((jb0.toInt8.toInt32).toInt8.toInt32) ((jb1.toInt8.toInt32).toInt8.toInt32) q2 (q3 ^^^ q4) cs) = (1 : Int32)
                  · skip
                    refine o_icN X407 hx hby at_424 (teq hc424_430).2 (q := 427) rfl ?_
                    refine o_aload X407 hx hby at_427 rfl rfl (q := 429) rfl ?_
                    refine o_aload X407 hx hby at_429 rfl rfl (q := 431) rfl ?_
                    obtain ⟨cq431, kq431, q431a, q431b, q431c⟩ := isOf hZ322 hh407 E322
                    obtain ⟨_, _, ⟨T431, L431, k431, n431⟩, -, X431, ⟨Lc431, hQ431, l431, y431, z431⟩, st431⟩ := X407.virtualBack hx (y := (⟨"com/example/collector_urchin/collectorurchin/store/StampedRecord", "equals", "(Ljava/lang/Object;)Z"⟩ : MethodName)) (z := (⟨"com/example/collector_urchin/collectorurchin/store/StampedRecord", "equals", "(Ljava/lang/Object;)Z"⟩ : MethodName)) hown322 (mvT hZ322 (w_ hw 51 rfl)) (mvT hZ322 (w_ hw 52 rfl)) (notFace_of_selects (args := #[]) (mvT hZ322 (w_ hw 54 rfl))) (mvT hZ322 (w_ hw 54 rfl)) (mvT hZ322 (w_ hw 53 rfl)) (by decide) (backOf (W := 0) (rm8c l Z a0 hw [] b320 b312 r3 b3 k3 lib ((ib0.toInt8.toInt32).toInt8.toInt32) ((ib1.toInt8.toInt32).toInt8.toInt32) r11 b11 k11 ljb ((jb0.toInt8.toInt32).toInt8.toInt32) ((jb1.toInt8.toInt32).toInt8.toInt32) q2 (q3 ^^^ q4) r1 b1 k1 lia ((ia0.toInt8.toInt32).toInt8.toInt32) ((ia1.toInt8.toInt32).toInt8.toInt32) r7 b7 k7 lja ((ja0.toInt8.toInt32).toInt8.toInt32) ((ja1.toInt8.toInt32).toInt8.toInt32) q2 q3 cs T322.heap n0 qz350 E322 qz408 F322_id qz421 qz422 qz423 qz424 hl_lib F322_body qz425 qz426 qz427 qz428 hl_ljb F322_created F322_modified qz409 qz410 qz411 qz412 qz413 hl_lia qz414 qz415 qz416 qz417 qz418 hl_lja qz419 qz420 qz429 hcs (Ne.symm ne_r1_r3) (Ne.symm ne_r7_r11)) hZ322 (w_ hw 55 rfl) (w_ hw 28 rfl) (by decide) (by decide)) q431a q431c (g := (mkF m 431 #[iv p0, iv p1, .val (.long q2), .second, .val (.long q3), .second, .val (.long q4), .second, iv p5, iv lia, iv lib, iv lja, iv ljb, iv ia0, iv ia1, iv ib0, iv ib1, iv ja0, iv ja1, iv jb0, iv jb1, rv r1, rv r3, rv r7, rv r11, iv 1, iv 0, .val (.long q2), .second, .val (.long (q3 ^^^ q4)), .second, rv b312, rv b320, iv (((p5.toUInt32 >>> ((2 : Int32) &&& 31).toUInt32).toInt32) &&& (7 : Int32)), iv 1] [.ref b312, .ref b320])) rfl (by rw [hml]; rfl) (Steps.refl _) (argsL := [(.ref b312)]) (rest := []) (lenOf pd_7 rfl) rfl (by show 2 * 0 + _ ≤ _; exact Nat.le_of_eq rfl) (hb hby at_431) (fun _ _ => ⟨rfl, hh407, (by decide : 26 + 0 ≤ _), (by decide : 104 + 0 ≤ _)⟩)
                    dsimp only [Pt.U, Pt.locs, Pt.cells, Pt.slots] at X431 l431 y431 z431 st431 hQ431
                    subst l431 y431 z431
                    obtain ⟨rfl, N431q, hh431⟩ := hQ431
                    have N431 := Fr.app N407 N431q
                    refine own_of (fun _ k => st431.trans k) ?_
                    show own_Out p e below _ (T431.setTop (mkF m 434 #[iv p0, iv p1, .val (.long q2), .second, .val (.long q3), .second, .val (.long q4), .second, iv p5, iv lia, iv lib, iv lja, iv ljb, iv ia0, iv ia1, iv ib0, iv ib1, iv ja0, iv ja1, iv jb0, iv jb1, rv r1, rv r3, rv r7, rv r11, iv 1, iv 0, .val (.long q2), .second, .val (.long (q3 ^^^ q4)), .second, rv b312, rv b320, iv (((p5.toUInt32 >>> ((2 : Int32) &&& 31).toUInt32).toInt32) &&& (7 : Int32)), iv 1] [.int (fqe lib ((ib0.toInt8.toInt32).toInt8.toInt32) ((ib1.toInt8.toInt32).toInt8.toInt32) ljb ((jb0.toInt8.toInt32).toInt8.toInt32) ((jb1.toInt8.toInt32).toInt8.toInt32) q2 (q3 ^^^ q4) lia ((ia0.toInt8.toInt32).toInt8.toInt32) ((ia1.toInt8.toInt32).toInt8.toInt32) lja ((ja0.toInt8.toInt32).toInt8.toInt32) ((ja1.toInt8.toInt32).toInt8.toInt32) q2 q3 cs)]))
                    refine o_iload X431 hx hby at_434 rfl (q := 436) rfl ?_
                    by_cases hc436_432 : (fqe lib ((ib0.toInt8.toInt32).toInt8.toInt32) ((ib1.toInt8.toInt32).toInt8.toInt32) ljb ((jb0.toInt8.toInt32).toInt8.toInt32) ((jb1.toInt8.toInt32).toInt8.toInt32) q2 (q3 ^^^ q4) lia ((ia0.toInt8.toInt32).toInt8.toInt32) ((ia1.toInt8.toInt32).toInt8.toInt32) lja ((ja0.toInt8.toInt32).toInt8.toInt32) ((ja1.toInt8.toInt32).toInt8.toInt32) q2 q3 cs) = (1 : Int32)
                    · skip
                      refine o_icN X431 hx hby at_436 (teq hc436_432).2 (q := 439) rfl ?_
                      refine o_iconst X431 hx hby at_439 (z := 1) rfl (q := 440) rfl ?_
                      refine o_goto X431 hx hby at_440 (by decide) (q := 444) (by decide) ?_
                      exact own_outNW (s := s) (vm₁ := T322.vm) X431 S322 (by rw [hh431]; exact (Nat.le_refl T322.heap.size)) hx hlk (t := .boolean) hret (by simp) (hb hby at_444) (z' := (1 : Int32)) rfl (Q := Q) (hQ _ _ N431) (by decide) (by decide)
                    · skip
                      refine o_icY X431 hx hby at_436 (feq hc436_432).2 (by decide) (q := 443) (by decide) ?_
                      refine o_iconst X431 hx hby at_443 (z := 0) rfl (q := 444) rfl ?_
                      exact (sg125_dead20 p0 p1 q2 q3 q4 p5 lia lib lja ljb ia0 ia1 ib0 ib1 ja0 ja1 jb0 jb1 cs hcs hl_lia hl_lib hl_lja hl_ljb hr_ia0 hr_ia1 hr_ib0 hr_ib1 hr_ja0 hr_ja1 hr_jb0 hr_jb1 hc173_15 hc187_311 hc274_327 hc296_331 hc319_336 hc363_351 hc381_379 hc405_406 hc424_430 hc436_432).elim
                  · skip
                    refine o_icY X407 hx hby at_424 (feq hc424_430).2 (by decide) (q := 443) (by decide) ?_
                    refine o_iconst X407 hx hby at_443 (z := 0) rfl (q := 444) rfl ?_
                    exact (sg125_dead21 p0 p1 q2 q3 q4 p5 lia lib lja ljb ia0 ia1 ib0 ib1 ja0 ja1 jb0 jb1 cs hcs hl_lia hl_lib hl_lja hl_ljb hr_ia0 hr_ia1 hr_ib0 hr_ib1 hr_ja0 hr_ja1 hr_jb0 hr_jb1 hc173_15 hc187_311 hc274_327 hc296_331 hc319_336 hc363_351 hc381_379 hc405_406 hc424_430).elim
                · skip
                  refine o_ifY X378 hx hby at_405 (own_lfeq hc405_406).2 (by decide) (q := 412) (by decide) ?_
                  refine o_iconst X378 hx hby at_412 (z := 0) rfl (q := 413) rfl ?_
                  refine o_istore X378 hx hby at_413 (l' := #[iv p0, iv p1, .val (.long q2), .second, .val (.long q3), .second, .val (.long q4), .second, iv p5, iv lia, iv lib, iv lja, iv ljb, iv ia0, iv ia1, iv ib0, iv ib1, iv ja0, iv ja1, iv jb0, iv jb1, rv r1, rv r3, rv r7, rv r11, iv 1, iv 0, .val (.long q2), .second, .val (.long (q3 ^^^ q4)), .second, rv b312, rv b320, iv (((p5.toUInt32 >>> ((2 : Int32) &&& 31).toUInt32).toInt32) &&& (7 : Int32)), iv 0]) rfl (q := 415) rfl ?_
                  refine o_aload X378 hx hby at_415 rfl rfl (q := 417) rfl ?_
                  refine o_aload X378 hx hby at_417 rfl rfl (q := 419) rfl ?_
                  have ne_r1_r3 : r1 ≠ r3 := Nat.ne_of_lt (Nat.lt_of_lt_of_le E1.lt hs3)
                  have ne_r7_r11 : r7 ≠ r11 := Nat.ne_of_lt (Nat.lt_of_lt_of_le E7.lt hs11)
                  have qz434 := ((E315.ext E320).keep K322)
                  have ne_b312_b320 : b312 ≠ b320 := Nat.ne_of_lt (Nat.lt_of_lt_of_le (Nat.lt_of_lt_of_le A312.lt K315.1) (Nat.le_of_eq g320.symm))
                  have qz435 := ((F315_id.ext E320).keep K322 (ninS ne_b312_b320 nin0))
                  have qz436 := (((qz316.keep K315).ext E320).keep K322)
                  have ne_r1_b312 : r1 ≠ b312 := Nat.ne_of_lt (Nat.lt_of_lt_of_le (Nat.lt_of_lt_of_le (Nat.lt_of_lt_of_le (Nat.lt_of_lt_of_le E1.lt K3.1) K7.1) K11.1) (Nat.le_of_eq g312.symm))
                  have ne_r1_b320 : r1 ≠ b320 := Nat.ne_of_lt (Nat.lt_of_lt_of_le (Nat.lt_of_lt_of_le (Nat.lt_of_lt_of_le (Nat.lt_of_lt_of_le (Nat.lt_of_lt_of_le (Nat.lt_of_lt_of_le E1.lt K3.1) K7.1) K11.1) E312.1) K315.1) (Nat.le_of_eq g320.symm))
                  have qz437 := (((((((Fv1.keep K3 nin0).keep K7 nin0).keep K11 nin0).ext E312).keep K315 (ninS ne_r1_b312 nin0)).ext E320).keep K322 (ninS ne_r1_b320 nin0))
                  have qz438 := (((((((Fc1.keep K3 nin0).keep K7 nin0).keep K11 nin0).ext E312).keep K315 (ninS ne_r1_b312 nin0)).ext E320).keep K322 (ninS ne_r1_b320 nin0))
                  have ne_b1_b312 : b1 ≠ b312 := Nat.ne_of_lt (Nat.lt_of_lt_of_le (Nat.lt_of_lt_of_le (Nat.lt_of_lt_of_le (Nat.lt_of_lt_of_le V1.lt K3.1) K7.1) K11.1) (Nat.le_of_eq g312.symm))
                  have ne_b1_b320 : b1 ≠ b320 := Nat.ne_of_lt (Nat.lt_of_lt_of_le (Nat.lt_of_lt_of_le (Nat.lt_of_lt_of_le (Nat.lt_of_lt_of_le (Nat.lt_of_lt_of_le (Nat.lt_of_lt_of_le V1.lt K3.1) K7.1) K11.1) E312.1) K315.1) (Nat.le_of_eq g320.symm))
                  have qz439 := (((((((V1.keep K3 nin0).keep K7 nin0).keep K11 nin0).ext E312).keep K315 (ninS ne_b1_b312 nin0)).ext E320).keep K322 (ninS ne_b1_b320 nin0))
                  have qz440 := ((F315_body.ext E320).keep K322 (ninS ne_b312_b320 nin0))
                  have qz441 := (((qz317.keep K315).ext E320).keep K322)
                  have ne_r7_b312 : r7 ≠ b312 := Nat.ne_of_lt (Nat.lt_of_lt_of_le (Nat.lt_of_lt_of_le E7.lt K11.1) (Nat.le_of_eq g312.symm))
                  have ne_r7_b320 : r7 ≠ b320 := Nat.ne_of_lt (Nat.lt_of_lt_of_le (Nat.lt_of_lt_of_le (Nat.lt_of_lt_of_le (Nat.lt_of_lt_of_le E7.lt K11.1) E312.1) K315.1) (Nat.le_of_eq g320.symm))
                  have qz442 := (((((Fv7.keep K11 nin0).ext E312).keep K315 (ninS ne_r7_b312 nin0)).ext E320).keep K322 (ninS ne_r7_b320 nin0))
                  have qz443 := (((((Fc7.keep K11 nin0).ext E312).keep K315 (ninS ne_r7_b312 nin0)).ext E320).keep K322 (ninS ne_r7_b320 nin0))
                  have ne_b7_b312 : b7 ≠ b312 := Nat.ne_of_lt (Nat.lt_of_lt_of_le (Nat.lt_of_lt_of_le V7.lt K11.1) (Nat.le_of_eq g312.symm))
                  have ne_b7_b320 : b7 ≠ b320 := Nat.ne_of_lt (Nat.lt_of_lt_of_le (Nat.lt_of_lt_of_le (Nat.lt_of_lt_of_le (Nat.lt_of_lt_of_le V7.lt K11.1) E312.1) K315.1) (Nat.le_of_eq g320.symm))
                  have qz444 := (((((V7.keep K11 nin0).ext E312).keep K315 (ninS ne_b7_b312 nin0)).ext E320).keep K322 (ninS ne_b7_b320 nin0))
                  have qz445 := ((F315_created.ext E320).keep K322 (ninS ne_b312_b320 nin0))
                  have qz446 := ((F315_modified.ext E320).keep K322 (ninS ne_b312_b320 nin0))
                  have qz447 := (qz323.keep K322)
                  have ne_r3_b312 : r3 ≠ b312 := Nat.ne_of_lt (Nat.lt_of_lt_of_le (Nat.lt_of_lt_of_le (Nat.lt_of_lt_of_le E3.lt K7.1) K11.1) (Nat.le_of_eq g312.symm))
                  have ne_r3_b320 : r3 ≠ b320 := Nat.ne_of_lt (Nat.lt_of_lt_of_le (Nat.lt_of_lt_of_le (Nat.lt_of_lt_of_le (Nat.lt_of_lt_of_le (Nat.lt_of_lt_of_le E3.lt K7.1) K11.1) E312.1) K315.1) (Nat.le_of_eq g320.symm))
                  have qz448 := ((((((Fv3.keep K7 nin0).keep K11 nin0).ext E312).keep K315 (ninS ne_r3_b312 nin0)).ext E320).keep K322 (ninS ne_r3_b320 nin0))
                  have qz449 := ((((((Fc3.keep K7 nin0).keep K11 nin0).ext E312).keep K315 (ninS ne_r3_b312 nin0)).ext E320).keep K322 (ninS ne_r3_b320 nin0))
                  have ne_b3_b312 : b3 ≠ b312 := Nat.ne_of_lt (Nat.lt_of_lt_of_le (Nat.lt_of_lt_of_le (Nat.lt_of_lt_of_le V3.lt K7.1) K11.1) (Nat.le_of_eq g312.symm))
                  have ne_b3_b320 : b3 ≠ b320 := Nat.ne_of_lt (Nat.lt_of_lt_of_le (Nat.lt_of_lt_of_le (Nat.lt_of_lt_of_le (Nat.lt_of_lt_of_le (Nat.lt_of_lt_of_le V3.lt K7.1) K11.1) E312.1) K315.1) (Nat.le_of_eq g320.symm))
                  have qz450 := ((((((V3.keep K7 nin0).keep K11 nin0).ext E312).keep K315 (ninS ne_b3_b312 nin0)).ext E320).keep K322 (ninS ne_b3_b320 nin0))
                  have qz451 := (qz324.keep K322)
                  have ne_r11_b312 : r11 ≠ b312 := Nat.ne_of_lt (Nat.lt_of_lt_of_le E11.lt (Nat.le_of_eq g312.symm))
                  have ne_r11_b320 : r11 ≠ b320 := Nat.ne_of_lt (Nat.lt_of_lt_of_le (Nat.lt_of_lt_of_le (Nat.lt_of_lt_of_le E11.lt E312.1) K315.1) (Nat.le_of_eq g320.symm))
                  have qz452 := ((((Fv11.ext E312).keep K315 (ninS ne_r11_b312 nin0)).ext E320).keep K322 (ninS ne_r11_b320 nin0))
                  have qz453 := ((((Fc11.ext E312).keep K315 (ninS ne_r11_b312 nin0)).ext E320).keep K322 (ninS ne_r11_b320 nin0))
                  have ne_b11_b312 : b11 ≠ b312 := Nat.ne_of_lt (Nat.lt_of_lt_of_le V11.lt (Nat.le_of_eq g312.symm))
                  have ne_b11_b320 : b11 ≠ b320 := Nat.ne_of_lt (Nat.lt_of_lt_of_le (Nat.lt_of_lt_of_le (Nat.lt_of_lt_of_le V11.lt E312.1) K315.1) (Nat.le_of_eq g320.symm))
                  have qz454 := ((((V11.ext E312).keep K315 (ninS ne_b11_b312 nin0)).ext E320).keep K322 (ninS ne_b11_b320 nin0))
                  have qz455 := (own_staK1 ((own_staK1 ((own_staK0 qz12 K11).ext E312) K315 (own_plainE A312)).ext E320) K322 (own_plainE A320))
                  obtain ⟨cq433, kq433, q433a, q433b, q433c⟩ := isOf hZ322 hh378 qz434
                  obtain ⟨_, _, ⟨T433, L433, k433, n433⟩, -, X433, ⟨Lc433, hQ433, l433, y433, z433⟩, st433⟩ := X378.virtualBack hx (y := (⟨"com/example/collector_urchin/collectorurchin/store/StampedRecord", "equals", "(Ljava/lang/Object;)Z"⟩ : MethodName)) (z := (⟨"com/example/collector_urchin/collectorurchin/store/StampedRecord", "equals", "(Ljava/lang/Object;)Z"⟩ : MethodName)) hown322 (mvT hZ322 (w_ hw 51 rfl)) (mvT hZ322 (w_ hw 52 rfl)) (notFace_of_selects (args := #[]) (mvT hZ322 (w_ hw 54 rfl))) (mvT hZ322 (w_ hw 54 rfl)) (mvT hZ322 (w_ hw 53 rfl)) (by decide) (backOf (W := 0) (rm8c l Z a0 hw [] b312 b320 r1 b1 k1 lia ((ia0.toInt8.toInt32).toInt8.toInt32) ((ia1.toInt8.toInt32).toInt8.toInt32) r7 b7 k7 lja ((ja0.toInt8.toInt32).toInt8.toInt32) ((ja1.toInt8.toInt32).toInt8.toInt32) q2 q3 r3 b3 k3 lib ((ib0.toInt8.toInt32).toInt8.toInt32) ((ib1.toInt8.toInt32).toInt8.toInt32) r11 b11 k11 ljb ((jb0.toInt8.toInt32).toInt8.toInt32) ((jb1.toInt8.toInt32).toInt8.toInt32) q2 (q3 ^^^ q4) cs T322.heap n0 qz350 qz434 E322 qz435 qz436 qz437 qz438 qz439 hl_lia qz440 qz441 qz442 qz443 qz444 hl_lja qz445 qz446 F322_id qz447 qz448 qz449 qz450 hl_lib F322_body qz451 qz452 qz453 qz454 hl_ljb F322_created F322_modified qz455 hcs ne_r1_r3 ne_r7_r11) hZ322 (w_ hw 55 rfl) (w_ hw 28 rfl) (by decide) (by decide)) q433a q433c (g := (mkF m 419 #[iv p0, iv p1, .val (.long q2), .second, .val (.long q3), .second, .val (.long q4), .second, iv p5, iv lia, iv lib, iv lja, iv ljb, iv ia0, iv ia1, iv ib0, iv ib1, iv ja0, iv ja1, iv jb0, iv jb1, rv r1, rv r3, rv r7, rv r11, iv 1, iv 0, .val (.long q2), .second, .val (.long (q3 ^^^ q4)), .second, rv b312, rv b320, iv (((p5.toUInt32 >>> ((2 : Int32) &&& 31).toUInt32).toInt32) &&& (7 : Int32)), iv 0] [.ref b320, .ref b312])) rfl (by rw [hml]; rfl) (Steps.refl _) (argsL := [(.ref b320)]) (rest := []) (lenOf pd_7 rfl) rfl (by show 2 * 0 + _ ≤ _; exact Nat.le_of_eq rfl) (hb hby at_419) (fun _ _ => ⟨rfl, hh378, (by decide : 26 + 0 ≤ _), (by decide : 104 + 0 ≤ _)⟩)
                  dsimp only [Pt.U, Pt.locs, Pt.cells, Pt.slots] at X433 l433 y433 z433 st433 hQ433
                  subst l433 y433 z433
                  obtain ⟨rfl, N433q, hh433⟩ := hQ433
                  have N433 := Fr.app N378 N433q
                  refine own_of (fun _ k => st433.trans k) ?_
                  show own_Out p e below _ (T433.setTop (mkF m 422 #[iv p0, iv p1, .val (.long q2), .second, .val (.long q3), .second, .val (.long q4), .second, iv p5, iv lia, iv lib, iv lja, iv ljb, iv ia0, iv ia1, iv ib0, iv ib1, iv ja0, iv ja1, iv jb0, iv jb1, rv r1, rv r3, rv r7, rv r11, iv 1, iv 0, .val (.long q2), .second, .val (.long (q3 ^^^ q4)), .second, rv b312, rv b320, iv (((p5.toUInt32 >>> ((2 : Int32) &&& 31).toUInt32).toInt32) &&& (7 : Int32)), iv 0] [.int (fqe lia ((ia0.toInt8.toInt32).toInt8.toInt32) ((ia1.toInt8.toInt32).toInt8.toInt32) lja ((ja0.toInt8.toInt32).toInt8.toInt32) ((ja1.toInt8.toInt32).toInt8.toInt32) q2 q3 lib ((ib0.toInt8.toInt32).toInt8.toInt32) ((ib1.toInt8.toInt32).toInt8.toInt32) ljb ((jb0.toInt8.toInt32).toInt8.toInt32) ((jb1.toInt8.toInt32).toInt8.toInt32) q2 (q3 ^^^ q4) cs)]))
                  refine o_iload X433 hx hby at_422 rfl (q := 424) rfl ?_
                  by_cases hc424_456 : (fqe lia ((ia0.toInt8.toInt32).toInt8.toInt32) ((ia1.toInt8.toInt32).toInt8.toInt32) lja ((ja0.toInt8.toInt32).toInt8.toInt32) ((ja1.toInt8.toInt32).toInt8.toInt32) q2 q3 lib ((ib0.toInt8.toInt32).toInt8.toInt32) ((ib1.toInt8.toInt32).toInt8.toInt32) ljb ((jb0.toInt8.toInt32).toInt8.toInt32) ((jb1.toInt8.toInt32).toInt8.toInt32) q2 (q3 ^^^ q4) cs) = (0 : Int32)
                  · skip
                    refine o_icN X433 hx hby at_424 (teq hc424_456).2 (q := 427) rfl ?_
                    refine o_aload X433 hx hby at_427 rfl rfl (q := 429) rfl ?_
                    refine o_aload X433 hx hby at_429 rfl rfl (q := 431) rfl ?_
                    obtain ⟨cq457, kq457, q457a, q457b, q457c⟩ := isOf hZ322 hh433 E322
                    obtain ⟨_, _, ⟨T457, L457, k457, n457⟩, -, X457, ⟨Lc457, hQ457, l457, y457, z457⟩, st457⟩ := X433.virtualBack hx (y := (⟨"com/example/collector_urchin/collectorurchin/store/StampedRecord", "equals", "(Ljava/lang/Object;)Z"⟩ : MethodName)) (z := (⟨"com/example/collector_urchin/collectorurchin/store/StampedRecord", "equals", "(Ljava/lang/Object;)Z"⟩ : MethodName)) hown322 (mvT hZ322 (w_ hw 51 rfl)) (mvT hZ322 (w_ hw 52 rfl)) (notFace_of_selects (args := #[]) (mvT hZ322 (w_ hw 54 rfl))) (mvT hZ322 (w_ hw 54 rfl)) (mvT hZ322 (w_ hw 53 rfl)) (by decide) (backOf (W := 0) (rm8c l Z a0 hw [] b320 b312 r3 b3 k3 lib ((ib0.toInt8.toInt32).toInt8.toInt32) ((ib1.toInt8.toInt32).toInt8.toInt32) r11 b11 k11 ljb ((jb0.toInt8.toInt32).toInt8.toInt32) ((jb1.toInt8.toInt32).toInt8.toInt32) q2 (q3 ^^^ q4) r1 b1 k1 lia ((ia0.toInt8.toInt32).toInt8.toInt32) ((ia1.toInt8.toInt32).toInt8.toInt32) r7 b7 k7 lja ((ja0.toInt8.toInt32).toInt8.toInt32) ((ja1.toInt8.toInt32).toInt8.toInt32) q2 q3 cs T322.heap n0 qz350 E322 qz434 F322_id qz447 qz448 qz449 qz450 hl_lib F322_body qz451 qz452 qz453 qz454 hl_ljb F322_created F322_modified qz435 qz436 qz437 qz438 qz439 hl_lia qz440 qz441 qz442 qz443 qz444 hl_lja qz445 qz446 qz455 hcs (Ne.symm ne_r1_r3) (Ne.symm ne_r7_r11)) hZ322 (w_ hw 55 rfl) (w_ hw 28 rfl) (by decide) (by decide)) q457a q457c (g := (mkF m 431 #[iv p0, iv p1, .val (.long q2), .second, .val (.long q3), .second, .val (.long q4), .second, iv p5, iv lia, iv lib, iv lja, iv ljb, iv ia0, iv ia1, iv ib0, iv ib1, iv ja0, iv ja1, iv jb0, iv jb1, rv r1, rv r3, rv r7, rv r11, iv 1, iv 0, .val (.long q2), .second, .val (.long (q3 ^^^ q4)), .second, rv b312, rv b320, iv (((p5.toUInt32 >>> ((2 : Int32) &&& 31).toUInt32).toInt32) &&& (7 : Int32)), iv 0] [.ref b312, .ref b320])) rfl (by rw [hml]; rfl) (Steps.refl _) (argsL := [(.ref b312)]) (rest := []) (lenOf pd_7 rfl) rfl (by show 2 * 0 + _ ≤ _; exact Nat.le_of_eq rfl) (hb hby at_431) (fun _ _ => ⟨rfl, hh433, (by decide : 26 + 0 ≤ _), (by decide : 104 + 0 ≤ _)⟩)
                    dsimp only [Pt.U, Pt.locs, Pt.cells, Pt.slots] at X457 l457 y457 z457 st457 hQ457
                    subst l457 y457 z457
                    obtain ⟨rfl, N457q, hh457⟩ := hQ457
                    have N457 := Fr.app N433 N457q
                    refine own_of (fun _ k => st457.trans k) ?_
                    show own_Out p e below _ (T457.setTop (mkF m 434 #[iv p0, iv p1, .val (.long q2), .second, .val (.long q3), .second, .val (.long q4), .second, iv p5, iv lia, iv lib, iv lja, iv ljb, iv ia0, iv ia1, iv ib0, iv ib1, iv ja0, iv ja1, iv jb0, iv jb1, rv r1, rv r3, rv r7, rv r11, iv 1, iv 0, .val (.long q2), .second, .val (.long (q3 ^^^ q4)), .second, rv b312, rv b320, iv (((p5.toUInt32 >>> ((2 : Int32) &&& 31).toUInt32).toInt32) &&& (7 : Int32)), iv 0] [.int (fqe lib ((ib0.toInt8.toInt32).toInt8.toInt32) ((ib1.toInt8.toInt32).toInt8.toInt32) ljb ((jb0.toInt8.toInt32).toInt8.toInt32) ((jb1.toInt8.toInt32).toInt8.toInt32) q2 (q3 ^^^ q4) lia ((ia0.toInt8.toInt32).toInt8.toInt32) ((ia1.toInt8.toInt32).toInt8.toInt32) lja ((ja0.toInt8.toInt32).toInt8.toInt32) ((ja1.toInt8.toInt32).toInt8.toInt32) q2 q3 cs)]))
                    refine o_iload X457 hx hby at_434 rfl (q := 436) rfl ?_
                    by_cases hc436_458 : (fqe lib ((ib0.toInt8.toInt32).toInt8.toInt32) ((ib1.toInt8.toInt32).toInt8.toInt32) ljb ((jb0.toInt8.toInt32).toInt8.toInt32) ((jb1.toInt8.toInt32).toInt8.toInt32) q2 (q3 ^^^ q4) lia ((ia0.toInt8.toInt32).toInt8.toInt32) ((ia1.toInt8.toInt32).toInt8.toInt32) lja ((ja0.toInt8.toInt32).toInt8.toInt32) ((ja1.toInt8.toInt32).toInt8.toInt32) q2 q3 cs) = (0 : Int32)
                    · skip
                      refine o_icN X457 hx hby at_436 (teq hc436_458).2 (q := 439) rfl ?_
                      refine o_iconst X457 hx hby at_439 (z := 1) rfl (q := 440) rfl ?_
                      refine o_goto X457 hx hby at_440 (by decide) (q := 444) (by decide) ?_
                      exact own_outNW (s := s) (vm₁ := T322.vm) X457 S322 (by rw [hh457]; exact (Nat.le_refl T322.heap.size)) hx hlk (t := .boolean) hret (by simp) (hb hby at_444) (z' := (1 : Int32)) rfl (Q := Q) (hQ _ _ N457) (by decide) (by decide)
                    · skip
                      refine o_icY X457 hx hby at_436 (feq hc436_458).2 (by decide) (q := 443) (by decide) ?_
                      refine o_iconst X457 hx hby at_443 (z := 0) rfl (q := 444) rfl ?_
                      exact (sg125_dead22 p0 p1 q2 q3 q4 p5 lia lib lja ljb ia0 ia1 ib0 ib1 ja0 ja1 jb0 jb1 cs hcs hl_lia hl_lib hl_lja hl_ljb hr_ia0 hr_ia1 hr_ib0 hr_ib1 hr_ja0 hr_ja1 hr_jb0 hr_jb1 hc173_15 hc187_311 hc274_327 hc296_331 hc319_336 hc363_351 hc381_379 hc405_406 hc424_456 hc436_458).elim
                  · skip
                    refine o_icY X433 hx hby at_424 (feq hc424_456).2 (by decide) (q := 443) (by decide) ?_
                    refine o_iconst X433 hx hby at_443 (z := 0) rfl (q := 444) rfl ?_
                    exact (sg125_dead23 p0 p1 q2 q3 q4 p5 lia lib lja ljb ia0 ia1 ib0 ib1 ja0 ja1 jb0 jb1 cs hcs hl_lia hl_lib hl_lja hl_ljb hr_ia0 hr_ia1 hr_ib0 hr_ib1 hr_ja0 hr_ja1 hr_jb0 hr_jb1 hc173_15 hc187_311 hc274_327 hc296_331 hc319_336 hc363_351 hc381_379 hc405_406 hc424_456).elim
    · skip
      refine o_ifN X11 hx hby at_187 ((if0 _ _).trans (feq hc187_311).1) (q := 190) rfl ?_
      refine o_iconst X11 hx hby at_190 (z := 1) rfl (q := 191) rfl ?_
      refine o_goto X11 hx hby at_191 (by decide) (q := 195) (by decide) ?_
      refine o_istore X11 hx hby at_195 (l' := #[iv p0, iv p1, .val (.long q2), .second, .val (.long q3), .second, .val (.long q4), .second, iv p5, iv lia, iv lib, iv lja, iv ljb, iv ia0, iv ia1, iv ib0, iv ib1, iv ja0, iv ja1, iv jb0, iv jb1, rv r1, rv r3, rv r7, rv r11, iv 1, iv 1, .unset, .unset, .unset, .unset, .unset, .unset, .unset, .unset]) rfl (q := 197) rfl ?_
      refine o_iload X11 hx hby at_197 rfl (q := 199) rfl ?_
      refine o_ifN X11 hx hby at_199 ((if0 _ _).trans (feq (by decide : ¬ ((1 : Int32) = (0 : Int32)))).1) (q := 202) rfl ?_
      refine o_lloadN X11 hx hby at_202 rfl (q := 203) rfl ?_
      refine o_goto X11 hx hby at_203 (by decide) (q := 210) (by decide) ?_
      refine o_lstore X11 hx hby at_210 (l' := #[iv p0, iv p1, .val (.long q2), .second, .val (.long q3), .second, .val (.long q4), .second, iv p5, iv lia, iv lib, iv lja, iv ljb, iv ia0, iv ia1, iv ib0, iv ib1, iv ja0, iv ja1, iv jb0, iv jb1, rv r1, rv r3, rv r7, rv r11, iv 1, iv 1, .val (.long q2), .second, .unset, .unset, .unset, .unset, .unset, .unset]) rfl (q := 212) rfl ?_
      refine o_iload X11 hx hby at_212 rfl (q := 214) rfl ?_
      refine o_ifN X11 hx hby at_214 ((if0 _ _).trans (feq (by decide : ¬ ((1 : Int32) = (0 : Int32)))).1) (q := 217) rfl ?_
      refine o_lload X11 hx hby at_217 rfl (q := 219) rfl ?_
      refine o_goto X11 hx hby at_219 (by decide) (q := 227) (by decide) ?_
      refine o_lstore X11 hx hby at_227 (l' := #[iv p0, iv p1, .val (.long q2), .second, .val (.long q3), .second, .val (.long q4), .second, iv p5, iv lia, iv lib, iv lja, iv ljb, iv ia0, iv ia1, iv ib0, iv ib1, iv ja0, iv ja1, iv jb0, iv jb1, rv r1, rv r3, rv r7, rv r11, iv 1, iv 1, .val (.long q2), .second, .val (.long q3), .second, .unset, .unset, .unset, .unset]) rfl (q := 229) rfl ?_
      obtain ⟨T459, h459, X459, e459, E459, A459, D459, -, st459⟩ := newO X11 hx hZ11 hown11 (w_ hw 26 rfl) (w_ hw 27 rfl) (w_ hw 28 rfl) rfl (g := (mkF m 229 #[iv p0, iv p1, .val (.long q2), .second, .val (.long q3), .second, .val (.long q4), .second, iv p5, iv lia, iv lib, iv lja, iv ljb, iv ia0, iv ia1, iv ib0, iv ib1, iv ja0, iv ja1, iv jb0, iv jb1, rv r1, rv r3, rv r7, rv r11, iv 1, iv 1, .val (.long q2), .second, .val (.long q3), .second, .unset, .unset, .unset, .unset] [])) rfl (hb hby at_229) (by decide) (by decide)
      obtain ⟨b459, g459⟩ : ∃ z, z = T11.heap.size := ⟨_, rfl⟩
      rw [← g459] at A459 D459 st459
      have qz460 := (Nat.le_trans qz13 K11.1)
      have g_b459 : n0 ≤ b459 := Nat.le_trans qz460 (Nat.le_of_eq g459.symm)
      have CA461 := CA14.trans (CHr.ext E459 CA14.1)
      have F_b459_id : Fld Z h459 b459 "com/example/collector_urchin/collectorurchin/store/StampedRecord" "id" "Ljava/lang/String;" .null := D459 (Or.inr (w_ hw 40 rfl)) (ty := (.object "java/lang/String")) (by decide)
      have F_b459_body : Fld Z h459 b459 "com/example/collector_urchin/collectorurchin/store/StampedRecord" "body" "Ljava/lang/String;" .null := D459 (Or.inr (w_ hw 43 rfl)) (ty := (.object "java/lang/String")) (by decide)
      have F_b459_created : Fld Z h459 b459 "com/example/collector_urchin/collectorurchin/store/StampedRecord" "created" "J" (.long (0 : Int64)) := D459 (Or.inr (w_ hw 45 rfl)) (ty := .long) (by decide)
      have F_b459_modified : Fld Z h459 b459 "com/example/collector_urchin/collectorurchin/store/StampedRecord" "modified" "J" (.long (0 : Int64)) := D459 (Or.inr (w_ hw 47 rfl)) (ty := .long) (by decide)
      refine own_of st459 ?_
      show own_Out p e below _ (T459.setTop (mkF m 232 #[iv p0, iv p1, .val (.long q2), .second, .val (.long q3), .second, .val (.long q4), .second, iv p5, iv lia, iv lib, iv lja, iv ljb, iv ia0, iv ia1, iv ib0, iv ib1, iv ja0, iv ja1, iv jb0, iv jb1, rv r1, rv r3, rv r7, rv r11, iv 1, iv 1, .val (.long q2), .second, .val (.long q3), .second, .unset, .unset, .unset, .unset] [.ref b459]))
      refine o_dup X459 hx hby at_232 rfl (q := 233) rfl ?_
      refine o_aload X459 hx hby at_233 rfl rfl (q := 235) rfl ?_
      refine o_aload X459 hx hby at_235 rfl rfl (q := 237) rfl ?_
      refine o_lloadN X459 hx hby at_237 rfl (q := 238) rfl ?_
      refine o_lload X459 hx hby at_238 rfl (q := 240) rfl ?_
      have qz463 := ((((E1.keep K3).keep K7).keep K11).ext E459)
      have qz464 := ((E7.keep K11).ext E459)
      have qz465 := (Nat.le_trans qz460 E459.1)
      obtain ⟨_, _, ⟨T462, L462, k462, n462⟩, -, X462, Sn462, gz462, ⟨Lc462, hQ462, l462, y462, z462⟩, st462⟩ := X459.specialBackS hx (y := (⟨"com/example/collector_urchin/collectorurchin/store/StampedRecord", "<init>", "(Ljava/lang/String;Ljava/lang/String;JJ)V"⟩ : MethodName)) rfl hown11 (mvT hZ11 (w_ hw 29 rfl)) (mvT hZ11 (w_ hw 30 rfl)) (mvT hZ11 (w_ hw 31 rfl)) (by decide) (backOfS (W := 1) (rm5 l Z a0 hw [] b459 r1 r7 q2 q3 h459 n0 qz465 A459 F_b459_id F_b459_body F_b459_created F_b459_modified g_b459 qz463 qz464) hZ11 (w_ hw 31 rfl) (w_ hw 28 rfl) (by decide) (by decide)) (g := (mkF m 240 #[iv p0, iv p1, .val (.long q2), .second, .val (.long q3), .second, .val (.long q4), .second, iv p5, iv lia, iv lib, iv lja, iv ljb, iv ia0, iv ia1, iv ib0, iv ib1, iv ja0, iv ja1, iv jb0, iv jb1, rv r1, rv r3, rv r7, rv r11, iv 1, iv 1, .val (.long q2), .second, .val (.long q3), .second, .unset, .unset, .unset, .unset] [.long q3, .long q2, .ref r7, .ref r1, .ref b459, .ref b459])) rfl (by rw [hml]; rfl) (Steps.refl _) (a := b459) (argsL := [(.ref r1), (.ref r7), (.long q2), (.long q3)]) (rest := [(.ref b459)]) (lenOf pd_9 rfl) rfl (by show 2 * 0 + _ ≤ _; exact Nat.le_of_eq rfl) (hb hby at_240) (fun _ _ => ⟨rfl, e459, (by decide : 17 + 4 ≤ _), (by decide : 36 + 32 ≤ _)⟩)
      dsimp only [Pt.U, Pt.locs, Pt.cells, Pt.slots] at X462 l462 y462 z462 st462 hQ462 Sn462 gz462
      subst l462 y462 z462
      have qz466 := (Nat.le_trans (Nat.le_refl T11.heap.size) E459.1)
      have S462 : s.Since T462.vm T462.heap.size := foldS (s := s) (vm0 := T11.vm) S11 (by rw [e459]; exact qz466) Sn462 gz462
      have hZ462 : Z.Warmed39 (s.setVm T462.vm).vm := State.Warmed39.trans (t := s.setVm T11.vm) hZ11 Sn462.1
      have hown462 : (s.setVm T462.vm).vm.findClass "com/example/collector_urchin/collectorurchin/store/StampedRecordEqualsPinLaw" = some m.cls := by rw [show (s.setVm T462.vm).vm = T462.vm from rfl, Sn462.1.alike.findClass]; exact hown11
      obtain ⟨rfl, N462q, K462, E462, F462_id, F462_body, F462_created, F462_modified⟩ := hQ462
      have N462 := Fr.app N11 N462q
      refine own_of (fun _ k => st462.trans k) ?_
      show own_Out p e below _ (T462.setTop (mkF m 243 #[iv p0, iv p1, .val (.long q2), .second, .val (.long q3), .second, .val (.long q4), .second, iv p5, iv lia, iv lib, iv lja, iv ljb, iv ia0, iv ia1, iv ib0, iv ib1, iv ja0, iv ja1, iv jb0, iv jb1, rv r1, rv r3, rv r7, rv r11, iv 1, iv 1, .val (.long q2), .second, .val (.long q3), .second, .unset, .unset, .unset, .unset] [.ref b459]))
      refine o_astore X462 hx hby at_243 rfl (l' := #[iv p0, iv p1, .val (.long q2), .second, .val (.long q3), .second, .val (.long q4), .second, iv p5, iv lia, iv lib, iv lja, iv ljb, iv ia0, iv ia1, iv ib0, iv ib1, iv ja0, iv ja1, iv jb0, iv jb1, rv r1, rv r3, rv r7, rv r11, iv 1, iv 1, .val (.long q2), .second, .val (.long q3), .second, rv b459, .unset, .unset, .unset]) rfl (q := 245) rfl ?_
      obtain ⟨T467, h467, X467, e467, E467, A467, D467, -, st467⟩ := newO X462 hx hZ462 hown462 (w_ hw 26 rfl) (w_ hw 27 rfl) (w_ hw 28 rfl) rfl (g := (mkF m 245 #[iv p0, iv p1, .val (.long q2), .second, .val (.long q3), .second, .val (.long q4), .second, iv p5, iv lia, iv lib, iv lja, iv ljb, iv ia0, iv ia1, iv ib0, iv ib1, iv ja0, iv ja1, iv jb0, iv jb1, rv r1, rv r3, rv r7, rv r11, iv 1, iv 1, .val (.long q2), .second, .val (.long q3), .second, rv b459, .unset, .unset, .unset] [])) rfl (hb hby at_245) (by decide) (by decide)
      obtain ⟨b467, g467⟩ : ∃ z, z = T462.heap.size := ⟨_, rfl⟩
      rw [← g467] at A467 D467 st467
      have qz468 := (Nat.le_trans qz465 K462.1)
      have g_b467 : n0 ≤ b467 := Nat.le_trans qz468 (Nat.le_of_eq g467.symm)
      have F_b467_id : Fld Z h467 b467 "com/example/collector_urchin/collectorurchin/store/StampedRecord" "id" "Ljava/lang/String;" .null := D467 (Or.inr (w_ hw 40 rfl)) (ty := (.object "java/lang/String")) (by decide)
      have F_b467_body : Fld Z h467 b467 "com/example/collector_urchin/collectorurchin/store/StampedRecord" "body" "Ljava/lang/String;" .null := D467 (Or.inr (w_ hw 43 rfl)) (ty := (.object "java/lang/String")) (by decide)
      have F_b467_created : Fld Z h467 b467 "com/example/collector_urchin/collectorurchin/store/StampedRecord" "created" "J" (.long (0 : Int64)) := D467 (Or.inr (w_ hw 45 rfl)) (ty := .long) (by decide)
      have F_b467_modified : Fld Z h467 b467 "com/example/collector_urchin/collectorurchin/store/StampedRecord" "modified" "J" (.long (0 : Int64)) := D467 (Or.inr (w_ hw 47 rfl)) (ty := .long) (by decide)
      refine own_of st467 ?_
      show own_Out p e below _ (T467.setTop (mkF m 248 #[iv p0, iv p1, .val (.long q2), .second, .val (.long q3), .second, .val (.long q4), .second, iv p5, iv lia, iv lib, iv lja, iv ljb, iv ia0, iv ia1, iv ib0, iv ib1, iv ja0, iv ja1, iv jb0, iv jb1, rv r1, rv r3, rv r7, rv r11, iv 1, iv 1, .val (.long q2), .second, .val (.long q3), .second, rv b459, .unset, .unset, .unset] [.ref b467]))
      refine o_dup X467 hx hby at_248 rfl (q := 249) rfl ?_
      refine o_aload X467 hx hby at_249 rfl rfl (q := 251) rfl ?_
      refine o_aload X467 hx hby at_251 rfl rfl (q := 253) rfl ?_
      refine o_lload X467 hx hby at_253 rfl (q := 255) rfl ?_
      refine o_lload X467 hx hby at_255 rfl (q := 257) rfl ?_
      have qz470 := (((((E3.keep K7).keep K11).ext E459).keep K462).ext E467)
      have qz471 := (((E11.ext E459).keep K462).ext E467)
      have qz472 := (Nat.le_trans qz468 E467.1)
      obtain ⟨_, _, ⟨T469, L469, k469, n469⟩, -, X469, Sn469, gz469, ⟨Lc469, hQ469, l469, y469, z469⟩, st469⟩ := X467.specialBackS hx (y := (⟨"com/example/collector_urchin/collectorurchin/store/StampedRecord", "<init>", "(Ljava/lang/String;Ljava/lang/String;JJ)V"⟩ : MethodName)) rfl hown462 (mvT hZ462 (w_ hw 29 rfl)) (mvT hZ462 (w_ hw 30 rfl)) (mvT hZ462 (w_ hw 31 rfl)) (by decide) (backOfS (W := 1) (rm5 l Z a0 hw [] b467 r3 r11 q2 q3 h467 n0 qz472 A467 F_b467_id F_b467_body F_b467_created F_b467_modified g_b467 qz470 qz471) hZ462 (w_ hw 31 rfl) (w_ hw 28 rfl) (by decide) (by decide)) (g := (mkF m 257 #[iv p0, iv p1, .val (.long q2), .second, .val (.long q3), .second, .val (.long q4), .second, iv p5, iv lia, iv lib, iv lja, iv ljb, iv ia0, iv ia1, iv ib0, iv ib1, iv ja0, iv ja1, iv jb0, iv jb1, rv r1, rv r3, rv r7, rv r11, iv 1, iv 1, .val (.long q2), .second, .val (.long q3), .second, rv b459, .unset, .unset, .unset] [.long q3, .long q2, .ref r11, .ref r3, .ref b467, .ref b467])) rfl (by rw [hml]; rfl) (Steps.refl _) (a := b467) (argsL := [(.ref r3), (.ref r11), (.long q2), (.long q3)]) (rest := [(.ref b467)]) (lenOf pd_9 rfl) rfl (by show 2 * 0 + _ ≤ _; exact Nat.le_of_eq rfl) (hb hby at_257) (fun _ _ => ⟨rfl, e467, (by decide : 22 + 4 ≤ _), (by decide : 72 + 32 ≤ _)⟩)
      dsimp only [Pt.U, Pt.locs, Pt.cells, Pt.slots] at X469 l469 y469 z469 st469 hQ469 Sn469 gz469
      subst l469 y469 z469
      have qz473 := (Nat.le_trans (Nat.le_refl T462.heap.size) E467.1)
      have S469 : s.Since T469.vm T469.heap.size := foldS (s := s) (vm0 := T462.vm) S462 (by rw [e467]; exact qz473) Sn469 gz469
      have hZ469 : Z.Warmed39 (s.setVm T469.vm).vm := State.Warmed39.trans (t := s.setVm T462.vm) hZ462 Sn469.1
      have hown469 : (s.setVm T469.vm).vm.findClass "com/example/collector_urchin/collectorurchin/store/StampedRecordEqualsPinLaw" = some m.cls := by rw [show (s.setVm T469.vm).vm = T469.vm from rfl, Sn469.1.alike.findClass]; exact hown462
      obtain ⟨rfl, N469q, K469, E469, F469_id, F469_body, F469_created, F469_modified⟩ := hQ469
      have N469 := Fr.app N462 N469q
      refine own_of (fun _ k => st469.trans k) ?_
      show own_Out p e below _ (T469.setTop (mkF m 260 #[iv p0, iv p1, .val (.long q2), .second, .val (.long q3), .second, .val (.long q4), .second, iv p5, iv lia, iv lib, iv lja, iv ljb, iv ia0, iv ia1, iv ib0, iv ib1, iv ja0, iv ja1, iv jb0, iv jb1, rv r1, rv r3, rv r7, rv r11, iv 1, iv 1, .val (.long q2), .second, .val (.long q3), .second, rv b459, .unset, .unset, .unset] [.ref b467]))
      refine o_astore X469 hx hby at_260 rfl (l' := #[iv p0, iv p1, .val (.long q2), .second, .val (.long q3), .second, .val (.long q4), .second, iv p5, iv lia, iv lib, iv lja, iv ljb, iv ia0, iv ia1, iv ib0, iv ib1, iv ja0, iv ja1, iv jb0, iv jb1, rv r1, rv r3, rv r7, rv r11, iv 1, iv 1, .val (.long q2), .second, .val (.long q3), .second, rv b459, rv b467, .unset, .unset]) rfl (q := 262) rfl ?_
      refine o_iload X469 hx hby at_262 rfl (q := 264) rfl ?_
      refine o_iconst X469 hx hby at_264 (z := 2) rfl (q := 265) rfl ?_
      refine o_iushr X469 hx hby at_265 rfl (q := 266) rfl ?_
      refine o_bipush X469 hx hby at_266 (z := 7) rfl (q := 268) rfl ?_
      refine o_iand X469 hx hby at_268 rfl (q := 269) rfl ?_
      refine o_istore X469 hx hby at_269 (l' := #[iv p0, iv p1, .val (.long q2), .second, .val (.long q3), .second, .val (.long q4), .second, iv p5, iv lia, iv lib, iv lja, iv ljb, iv ia0, iv ia1, iv ib0, iv ib1, iv ja0, iv ja1, iv jb0, iv jb1, rv r1, rv r3, rv r7, rv r11, iv 1, iv 1, .val (.long q2), .second, .val (.long q3), .second, rv b459, rv b467, iv (((p5.toUInt32 >>> ((2 : Int32) &&& 31).toUInt32).toInt32) &&& (7 : Int32)), .unset]) rfl (q := 271) rfl ?_
      refine o_iload X469 hx hby at_271 rfl (q := 273) rfl ?_
      refine o_iconst X469 hx hby at_273 (z := 5) rfl (q := 274) rfl ?_
      by_cases hc274_474 : (((p5.toUInt32 >>> ((2 : Int32) &&& 31).toUInt32).toInt32) &&& (7 : Int32)) = (5 : Int32)
      · skip
        refine o_icN X469 hx hby at_274 (teq hc274_474).2 (q := 277) rfl ?_
        refine o_aload X469 hx hby at_277 rfl rfl (q := 279) rfl ?_
        refine o_aconst_null X469 hx hby at_279 (q := 280) rfl ?_
        have qz476 := (Nat.le_trans qz472 K469.1)
        have qz477 := ((E462.ext E467).keep K469)
        obtain ⟨cq475, kq475, q475a, q475b, q475c⟩ := isOf hZ469 rfl qz477
        obtain ⟨_, _, ⟨T475, L475, k475, n475⟩, -, X475, ⟨Lc475, hQ475, l475, y475, z475⟩, st475⟩ := X469.virtualBack hx (y := (⟨"com/example/collector_urchin/collectorurchin/store/StampedRecord", "equals", "(Ljava/lang/Object;)Z"⟩ : MethodName)) (z := (⟨"com/example/collector_urchin/collectorurchin/store/StampedRecord", "equals", "(Ljava/lang/Object;)Z"⟩ : MethodName)) hown469 (mvT hZ469 (w_ hw 51 rfl)) (mvT hZ469 (w_ hw 52 rfl)) (notFace_of_selects (args := #[]) (mvT hZ469 (w_ hw 54 rfl))) (mvT hZ469 (w_ hw 54 rfl)) (mvT hZ469 (w_ hw 53 rfl)) (by decide) (backOf (W := 0) (rm8n l Z a0 hw [] b459 T469.heap n0 qz476 ) hZ469 (w_ hw 55 rfl) (w_ hw 28 rfl) (by decide) (by decide)) q475a q475c (g := (mkF m 280 #[iv p0, iv p1, .val (.long q2), .second, .val (.long q3), .second, .val (.long q4), .second, iv p5, iv lia, iv lib, iv lja, iv ljb, iv ia0, iv ia1, iv ib0, iv ib1, iv ja0, iv ja1, iv jb0, iv jb1, rv r1, rv r3, rv r7, rv r11, iv 1, iv 1, .val (.long q2), .second, .val (.long q3), .second, rv b459, rv b467, iv (((p5.toUInt32 >>> ((2 : Int32) &&& 31).toUInt32).toInt32) &&& (7 : Int32)), .unset] [.null, .ref b459])) rfl (by rw [hml]; rfl) (Steps.refl _) (argsL := [.null]) (rest := []) (lenOf pd_7 rfl) rfl (by show 2 * 0 + _ ≤ _; exact Nat.le_of_eq rfl) (hb hby at_280) (fun _ _ => ⟨rfl, rfl, (by decide : 26 + 0 ≤ _), (by decide : 104 + 0 ≤ _)⟩)
        dsimp only [Pt.U, Pt.locs, Pt.cells, Pt.slots] at X475 l475 y475 z475 st475 hQ475
        subst l475 y475 z475
        obtain ⟨rfl, N475q, hh475⟩ := hQ475
        have N475 := Fr.app N469 N475q
        refine own_of (fun _ k => st475.trans k) ?_
        show own_Out p e below _ (T475.setTop (mkF m 283 #[iv p0, iv p1, .val (.long q2), .second, .val (.long q3), .second, .val (.long q4), .second, iv p5, iv lia, iv lib, iv lja, iv ljb, iv ia0, iv ia1, iv ib0, iv ib1, iv ja0, iv ja1, iv jb0, iv jb1, rv r1, rv r3, rv r7, rv r11, iv 1, iv 1, .val (.long q2), .second, .val (.long q3), .second, rv b459, rv b467, iv (((p5.toUInt32 >>> ((2 : Int32) &&& 31).toUInt32).toInt32) &&& (7 : Int32)), .unset] [.int 0]))
        refine o_ifN X475 hx hby at_283 ((if0 _ _).trans (teq (by decide : (0 : Int32) = (0 : Int32))).2) (q := 286) rfl ?_
        refine o_iconst X475 hx hby at_286 (z := 1) rfl (q := 287) rfl ?_
        refine o_goto X475 hx hby at_287 (by decide) (q := 291) (by decide) ?_
        exact own_outNW (s := s) (vm₁ := T469.vm) X475 S469 (by rw [hh475]; exact (Nat.le_refl T469.heap.size)) hx hlk (t := .boolean) hret (by simp) (hb hby at_291) (z' := (1 : Int32)) rfl (Q := Q) (hQ _ _ N475) (by decide) (by decide)
      · skip
        refine o_icY X469 hx hby at_274 (feq hc274_474).2 (by decide) (q := 292) (by decide) ?_
        refine o_iload X469 hx hby at_292 rfl (q := 294) rfl ?_
        refine o_bipush X469 hx hby at_294 (z := 6) rfl (q := 296) rfl ?_
        by_cases hc296_478 : (((p5.toUInt32 >>> ((2 : Int32) &&& 31).toUInt32).toInt32) &&& (7 : Int32)) = (6 : Int32)
        · skip
          refine o_icN X469 hx hby at_296 (teq hc296_478).2 (q := 299) rfl ?_
          refine o_aload X469 hx hby at_299 rfl rfl (q := 301) rfl ?_
          refine o_aload X469 hx hby at_301 rfl rfl (q := 303) rfl ?_
          have qz480 := (((qz464.keep K462).ext E467).keep K469)
          have qz481 := (Nat.le_trans qz472 K469.1)
          have qz482 := ((E462.ext E467).keep K469)
          obtain ⟨cq479, kq479, q479a, q479b, q479c⟩ := isOf hZ469 rfl qz482
          obtain ⟨_, _, ⟨T479, L479, k479, n479⟩, -, X479, ⟨Lc479, hQ479, l479, y479, z479⟩, st479⟩ := X469.virtualBack hx (y := (⟨"com/example/collector_urchin/collectorurchin/store/StampedRecord", "equals", "(Ljava/lang/Object;)Z"⟩ : MethodName)) (z := (⟨"com/example/collector_urchin/collectorurchin/store/StampedRecord", "equals", "(Ljava/lang/Object;)Z"⟩ : MethodName)) hown469 (mvT hZ469 (w_ hw 51 rfl)) (mvT hZ469 (w_ hw 52 rfl)) (notFace_of_selects (args := #[]) (mvT hZ469 (w_ hw 54 rfl))) (mvT hZ469 (w_ hw 54 rfl)) (mvT hZ469 (w_ hw 53 rfl)) (by decide) (backOf (W := 0) (rm8s l Z a0 hw [] b459 r7 T469.heap n0 qz481 qz480) hZ469 (w_ hw 55 rfl) (w_ hw 28 rfl) (by decide) (by decide)) q479a q479c (g := (mkF m 303 #[iv p0, iv p1, .val (.long q2), .second, .val (.long q3), .second, .val (.long q4), .second, iv p5, iv lia, iv lib, iv lja, iv ljb, iv ia0, iv ia1, iv ib0, iv ib1, iv ja0, iv ja1, iv jb0, iv jb1, rv r1, rv r3, rv r7, rv r11, iv 1, iv 1, .val (.long q2), .second, .val (.long q3), .second, rv b459, rv b467, iv (((p5.toUInt32 >>> ((2 : Int32) &&& 31).toUInt32).toInt32) &&& (7 : Int32)), .unset] [.ref r7, .ref b459])) rfl (by rw [hml]; rfl) (Steps.refl _) (argsL := [(.ref r7)]) (rest := []) (lenOf pd_7 rfl) rfl (by show 2 * 0 + _ ≤ _; exact Nat.le_of_eq rfl) (hb hby at_303) (fun _ _ => ⟨rfl, rfl, (by decide : 26 + 0 ≤ _), (by decide : 104 + 0 ≤ _)⟩)
          dsimp only [Pt.U, Pt.locs, Pt.cells, Pt.slots] at X479 l479 y479 z479 st479 hQ479
          subst l479 y479 z479
          obtain ⟨rfl, N479q, hh479⟩ := hQ479
          have N479 := Fr.app N469 N479q
          refine own_of (fun _ k => st479.trans k) ?_
          show own_Out p e below _ (T479.setTop (mkF m 306 #[iv p0, iv p1, .val (.long q2), .second, .val (.long q3), .second, .val (.long q4), .second, iv p5, iv lia, iv lib, iv lja, iv ljb, iv ia0, iv ia1, iv ib0, iv ib1, iv ja0, iv ja1, iv jb0, iv jb1, rv r1, rv r3, rv r7, rv r11, iv 1, iv 1, .val (.long q2), .second, .val (.long q3), .second, rv b459, rv b467, iv (((p5.toUInt32 >>> ((2 : Int32) &&& 31).toUInt32).toInt32) &&& (7 : Int32)), .unset] [.int 0]))
          refine o_ifN X479 hx hby at_306 ((if0 _ _).trans (teq (by decide : (0 : Int32) = (0 : Int32))).2) (q := 309) rfl ?_
          refine o_iconst X479 hx hby at_309 (z := 1) rfl (q := 310) rfl ?_
          refine o_goto X479 hx hby at_310 (by decide) (q := 314) (by decide) ?_
          exact own_outNW (s := s) (vm₁ := T469.vm) X479 S469 (by rw [hh479]; exact (Nat.le_refl T469.heap.size)) hx hlk (t := .boolean) hret (by simp) (hb hby at_314) (z' := (1 : Int32)) rfl (Q := Q) (hQ _ _ N479) (by decide) (by decide)
        · skip
          refine o_icY X469 hx hby at_296 (feq hc296_478).2 (by decide) (q := 315) (by decide) ?_
          refine o_iload X469 hx hby at_315 rfl (q := 317) rfl ?_
          refine o_bipush X469 hx hby at_317 (z := 7) rfl (q := 319) rfl ?_
          by_cases hc319_483 : (((p5.toUInt32 >>> ((2 : Int32) &&& 31).toUInt32).toInt32) &&& (7 : Int32)) = (7 : Int32)
          · skip
            refine o_icN X469 hx hby at_319 (teq hc319_483).2 (q := 322) rfl ?_
            refine o_aload X469 hx hby at_322 rfl rfl (q := 324) rfl ?_
            refine o_aload X469 hx hby at_324 rfl rfl (q := 326) rfl ?_
            have qz485 := ((E462.ext E467).keep K469)
            have ne_b459_b467 : b459 ≠ b467 := Nat.ne_of_lt (Nat.lt_of_lt_of_le (Nat.lt_of_lt_of_le A459.lt K462.1) (Nat.le_of_eq g467.symm))
            have qz486 := ((F462_id.ext E467).keep K469 (ninS ne_b459_b467 nin0))
            have qz487 := ((F462_body.ext E467).keep K469 (ninS ne_b459_b467 nin0))
            have qz488 := (((qz463.keep K462).ext E467).keep K469)
            have qz489 := (((qz464.keep K462).ext E467).keep K469)
            have qz490 := ((F462_created.ext E467).keep K469 (ninS ne_b459_b467 nin0))
            have qz491 := ((F462_modified.ext E467).keep K469 (ninS ne_b459_b467 nin0))
            have qz492 := (Nat.le_trans qz472 K469.1)
            obtain ⟨cq484, kq484, q484a, q484b, q484c⟩ := isOf hZ469 rfl qz485
            obtain ⟨_, _, ⟨T484, L484, k484, n484⟩, -, X484, ⟨Lc484, hQ484, l484, y484, z484⟩, st484⟩ := X469.virtualBack hx (y := (⟨"com/example/collector_urchin/collectorurchin/store/StampedRecord", "equals", "(Ljava/lang/Object;)Z"⟩ : MethodName)) (z := (⟨"com/example/collector_urchin/collectorurchin/store/StampedRecord", "equals", "(Ljava/lang/Object;)Z"⟩ : MethodName)) hown469 (mvT hZ469 (w_ hw 51 rfl)) (mvT hZ469 (w_ hw 52 rfl)) (notFace_of_selects (args := #[]) (mvT hZ469 (w_ hw 54 rfl))) (mvT hZ469 (w_ hw 54 rfl)) (mvT hZ469 (w_ hw 53 rfl)) (by decide) (backOf (W := 0) (rm8f l Z a0 hw [] b459 r1 r7 q2 q3 T469.heap n0 qz492 qz485 qz486 qz487 qz488 qz489 qz490 qz491) hZ469 (w_ hw 55 rfl) (w_ hw 28 rfl) (by decide) (by decide)) q484a q484c (g := (mkF m 326 #[iv p0, iv p1, .val (.long q2), .second, .val (.long q3), .second, .val (.long q4), .second, iv p5, iv lia, iv lib, iv lja, iv ljb, iv ia0, iv ia1, iv ib0, iv ib1, iv ja0, iv ja1, iv jb0, iv jb1, rv r1, rv r3, rv r7, rv r11, iv 1, iv 1, .val (.long q2), .second, .val (.long q3), .second, rv b459, rv b467, iv (((p5.toUInt32 >>> ((2 : Int32) &&& 31).toUInt32).toInt32) &&& (7 : Int32)), .unset] [.ref b459, .ref b459])) rfl (by rw [hml]; rfl) (Steps.refl _) (argsL := [(.ref b459)]) (rest := []) (lenOf pd_7 rfl) rfl (by show 2 * 0 + _ ≤ _; exact Nat.le_of_eq rfl) (hb hby at_326) (fun _ _ => ⟨rfl, rfl, (by decide : 26 + 0 ≤ _), (by decide : 104 + 0 ≤ _)⟩)
            dsimp only [Pt.U, Pt.locs, Pt.cells, Pt.slots] at X484 l484 y484 z484 st484 hQ484
            subst l484 y484 z484
            obtain ⟨rfl, N484q, hh484⟩ := hQ484
            have N484 := Fr.app N469 N484q
            refine own_of (fun _ k => st484.trans k) ?_
            show own_Out p e below _ (T484.setTop (mkF m 329 #[iv p0, iv p1, .val (.long q2), .second, .val (.long q3), .second, .val (.long q4), .second, iv p5, iv lia, iv lib, iv lja, iv ljb, iv ia0, iv ia1, iv ib0, iv ib1, iv ja0, iv ja1, iv jb0, iv jb1, rv r1, rv r3, rv r7, rv r11, iv 1, iv 1, .val (.long q2), .second, .val (.long q3), .second, rv b459, rv b467, iv (((p5.toUInt32 >>> ((2 : Int32) &&& 31).toUInt32).toInt32) &&& (7 : Int32)), .unset] [.int 1]))
            refine o_ifN X484 hx hby at_329 ((if0 _ _).trans (feq (by decide : ¬ ((1 : Int32) = (0 : Int32)))).1) (q := 332) rfl ?_
            refine o_aload X484 hx hby at_332 rfl rfl (q := 334) rfl ?_
            refine o_aload X484 hx hby at_334 rfl rfl (q := 336) rfl ?_
            have qz494 := (qz470.keep K469)
            have qz495 := (qz471.keep K469)
            obtain ⟨cq493, kq493, q493a, q493b, q493c⟩ := isOf hZ469 hh484 E469
            obtain ⟨_, _, ⟨T493, L493, k493, n493⟩, -, X493, ⟨Lc493, hQ493, l493, y493, z493⟩, st493⟩ := X484.virtualBack hx (y := (⟨"com/example/collector_urchin/collectorurchin/store/StampedRecord", "equals", "(Ljava/lang/Object;)Z"⟩ : MethodName)) (z := (⟨"com/example/collector_urchin/collectorurchin/store/StampedRecord", "equals", "(Ljava/lang/Object;)Z"⟩ : MethodName)) hown469 (mvT hZ469 (w_ hw 51 rfl)) (mvT hZ469 (w_ hw 52 rfl)) (notFace_of_selects (args := #[]) (mvT hZ469 (w_ hw 54 rfl))) (mvT hZ469 (w_ hw 54 rfl)) (mvT hZ469 (w_ hw 53 rfl)) (by decide) (backOf (W := 0) (rm8f l Z a0 hw [] b467 r3 r11 q2 q3 T469.heap n0 qz492 E469 F469_id F469_body qz494 qz495 F469_created F469_modified) hZ469 (w_ hw 55 rfl) (w_ hw 28 rfl) (by decide) (by decide)) q493a q493c (g := (mkF m 336 #[iv p0, iv p1, .val (.long q2), .second, .val (.long q3), .second, .val (.long q4), .second, iv p5, iv lia, iv lib, iv lja, iv ljb, iv ia0, iv ia1, iv ib0, iv ib1, iv ja0, iv ja1, iv jb0, iv jb1, rv r1, rv r3, rv r7, rv r11, iv 1, iv 1, .val (.long q2), .second, .val (.long q3), .second, rv b459, rv b467, iv (((p5.toUInt32 >>> ((2 : Int32) &&& 31).toUInt32).toInt32) &&& (7 : Int32)), .unset] [.ref b467, .ref b467])) rfl (by rw [hml]; rfl) (Steps.refl _) (argsL := [(.ref b467)]) (rest := []) (lenOf pd_7 rfl) rfl (by show 2 * 0 + _ ≤ _; exact Nat.le_of_eq rfl) (hb hby at_336) (fun _ _ => ⟨rfl, hh484, (by decide : 26 + 0 ≤ _), (by decide : 104 + 0 ≤ _)⟩)
            dsimp only [Pt.U, Pt.locs, Pt.cells, Pt.slots] at X493 l493 y493 z493 st493 hQ493
            subst l493 y493 z493
            obtain ⟨rfl, N493q, hh493⟩ := hQ493
            have N493 := Fr.app N484 N493q
            refine own_of (fun _ k => st493.trans k) ?_
            show own_Out p e below _ (T493.setTop (mkF m 339 #[iv p0, iv p1, .val (.long q2), .second, .val (.long q3), .second, .val (.long q4), .second, iv p5, iv lia, iv lib, iv lja, iv ljb, iv ia0, iv ia1, iv ib0, iv ib1, iv ja0, iv ja1, iv jb0, iv jb1, rv r1, rv r3, rv r7, rv r11, iv 1, iv 1, .val (.long q2), .second, .val (.long q3), .second, rv b459, rv b467, iv (((p5.toUInt32 >>> ((2 : Int32) &&& 31).toUInt32).toInt32) &&& (7 : Int32)), .unset] [.int 1]))
            refine o_ifN X493 hx hby at_339 ((if0 _ _).trans (feq (by decide : ¬ ((1 : Int32) = (0 : Int32)))).1) (q := 342) rfl ?_
            refine o_iconst X493 hx hby at_342 (z := 1) rfl (q := 343) rfl ?_
            refine o_goto X493 hx hby at_343 (by decide) (q := 347) (by decide) ?_
            exact own_outNW (s := s) (vm₁ := T469.vm) X493 S469 (by rw [hh493]; exact (Nat.le_refl T469.heap.size)) hx hlk (t := .boolean) hret (by simp) (hb hby at_347) (z' := (1 : Int32)) rfl (Q := Q) (hQ _ _ N493) (by decide) (by decide)
          · skip
            refine o_icY X469 hx hby at_319 (feq hc319_483).2 (by decide) (q := 348) (by decide) ?_
            refine o_iload X469 hx hby at_348 rfl (q := 350) rfl ?_
            refine o_iload X469 hx hby at_350 rfl (q := 352) rfl ?_
            refine o_iload X469 hx hby at_352 rfl (q := 354) rfl ?_
            refine o_iload X469 hx hby at_354 rfl (q := 356) rfl ?_
            refine o_iload X469 hx hby at_356 rfl (q := 358) rfl ?_
            refine o_iload X469 hx hby at_358 rfl (q := 360) rfl ?_
            have qz497 := (Nat.le_trans qz472 K469.1)
            obtain ⟨_, _, ⟨T496, L496, k496, n496⟩, -, X496, ⟨Lc496, hQ496, l496, y496, z496⟩, st496⟩ := Jvm.LawKit.callS X469 hx (y := (⟨"com/example/collector_urchin/collectorurchin/store/StampedRecordEqualsPinLaw", "sameStr", "(ICCICC)Z"⟩ : MethodName)) hown469 (mvT hZ469 (w_ hw 48 rfl)) (mvT hZ469 (w_ hw 49 rfl)) (mvT hZ469 (w_ hw 2 rfl)) (mvT hZ469 (w_ hw 50 rfl)) (by decide) (backOf (W := 0) (rm7 l Z a0 hw [] lia ia0 ia1 lib ib0 ib1 T469.heap n0 qz497 ) hZ469 (w_ hw 50 rfl) (w_ hw 2 rfl) (by decide) (by decide)) (g := (mkF m 360 #[iv p0, iv p1, .val (.long q2), .second, .val (.long q3), .second, .val (.long q4), .second, iv p5, iv lia, iv lib, iv lja, iv ljb, iv ia0, iv ia1, iv ib0, iv ib1, iv ja0, iv ja1, iv jb0, iv jb1, rv r1, rv r3, rv r7, rv r11, iv 1, iv 1, .val (.long q2), .second, .val (.long q3), .second, rv b459, rv b467, iv (((p5.toUInt32 >>> ((2 : Int32) &&& 31).toUInt32).toInt32) &&& (7 : Int32)), .unset] [.int ib1, .int ib0, .int lib, .int ia1, .int ia0, .int lia])) rfl (by rw [hml]; rfl) (argsL := [(.int lia), (.int ia0), (.int ia1), (.int lib), (.int ib0), (.int ib1)]) (rest := []) (lenOf pd_10 rfl) rfl (by show 2 * 0 + _ ≤ _; exact Nat.le_of_eq rfl) (hb hby at_360) (fun _ _ => ⟨rfl, rfl, (by decide : 26 + 0 ≤ _), (by decide : 104 + 0 ≤ _)⟩)
            dsimp only [Pt.U, Pt.locs, Pt.cells, Pt.slots] at X496 l496 y496 z496 st496 hQ496
            subst l496 y496 z496
            obtain ⟨rfl, N496q, hh496⟩ := hQ496
            have N496 := Fr.app N469 N496q
            refine own_of st496 ?_
            show own_Out p e below _ (T496.setTop (mkF m 363 #[iv p0, iv p1, .val (.long q2), .second, .val (.long q3), .second, .val (.long q4), .second, iv p5, iv lia, iv lib, iv lja, iv ljb, iv ia0, iv ia1, iv ib0, iv ib1, iv ja0, iv ja1, iv jb0, iv jb1, rv r1, rv r3, rv r7, rv r11, iv 1, iv 1, .val (.long q2), .second, .val (.long q3), .second, rv b459, rv b467, iv (((p5.toUInt32 >>> ((2 : Int32) &&& 31).toUInt32).toInt32) &&& (7 : Int32)), .unset] [.int (fss lia ia0 ia1 lib ib0 ib1)]))
            by_cases hc363_498 : (fss lia ia0 ia1 lib ib0 ib1) = (0 : Int32)
            · skip
              refine o_ifY X496 hx hby at_363 ((if0 _ _).trans (teq hc363_498).1) (by decide) (q := 412) (by decide) ?_
              refine o_iconst X496 hx hby at_412 (z := 0) rfl (q := 413) rfl ?_
              refine o_istore X496 hx hby at_413 (l' := #[iv p0, iv p1, .val (.long q2), .second, .val (.long q3), .second, .val (.long q4), .second, iv p5, iv lia, iv lib, iv lja, iv ljb, iv ia0, iv ia1, iv ib0, iv ib1, iv ja0, iv ja1, iv jb0, iv jb1, rv r1, rv r3, rv r7, rv r11, iv 1, iv 1, .val (.long q2), .second, .val (.long q3), .second, rv b459, rv b467, iv (((p5.toUInt32 >>> ((2 : Int32) &&& 31).toUInt32).toInt32) &&& (7 : Int32)), iv 0]) rfl (q := 415) rfl ?_
              refine o_aload X496 hx hby at_415 rfl rfl (q := 417) rfl ?_
              refine o_aload X496 hx hby at_417 rfl rfl (q := 419) rfl ?_
              have ne_r1_r3 : r1 ≠ r3 := Nat.ne_of_lt (Nat.lt_of_lt_of_le E1.lt hs3)
              have ne_r7_r11 : r7 ≠ r11 := Nat.ne_of_lt (Nat.lt_of_lt_of_le E7.lt hs11)
              have qz500 := ((E462.ext E467).keep K469)
              have ne_b459_b467 : b459 ≠ b467 := Nat.ne_of_lt (Nat.lt_of_lt_of_le (Nat.lt_of_lt_of_le A459.lt K462.1) (Nat.le_of_eq g467.symm))
              have qz501 := ((F462_id.ext E467).keep K469 (ninS ne_b459_b467 nin0))
              have qz502 := (((qz463.keep K462).ext E467).keep K469)
              have ne_r1_b459 : r1 ≠ b459 := Nat.ne_of_lt (Nat.lt_of_lt_of_le (Nat.lt_of_lt_of_le (Nat.lt_of_lt_of_le (Nat.lt_of_lt_of_le E1.lt K3.1) K7.1) K11.1) (Nat.le_of_eq g459.symm))
              have ne_r1_b467 : r1 ≠ b467 := Nat.ne_of_lt (Nat.lt_of_lt_of_le (Nat.lt_of_lt_of_le (Nat.lt_of_lt_of_le (Nat.lt_of_lt_of_le (Nat.lt_of_lt_of_le (Nat.lt_of_lt_of_le E1.lt K3.1) K7.1) K11.1) E459.1) K462.1) (Nat.le_of_eq g467.symm))
              have qz503 := (((((((Fv1.keep K3 nin0).keep K7 nin0).keep K11 nin0).ext E459).keep K462 (ninS ne_r1_b459 nin0)).ext E467).keep K469 (ninS ne_r1_b467 nin0))
              have qz504 := (((((((Fc1.keep K3 nin0).keep K7 nin0).keep K11 nin0).ext E459).keep K462 (ninS ne_r1_b459 nin0)).ext E467).keep K469 (ninS ne_r1_b467 nin0))
              have ne_b1_b459 : b1 ≠ b459 := Nat.ne_of_lt (Nat.lt_of_lt_of_le (Nat.lt_of_lt_of_le (Nat.lt_of_lt_of_le (Nat.lt_of_lt_of_le V1.lt K3.1) K7.1) K11.1) (Nat.le_of_eq g459.symm))
              have ne_b1_b467 : b1 ≠ b467 := Nat.ne_of_lt (Nat.lt_of_lt_of_le (Nat.lt_of_lt_of_le (Nat.lt_of_lt_of_le (Nat.lt_of_lt_of_le (Nat.lt_of_lt_of_le (Nat.lt_of_lt_of_le V1.lt K3.1) K7.1) K11.1) E459.1) K462.1) (Nat.le_of_eq g467.symm))
              have qz505 := (((((((V1.keep K3 nin0).keep K7 nin0).keep K11 nin0).ext E459).keep K462 (ninS ne_b1_b459 nin0)).ext E467).keep K469 (ninS ne_b1_b467 nin0))
              have qz506 := ((F462_body.ext E467).keep K469 (ninS ne_b459_b467 nin0))
              have qz507 := (((qz464.keep K462).ext E467).keep K469)
              have ne_r7_b459 : r7 ≠ b459 := Nat.ne_of_lt (Nat.lt_of_lt_of_le (Nat.lt_of_lt_of_le E7.lt K11.1) (Nat.le_of_eq g459.symm))
              have ne_r7_b467 : r7 ≠ b467 := Nat.ne_of_lt (Nat.lt_of_lt_of_le (Nat.lt_of_lt_of_le (Nat.lt_of_lt_of_le (Nat.lt_of_lt_of_le E7.lt K11.1) E459.1) K462.1) (Nat.le_of_eq g467.symm))
              have qz508 := (((((Fv7.keep K11 nin0).ext E459).keep K462 (ninS ne_r7_b459 nin0)).ext E467).keep K469 (ninS ne_r7_b467 nin0))
              have qz509 := (((((Fc7.keep K11 nin0).ext E459).keep K462 (ninS ne_r7_b459 nin0)).ext E467).keep K469 (ninS ne_r7_b467 nin0))
              have ne_b7_b459 : b7 ≠ b459 := Nat.ne_of_lt (Nat.lt_of_lt_of_le (Nat.lt_of_lt_of_le V7.lt K11.1) (Nat.le_of_eq g459.symm))
              have ne_b7_b467 : b7 ≠ b467 := Nat.ne_of_lt (Nat.lt_of_lt_of_le (Nat.lt_of_lt_of_le (Nat.lt_of_lt_of_le (Nat.lt_of_lt_of_le V7.lt K11.1) E459.1) K462.1) (Nat.le_of_eq g467.symm))
              have qz510 := (((((V7.keep K11 nin0).ext E459).keep K462 (ninS ne_b7_b459 nin0)).ext E467).keep K469 (ninS ne_b7_b467 nin0))
              have qz511 := ((F462_created.ext E467).keep K469 (ninS ne_b459_b467 nin0))
              have qz512 := ((F462_modified.ext E467).keep K469 (ninS ne_b459_b467 nin0))
              have qz513 := (qz470.keep K469)
              have ne_r3_b459 : r3 ≠ b459 := Nat.ne_of_lt (Nat.lt_of_lt_of_le (Nat.lt_of_lt_of_le (Nat.lt_of_lt_of_le E3.lt K7.1) K11.1) (Nat.le_of_eq g459.symm))
              have ne_r3_b467 : r3 ≠ b467 := Nat.ne_of_lt (Nat.lt_of_lt_of_le (Nat.lt_of_lt_of_le (Nat.lt_of_lt_of_le (Nat.lt_of_lt_of_le (Nat.lt_of_lt_of_le E3.lt K7.1) K11.1) E459.1) K462.1) (Nat.le_of_eq g467.symm))
              have qz514 := ((((((Fv3.keep K7 nin0).keep K11 nin0).ext E459).keep K462 (ninS ne_r3_b459 nin0)).ext E467).keep K469 (ninS ne_r3_b467 nin0))
              have qz515 := ((((((Fc3.keep K7 nin0).keep K11 nin0).ext E459).keep K462 (ninS ne_r3_b459 nin0)).ext E467).keep K469 (ninS ne_r3_b467 nin0))
              have ne_b3_b459 : b3 ≠ b459 := Nat.ne_of_lt (Nat.lt_of_lt_of_le (Nat.lt_of_lt_of_le (Nat.lt_of_lt_of_le V3.lt K7.1) K11.1) (Nat.le_of_eq g459.symm))
              have ne_b3_b467 : b3 ≠ b467 := Nat.ne_of_lt (Nat.lt_of_lt_of_le (Nat.lt_of_lt_of_le (Nat.lt_of_lt_of_le (Nat.lt_of_lt_of_le (Nat.lt_of_lt_of_le V3.lt K7.1) K11.1) E459.1) K462.1) (Nat.le_of_eq g467.symm))
              have qz516 := ((((((V3.keep K7 nin0).keep K11 nin0).ext E459).keep K462 (ninS ne_b3_b459 nin0)).ext E467).keep K469 (ninS ne_b3_b467 nin0))
              have qz517 := (qz471.keep K469)
              have ne_r11_b459 : r11 ≠ b459 := Nat.ne_of_lt (Nat.lt_of_lt_of_le E11.lt (Nat.le_of_eq g459.symm))
              have ne_r11_b467 : r11 ≠ b467 := Nat.ne_of_lt (Nat.lt_of_lt_of_le (Nat.lt_of_lt_of_le (Nat.lt_of_lt_of_le E11.lt E459.1) K462.1) (Nat.le_of_eq g467.symm))
              have qz518 := ((((Fv11.ext E459).keep K462 (ninS ne_r11_b459 nin0)).ext E467).keep K469 (ninS ne_r11_b467 nin0))
              have qz519 := ((((Fc11.ext E459).keep K462 (ninS ne_r11_b459 nin0)).ext E467).keep K469 (ninS ne_r11_b467 nin0))
              have ne_b11_b459 : b11 ≠ b459 := Nat.ne_of_lt (Nat.lt_of_lt_of_le V11.lt (Nat.le_of_eq g459.symm))
              have ne_b11_b467 : b11 ≠ b467 := Nat.ne_of_lt (Nat.lt_of_lt_of_le (Nat.lt_of_lt_of_le (Nat.lt_of_lt_of_le V11.lt E459.1) K462.1) (Nat.le_of_eq g467.symm))
              have qz520 := ((((V11.ext E459).keep K462 (ninS ne_b11_b459 nin0)).ext E467).keep K469 (ninS ne_b11_b467 nin0))
              have qz521 := (own_staK1 ((own_staK1 ((own_staK0 qz12 K11).ext E459) K462 (own_plainE A459)).ext E467) K469 (own_plainE A467))
              obtain ⟨cq499, kq499, q499a, q499b, q499c⟩ := isOf hZ469 hh496 qz500
              obtain ⟨_, _, ⟨T499, L499, k499, n499⟩, -, X499, ⟨Lc499, hQ499, l499, y499, z499⟩, st499⟩ := X496.virtualBack hx (y := (⟨"com/example/collector_urchin/collectorurchin/store/StampedRecord", "equals", "(Ljava/lang/Object;)Z"⟩ : MethodName)) (z := (⟨"com/example/collector_urchin/collectorurchin/store/StampedRecord", "equals", "(Ljava/lang/Object;)Z"⟩ : MethodName)) hown469 (mvT hZ469 (w_ hw 51 rfl)) (mvT hZ469 (w_ hw 52 rfl)) (notFace_of_selects (args := #[]) (mvT hZ469 (w_ hw 54 rfl))) (mvT hZ469 (w_ hw 54 rfl)) (mvT hZ469 (w_ hw 53 rfl)) (by decide) (backOf (W := 0) (rm8c l Z a0 hw [] b459 b467 r1 b1 k1 lia ((ia0.toInt8.toInt32).toInt8.toInt32) ((ia1.toInt8.toInt32).toInt8.toInt32) r7 b7 k7 lja ((ja0.toInt8.toInt32).toInt8.toInt32) ((ja1.toInt8.toInt32).toInt8.toInt32) q2 q3 r3 b3 k3 lib ((ib0.toInt8.toInt32).toInt8.toInt32) ((ib1.toInt8.toInt32).toInt8.toInt32) r11 b11 k11 ljb ((jb0.toInt8.toInt32).toInt8.toInt32) ((jb1.toInt8.toInt32).toInt8.toInt32) q2 q3 cs T469.heap n0 qz497 qz500 E469 qz501 qz502 qz503 qz504 qz505 hl_lia qz506 qz507 qz508 qz509 qz510 hl_lja qz511 qz512 F469_id qz513 qz514 qz515 qz516 hl_lib F469_body qz517 qz518 qz519 qz520 hl_ljb F469_created F469_modified qz521 hcs ne_r1_r3 ne_r7_r11) hZ469 (w_ hw 55 rfl) (w_ hw 28 rfl) (by decide) (by decide)) q499a q499c (g := (mkF m 419 #[iv p0, iv p1, .val (.long q2), .second, .val (.long q3), .second, .val (.long q4), .second, iv p5, iv lia, iv lib, iv lja, iv ljb, iv ia0, iv ia1, iv ib0, iv ib1, iv ja0, iv ja1, iv jb0, iv jb1, rv r1, rv r3, rv r7, rv r11, iv 1, iv 1, .val (.long q2), .second, .val (.long q3), .second, rv b459, rv b467, iv (((p5.toUInt32 >>> ((2 : Int32) &&& 31).toUInt32).toInt32) &&& (7 : Int32)), iv 0] [.ref b467, .ref b459])) rfl (by rw [hml]; rfl) (Steps.refl _) (argsL := [(.ref b467)]) (rest := []) (lenOf pd_7 rfl) rfl (by show 2 * 0 + _ ≤ _; exact Nat.le_of_eq rfl) (hb hby at_419) (fun _ _ => ⟨rfl, hh496, (by decide : 26 + 0 ≤ _), (by decide : 104 + 0 ≤ _)⟩)
              dsimp only [Pt.U, Pt.locs, Pt.cells, Pt.slots] at X499 l499 y499 z499 st499 hQ499
              subst l499 y499 z499
              obtain ⟨rfl, N499q, hh499⟩ := hQ499
              have N499 := Fr.app N496 N499q
              refine own_of (fun _ k => st499.trans k) ?_
              show own_Out p e below _ (T499.setTop (mkF m 422 #[iv p0, iv p1, .val (.long q2), .second, .val (.long q3), .second, .val (.long q4), .second, iv p5, iv lia, iv lib, iv lja, iv ljb, iv ia0, iv ia1, iv ib0, iv ib1, iv ja0, iv ja1, iv jb0, iv jb1, rv r1, rv r3, rv r7, rv r11, iv 1, iv 1, .val (.long q2), .second, .val (.long q3), .second, rv b459, rv b467, iv (((p5.toUInt32 >>> ((2 : Int32) &&& 31).toUInt32).toInt32) &&& (7 : Int32)), iv 0] [.int (fqe lia ((ia0.toInt8.toInt32).toInt8.toInt32) ((ia1.toInt8.toInt32).toInt8.toInt32) lja ((ja0.toInt8.toInt32).toInt8.toInt32) ((ja1.toInt8.toInt32).toInt8.toInt32) q2 q3 lib ((ib0.toInt8.toInt32).toInt8.toInt32) ((ib1.toInt8.toInt32).toInt8.toInt32) ljb ((jb0.toInt8.toInt32).toInt8.toInt32) ((jb1.toInt8.toInt32).toInt8.toInt32) q2 q3 cs)]))
              refine o_iload X499 hx hby at_422 rfl (q := 424) rfl ?_
              by_cases hc424_522 : (fqe lia ((ia0.toInt8.toInt32).toInt8.toInt32) ((ia1.toInt8.toInt32).toInt8.toInt32) lja ((ja0.toInt8.toInt32).toInt8.toInt32) ((ja1.toInt8.toInt32).toInt8.toInt32) q2 q3 lib ((ib0.toInt8.toInt32).toInt8.toInt32) ((ib1.toInt8.toInt32).toInt8.toInt32) ljb ((jb0.toInt8.toInt32).toInt8.toInt32) ((jb1.toInt8.toInt32).toInt8.toInt32) q2 q3 cs) = (0 : Int32)
              · skip
                refine o_icN X499 hx hby at_424 (teq hc424_522).2 (q := 427) rfl ?_
                refine o_aload X499 hx hby at_427 rfl rfl (q := 429) rfl ?_
                refine o_aload X499 hx hby at_429 rfl rfl (q := 431) rfl ?_
                obtain ⟨cq523, kq523, q523a, q523b, q523c⟩ := isOf hZ469 hh499 E469
                obtain ⟨_, _, ⟨T523, L523, k523, n523⟩, -, X523, ⟨Lc523, hQ523, l523, y523, z523⟩, st523⟩ := X499.virtualBack hx (y := (⟨"com/example/collector_urchin/collectorurchin/store/StampedRecord", "equals", "(Ljava/lang/Object;)Z"⟩ : MethodName)) (z := (⟨"com/example/collector_urchin/collectorurchin/store/StampedRecord", "equals", "(Ljava/lang/Object;)Z"⟩ : MethodName)) hown469 (mvT hZ469 (w_ hw 51 rfl)) (mvT hZ469 (w_ hw 52 rfl)) (notFace_of_selects (args := #[]) (mvT hZ469 (w_ hw 54 rfl))) (mvT hZ469 (w_ hw 54 rfl)) (mvT hZ469 (w_ hw 53 rfl)) (by decide) (backOf (W := 0) (rm8c l Z a0 hw [] b467 b459 r3 b3 k3 lib ((ib0.toInt8.toInt32).toInt8.toInt32) ((ib1.toInt8.toInt32).toInt8.toInt32) r11 b11 k11 ljb ((jb0.toInt8.toInt32).toInt8.toInt32) ((jb1.toInt8.toInt32).toInt8.toInt32) q2 q3 r1 b1 k1 lia ((ia0.toInt8.toInt32).toInt8.toInt32) ((ia1.toInt8.toInt32).toInt8.toInt32) r7 b7 k7 lja ((ja0.toInt8.toInt32).toInt8.toInt32) ((ja1.toInt8.toInt32).toInt8.toInt32) q2 q3 cs T469.heap n0 qz497 E469 qz500 F469_id qz513 qz514 qz515 qz516 hl_lib F469_body qz517 qz518 qz519 qz520 hl_ljb F469_created F469_modified qz501 qz502 qz503 qz504 qz505 hl_lia qz506 qz507 qz508 qz509 qz510 hl_lja qz511 qz512 qz521 hcs (Ne.symm ne_r1_r3) (Ne.symm ne_r7_r11)) hZ469 (w_ hw 55 rfl) (w_ hw 28 rfl) (by decide) (by decide)) q523a q523c (g := (mkF m 431 #[iv p0, iv p1, .val (.long q2), .second, .val (.long q3), .second, .val (.long q4), .second, iv p5, iv lia, iv lib, iv lja, iv ljb, iv ia0, iv ia1, iv ib0, iv ib1, iv ja0, iv ja1, iv jb0, iv jb1, rv r1, rv r3, rv r7, rv r11, iv 1, iv 1, .val (.long q2), .second, .val (.long q3), .second, rv b459, rv b467, iv (((p5.toUInt32 >>> ((2 : Int32) &&& 31).toUInt32).toInt32) &&& (7 : Int32)), iv 0] [.ref b459, .ref b467])) rfl (by rw [hml]; rfl) (Steps.refl _) (argsL := [(.ref b459)]) (rest := []) (lenOf pd_7 rfl) rfl (by show 2 * 0 + _ ≤ _; exact Nat.le_of_eq rfl) (hb hby at_431) (fun _ _ => ⟨rfl, hh499, (by decide : 26 + 0 ≤ _), (by decide : 104 + 0 ≤ _)⟩)
                dsimp only [Pt.U, Pt.locs, Pt.cells, Pt.slots] at X523 l523 y523 z523 st523 hQ523
                subst l523 y523 z523
                obtain ⟨rfl, N523q, hh523⟩ := hQ523
                have N523 := Fr.app N499 N523q
                refine own_of (fun _ k => st523.trans k) ?_
                show own_Out p e below _ (T523.setTop (mkF m 434 #[iv p0, iv p1, .val (.long q2), .second, .val (.long q3), .second, .val (.long q4), .second, iv p5, iv lia, iv lib, iv lja, iv ljb, iv ia0, iv ia1, iv ib0, iv ib1, iv ja0, iv ja1, iv jb0, iv jb1, rv r1, rv r3, rv r7, rv r11, iv 1, iv 1, .val (.long q2), .second, .val (.long q3), .second, rv b459, rv b467, iv (((p5.toUInt32 >>> ((2 : Int32) &&& 31).toUInt32).toInt32) &&& (7 : Int32)), iv 0] [.int (fqe lib ((ib0.toInt8.toInt32).toInt8.toInt32) ((ib1.toInt8.toInt32).toInt8.toInt32) ljb ((jb0.toInt8.toInt32).toInt8.toInt32) ((jb1.toInt8.toInt32).toInt8.toInt32) q2 q3 lia ((ia0.toInt8.toInt32).toInt8.toInt32) ((ia1.toInt8.toInt32).toInt8.toInt32) lja ((ja0.toInt8.toInt32).toInt8.toInt32) ((ja1.toInt8.toInt32).toInt8.toInt32) q2 q3 cs)]))
                refine o_iload X523 hx hby at_434 rfl (q := 436) rfl ?_
                by_cases hc436_524 : (fqe lib ((ib0.toInt8.toInt32).toInt8.toInt32) ((ib1.toInt8.toInt32).toInt8.toInt32) ljb ((jb0.toInt8.toInt32).toInt8.toInt32) ((jb1.toInt8.toInt32).toInt8.toInt32) q2 q3 lia ((ia0.toInt8.toInt32).toInt8.toInt32) ((ia1.toInt8.toInt32).toInt8.toInt32) lja ((ja0.toInt8.toInt32).toInt8.toInt32) ((ja1.toInt8.toInt32).toInt8.toInt32) q2 q3 cs) = (0 : Int32)
                · skip
                  refine o_icN X523 hx hby at_436 (teq hc436_524).2 (q := 439) rfl ?_
                  refine o_iconst X523 hx hby at_439 (z := 1) rfl (q := 440) rfl ?_
                  refine o_goto X523 hx hby at_440 (by decide) (q := 444) (by decide) ?_
                  exact own_outNW (s := s) (vm₁ := T469.vm) X523 S469 (by rw [hh523]; exact (Nat.le_refl T469.heap.size)) hx hlk (t := .boolean) hret (by simp) (hb hby at_444) (z' := (1 : Int32)) rfl (Q := Q) (hQ _ _ N523) (by decide) (by decide)
                · skip
                  refine o_icY X523 hx hby at_436 (feq hc436_524).2 (by decide) (q := 443) (by decide) ?_
                  refine o_iconst X523 hx hby at_443 (z := 0) rfl (q := 444) rfl ?_
                  exact (sg125_dead24 p0 p1 q2 q3 q4 p5 lia lib lja ljb ia0 ia1 ib0 ib1 ja0 ja1 jb0 jb1 cs hcs hl_lia hl_lib hl_lja hl_ljb hr_ia0 hr_ia1 hr_ib0 hr_ib1 hr_ja0 hr_ja1 hr_jb0 hr_jb1 hc173_15 hc187_311 hc274_474 hc296_478 hc319_483 hc363_498 hc424_522 hc436_524).elim
              · skip
                refine o_icY X499 hx hby at_424 (feq hc424_522).2 (by decide) (q := 443) (by decide) ?_
                refine o_iconst X499 hx hby at_443 (z := 0) rfl (q := 444) rfl ?_
                exact (sg125_dead25 p0 p1 q2 q3 q4 p5 lia lib lja ljb ia0 ia1 ib0 ib1 ja0 ja1 jb0 jb1 cs hcs hl_lia hl_lib hl_lja hl_ljb hr_ia0 hr_ia1 hr_ib0 hr_ib1 hr_ja0 hr_ja1 hr_jb0 hr_jb1 hc173_15 hc187_311 hc274_474 hc296_478 hc319_483 hc363_498 hc424_522).elim
            · skip
              refine o_ifN X496 hx hby at_363 ((if0 _ _).trans (feq hc363_498).1) (q := 366) rfl ?_
              refine o_iload X496 hx hby at_366 rfl (q := 368) rfl ?_
              refine o_iload X496 hx hby at_368 rfl (q := 370) rfl ?_
              refine o_iload X496 hx hby at_370 rfl (q := 372) rfl ?_
              refine o_iload X496 hx hby at_372 rfl (q := 374) rfl ?_
              refine o_iload X496 hx hby at_374 rfl (q := 376) rfl ?_
              refine o_iload X496 hx hby at_376 rfl (q := 378) rfl ?_
              obtain ⟨_, _, ⟨T525, L525, k525, n525⟩, -, X525, ⟨Lc525, hQ525, l525, y525, z525⟩, st525⟩ := Jvm.LawKit.callS X496 hx (y := (⟨"com/example/collector_urchin/collectorurchin/store/StampedRecordEqualsPinLaw", "sameStr", "(ICCICC)Z"⟩ : MethodName)) hown469 (mvT hZ469 (w_ hw 48 rfl)) (mvT hZ469 (w_ hw 49 rfl)) (mvT hZ469 (w_ hw 2 rfl)) (mvT hZ469 (w_ hw 50 rfl)) (by decide) (backOf (W := 0) (rm7 l Z a0 hw [] lja ja0 ja1 ljb jb0 jb1 T469.heap n0 qz497 ) hZ469 (w_ hw 50 rfl) (w_ hw 2 rfl) (by decide) (by decide)) (g := (mkF m 378 #[iv p0, iv p1, .val (.long q2), .second, .val (.long q3), .second, .val (.long q4), .second, iv p5, iv lia, iv lib, iv lja, iv ljb, iv ia0, iv ia1, iv ib0, iv ib1, iv ja0, iv ja1, iv jb0, iv jb1, rv r1, rv r3, rv r7, rv r11, iv 1, iv 1, .val (.long q2), .second, .val (.long q3), .second, rv b459, rv b467, iv (((p5.toUInt32 >>> ((2 : Int32) &&& 31).toUInt32).toInt32) &&& (7 : Int32)), .unset] [.int jb1, .int jb0, .int ljb, .int ja1, .int ja0, .int lja])) rfl (by rw [hml]; rfl) (argsL := [(.int lja), (.int ja0), (.int ja1), (.int ljb), (.int jb0), (.int jb1)]) (rest := []) (lenOf pd_10 rfl) rfl (by show 2 * 0 + _ ≤ _; exact Nat.le_of_eq rfl) (hb hby at_378) (fun _ _ => ⟨rfl, hh496, (by decide : 26 + 0 ≤ _), (by decide : 104 + 0 ≤ _)⟩)
              dsimp only [Pt.U, Pt.locs, Pt.cells, Pt.slots] at X525 l525 y525 z525 st525 hQ525
              subst l525 y525 z525
              obtain ⟨rfl, N525q, hh525⟩ := hQ525
              have N525 := Fr.app N496 N525q
              refine own_of st525 ?_
              show own_Out p e below _ (T525.setTop (mkF m 381 #[iv p0, iv p1, .val (.long q2), .second, .val (.long q3), .second, .val (.long q4), .second, iv p5, iv lia, iv lib, iv lja, iv ljb, iv ia0, iv ia1, iv ib0, iv ib1, iv ja0, iv ja1, iv jb0, iv jb1, rv r1, rv r3, rv r7, rv r11, iv 1, iv 1, .val (.long q2), .second, .val (.long q3), .second, rv b459, rv b467, iv (((p5.toUInt32 >>> ((2 : Int32) &&& 31).toUInt32).toInt32) &&& (7 : Int32)), .unset] [.int (fss lja ja0 ja1 ljb jb0 jb1)]))
              by_cases hc381_526 : (fss lja ja0 ja1 ljb jb0 jb1) = (0 : Int32)
              · skip
                refine o_ifY X525 hx hby at_381 ((if0 _ _).trans (teq hc381_526).1) (by decide) (q := 412) (by decide) ?_
                refine o_iconst X525 hx hby at_412 (z := 0) rfl (q := 413) rfl ?_
                refine o_istore X525 hx hby at_413 (l' := #[iv p0, iv p1, .val (.long q2), .second, .val (.long q3), .second, .val (.long q4), .second, iv p5, iv lia, iv lib, iv lja, iv ljb, iv ia0, iv ia1, iv ib0, iv ib1, iv ja0, iv ja1, iv jb0, iv jb1, rv r1, rv r3, rv r7, rv r11, iv 1, iv 1, .val (.long q2), .second, .val (.long q3), .second, rv b459, rv b467, iv (((p5.toUInt32 >>> ((2 : Int32) &&& 31).toUInt32).toInt32) &&& (7 : Int32)), iv 0]) rfl (q := 415) rfl ?_
                refine o_aload X525 hx hby at_415 rfl rfl (q := 417) rfl ?_
                refine o_aload X525 hx hby at_417 rfl rfl (q := 419) rfl ?_
                have ne_r1_r3 : r1 ≠ r3 := Nat.ne_of_lt (Nat.lt_of_lt_of_le E1.lt hs3)
                have ne_r7_r11 : r7 ≠ r11 := Nat.ne_of_lt (Nat.lt_of_lt_of_le E7.lt hs11)
                have qz528 := ((E462.ext E467).keep K469)
                have ne_b459_b467 : b459 ≠ b467 := Nat.ne_of_lt (Nat.lt_of_lt_of_le (Nat.lt_of_lt_of_le A459.lt K462.1) (Nat.le_of_eq g467.symm))
                have qz529 := ((F462_id.ext E467).keep K469 (ninS ne_b459_b467 nin0))
                have qz530 := (((qz463.keep K462).ext E467).keep K469)
                have ne_r1_b459 : r1 ≠ b459 := Nat.ne_of_lt (Nat.lt_of_lt_of_le (Nat.lt_of_lt_of_le (Nat.lt_of_lt_of_le (Nat.lt_of_lt_of_le E1.lt K3.1) K7.1) K11.1) (Nat.le_of_eq g459.symm))
                have ne_r1_b467 : r1 ≠ b467 := Nat.ne_of_lt (Nat.lt_of_lt_of_le (Nat.lt_of_lt_of_le (Nat.lt_of_lt_of_le (Nat.lt_of_lt_of_le (Nat.lt_of_lt_of_le (Nat.lt_of_lt_of_le E1.lt K3.1) K7.1) K11.1) E459.1) K462.1) (Nat.le_of_eq g467.symm))
                have qz531 := (((((((Fv1.keep K3 nin0).keep K7 nin0).keep K11 nin0).ext E459).keep K462 (ninS ne_r1_b459 nin0)).ext E467).keep K469 (ninS ne_r1_b467 nin0))
                have qz532 := (((((((Fc1.keep K3 nin0).keep K7 nin0).keep K11 nin0).ext E459).keep K462 (ninS ne_r1_b459 nin0)).ext E467).keep K469 (ninS ne_r1_b467 nin0))
                have ne_b1_b459 : b1 ≠ b459 := Nat.ne_of_lt (Nat.lt_of_lt_of_le (Nat.lt_of_lt_of_le (Nat.lt_of_lt_of_le (Nat.lt_of_lt_of_le V1.lt K3.1) K7.1) K11.1) (Nat.le_of_eq g459.symm))
                have ne_b1_b467 : b1 ≠ b467 := Nat.ne_of_lt (Nat.lt_of_lt_of_le (Nat.lt_of_lt_of_le (Nat.lt_of_lt_of_le (Nat.lt_of_lt_of_le (Nat.lt_of_lt_of_le (Nat.lt_of_lt_of_le V1.lt K3.1) K7.1) K11.1) E459.1) K462.1) (Nat.le_of_eq g467.symm))
                have qz533 := (((((((V1.keep K3 nin0).keep K7 nin0).keep K11 nin0).ext E459).keep K462 (ninS ne_b1_b459 nin0)).ext E467).keep K469 (ninS ne_b1_b467 nin0))
                have qz534 := ((F462_body.ext E467).keep K469 (ninS ne_b459_b467 nin0))
                have qz535 := (((qz464.keep K462).ext E467).keep K469)
                have ne_r7_b459 : r7 ≠ b459 := Nat.ne_of_lt (Nat.lt_of_lt_of_le (Nat.lt_of_lt_of_le E7.lt K11.1) (Nat.le_of_eq g459.symm))
                have ne_r7_b467 : r7 ≠ b467 := Nat.ne_of_lt (Nat.lt_of_lt_of_le (Nat.lt_of_lt_of_le (Nat.lt_of_lt_of_le (Nat.lt_of_lt_of_le E7.lt K11.1) E459.1) K462.1) (Nat.le_of_eq g467.symm))
                have qz536 := (((((Fv7.keep K11 nin0).ext E459).keep K462 (ninS ne_r7_b459 nin0)).ext E467).keep K469 (ninS ne_r7_b467 nin0))
                have qz537 := (((((Fc7.keep K11 nin0).ext E459).keep K462 (ninS ne_r7_b459 nin0)).ext E467).keep K469 (ninS ne_r7_b467 nin0))
                have ne_b7_b459 : b7 ≠ b459 := Nat.ne_of_lt (Nat.lt_of_lt_of_le (Nat.lt_of_lt_of_le V7.lt K11.1) (Nat.le_of_eq g459.symm))
                have ne_b7_b467 : b7 ≠ b467 := Nat.ne_of_lt (Nat.lt_of_lt_of_le (Nat.lt_of_lt_of_le (Nat.lt_of_lt_of_le (Nat.lt_of_lt_of_le V7.lt K11.1) E459.1) K462.1) (Nat.le_of_eq g467.symm))
                have qz538 := (((((V7.keep K11 nin0).ext E459).keep K462 (ninS ne_b7_b459 nin0)).ext E467).keep K469 (ninS ne_b7_b467 nin0))
                have qz539 := ((F462_created.ext E467).keep K469 (ninS ne_b459_b467 nin0))
                have qz540 := ((F462_modified.ext E467).keep K469 (ninS ne_b459_b467 nin0))
                have qz541 := (qz470.keep K469)
                have ne_r3_b459 : r3 ≠ b459 := Nat.ne_of_lt (Nat.lt_of_lt_of_le (Nat.lt_of_lt_of_le (Nat.lt_of_lt_of_le E3.lt K7.1) K11.1) (Nat.le_of_eq g459.symm))
                have ne_r3_b467 : r3 ≠ b467 := Nat.ne_of_lt (Nat.lt_of_lt_of_le (Nat.lt_of_lt_of_le (Nat.lt_of_lt_of_le (Nat.lt_of_lt_of_le (Nat.lt_of_lt_of_le E3.lt K7.1) K11.1) E459.1) K462.1) (Nat.le_of_eq g467.symm))
                have qz542 := ((((((Fv3.keep K7 nin0).keep K11 nin0).ext E459).keep K462 (ninS ne_r3_b459 nin0)).ext E467).keep K469 (ninS ne_r3_b467 nin0))
                have qz543 := ((((((Fc3.keep K7 nin0).keep K11 nin0).ext E459).keep K462 (ninS ne_r3_b459 nin0)).ext E467).keep K469 (ninS ne_r3_b467 nin0))
                have ne_b3_b459 : b3 ≠ b459 := Nat.ne_of_lt (Nat.lt_of_lt_of_le (Nat.lt_of_lt_of_le (Nat.lt_of_lt_of_le V3.lt K7.1) K11.1) (Nat.le_of_eq g459.symm))
                have ne_b3_b467 : b3 ≠ b467 := Nat.ne_of_lt (Nat.lt_of_lt_of_le (Nat.lt_of_lt_of_le (Nat.lt_of_lt_of_le (Nat.lt_of_lt_of_le (Nat.lt_of_lt_of_le V3.lt K7.1) K11.1) E459.1) K462.1) (Nat.le_of_eq g467.symm))
                have qz544 := ((((((V3.keep K7 nin0).keep K11 nin0).ext E459).keep K462 (ninS ne_b3_b459 nin0)).ext E467).keep K469 (ninS ne_b3_b467 nin0))
                have qz545 := (qz471.keep K469)
                have ne_r11_b459 : r11 ≠ b459 := Nat.ne_of_lt (Nat.lt_of_lt_of_le E11.lt (Nat.le_of_eq g459.symm))
                have ne_r11_b467 : r11 ≠ b467 := Nat.ne_of_lt (Nat.lt_of_lt_of_le (Nat.lt_of_lt_of_le (Nat.lt_of_lt_of_le E11.lt E459.1) K462.1) (Nat.le_of_eq g467.symm))
                have qz546 := ((((Fv11.ext E459).keep K462 (ninS ne_r11_b459 nin0)).ext E467).keep K469 (ninS ne_r11_b467 nin0))
                have qz547 := ((((Fc11.ext E459).keep K462 (ninS ne_r11_b459 nin0)).ext E467).keep K469 (ninS ne_r11_b467 nin0))
                have ne_b11_b459 : b11 ≠ b459 := Nat.ne_of_lt (Nat.lt_of_lt_of_le V11.lt (Nat.le_of_eq g459.symm))
                have ne_b11_b467 : b11 ≠ b467 := Nat.ne_of_lt (Nat.lt_of_lt_of_le (Nat.lt_of_lt_of_le (Nat.lt_of_lt_of_le V11.lt E459.1) K462.1) (Nat.le_of_eq g467.symm))
                have qz548 := ((((V11.ext E459).keep K462 (ninS ne_b11_b459 nin0)).ext E467).keep K469 (ninS ne_b11_b467 nin0))
                have qz549 := (own_staK1 ((own_staK1 ((own_staK0 qz12 K11).ext E459) K462 (own_plainE A459)).ext E467) K469 (own_plainE A467))
                obtain ⟨cq527, kq527, q527a, q527b, q527c⟩ := isOf hZ469 hh525 qz528
                obtain ⟨_, _, ⟨T527, L527, k527, n527⟩, -, X527, ⟨Lc527, hQ527, l527, y527, z527⟩, st527⟩ := X525.virtualBack hx (y := (⟨"com/example/collector_urchin/collectorurchin/store/StampedRecord", "equals", "(Ljava/lang/Object;)Z"⟩ : MethodName)) (z := (⟨"com/example/collector_urchin/collectorurchin/store/StampedRecord", "equals", "(Ljava/lang/Object;)Z"⟩ : MethodName)) hown469 (mvT hZ469 (w_ hw 51 rfl)) (mvT hZ469 (w_ hw 52 rfl)) (notFace_of_selects (args := #[]) (mvT hZ469 (w_ hw 54 rfl))) (mvT hZ469 (w_ hw 54 rfl)) (mvT hZ469 (w_ hw 53 rfl)) (by decide) (backOf (W := 0) (rm8c l Z a0 hw [] b459 b467 r1 b1 k1 lia ((ia0.toInt8.toInt32).toInt8.toInt32) ((ia1.toInt8.toInt32).toInt8.toInt32) r7 b7 k7 lja ((ja0.toInt8.toInt32).toInt8.toInt32) ((ja1.toInt8.toInt32).toInt8.toInt32) q2 q3 r3 b3 k3 lib ((ib0.toInt8.toInt32).toInt8.toInt32) ((ib1.toInt8.toInt32).toInt8.toInt32) r11 b11 k11 ljb ((jb0.toInt8.toInt32).toInt8.toInt32) ((jb1.toInt8.toInt32).toInt8.toInt32) q2 q3 cs T469.heap n0 qz497 qz528 E469 qz529 qz530 qz531 qz532 qz533 hl_lia qz534 qz535 qz536 qz537 qz538 hl_lja qz539 qz540 F469_id qz541 qz542 qz543 qz544 hl_lib F469_body qz545 qz546 qz547 qz548 hl_ljb F469_created F469_modified qz549 hcs ne_r1_r3 ne_r7_r11) hZ469 (w_ hw 55 rfl) (w_ hw 28 rfl) (by decide) (by decide)) q527a q527c (g := (mkF m 419 #[iv p0, iv p1, .val (.long q2), .second, .val (.long q3), .second, .val (.long q4), .second, iv p5, iv lia, iv lib, iv lja, iv ljb, iv ia0, iv ia1, iv ib0, iv ib1, iv ja0, iv ja1, iv jb0, iv jb1, rv r1, rv r3, rv r7, rv r11, iv 1, iv 1, .val (.long q2), .second, .val (.long q3), .second, rv b459, rv b467, iv (((p5.toUInt32 >>> ((2 : Int32) &&& 31).toUInt32).toInt32) &&& (7 : Int32)), iv 0] [.ref b467, .ref b459])) rfl (by rw [hml]; rfl) (Steps.refl _) (argsL := [(.ref b467)]) (rest := []) (lenOf pd_7 rfl) rfl (by show 2 * 0 + _ ≤ _; exact Nat.le_of_eq rfl) (hb hby at_419) (fun _ _ => ⟨rfl, hh525, (by decide : 26 + 0 ≤ _), (by decide : 104 + 0 ≤ _)⟩)
                dsimp only [Pt.U, Pt.locs, Pt.cells, Pt.slots] at X527 l527 y527 z527 st527 hQ527
                subst l527 y527 z527
                obtain ⟨rfl, N527q, hh527⟩ := hQ527
                have N527 := Fr.app N525 N527q
                refine own_of (fun _ k => st527.trans k) ?_
                show own_Out p e below _ (T527.setTop (mkF m 422 #[iv p0, iv p1, .val (.long q2), .second, .val (.long q3), .second, .val (.long q4), .second, iv p5, iv lia, iv lib, iv lja, iv ljb, iv ia0, iv ia1, iv ib0, iv ib1, iv ja0, iv ja1, iv jb0, iv jb1, rv r1, rv r3, rv r7, rv r11, iv 1, iv 1, .val (.long q2), .second, .val (.long q3), .second, rv b459, rv b467, iv (((p5.toUInt32 >>> ((2 : Int32) &&& 31).toUInt32).toInt32) &&& (7 : Int32)), iv 0] [.int (fqe lia ((ia0.toInt8.toInt32).toInt8.toInt32) ((ia1.toInt8.toInt32).toInt8.toInt32) lja ((ja0.toInt8.toInt32).toInt8.toInt32) ((ja1.toInt8.toInt32).toInt8.toInt32) q2 q3 lib ((ib0.toInt8.toInt32).toInt8.toInt32) ((ib1.toInt8.toInt32).toInt8.toInt32) ljb ((jb0.toInt8.toInt32).toInt8.toInt32) ((jb1.toInt8.toInt32).toInt8.toInt32) q2 q3 cs)]))
                refine o_iload X527 hx hby at_422 rfl (q := 424) rfl ?_
                by_cases hc424_550 : (fqe lia ((ia0.toInt8.toInt32).toInt8.toInt32) ((ia1.toInt8.toInt32).toInt8.toInt32) lja ((ja0.toInt8.toInt32).toInt8.toInt32) ((ja1.toInt8.toInt32).toInt8.toInt32) q2 q3 lib ((ib0.toInt8.toInt32).toInt8.toInt32) ((ib1.toInt8.toInt32).toInt8.toInt32) ljb ((jb0.toInt8.toInt32).toInt8.toInt32) ((jb1.toInt8.toInt32).toInt8.toInt32) q2 q3 cs) = (0 : Int32)
                · skip
                  refine o_icN X527 hx hby at_424 (teq hc424_550).2 (q := 427) rfl ?_
                  refine o_aload X527 hx hby at_427 rfl rfl (q := 429) rfl ?_
                  refine o_aload X527 hx hby at_429 rfl rfl (q := 431) rfl ?_
                  obtain ⟨cq551, kq551, q551a, q551b, q551c⟩ := isOf hZ469 hh527 E469
                  obtain ⟨_, _, ⟨T551, L551, k551, n551⟩, -, X551, ⟨Lc551, hQ551, l551, y551, z551⟩, st551⟩ := X527.virtualBack hx (y := (⟨"com/example/collector_urchin/collectorurchin/store/StampedRecord", "equals", "(Ljava/lang/Object;)Z"⟩ : MethodName)) (z := (⟨"com/example/collector_urchin/collectorurchin/store/StampedRecord", "equals", "(Ljava/lang/Object;)Z"⟩ : MethodName)) hown469 (mvT hZ469 (w_ hw 51 rfl)) (mvT hZ469 (w_ hw 52 rfl)) (notFace_of_selects (args := #[]) (mvT hZ469 (w_ hw 54 rfl))) (mvT hZ469 (w_ hw 54 rfl)) (mvT hZ469 (w_ hw 53 rfl)) (by decide) (backOf (W := 0) (rm8c l Z a0 hw [] b467 b459 r3 b3 k3 lib ((ib0.toInt8.toInt32).toInt8.toInt32) ((ib1.toInt8.toInt32).toInt8.toInt32) r11 b11 k11 ljb ((jb0.toInt8.toInt32).toInt8.toInt32) ((jb1.toInt8.toInt32).toInt8.toInt32) q2 q3 r1 b1 k1 lia ((ia0.toInt8.toInt32).toInt8.toInt32) ((ia1.toInt8.toInt32).toInt8.toInt32) r7 b7 k7 lja ((ja0.toInt8.toInt32).toInt8.toInt32) ((ja1.toInt8.toInt32).toInt8.toInt32) q2 q3 cs T469.heap n0 qz497 E469 qz528 F469_id qz541 qz542 qz543 qz544 hl_lib F469_body qz545 qz546 qz547 qz548 hl_ljb F469_created F469_modified qz529 qz530 qz531 qz532 qz533 hl_lia qz534 qz535 qz536 qz537 qz538 hl_lja qz539 qz540 qz549 hcs (Ne.symm ne_r1_r3) (Ne.symm ne_r7_r11)) hZ469 (w_ hw 55 rfl) (w_ hw 28 rfl) (by decide) (by decide)) q551a q551c (g := (mkF m 431 #[iv p0, iv p1, .val (.long q2), .second, .val (.long q3), .second, .val (.long q4), .second, iv p5, iv lia, iv lib, iv lja, iv ljb, iv ia0, iv ia1, iv ib0, iv ib1, iv ja0, iv ja1, iv jb0, iv jb1, rv r1, rv r3, rv r7, rv r11, iv 1, iv 1, .val (.long q2), .second, .val (.long q3), .second, rv b459, rv b467, iv (((p5.toUInt32 >>> ((2 : Int32) &&& 31).toUInt32).toInt32) &&& (7 : Int32)), iv 0] [.ref b459, .ref b467])) rfl (by rw [hml]; rfl) (Steps.refl _) (argsL := [(.ref b459)]) (rest := []) (lenOf pd_7 rfl) rfl (by show 2 * 0 + _ ≤ _; exact Nat.le_of_eq rfl) (hb hby at_431) (fun _ _ => ⟨rfl, hh527, (by decide : 26 + 0 ≤ _), (by decide : 104 + 0 ≤ _)⟩)
                  dsimp only [Pt.U, Pt.locs, Pt.cells, Pt.slots] at X551 l551 y551 z551 st551 hQ551
                  subst l551 y551 z551
                  obtain ⟨rfl, N551q, hh551⟩ := hQ551
                  have N551 := Fr.app N527 N551q
                  refine own_of (fun _ k => st551.trans k) ?_
                  show own_Out p e below _ (T551.setTop (mkF m 434 #[iv p0, iv p1, .val (.long q2), .second, .val (.long q3), .second, .val (.long q4), .second, iv p5, iv lia, iv lib, iv lja, iv ljb, iv ia0, iv ia1, iv ib0, iv ib1, iv ja0, iv ja1, iv jb0, iv jb1, rv r1, rv r3, rv r7, rv r11, iv 1, iv 1, .val (.long q2), .second, .val (.long q3), .second, rv b459, rv b467, iv (((p5.toUInt32 >>> ((2 : Int32) &&& 31).toUInt32).toInt32) &&& (7 : Int32)), iv 0] [.int (fqe lib ((ib0.toInt8.toInt32).toInt8.toInt32) ((ib1.toInt8.toInt32).toInt8.toInt32) ljb ((jb0.toInt8.toInt32).toInt8.toInt32) ((jb1.toInt8.toInt32).toInt8.toInt32) q2 q3 lia ((ia0.toInt8.toInt32).toInt8.toInt32) ((ia1.toInt8.toInt32).toInt8.toInt32) lja ((ja0.toInt8.toInt32).toInt8.toInt32) ((ja1.toInt8.toInt32).toInt8.toInt32) q2 q3 cs)]))
                  refine o_iload X551 hx hby at_434 rfl (q := 436) rfl ?_
                  by_cases hc436_552 : (fqe lib ((ib0.toInt8.toInt32).toInt8.toInt32) ((ib1.toInt8.toInt32).toInt8.toInt32) ljb ((jb0.toInt8.toInt32).toInt8.toInt32) ((jb1.toInt8.toInt32).toInt8.toInt32) q2 q3 lia ((ia0.toInt8.toInt32).toInt8.toInt32) ((ia1.toInt8.toInt32).toInt8.toInt32) lja ((ja0.toInt8.toInt32).toInt8.toInt32) ((ja1.toInt8.toInt32).toInt8.toInt32) q2 q3 cs) = (0 : Int32)
                  · skip
                    refine o_icN X551 hx hby at_436 (teq hc436_552).2 (q := 439) rfl ?_
                    refine o_iconst X551 hx hby at_439 (z := 1) rfl (q := 440) rfl ?_
                    refine o_goto X551 hx hby at_440 (by decide) (q := 444) (by decide) ?_
                    exact own_outNW (s := s) (vm₁ := T469.vm) X551 S469 (by rw [hh551]; exact (Nat.le_refl T469.heap.size)) hx hlk (t := .boolean) hret (by simp) (hb hby at_444) (z' := (1 : Int32)) rfl (Q := Q) (hQ _ _ N551) (by decide) (by decide)
                  · skip
                    refine o_icY X551 hx hby at_436 (feq hc436_552).2 (by decide) (q := 443) (by decide) ?_
                    refine o_iconst X551 hx hby at_443 (z := 0) rfl (q := 444) rfl ?_
                    exact (sg125_dead26 p0 p1 q2 q3 q4 p5 lia lib lja ljb ia0 ia1 ib0 ib1 ja0 ja1 jb0 jb1 cs hcs hl_lia hl_lib hl_lja hl_ljb hr_ia0 hr_ia1 hr_ib0 hr_ib1 hr_ja0 hr_ja1 hr_jb0 hr_jb1 hc173_15 hc187_311 hc274_474 hc296_478 hc319_483 hc363_498 hc381_526 hc424_550 hc436_552).elim
                · skip
                  refine o_icY X527 hx hby at_424 (feq hc424_550).2 (by decide) (q := 443) (by decide) ?_
                  refine o_iconst X527 hx hby at_443 (z := 0) rfl (q := 444) rfl ?_
                  exact (sg125_dead27 p0 p1 q2 q3 q4 p5 lia lib lja ljb ia0 ia1 ib0 ib1 ja0 ja1 jb0 jb1 cs hcs hl_lia hl_lib hl_lja hl_ljb hr_ia0 hr_ia1 hr_ib0 hr_ib1 hr_ja0 hr_ja1 hr_jb0 hr_jb1 hc173_15 hc187_311 hc274_474 hc296_478 hc319_483 hc363_498 hc381_526 hc424_550).elim
              · skip
                refine o_ifN X525 hx hby at_381 ((if0 _ _).trans (feq hc381_526).1) (q := 384) rfl ?_
                refine o_iload X525 hx hby at_384 rfl (q := 386) rfl ?_
                refine o_ifY X525 hx hby at_386 ((if0 _ _).trans (feq (by decide : ¬ ((1 : Int32) = (0 : Int32)))).2) (by decide) (q := 396) (by decide) ?_
                refine o_iload X525 hx hby at_396 rfl (q := 398) rfl ?_
                refine o_ifY X525 hx hby at_398 ((if0 _ _).trans (feq (by decide : ¬ ((1 : Int32) = (0 : Int32)))).2) (by decide) (q := 408) (by decide) ?_
                refine o_iconst X525 hx hby at_408 (z := 1) rfl (q := 409) rfl ?_
                refine o_goto X525 hx hby at_409 (by decide) (q := 413) (by decide) ?_
                refine o_istore X525 hx hby at_413 (l' := #[iv p0, iv p1, .val (.long q2), .second, .val (.long q3), .second, .val (.long q4), .second, iv p5, iv lia, iv lib, iv lja, iv ljb, iv ia0, iv ia1, iv ib0, iv ib1, iv ja0, iv ja1, iv jb0, iv jb1, rv r1, rv r3, rv r7, rv r11, iv 1, iv 1, .val (.long q2), .second, .val (.long q3), .second, rv b459, rv b467, iv (((p5.toUInt32 >>> ((2 : Int32) &&& 31).toUInt32).toInt32) &&& (7 : Int32)), iv 1]) rfl (q := 415) rfl ?_
                refine o_aload X525 hx hby at_415 rfl rfl (q := 417) rfl ?_
                refine o_aload X525 hx hby at_417 rfl rfl (q := 419) rfl ?_
                have ne_r1_r3 : r1 ≠ r3 := Nat.ne_of_lt (Nat.lt_of_lt_of_le E1.lt hs3)
                have ne_r7_r11 : r7 ≠ r11 := Nat.ne_of_lt (Nat.lt_of_lt_of_le E7.lt hs11)
                have qz554 := ((E462.ext E467).keep K469)
                have ne_b459_b467 : b459 ≠ b467 := Nat.ne_of_lt (Nat.lt_of_lt_of_le (Nat.lt_of_lt_of_le A459.lt K462.1) (Nat.le_of_eq g467.symm))
                have qz555 := ((F462_id.ext E467).keep K469 (ninS ne_b459_b467 nin0))
                have qz556 := (((qz463.keep K462).ext E467).keep K469)
                have ne_r1_b459 : r1 ≠ b459 := Nat.ne_of_lt (Nat.lt_of_lt_of_le (Nat.lt_of_lt_of_le (Nat.lt_of_lt_of_le (Nat.lt_of_lt_of_le E1.lt K3.1) K7.1) K11.1) (Nat.le_of_eq g459.symm))
                have ne_r1_b467 : r1 ≠ b467 := Nat.ne_of_lt (Nat.lt_of_lt_of_le (Nat.lt_of_lt_of_le (Nat.lt_of_lt_of_le (Nat.lt_of_lt_of_le (Nat.lt_of_lt_of_le (Nat.lt_of_lt_of_le E1.lt K3.1) K7.1) K11.1) E459.1) K462.1) (Nat.le_of_eq g467.symm))
                have qz557 := (((((((Fv1.keep K3 nin0).keep K7 nin0).keep K11 nin0).ext E459).keep K462 (ninS ne_r1_b459 nin0)).ext E467).keep K469 (ninS ne_r1_b467 nin0))
                have qz558 := (((((((Fc1.keep K3 nin0).keep K7 nin0).keep K11 nin0).ext E459).keep K462 (ninS ne_r1_b459 nin0)).ext E467).keep K469 (ninS ne_r1_b467 nin0))
                have ne_b1_b459 : b1 ≠ b459 := Nat.ne_of_lt (Nat.lt_of_lt_of_le (Nat.lt_of_lt_of_le (Nat.lt_of_lt_of_le (Nat.lt_of_lt_of_le V1.lt K3.1) K7.1) K11.1) (Nat.le_of_eq g459.symm))
                have ne_b1_b467 : b1 ≠ b467 := Nat.ne_of_lt (Nat.lt_of_lt_of_le (Nat.lt_of_lt_of_le (Nat.lt_of_lt_of_le (Nat.lt_of_lt_of_le (Nat.lt_of_lt_of_le (Nat.lt_of_lt_of_le V1.lt K3.1) K7.1) K11.1) E459.1) K462.1) (Nat.le_of_eq g467.symm))
                have qz559 := (((((((V1.keep K3 nin0).keep K7 nin0).keep K11 nin0).ext E459).keep K462 (ninS ne_b1_b459 nin0)).ext E467).keep K469 (ninS ne_b1_b467 nin0))
                have qz560 := ((F462_body.ext E467).keep K469 (ninS ne_b459_b467 nin0))
                have qz561 := (((qz464.keep K462).ext E467).keep K469)
                have ne_r7_b459 : r7 ≠ b459 := Nat.ne_of_lt (Nat.lt_of_lt_of_le (Nat.lt_of_lt_of_le E7.lt K11.1) (Nat.le_of_eq g459.symm))
                have ne_r7_b467 : r7 ≠ b467 := Nat.ne_of_lt (Nat.lt_of_lt_of_le (Nat.lt_of_lt_of_le (Nat.lt_of_lt_of_le (Nat.lt_of_lt_of_le E7.lt K11.1) E459.1) K462.1) (Nat.le_of_eq g467.symm))
                have qz562 := (((((Fv7.keep K11 nin0).ext E459).keep K462 (ninS ne_r7_b459 nin0)).ext E467).keep K469 (ninS ne_r7_b467 nin0))
                have qz563 := (((((Fc7.keep K11 nin0).ext E459).keep K462 (ninS ne_r7_b459 nin0)).ext E467).keep K469 (ninS ne_r7_b467 nin0))
                have ne_b7_b459 : b7 ≠ b459 := Nat.ne_of_lt (Nat.lt_of_lt_of_le (Nat.lt_of_lt_of_le V7.lt K11.1) (Nat.le_of_eq g459.symm))
                have ne_b7_b467 : b7 ≠ b467 := Nat.ne_of_lt (Nat.lt_of_lt_of_le (Nat.lt_of_lt_of_le (Nat.lt_of_lt_of_le (Nat.lt_of_lt_of_le V7.lt K11.1) E459.1) K462.1) (Nat.le_of_eq g467.symm))
                have qz564 := (((((V7.keep K11 nin0).ext E459).keep K462 (ninS ne_b7_b459 nin0)).ext E467).keep K469 (ninS ne_b7_b467 nin0))
                have qz565 := ((F462_created.ext E467).keep K469 (ninS ne_b459_b467 nin0))
                have qz566 := ((F462_modified.ext E467).keep K469 (ninS ne_b459_b467 nin0))
                have qz567 := (qz470.keep K469)
                have ne_r3_b459 : r3 ≠ b459 := Nat.ne_of_lt (Nat.lt_of_lt_of_le (Nat.lt_of_lt_of_le (Nat.lt_of_lt_of_le E3.lt K7.1) K11.1) (Nat.le_of_eq g459.symm))
                have ne_r3_b467 : r3 ≠ b467 := Nat.ne_of_lt (Nat.lt_of_lt_of_le (Nat.lt_of_lt_of_le (Nat.lt_of_lt_of_le (Nat.lt_of_lt_of_le (Nat.lt_of_lt_of_le E3.lt K7.1) K11.1) E459.1) K462.1) (Nat.le_of_eq g467.symm))
                have qz568 := ((((((Fv3.keep K7 nin0).keep K11 nin0).ext E459).keep K462 (ninS ne_r3_b459 nin0)).ext E467).keep K469 (ninS ne_r3_b467 nin0))
                have qz569 := ((((((Fc3.keep K7 nin0).keep K11 nin0).ext E459).keep K462 (ninS ne_r3_b459 nin0)).ext E467).keep K469 (ninS ne_r3_b467 nin0))
                have ne_b3_b459 : b3 ≠ b459 := Nat.ne_of_lt (Nat.lt_of_lt_of_le (Nat.lt_of_lt_of_le (Nat.lt_of_lt_of_le V3.lt K7.1) K11.1) (Nat.le_of_eq g459.symm))
                have ne_b3_b467 : b3 ≠ b467 := Nat.ne_of_lt (Nat.lt_of_lt_of_le (Nat.lt_of_lt_of_le (Nat.lt_of_lt_of_le (Nat.lt_of_lt_of_le (Nat.lt_of_lt_of_le V3.lt K7.1) K11.1) E459.1) K462.1) (Nat.le_of_eq g467.symm))
                have qz570 := ((((((V3.keep K7 nin0).keep K11 nin0).ext E459).keep K462 (ninS ne_b3_b459 nin0)).ext E467).keep K469 (ninS ne_b3_b467 nin0))
                have qz571 := (qz471.keep K469)
                have ne_r11_b459 : r11 ≠ b459 := Nat.ne_of_lt (Nat.lt_of_lt_of_le E11.lt (Nat.le_of_eq g459.symm))
                have ne_r11_b467 : r11 ≠ b467 := Nat.ne_of_lt (Nat.lt_of_lt_of_le (Nat.lt_of_lt_of_le (Nat.lt_of_lt_of_le E11.lt E459.1) K462.1) (Nat.le_of_eq g467.symm))
                have qz572 := ((((Fv11.ext E459).keep K462 (ninS ne_r11_b459 nin0)).ext E467).keep K469 (ninS ne_r11_b467 nin0))
                have qz573 := ((((Fc11.ext E459).keep K462 (ninS ne_r11_b459 nin0)).ext E467).keep K469 (ninS ne_r11_b467 nin0))
                have ne_b11_b459 : b11 ≠ b459 := Nat.ne_of_lt (Nat.lt_of_lt_of_le V11.lt (Nat.le_of_eq g459.symm))
                have ne_b11_b467 : b11 ≠ b467 := Nat.ne_of_lt (Nat.lt_of_lt_of_le (Nat.lt_of_lt_of_le (Nat.lt_of_lt_of_le V11.lt E459.1) K462.1) (Nat.le_of_eq g467.symm))
                have qz574 := ((((V11.ext E459).keep K462 (ninS ne_b11_b459 nin0)).ext E467).keep K469 (ninS ne_b11_b467 nin0))
                have qz575 := (own_staK1 ((own_staK1 ((own_staK0 qz12 K11).ext E459) K462 (own_plainE A459)).ext E467) K469 (own_plainE A467))
                obtain ⟨cq553, kq553, q553a, q553b, q553c⟩ := isOf hZ469 hh525 qz554
                obtain ⟨_, _, ⟨T553, L553, k553, n553⟩, -, X553, ⟨Lc553, hQ553, l553, y553, z553⟩, st553⟩ := X525.virtualBack hx (y := (⟨"com/example/collector_urchin/collectorurchin/store/StampedRecord", "equals", "(Ljava/lang/Object;)Z"⟩ : MethodName)) (z := (⟨"com/example/collector_urchin/collectorurchin/store/StampedRecord", "equals", "(Ljava/lang/Object;)Z"⟩ : MethodName)) hown469 (mvT hZ469 (w_ hw 51 rfl)) (mvT hZ469 (w_ hw 52 rfl)) (notFace_of_selects (args := #[]) (mvT hZ469 (w_ hw 54 rfl))) (mvT hZ469 (w_ hw 54 rfl)) (mvT hZ469 (w_ hw 53 rfl)) (by decide) (backOf (W := 0) (rm8c l Z a0 hw [] b459 b467 r1 b1 k1 lia ((ia0.toInt8.toInt32).toInt8.toInt32) ((ia1.toInt8.toInt32).toInt8.toInt32) r7 b7 k7 lja ((ja0.toInt8.toInt32).toInt8.toInt32) ((ja1.toInt8.toInt32).toInt8.toInt32) q2 q3 r3 b3 k3 lib ((ib0.toInt8.toInt32).toInt8.toInt32) ((ib1.toInt8.toInt32).toInt8.toInt32) r11 b11 k11 ljb ((jb0.toInt8.toInt32).toInt8.toInt32) ((jb1.toInt8.toInt32).toInt8.toInt32) q2 q3 cs T469.heap n0 qz497 qz554 E469 qz555 qz556 qz557 qz558 qz559 hl_lia qz560 qz561 qz562 qz563 qz564 hl_lja qz565 qz566 F469_id qz567 qz568 qz569 qz570 hl_lib F469_body qz571 qz572 qz573 qz574 hl_ljb F469_created F469_modified qz575 hcs ne_r1_r3 ne_r7_r11) hZ469 (w_ hw 55 rfl) (w_ hw 28 rfl) (by decide) (by decide)) q553a q553c (g := (mkF m 419 #[iv p0, iv p1, .val (.long q2), .second, .val (.long q3), .second, .val (.long q4), .second, iv p5, iv lia, iv lib, iv lja, iv ljb, iv ia0, iv ia1, iv ib0, iv ib1, iv ja0, iv ja1, iv jb0, iv jb1, rv r1, rv r3, rv r7, rv r11, iv 1, iv 1, .val (.long q2), .second, .val (.long q3), .second, rv b459, rv b467, iv (((p5.toUInt32 >>> ((2 : Int32) &&& 31).toUInt32).toInt32) &&& (7 : Int32)), iv 1] [.ref b467, .ref b459])) rfl (by rw [hml]; rfl) (Steps.refl _) (argsL := [(.ref b467)]) (rest := []) (lenOf pd_7 rfl) rfl (by show 2 * 0 + _ ≤ _; exact Nat.le_of_eq rfl) (hb hby at_419) (fun _ _ => ⟨rfl, hh525, (by decide : 26 + 0 ≤ _), (by decide : 104 + 0 ≤ _)⟩)
                dsimp only [Pt.U, Pt.locs, Pt.cells, Pt.slots] at X553 l553 y553 z553 st553 hQ553
                subst l553 y553 z553
                obtain ⟨rfl, N553q, hh553⟩ := hQ553
                have N553 := Fr.app N525 N553q
                refine own_of (fun _ k => st553.trans k) ?_
                show own_Out p e below _ (T553.setTop (mkF m 422 #[iv p0, iv p1, .val (.long q2), .second, .val (.long q3), .second, .val (.long q4), .second, iv p5, iv lia, iv lib, iv lja, iv ljb, iv ia0, iv ia1, iv ib0, iv ib1, iv ja0, iv ja1, iv jb0, iv jb1, rv r1, rv r3, rv r7, rv r11, iv 1, iv 1, .val (.long q2), .second, .val (.long q3), .second, rv b459, rv b467, iv (((p5.toUInt32 >>> ((2 : Int32) &&& 31).toUInt32).toInt32) &&& (7 : Int32)), iv 1] [.int (fqe lia ((ia0.toInt8.toInt32).toInt8.toInt32) ((ia1.toInt8.toInt32).toInt8.toInt32) lja ((ja0.toInt8.toInt32).toInt8.toInt32) ((ja1.toInt8.toInt32).toInt8.toInt32) q2 q3 lib ((ib0.toInt8.toInt32).toInt8.toInt32) ((ib1.toInt8.toInt32).toInt8.toInt32) ljb ((jb0.toInt8.toInt32).toInt8.toInt32) ((jb1.toInt8.toInt32).toInt8.toInt32) q2 q3 cs)]))
                refine o_iload X553 hx hby at_422 rfl (q := 424) rfl ?_
                by_cases hc424_576 : (fqe lia ((ia0.toInt8.toInt32).toInt8.toInt32) ((ia1.toInt8.toInt32).toInt8.toInt32) lja ((ja0.toInt8.toInt32).toInt8.toInt32) ((ja1.toInt8.toInt32).toInt8.toInt32) q2 q3 lib ((ib0.toInt8.toInt32).toInt8.toInt32) ((ib1.toInt8.toInt32).toInt8.toInt32) ljb ((jb0.toInt8.toInt32).toInt8.toInt32) ((jb1.toInt8.toInt32).toInt8.toInt32) q2 q3 cs) = (1 : Int32)
                · skip
                  refine o_icN X553 hx hby at_424 (teq hc424_576).2 (q := 427) rfl ?_
                  refine o_aload X553 hx hby at_427 rfl rfl (q := 429) rfl ?_
                  refine o_aload X553 hx hby at_429 rfl rfl (q := 431) rfl ?_
                  obtain ⟨cq577, kq577, q577a, q577b, q577c⟩ := isOf hZ469 hh553 E469
                  obtain ⟨_, _, ⟨T577, L577, k577, n577⟩, -, X577, ⟨Lc577, hQ577, l577, y577, z577⟩, st577⟩ := X553.virtualBack hx (y := (⟨"com/example/collector_urchin/collectorurchin/store/StampedRecord", "equals", "(Ljava/lang/Object;)Z"⟩ : MethodName)) (z := (⟨"com/example/collector_urchin/collectorurchin/store/StampedRecord", "equals", "(Ljava/lang/Object;)Z"⟩ : MethodName)) hown469 (mvT hZ469 (w_ hw 51 rfl)) (mvT hZ469 (w_ hw 52 rfl)) (notFace_of_selects (args := #[]) (mvT hZ469 (w_ hw 54 rfl))) (mvT hZ469 (w_ hw 54 rfl)) (mvT hZ469 (w_ hw 53 rfl)) (by decide) (backOf (W := 0) (rm8c l Z a0 hw [] b467 b459 r3 b3 k3 lib ((ib0.toInt8.toInt32).toInt8.toInt32) ((ib1.toInt8.toInt32).toInt8.toInt32) r11 b11 k11 ljb ((jb0.toInt8.toInt32).toInt8.toInt32) ((jb1.toInt8.toInt32).toInt8.toInt32) q2 q3 r1 b1 k1 lia ((ia0.toInt8.toInt32).toInt8.toInt32) ((ia1.toInt8.toInt32).toInt8.toInt32) r7 b7 k7 lja ((ja0.toInt8.toInt32).toInt8.toInt32) ((ja1.toInt8.toInt32).toInt8.toInt32) q2 q3 cs T469.heap n0 qz497 E469 qz554 F469_id qz567 qz568 qz569 qz570 hl_lib F469_body qz571 qz572 qz573 qz574 hl_ljb F469_created F469_modified qz555 qz556 qz557 qz558 qz559 hl_lia qz560 qz561 qz562 qz563 qz564 hl_lja qz565 qz566 qz575 hcs (Ne.symm ne_r1_r3) (Ne.symm ne_r7_r11)) hZ469 (w_ hw 55 rfl) (w_ hw 28 rfl) (by decide) (by decide)) q577a q577c (g := (mkF m 431 #[iv p0, iv p1, .val (.long q2), .second, .val (.long q3), .second, .val (.long q4), .second, iv p5, iv lia, iv lib, iv lja, iv ljb, iv ia0, iv ia1, iv ib0, iv ib1, iv ja0, iv ja1, iv jb0, iv jb1, rv r1, rv r3, rv r7, rv r11, iv 1, iv 1, .val (.long q2), .second, .val (.long q3), .second, rv b459, rv b467, iv (((p5.toUInt32 >>> ((2 : Int32) &&& 31).toUInt32).toInt32) &&& (7 : Int32)), iv 1] [.ref b459, .ref b467])) rfl (by rw [hml]; rfl) (Steps.refl _) (argsL := [(.ref b459)]) (rest := []) (lenOf pd_7 rfl) rfl (by show 2 * 0 + _ ≤ _; exact Nat.le_of_eq rfl) (hb hby at_431) (fun _ _ => ⟨rfl, hh553, (by decide : 26 + 0 ≤ _), (by decide : 104 + 0 ≤ _)⟩)
                  dsimp only [Pt.U, Pt.locs, Pt.cells, Pt.slots] at X577 l577 y577 z577 st577 hQ577
                  subst l577 y577 z577
                  obtain ⟨rfl, N577q, hh577⟩ := hQ577
                  have N577 := Fr.app N553 N577q
                  refine own_of (fun _ k => st577.trans k) ?_
                  show own_Out p e below _ (T577.setTop (mkF m 434 #[iv p0, iv p1, .val (.long q2), .second, .val (.long q3), .second, .val (.long q4), .second, iv p5, iv lia, iv lib, iv lja, iv ljb, iv ia0, iv ia1, iv ib0, iv ib1, iv ja0, iv ja1, iv jb0, iv jb1, rv r1, rv r3, rv r7, rv r11, iv 1, iv 1, .val (.long q2), .second, .val (.long q3), .second, rv b459, rv b467, iv (((p5.toUInt32 >>> ((2 : Int32) &&& 31).toUInt32).toInt32) &&& (7 : Int32)), iv 1] [.int (fqe lib ((ib0.toInt8.toInt32).toInt8.toInt32) ((ib1.toInt8.toInt32).toInt8.toInt32) ljb ((jb0.toInt8.toInt32).toInt8.toInt32) ((jb1.toInt8.toInt32).toInt8.toInt32) q2 q3 lia ((ia0.toInt8.toInt32).toInt8.toInt32) ((ia1.toInt8.toInt32).toInt8.toInt32) lja ((ja0.toInt8.toInt32).toInt8.toInt32) ((ja1.toInt8.toInt32).toInt8.toInt32) q2 q3 cs)]))
                  refine o_iload X577 hx hby at_434 rfl (q := 436) rfl ?_
                  by_cases hc436_578 : (fqe lib ((ib0.toInt8.toInt32).toInt8.toInt32) ((ib1.toInt8.toInt32).toInt8.toInt32) ljb ((jb0.toInt8.toInt32).toInt8.toInt32) ((jb1.toInt8.toInt32).toInt8.toInt32) q2 q3 lia ((ia0.toInt8.toInt32).toInt8.toInt32) ((ia1.toInt8.toInt32).toInt8.toInt32) lja ((ja0.toInt8.toInt32).toInt8.toInt32) ((ja1.toInt8.toInt32).toInt8.toInt32) q2 q3 cs) = (1 : Int32)
                  · skip
                    refine o_icN X577 hx hby at_436 (teq hc436_578).2 (q := 439) rfl ?_
                    refine o_iconst X577 hx hby at_439 (z := 1) rfl (q := 440) rfl ?_
                    refine o_goto X577 hx hby at_440 (by decide) (q := 444) (by decide) ?_
                    exact own_outNW (s := s) (vm₁ := T469.vm) X577 S469 (by rw [hh577]; exact (Nat.le_refl T469.heap.size)) hx hlk (t := .boolean) hret (by simp) (hb hby at_444) (z' := (1 : Int32)) rfl (Q := Q) (hQ _ _ N577) (by decide) (by decide)
                  · skip
                    refine o_icY X577 hx hby at_436 (feq hc436_578).2 (by decide) (q := 443) (by decide) ?_
                    refine o_iconst X577 hx hby at_443 (z := 0) rfl (q := 444) rfl ?_
                    exact (sg125_dead28 p0 p1 q2 q3 q4 p5 lia lib lja ljb ia0 ia1 ib0 ib1 ja0 ja1 jb0 jb1 cs hcs hl_lia hl_lib hl_lja hl_ljb hr_ia0 hr_ia1 hr_ib0 hr_ib1 hr_ja0 hr_ja1 hr_jb0 hr_jb1 hc173_15 hc187_311 hc274_474 hc296_478 hc319_483 hc363_498 hc381_526 hc424_576 hc436_578).elim
                · skip
                  refine o_icY X553 hx hby at_424 (feq hc424_576).2 (by decide) (q := 443) (by decide) ?_
                  refine o_iconst X553 hx hby at_443 (z := 0) rfl (q := 444) rfl ?_
                  exact (sg125_dead29 p0 p1 q2 q3 q4 p5 lia lib lja ljb ia0 ia1 ib0 ib1 ja0 ja1 jb0 jb1 cs hcs hl_lia hl_lib hl_lja hl_ljb hr_ia0 hr_ia1 hr_ib0 hr_ib1 hr_ja0 hr_ja1 hr_jb0 hr_jb1 hc173_15 hc187_311 hc274_474 hc296_478 hc319_483 hc363_498 hc381_526 hc424_576).elim
theorem own_ch (x : Int32) : 0 ≤ ((x &&& (255 : Int32)).toUInt32.toUInt16.toUInt32.toInt32).toInt ∧ ((x &&& (255 : Int32)).toUInt32.toUInt16.toUInt32.toInt32).toInt < 256 := by
  have a := c_mask x 255 8 (by decide) (by decide)
  have b := c_i2c (x &&& (255 : Int32))
  omega
theorem own_l3 (x : Int32) : ((x &&& (3 : Int32)) % (3 : Int32)) = 0 ∨ ((x &&& (3 : Int32)) % (3 : Int32)) = 1 ∨ ((x &&& (3 : Int32)) % (3 : Int32)) = 2 := by
  have h := c_mask x 3 2 (by decide) (by decide)
  have r := (c_irem (x &&& (3 : Int32)) 3 3 rfl).1 (by omega)
  generalize ((x &&& (3 : Int32)) % (3 : Int32)) = z at *
  simp only [← Int32.toInt_inj]; show z.toInt = 0 ∨ z.toInt = 1 ∨ z.toInt = 2; omega
theorem ef_0 (m : MethodId) (x0 x1 : Int32) (x2 x3 x4 : Int64) (x5 : Int32) : entryFrame m #[(.int x0), (.int x1), (.long x2), (.long x3), (.long x4), (.int x5)] maxLocals = mkF m 0 #[.val (.int x0), .val (.int x1), .val (.long x2), .second, .val (.long x3), .second, .val (.long x4), .second, .val (.int x5), .unset, .unset, .unset, .unset, .unset, .unset, .unset, .unset, .unset, .unset, .unset, .unset, .unset, .unset, .unset, .unset, .unset, .unset, .unset, .unset, .unset, .unset, .unset, .unset, .unset, .unset] [] := by first | (simp [entryFrame, mkF, argsToLocals, Value.category, maxLocals]; done) | rfl
def Q0 (Z : State) (p0 p1 : Int32) (q2 q3 q4 : Int64) (p5 cs : Int32) (h0 : Heap) (n0 : Nat) (v : Option Value) (h : Heap) (L : List Loc) : Prop := v = some (.int 1) ∧ Fr n0 L
set_option maxRecDepth 65536 in
set_option maxHeartbeats 40000000 in
theorem rm0 (l : Launch) (Z : State) (a0 : Array Value) (hw : ∀ d ∈ tables_1, d.before a0 Z = true) (ws : List Jvm.Cond) (p0 p1 : Int32) (q2 q3 q4 : Int64) (p5 cs : Int32) (h0 : Heap) (n0 : Nat) (Z0 : n0 ≤ h0.size) (S_cs : Sta Z h0 "java/lang/String" "COMPACT_STRINGS" "Z" (.int cs)) (hcs : ¬ (cs = (0 : Int32))) :
    MetFree l x (head1 (Jvm.Cond.code x code maxLocals ret :: ws) room_1) (fun a U => a = #[(.int p0), (.int p1), (.long q2), (.long q3), (.long q4), (.int p5)] ∧ Z.Warmed39 U.vm ∧ U.heap = h0 ∧ CHv Z EL1 U.vm h0) (fun _ _ _ _ _ => True) (fun _ U o U' => ∃ v L, o = .returned v ∧ Q0 Z p0 p1 q2 q3 q4 p5 cs h0 n0 v U'.heap L ∧ ReturnedEndW U o U' L 48 3264) := by
  refine MetFree.of_bodySF (plainFor_of_name pn_2) hisR ?_
  intro p e s m args below meth c s₁ Bd hml0 hP hK
  obtain ⟨rfl, hZ, hh, hC⟩ := hP
  have hx := Bd.exec
  have hby := Bd.bytes
  have hml : c.maxLocals = 35 := hml0
  have hown : s.vm.findClass "com/example/collector_urchin/collectorurchin/store/StampedRecordEqualsPinLaw" = some m.cls := findClass_of_methodNamed Bd.named
  have hnm := (name_of_methodNamed Bd.named Bd.method).1
  have X0 : Stand p l e room_1 s m #[(.int p0), (.int p1), (.long q2), (.long q3), (.long q4), (.int p5)] below meth c s₁ [] 0 0 := Stand.of_body Bd
  have e0 : s₁.heap = h0 := by rw [← hh, Bd.state]; rfl
  have N0 := Fr.nil n0
  have hret := Bd.returns
  have hlk := BodyLoose.notSynchronized Bd
  have CA0 := CHr.refl hC
  show own_Out p e below (fun o U' => ∃ v L, o = .returned v ∧ Q0 Z p0 p1 q2 q3 q4 p5 cs h0 n0 v U'.heap L ∧ ReturnedEndW s o U' L 48 3264) (s₁.setTop (entryFrame m #[(.int p0), (.int p1), (.long q2), (.long q3), (.long q4), (.int p5)] maxLocals))
  refine own_of (fun t k => castTop (ef_0 m p0 p1 q2 q3 q4 p5) k) ?_
  show own_Out p e below _ (s₁.setTop (mkF m 0 #[iv p0, iv p1, .val (.long q2), .second, .val (.long q3), .second, .val (.long q4), .second, iv p5, .unset, .unset, .unset, .unset, .unset, .unset, .unset, .unset, .unset, .unset, .unset, .unset, .unset, .unset, .unset, .unset, .unset, .unset, .unset, .unset, .unset, .unset, .unset, .unset, .unset, .unset] []))
  refine o_iload X0 hx hby at_0 rfl (q := 2) rfl ?_
  refine o_iconst X0 hx hby at_2 (z := 5) rfl (q := 3) rfl ?_
  refine o_iushr X0 hx hby at_3 rfl (q := 4) rfl ?_
  refine o_iconst X0 hx hby at_4 (z := 3) rfl (q := 5) rfl ?_
  refine o_iand X0 hx hby at_5 rfl (q := 6) rfl ?_
  refine o_iconst X0 hx hby at_6 (z := 3) rfl (q := 7) rfl ?_
  refine o_irem X0 hx hby at_7 (by decide) (q := 8) rfl ?_
  refine o_istore X0 hx hby at_8 (l' := #[iv p0, iv p1, .val (.long q2), .second, .val (.long q3), .second, .val (.long q4), .second, iv p5, iv ((((p5.toUInt32 >>> ((5 : Int32) &&& 31).toUInt32).toInt32) &&& (3 : Int32)) % (3 : Int32)), .unset, .unset, .unset, .unset, .unset, .unset, .unset, .unset, .unset, .unset, .unset, .unset, .unset, .unset, .unset, .unset, .unset, .unset, .unset, .unset, .unset, .unset, .unset, .unset, .unset]) rfl (q := 10) rfl ?_
  refine o_iload X0 hx hby at_10 rfl (q := 12) rfl ?_
  refine o_bipush X0 hx hby at_12 (z := 7) rfl (q := 14) rfl ?_
  refine o_iushr X0 hx hby at_14 rfl (q := 15) rfl ?_
  refine o_iconst X0 hx hby at_15 (z := 3) rfl (q := 16) rfl ?_
  refine o_iand X0 hx hby at_16 rfl (q := 17) rfl ?_
  refine o_iconst X0 hx hby at_17 (z := 3) rfl (q := 18) rfl ?_
  refine o_irem X0 hx hby at_18 (by decide) (q := 19) rfl ?_
  refine o_istore X0 hx hby at_19 (l' := #[iv p0, iv p1, .val (.long q2), .second, .val (.long q3), .second, .val (.long q4), .second, iv p5, iv ((((p5.toUInt32 >>> ((5 : Int32) &&& 31).toUInt32).toInt32) &&& (3 : Int32)) % (3 : Int32)), iv ((((p5.toUInt32 >>> ((7 : Int32) &&& 31).toUInt32).toInt32) &&& (3 : Int32)) % (3 : Int32)), .unset, .unset, .unset, .unset, .unset, .unset, .unset, .unset, .unset, .unset, .unset, .unset, .unset, .unset, .unset, .unset, .unset, .unset, .unset, .unset, .unset, .unset, .unset, .unset]) rfl (q := 21) rfl ?_
  refine o_iload X0 hx hby at_21 rfl (q := 23) rfl ?_
  refine o_bipush X0 hx hby at_23 (z := 9) rfl (q := 25) rfl ?_
  refine o_iushr X0 hx hby at_25 rfl (q := 26) rfl ?_
  refine o_iconst X0 hx hby at_26 (z := 3) rfl (q := 27) rfl ?_
  refine o_iand X0 hx hby at_27 rfl (q := 28) rfl ?_
  refine o_iconst X0 hx hby at_28 (z := 3) rfl (q := 29) rfl ?_
  refine o_irem X0 hx hby at_29 (by decide) (q := 30) rfl ?_
  refine o_istore X0 hx hby at_30 (l' := #[iv p0, iv p1, .val (.long q2), .second, .val (.long q3), .second, .val (.long q4), .second, iv p5, iv ((((p5.toUInt32 >>> ((5 : Int32) &&& 31).toUInt32).toInt32) &&& (3 : Int32)) % (3 : Int32)), iv ((((p5.toUInt32 >>> ((7 : Int32) &&& 31).toUInt32).toInt32) &&& (3 : Int32)) % (3 : Int32)), iv ((((p5.toUInt32 >>> ((9 : Int32) &&& 31).toUInt32).toInt32) &&& (3 : Int32)) % (3 : Int32)), .unset, .unset, .unset, .unset, .unset, .unset, .unset, .unset, .unset, .unset, .unset, .unset, .unset, .unset, .unset, .unset, .unset, .unset, .unset, .unset, .unset, .unset, .unset]) rfl (q := 32) rfl ?_
  refine o_iload X0 hx hby at_32 rfl (q := 34) rfl ?_
  refine o_bipush X0 hx hby at_34 (z := 11) rfl (q := 36) rfl ?_
  refine o_iushr X0 hx hby at_36 rfl (q := 37) rfl ?_
  refine o_iconst X0 hx hby at_37 (z := 3) rfl (q := 38) rfl ?_
  refine o_iand X0 hx hby at_38 rfl (q := 39) rfl ?_
  refine o_iconst X0 hx hby at_39 (z := 3) rfl (q := 40) rfl ?_
  refine o_irem X0 hx hby at_40 (by decide) (q := 41) rfl ?_
  refine o_istore X0 hx hby at_41 (l' := #[iv p0, iv p1, .val (.long q2), .second, .val (.long q3), .second, .val (.long q4), .second, iv p5, iv ((((p5.toUInt32 >>> ((5 : Int32) &&& 31).toUInt32).toInt32) &&& (3 : Int32)) % (3 : Int32)), iv ((((p5.toUInt32 >>> ((7 : Int32) &&& 31).toUInt32).toInt32) &&& (3 : Int32)) % (3 : Int32)), iv ((((p5.toUInt32 >>> ((9 : Int32) &&& 31).toUInt32).toInt32) &&& (3 : Int32)) % (3 : Int32)), iv ((((p5.toUInt32 >>> ((11 : Int32) &&& 31).toUInt32).toInt32) &&& (3 : Int32)) % (3 : Int32)), .unset, .unset, .unset, .unset, .unset, .unset, .unset, .unset, .unset, .unset, .unset, .unset, .unset, .unset, .unset, .unset, .unset, .unset, .unset, .unset, .unset, .unset]) rfl (q := 43) rfl ?_
  refine o_iloadN X0 hx hby at_43 rfl (q := 44) rfl ?_
  refine o_sipush X0 hx hby at_44 (z := 255) rfl (q := 47) rfl ?_
  refine o_iand X0 hx hby at_47 rfl (q := 48) rfl ?_
  refine o_i2c X0 hx hby at_48 rfl (q := 49) rfl ?_
  refine o_istore X0 hx hby at_49 (l' := #[iv p0, iv p1, .val (.long q2), .second, .val (.long q3), .second, .val (.long q4), .second, iv p5, iv ((((p5.toUInt32 >>> ((5 : Int32) &&& 31).toUInt32).toInt32) &&& (3 : Int32)) % (3 : Int32)), iv ((((p5.toUInt32 >>> ((7 : Int32) &&& 31).toUInt32).toInt32) &&& (3 : Int32)) % (3 : Int32)), iv ((((p5.toUInt32 >>> ((9 : Int32) &&& 31).toUInt32).toInt32) &&& (3 : Int32)) % (3 : Int32)), iv ((((p5.toUInt32 >>> ((11 : Int32) &&& 31).toUInt32).toInt32) &&& (3 : Int32)) % (3 : Int32)), iv ((p0 &&& (255 : Int32)).toUInt32.toUInt16.toUInt32.toInt32), .unset, .unset, .unset, .unset, .unset, .unset, .unset, .unset, .unset, .unset, .unset, .unset, .unset, .unset, .unset, .unset, .unset, .unset, .unset, .unset, .unset]) rfl (q := 51) rfl ?_
  refine o_iloadN X0 hx hby at_51 rfl (q := 52) rfl ?_
  refine o_bipush X0 hx hby at_52 (z := 8) rfl (q := 54) rfl ?_
  refine o_iushr X0 hx hby at_54 rfl (q := 55) rfl ?_
  refine o_sipush X0 hx hby at_55 (z := 255) rfl (q := 58) rfl ?_
  refine o_iand X0 hx hby at_58 rfl (q := 59) rfl ?_
  refine o_i2c X0 hx hby at_59 rfl (q := 60) rfl ?_
  refine o_istore X0 hx hby at_60 (l' := #[iv p0, iv p1, .val (.long q2), .second, .val (.long q3), .second, .val (.long q4), .second, iv p5, iv ((((p5.toUInt32 >>> ((5 : Int32) &&& 31).toUInt32).toInt32) &&& (3 : Int32)) % (3 : Int32)), iv ((((p5.toUInt32 >>> ((7 : Int32) &&& 31).toUInt32).toInt32) &&& (3 : Int32)) % (3 : Int32)), iv ((((p5.toUInt32 >>> ((9 : Int32) &&& 31).toUInt32).toInt32) &&& (3 : Int32)) % (3 : Int32)), iv ((((p5.toUInt32 >>> ((11 : Int32) &&& 31).toUInt32).toInt32) &&& (3 : Int32)) % (3 : Int32)), iv ((p0 &&& (255 : Int32)).toUInt32.toUInt16.toUInt32.toInt32), iv ((((p0.toUInt32 >>> ((8 : Int32) &&& 31).toUInt32).toInt32) &&& (255 : Int32)).toUInt32.toUInt16.toUInt32.toInt32), .unset, .unset, .unset, .unset, .unset, .unset, .unset, .unset, .unset, .unset, .unset, .unset, .unset, .unset, .unset, .unset, .unset, .unset, .unset, .unset]) rfl (q := 62) rfl ?_
  refine o_iloadN X0 hx hby at_62 rfl (q := 63) rfl ?_
  refine o_bipush X0 hx hby at_63 (z := 16) rfl (q := 65) rfl ?_
  refine o_iushr X0 hx hby at_65 rfl (q := 66) rfl ?_
  refine o_sipush X0 hx hby at_66 (z := 255) rfl (q := 69) rfl ?_
  refine o_iand X0 hx hby at_69 rfl (q := 70) rfl ?_
  refine o_i2c X0 hx hby at_70 rfl (q := 71) rfl ?_
  refine o_istore X0 hx hby at_71 (l' := #[iv p0, iv p1, .val (.long q2), .second, .val (.long q3), .second, .val (.long q4), .second, iv p5, iv ((((p5.toUInt32 >>> ((5 : Int32) &&& 31).toUInt32).toInt32) &&& (3 : Int32)) % (3 : Int32)), iv ((((p5.toUInt32 >>> ((7 : Int32) &&& 31).toUInt32).toInt32) &&& (3 : Int32)) % (3 : Int32)), iv ((((p5.toUInt32 >>> ((9 : Int32) &&& 31).toUInt32).toInt32) &&& (3 : Int32)) % (3 : Int32)), iv ((((p5.toUInt32 >>> ((11 : Int32) &&& 31).toUInt32).toInt32) &&& (3 : Int32)) % (3 : Int32)), iv ((p0 &&& (255 : Int32)).toUInt32.toUInt16.toUInt32.toInt32), iv ((((p0.toUInt32 >>> ((8 : Int32) &&& 31).toUInt32).toInt32) &&& (255 : Int32)).toUInt32.toUInt16.toUInt32.toInt32), iv ((((p0.toUInt32 >>> ((16 : Int32) &&& 31).toUInt32).toInt32) &&& (255 : Int32)).toUInt32.toUInt16.toUInt32.toInt32), .unset, .unset, .unset, .unset, .unset, .unset, .unset, .unset, .unset, .unset, .unset, .unset, .unset, .unset, .unset, .unset, .unset, .unset, .unset]) rfl (q := 73) rfl ?_
  refine o_iloadN X0 hx hby at_73 rfl (q := 74) rfl ?_
  refine o_bipush X0 hx hby at_74 (z := 24) rfl (q := 76) rfl ?_
  refine o_iushr X0 hx hby at_76 rfl (q := 77) rfl ?_
  refine o_sipush X0 hx hby at_77 (z := 255) rfl (q := 80) rfl ?_
  refine o_iand X0 hx hby at_80 rfl (q := 81) rfl ?_
  refine o_i2c X0 hx hby at_81 rfl (q := 82) rfl ?_
  refine o_istore X0 hx hby at_82 (l' := #[iv p0, iv p1, .val (.long q2), .second, .val (.long q3), .second, .val (.long q4), .second, iv p5, iv ((((p5.toUInt32 >>> ((5 : Int32) &&& 31).toUInt32).toInt32) &&& (3 : Int32)) % (3 : Int32)), iv ((((p5.toUInt32 >>> ((7 : Int32) &&& 31).toUInt32).toInt32) &&& (3 : Int32)) % (3 : Int32)), iv ((((p5.toUInt32 >>> ((9 : Int32) &&& 31).toUInt32).toInt32) &&& (3 : Int32)) % (3 : Int32)), iv ((((p5.toUInt32 >>> ((11 : Int32) &&& 31).toUInt32).toInt32) &&& (3 : Int32)) % (3 : Int32)), iv ((p0 &&& (255 : Int32)).toUInt32.toUInt16.toUInt32.toInt32), iv ((((p0.toUInt32 >>> ((8 : Int32) &&& 31).toUInt32).toInt32) &&& (255 : Int32)).toUInt32.toUInt16.toUInt32.toInt32), iv ((((p0.toUInt32 >>> ((16 : Int32) &&& 31).toUInt32).toInt32) &&& (255 : Int32)).toUInt32.toUInt16.toUInt32.toInt32), iv ((((p0.toUInt32 >>> ((24 : Int32) &&& 31).toUInt32).toInt32) &&& (255 : Int32)).toUInt32.toUInt16.toUInt32.toInt32), .unset, .unset, .unset, .unset, .unset, .unset, .unset, .unset, .unset, .unset, .unset, .unset, .unset, .unset, .unset, .unset, .unset, .unset]) rfl (q := 84) rfl ?_
  refine o_iloadN X0 hx hby at_84 rfl (q := 85) rfl ?_
  refine o_sipush X0 hx hby at_85 (z := 255) rfl (q := 88) rfl ?_
  refine o_iand X0 hx hby at_88 rfl (q := 89) rfl ?_
  refine o_i2c X0 hx hby at_89 rfl (q := 90) rfl ?_
  refine o_istore X0 hx hby at_90 (l' := #[iv p0, iv p1, .val (.long q2), .second, .val (.long q3), .second, .val (.long q4), .second, iv p5, iv ((((p5.toUInt32 >>> ((5 : Int32) &&& 31).toUInt32).toInt32) &&& (3 : Int32)) % (3 : Int32)), iv ((((p5.toUInt32 >>> ((7 : Int32) &&& 31).toUInt32).toInt32) &&& (3 : Int32)) % (3 : Int32)), iv ((((p5.toUInt32 >>> ((9 : Int32) &&& 31).toUInt32).toInt32) &&& (3 : Int32)) % (3 : Int32)), iv ((((p5.toUInt32 >>> ((11 : Int32) &&& 31).toUInt32).toInt32) &&& (3 : Int32)) % (3 : Int32)), iv ((p0 &&& (255 : Int32)).toUInt32.toUInt16.toUInt32.toInt32), iv ((((p0.toUInt32 >>> ((8 : Int32) &&& 31).toUInt32).toInt32) &&& (255 : Int32)).toUInt32.toUInt16.toUInt32.toInt32), iv ((((p0.toUInt32 >>> ((16 : Int32) &&& 31).toUInt32).toInt32) &&& (255 : Int32)).toUInt32.toUInt16.toUInt32.toInt32), iv ((((p0.toUInt32 >>> ((24 : Int32) &&& 31).toUInt32).toInt32) &&& (255 : Int32)).toUInt32.toUInt16.toUInt32.toInt32), iv ((p1 &&& (255 : Int32)).toUInt32.toUInt16.toUInt32.toInt32), .unset, .unset, .unset, .unset, .unset, .unset, .unset, .unset, .unset, .unset, .unset, .unset, .unset, .unset, .unset, .unset, .unset]) rfl (q := 92) rfl ?_
  refine o_iloadN X0 hx hby at_92 rfl (q := 93) rfl ?_
  refine o_bipush X0 hx hby at_93 (z := 8) rfl (q := 95) rfl ?_
  refine o_iushr X0 hx hby at_95 rfl (q := 96) rfl ?_
  refine o_sipush X0 hx hby at_96 (z := 255) rfl (q := 99) rfl ?_
  refine o_iand X0 hx hby at_99 rfl (q := 100) rfl ?_
  refine o_i2c X0 hx hby at_100 rfl (q := 101) rfl ?_
  refine o_istore X0 hx hby at_101 (l' := #[iv p0, iv p1, .val (.long q2), .second, .val (.long q3), .second, .val (.long q4), .second, iv p5, iv ((((p5.toUInt32 >>> ((5 : Int32) &&& 31).toUInt32).toInt32) &&& (3 : Int32)) % (3 : Int32)), iv ((((p5.toUInt32 >>> ((7 : Int32) &&& 31).toUInt32).toInt32) &&& (3 : Int32)) % (3 : Int32)), iv ((((p5.toUInt32 >>> ((9 : Int32) &&& 31).toUInt32).toInt32) &&& (3 : Int32)) % (3 : Int32)), iv ((((p5.toUInt32 >>> ((11 : Int32) &&& 31).toUInt32).toInt32) &&& (3 : Int32)) % (3 : Int32)), iv ((p0 &&& (255 : Int32)).toUInt32.toUInt16.toUInt32.toInt32), iv ((((p0.toUInt32 >>> ((8 : Int32) &&& 31).toUInt32).toInt32) &&& (255 : Int32)).toUInt32.toUInt16.toUInt32.toInt32), iv ((((p0.toUInt32 >>> ((16 : Int32) &&& 31).toUInt32).toInt32) &&& (255 : Int32)).toUInt32.toUInt16.toUInt32.toInt32), iv ((((p0.toUInt32 >>> ((24 : Int32) &&& 31).toUInt32).toInt32) &&& (255 : Int32)).toUInt32.toUInt16.toUInt32.toInt32), iv ((p1 &&& (255 : Int32)).toUInt32.toUInt16.toUInt32.toInt32), iv ((((p1.toUInt32 >>> ((8 : Int32) &&& 31).toUInt32).toInt32) &&& (255 : Int32)).toUInt32.toUInt16.toUInt32.toInt32), .unset, .unset, .unset, .unset, .unset, .unset, .unset, .unset, .unset, .unset, .unset, .unset, .unset, .unset, .unset, .unset]) rfl (q := 103) rfl ?_
  refine o_iloadN X0 hx hby at_103 rfl (q := 104) rfl ?_
  refine o_bipush X0 hx hby at_104 (z := 16) rfl (q := 106) rfl ?_
  refine o_iushr X0 hx hby at_106 rfl (q := 107) rfl ?_
  refine o_sipush X0 hx hby at_107 (z := 255) rfl (q := 110) rfl ?_
  refine o_iand X0 hx hby at_110 rfl (q := 111) rfl ?_
  refine o_i2c X0 hx hby at_111 rfl (q := 112) rfl ?_
  refine o_istore X0 hx hby at_112 (l' := #[iv p0, iv p1, .val (.long q2), .second, .val (.long q3), .second, .val (.long q4), .second, iv p5, iv ((((p5.toUInt32 >>> ((5 : Int32) &&& 31).toUInt32).toInt32) &&& (3 : Int32)) % (3 : Int32)), iv ((((p5.toUInt32 >>> ((7 : Int32) &&& 31).toUInt32).toInt32) &&& (3 : Int32)) % (3 : Int32)), iv ((((p5.toUInt32 >>> ((9 : Int32) &&& 31).toUInt32).toInt32) &&& (3 : Int32)) % (3 : Int32)), iv ((((p5.toUInt32 >>> ((11 : Int32) &&& 31).toUInt32).toInt32) &&& (3 : Int32)) % (3 : Int32)), iv ((p0 &&& (255 : Int32)).toUInt32.toUInt16.toUInt32.toInt32), iv ((((p0.toUInt32 >>> ((8 : Int32) &&& 31).toUInt32).toInt32) &&& (255 : Int32)).toUInt32.toUInt16.toUInt32.toInt32), iv ((((p0.toUInt32 >>> ((16 : Int32) &&& 31).toUInt32).toInt32) &&& (255 : Int32)).toUInt32.toUInt16.toUInt32.toInt32), iv ((((p0.toUInt32 >>> ((24 : Int32) &&& 31).toUInt32).toInt32) &&& (255 : Int32)).toUInt32.toUInt16.toUInt32.toInt32), iv ((p1 &&& (255 : Int32)).toUInt32.toUInt16.toUInt32.toInt32), iv ((((p1.toUInt32 >>> ((8 : Int32) &&& 31).toUInt32).toInt32) &&& (255 : Int32)).toUInt32.toUInt16.toUInt32.toInt32), iv ((((p1.toUInt32 >>> ((16 : Int32) &&& 31).toUInt32).toInt32) &&& (255 : Int32)).toUInt32.toUInt16.toUInt32.toInt32), .unset, .unset, .unset, .unset, .unset, .unset, .unset, .unset, .unset, .unset, .unset, .unset, .unset, .unset, .unset]) rfl (q := 114) rfl ?_
  refine o_iloadN X0 hx hby at_114 rfl (q := 115) rfl ?_
  refine o_bipush X0 hx hby at_115 (z := 24) rfl (q := 117) rfl ?_
  refine o_iushr X0 hx hby at_117 rfl (q := 118) rfl ?_
  refine o_sipush X0 hx hby at_118 (z := 255) rfl (q := 121) rfl ?_
  refine o_iand X0 hx hby at_121 rfl (q := 122) rfl ?_
  refine o_i2c X0 hx hby at_122 rfl (q := 123) rfl ?_
  refine o_istore X0 hx hby at_123 (l' := #[iv p0, iv p1, .val (.long q2), .second, .val (.long q3), .second, .val (.long q4), .second, iv p5, iv ((((p5.toUInt32 >>> ((5 : Int32) &&& 31).toUInt32).toInt32) &&& (3 : Int32)) % (3 : Int32)), iv ((((p5.toUInt32 >>> ((7 : Int32) &&& 31).toUInt32).toInt32) &&& (3 : Int32)) % (3 : Int32)), iv ((((p5.toUInt32 >>> ((9 : Int32) &&& 31).toUInt32).toInt32) &&& (3 : Int32)) % (3 : Int32)), iv ((((p5.toUInt32 >>> ((11 : Int32) &&& 31).toUInt32).toInt32) &&& (3 : Int32)) % (3 : Int32)), iv ((p0 &&& (255 : Int32)).toUInt32.toUInt16.toUInt32.toInt32), iv ((((p0.toUInt32 >>> ((8 : Int32) &&& 31).toUInt32).toInt32) &&& (255 : Int32)).toUInt32.toUInt16.toUInt32.toInt32), iv ((((p0.toUInt32 >>> ((16 : Int32) &&& 31).toUInt32).toInt32) &&& (255 : Int32)).toUInt32.toUInt16.toUInt32.toInt32), iv ((((p0.toUInt32 >>> ((24 : Int32) &&& 31).toUInt32).toInt32) &&& (255 : Int32)).toUInt32.toUInt16.toUInt32.toInt32), iv ((p1 &&& (255 : Int32)).toUInt32.toUInt16.toUInt32.toInt32), iv ((((p1.toUInt32 >>> ((8 : Int32) &&& 31).toUInt32).toInt32) &&& (255 : Int32)).toUInt32.toUInt16.toUInt32.toInt32), iv ((((p1.toUInt32 >>> ((16 : Int32) &&& 31).toUInt32).toInt32) &&& (255 : Int32)).toUInt32.toUInt16.toUInt32.toInt32), iv ((((p1.toUInt32 >>> ((24 : Int32) &&& 31).toUInt32).toInt32) &&& (255 : Int32)).toUInt32.toUInt16.toUInt32.toInt32), .unset, .unset, .unset, .unset, .unset, .unset, .unset, .unset, .unset, .unset, .unset, .unset, .unset, .unset]) rfl (q := 125) rfl ?_
  exact sg125 (Q := Q0 Z p0 p1 q2 q3 q4 p5 cs h0 n0) p0 p1 q2 q3 q4 p5 ((((p5.toUInt32 >>> ((5 : Int32) &&& 31).toUInt32).toInt32) &&& (3 : Int32)) % (3 : Int32)) ((((p5.toUInt32 >>> ((7 : Int32) &&& 31).toUInt32).toInt32) &&& (3 : Int32)) % (3 : Int32)) ((((p5.toUInt32 >>> ((9 : Int32) &&& 31).toUInt32).toInt32) &&& (3 : Int32)) % (3 : Int32)) ((((p5.toUInt32 >>> ((11 : Int32) &&& 31).toUInt32).toInt32) &&& (3 : Int32)) % (3 : Int32)) ((p0 &&& (255 : Int32)).toUInt32.toUInt16.toUInt32.toInt32) ((((p0.toUInt32 >>> ((8 : Int32) &&& 31).toUInt32).toInt32) &&& (255 : Int32)).toUInt32.toUInt16.toUInt32.toInt32) ((((p0.toUInt32 >>> ((16 : Int32) &&& 31).toUInt32).toInt32) &&& (255 : Int32)).toUInt32.toUInt16.toUInt32.toInt32) ((((p0.toUInt32 >>> ((24 : Int32) &&& 31).toUInt32).toInt32) &&& (255 : Int32)).toUInt32.toUInt16.toUInt32.toInt32) ((p1 &&& (255 : Int32)).toUInt32.toUInt16.toUInt32.toInt32) ((((p1.toUInt32 >>> ((8 : Int32) &&& 31).toUInt32).toInt32) &&& (255 : Int32)).toUInt32.toUInt16.toUInt32.toInt32) ((((p1.toUInt32 >>> ((16 : Int32) &&& 31).toUInt32).toInt32) &&& (255 : Int32)).toUInt32.toUInt16.toUInt32.toInt32) ((((p1.toUInt32 >>> ((24 : Int32) &&& 31).toUInt32).toInt32) &&& (255 : Int32)).toUInt32.toUInt16.toUInt32.toInt32) cs h0 n0 X0 hx hZ hw hby hml hown hret hlk (fun _ _ N => ⟨rfl, N⟩) e0 Z0 N0 S_cs hcs (own_l3 _) (own_l3 _) (own_l3 _) (own_l3 _) (own_ch _) (own_ch _) (own_ch _) (own_ch _) (own_ch _) (own_ch _) (own_ch _) (own_ch _) hC
theorem own_not0 {args : Array Value} {s : State} {t : Term} {x : Int32} (e : t.eval args s none [] s = some (.int x)) (h : (Jvm.Cond.not (Jvm.Cond.eq t (.int 0))).value args s none s [] = some true) : ¬ (x = (0 : Int32)) := gotF (Cond.eq_ints e (Term.int_eval 0)) (not_v h)
set_option maxRecDepth 65536 in
set_option maxHeartbeats 40000000 in
theorem comes_1 {Post : Tables → Env → Array Value → State → Outcome → State → Prop} (hpost : ∀ tb e args s v u, (limb_1_1.after args s (.returned v) u = true ∧ limb_1_2.after args s (.returned v) u = true ∧ True) → ReturnedEndW s (.returned v) u (Jvm.fieldLocs frame_1_writes args s ++ Jvm.arrayLocs frame_1_arrays args s ++ Jvm.staticLocs frame_1_statics s) 48 3264 → Post tb e args s (.returned v) u) :
    ArmFor flags0 classFile x code maxLocals ret World_1 tables_1 room_1 Calls_1 rest_1 Pre_1 Post := by
  intro l hfl _ _ p e ha hc hk s m args below hf hA hF happ hP
  obtain ⟨hcalls, hrest, hpre⟩ := hP
  obtain ⟨-, -, -, hnamed, -, -, -, hat⟩ := (Spec.applies_iff hf).mp happ
  obtain ⟨hg, hn⟩ := and_e (Cond.before_iff.mp (show (Jvm.Cond.and given_1 narrow_1).before args s = true from hpre))
  obtain ⟨g1, g2⟩ := and_e hg
  obtain ⟨g3, g4⟩ := and_e g2
  obtain ⟨g5, g6⟩ := and_e g4
  obtain ⟨g7, g8⟩ := and_e g6
  obtain ⟨g9, g10⟩ := and_e g8
  obtain ⟨g11, g12⟩ := and_e g10
  obtain ⟨w0, w1, w2, w3, w4, w5, rfl⟩ : ∃ w0 w1 w2 w3 w4 w5 : Value, args = #[w0, w1, w2, w3, w4, w5] := by
    have hs : args.size = 6 := by simpa [Cond.value, given_1] using g1
    obtain ⟨L⟩ := args
    match L, hs with
    | [w0, w1, w2, w3, w4, w5], _ => exact ⟨w0, w1, w2, w3, w4, w5, rfl⟩
  have hw := fun d (hd : d ∈ tables_1) => atoms_spec (ws := Jvm.Cond.code x code maxLocals ret :: tables_1) hat d (List.mem_cons_of_mem _ hd)
  have hfit : Fit s := fun {y c} hc i hi => by
    obtain ⟨ha, rfl⟩ := Array.getElem?_eq_some_iff.mp hc
    have q := List.all_eq_true.mp ((Array.all_eq_true_iff_forall_mem.mp hF) _ (Array.getElem_mem ha)) i (List.mem_range.mpr hi)
    simpa [Array.getElem?_eq_getElem hi] using q
  obtain ⟨hsets, hown0⟩ := atoms_of _ (rest_1_c_eq ▸ (show rest_1_c.before _ s = true from hrest))
  have hr0 := Cond.before_iff.mp hown0
  obtain ⟨i0, ei0⟩ := is_v g3
  obtain rfl : w0 = (.int i0) := Option.some.inj ei0
  obtain ⟨i1, ei1⟩ := is_v g5
  obtain rfl : w1 = (.int i1) := Option.some.inj ei1
  obtain ⟨i2, ei2⟩ := isL_v g7
  obtain rfl : w2 = (.long i2) := Option.some.inj ei2
  obtain ⟨i3, ei3⟩ := isL_v g9
  obtain rfl : w3 = (.long i3) := Option.some.inj ei3
  obtain ⟨i4, ei4⟩ := isL_v g11
  obtain rfl : w4 = (.long i4) := Option.some.inj ei4
  obtain ⟨i5, ei5⟩ := is_v g12
  obtain rfl : w5 = (.int i5) := Option.some.inj ei5
  obtain ⟨cs, ecs⟩ := is_v (Cond.before_iff.mp (hsets _ (List.mem_of_getElem? (i := 1) rfl)))
  have S_cs := Sta.start ecs (Or.inl (hsets _ (List.mem_of_getElem? (i := 0) rfl)))
  have hcs : ¬ (cs = (0 : Int32)) := own_not0 ecs (Cond.before_iff.mp (hsets _ (List.mem_of_getElem? (i := 2) rfl)))
  have hCH : CHv s EL1 s.vm s.heap := CHv.start (own_EW hw) (fun p hp => by cases List.mem_singleton.mp hp; exact hcalls.1 _ (List.mem_of_getElem? (i := 2) rfl)) (hsets _ (List.mem_of_getElem? (i := 2) rfl)) (own_wS hw _ (by simp [Bundle.stringAtoms])) (own_wS hw _ (by simp [Bundle.stringAtoms, Bundle.sN]))
  obtain ⟨n, o, h1, h2, h3, _, L, rfl, ⟨rfl, N⟩, hq⟩ := rm0 l s _ hw tables_1 i0 i1 i2 i3 i4 i5 cs s.heap s.heap.size (Nat.le_refl _) S_cs hcs p e ha hc hk s m _ below hf ((Spec.applies_iff_loose hf).mp happ).1 ⟨rfl, State.Warmed39.refl s, rfl, hCH⟩ trivial
  refine ⟨n, _, h1, h2, h3, hpost _ _ _ _ _ _ ⟨Cond.after_iff.mpr rfl, Cond.after_iff.mpr (eq_i res_at (Term.int_eval (1)) rfl), trivial⟩ ⟨hq.1, hq.2.1, hq.2.2.1, (hq.2.2.2.sift fun y hy => Or.inr (N y hy)).mono (by decide) (by decide)⟩⟩
theorem main_1_1 : Claimed_1_1 := comes_1 fun _ _ _ _ _ _ h hF => ⟨h.1, hF⟩
theorem main_1_2 : Claimed_1_2 := comes_1 fun _ _ _ _ _ _ h hF => ⟨h.2.1, hF⟩
end Jvm.Pilot.@@N@@
namespace Jvm.Pilot.@@N@@
open Jvm Jvm.ClassFile Sem Op Lib Jvm.Free Jvm.Stand Jvm.Pilot.@@N@@.Jvm.D
/-! MADE BY PROGRAM (witnessworld.py) out of the Statement's table words and the real class files: 21 classes; the members and pool entries that the words name. The judged class is class 1, her method 3. -/
namespace start1
open Jvm.ClassFile
def u (s : String) : CpInfo := .utf8 (stringToUtf16 s)
/-- a pool by its gaps: so many unusable entries, then the entry; so many at the end -/
def gap : Nat → List CpInfo → List CpInfo
  | 0, r => r
  | n + 1, r => .unusable :: gap n r
def poolList (es : List (Nat × CpInfo)) (last : Nat) : List CpInfo := es.foldr (fun e r => gap e.1 (e.2 :: r)) (gap last [])
def pool (es : List (Nat × CpInfo)) (last : Nat) : Array CpInfo := ⟨poolList es last⟩
def fileOf (pool : Array CpInfo) (this : Nat) (attrs : Array Attribute := #[]) (ms : Array MethodInfo := #[]) (fl : Nat := 33) (sup : Nat := 0) (ifs : Array Nat := #[]) (fds : Array FieldInfo := #[]) : ClassFile where
  minorVersion := 0
  majorVersion := 65
  constantPool := pool
  accessFlags := fl
  thisClass := this
  superClass := sup
  interfaces := ifs
  fields := fds
  methods := ms
  attributes := attrs
def plain (name : String) (sup : Option ClassId) : Class where
  name := name
  kind := .ordinary
  loader := none
  accessFlags := 33
  super := sup
  interfaces := #[]
  cf := none
  fields := #[]
  methods := #[]
  instanceTypes := #[]
  staticTypes := #[]
  resolved := #[]
  callSites := []
  init := .initialized
  statics := none
  mirror := none

def pool0 : Array CpInfo := pool [(5, u "<init>"), (0, u "()V"), (1, .class_ 10), (1, u "java/lang/Object")] 113

def k0c0 : Code := { maxStack := 0, maxLocals := 1, code := object_method_1_code, exceptionTable := #[], attributes := #[] }
def k0m0 : Method := { name := "<init>", desc := "()V", sig := { parameters := [], returnType := none }, accessFlags := 1, code := some k0c0 }
/-- java/lang/Object -/
def k0 : Class := { plain "java/lang/Object" none with
  accessFlags := 33
  interfaces := #[]
  cf := some (fileOf pool0 8 #[] #[{ accessFlags := 1, nameIndex := 5, descriptorIndex := 6, attributes := #[] }] 33 0 #[] #[])
  fields := #[]
  methods := #[k0m0]
  instanceTypes := #[]
  staticTypes := #[]
  resolved := Array.replicate 124 none
  statics := none }

def pool1 : Array CpInfo := pool [(2, .class_ 4), (1, u "java/lang/Object"), (0, u "<init>"), (0, u "()V"), (0, .class_ 8), (0, u "java/lang/String"), (0, .methodref 7 10), (0, .nameAndType 5 11), (0, u "([C)V"), (0, .methodref 13 14), (0, .class_ 15), (0, .nameAndType 16 17), (0, u "com/example/collector_urchin/collectorurchin/store/StampedRecordEqualsPinLaw"), (0, u "make"), (0, u "(ICC)Ljava/lang/String;"), (0, .class_ 19), (0, u "com/example/collector_urchin/collectorurchin/store/StampedRecord"), (0, .methodref 18 21), (0, .nameAndType 5 22), (0, u "(Ljava/lang/String;Ljava/lang/String;JJ)V"), (0, .methodref 18 24), (0, .nameAndType 25 26), (0, u "equals"), (0, u "(Ljava/lang/Object;)Z"), (0, .methodref 13 28), (0, .nameAndType 29 30), (0, u "sameStr"), (0, u "(ICCICC)Z"), (3, u "law"), (0, u "(IIJJJI)Z")] 2

def k1m0 : Method := { name := "<init>", desc := "()V", sig := { parameters := [], returnType := none }, accessFlags := 1, code := none }
def k1c1 : Code := { maxStack := 3, maxLocals := 4, code := method_2_code, exceptionTable := #[], attributes := #[] }
def k1m1 : Method := { name := "make", desc := "(ICC)Ljava/lang/String;", sig := { parameters := [.int, .char, .char], returnType := some (.object "java/lang/String") }, accessFlags := 10, code := some k1c1 }
def k1c2 : Code := { maxStack := 2, maxLocals := 6, code := method_3_code, exceptionTable := #[], attributes := #[] }
def k1m2 : Method := { name := "sameStr", desc := "(ICCICC)Z", sig := { parameters := [.int, .char, .char, .int, .char, .char], returnType := some .boolean }, accessFlags := 10, code := some k1c2 }
def k1c3 : Code := { maxStack := 8, maxLocals := 35, code := code, exceptionTable := #[], attributes := #[] }
def k1m3 : Method := { name := "law", desc := "(IIJJJI)Z", sig := { parameters := [.int, .int, .long, .long, .long, .int], returnType := some .boolean }, accessFlags := 9, code := some k1c3 }
/-- com/example/collector_urchin/collectorurchin/store/StampedRecordEqualsPinLaw -/
def k1 : Class := { plain "com/example/collector_urchin/collectorurchin/store/StampedRecordEqualsPinLaw" (some 0) with
  accessFlags := 49
  interfaces := #[]
  cf := some (fileOf pool1 13 #[] #[{ accessFlags := 1, nameIndex := 5, descriptorIndex := 6, attributes := #[] }, { accessFlags := 10, nameIndex := 16, descriptorIndex := 17, attributes := #[] }, { accessFlags := 10, nameIndex := 29, descriptorIndex := 30, attributes := #[] }, { accessFlags := 9, nameIndex := 34, descriptorIndex := 35, attributes := #[] }] 49 2 #[] #[])
  fields := #[]
  methods := #[k1m0, k1m1, k1m2, k1m3]
  instanceTypes := #[]
  staticTypes := #[]
  resolved := Array.replicate 38 none
  statics := none }

def pool2 : Array CpInfo := pool [(1, .class_ 2), (0, u "java/io/Serializable"), (0, .class_ 4), (0, u "java/lang/Object")] 2

/-- java/io/Serializable -/
def k2 : Class := { plain "java/io/Serializable" (some 0) with
  accessFlags := 1537
  interfaces := #[]
  cf := some (fileOf pool2 1 #[] #[] 1537 3 #[] #[])
  fields := #[]
  methods := #[]
  instanceTypes := #[]
  staticTypes := #[]
  resolved := Array.replicate 7 none
  statics := none }

def pool3 : Array CpInfo := pool [(1, .class_ 2), (0, u "java/lang/Comparable"), (0, .class_ 4), (0, u "java/lang/Object")] 7

/-- java/lang/Comparable -/
def k3 : Class := { plain "java/lang/Comparable" (some 0) with
  accessFlags := 1537
  interfaces := #[]
  cf := some (fileOf pool3 1 #[] #[] 1537 3 #[] #[])
  fields := #[]
  methods := #[]
  instanceTypes := #[]
  staticTypes := #[]
  resolved := Array.replicate 12 none
  statics := none }

def pool4 : Array CpInfo := pool [(2, .class_ 4), (1, u "java/lang/CharSequence"), (42, .class_ 48), (0, u "java/lang/CharSequence$1CodePointIterator"), (10, .class_ 60), (0, u "java/lang/CharSequence$1CharIterator"), (5, .class_ 67), (0, u "java/lang/Object")] 63

/-- java/lang/CharSequence -/
def k4 : Class := { plain "java/lang/CharSequence" (some 0) with
  accessFlags := 1537
  interfaces := #[]
  cf := some (fileOf pool4 2 #[.nestMembers #[47, 59]] #[] 1537 66 #[] #[])
  fields := #[]
  methods := #[]
  instanceTypes := #[]
  staticTypes := #[]
  resolved := Array.replicate 131 none
  statics := none }

def pool5 : Array CpInfo := pool [(1, .class_ 2), (0, u "java/lang/constant/Constable"), (0, .class_ 4), (0, u "java/lang/Object")] 6

/-- java/lang/constant/Constable -/
def k5 : Class := { plain "java/lang/constant/Constable" (some 0) with
  accessFlags := 1537
  interfaces := #[]
  cf := some (fileOf pool5 1 #[] #[] 1537 3 #[] #[])
  fields := #[]
  methods := #[]
  instanceTypes := #[]
  staticTypes := #[]
  resolved := Array.replicate 11 none
  statics := none }

def pool6 : Array CpInfo := pool [(1, .class_ 2), (0, u "java/lang/constant/ConstantDesc"), (0, .class_ 4), (0, u "java/lang/Object")] 32

/-- java/lang/constant/ConstantDesc -/
def k6 : Class := { plain "java/lang/constant/ConstantDesc" (some 0) with
  accessFlags := 1537
  interfaces := #[]
  cf := some (fileOf pool6 1 #[] #[] 1537 3 #[] #[])
  fields := #[]
  methods := #[]
  instanceTypes := #[]
  staticTypes := #[]
  resolved := Array.replicate 37 none
  statics := none }

def pool7 : Array CpInfo := pool [(1, .methodref 2 3), (0, .class_ 4), (0, .nameAndType 5 6), (0, u "java/lang/Object"), (0, u "<init>"), (0, u "()V"), (0, .string 8), (0, u ""), (0, .fieldref 10 11), (0, .class_ 12), (0, .nameAndType 13 14), (0, u "java/lang/String"), (0, u "value"), (0, u "[B"), (0, .fieldref 10 16), (0, .nameAndType 17 18), (0, u "coder"), (0, u "B"), (2, u "hash"), (0, u "I"), (2, u "hashIsZero"), (0, u "Z"), (0, .methodref 10 28), (0, .nameAndType 5 29), (0, u "([CIILjava/lang/Void;)V"), (8, .fieldref 10 39), (0, .nameAndType 40 26), (0, u "COMPACT_STRINGS"), (1, .class_ 44), (1, u "java/lang/StringUTF16"), (0, u "compress"), (1, .methodref 42 48), (0, .nameAndType 49 50), (0, u "coderFromArrayLen"), (0, u "([BI)B"), (56, .class_ 109), (1, u "java/lang/StringLatin1"), (67, .methodref 42 178), (0, .nameAndType 45 179), (0, u "([CII)[B"), (361, .methodref 107 542), (0, .nameAndType 543 544), (0, u "equals"), (0, u "([B[B)Z"), (28, u "(Ljava/lang/Object;)Z"), (1, .class_ 576), (0, u "java/lang/CharSequence"), (22, u "CASE_INSENSITIVE_ORDER"), (0, u "Ljava/util/Comparator;"), (409, u "([C)V"), (90, u "serialPersistentFields"), (0, u "[Ljava/io/ObjectStreamField;"), (0, .class_ 1104), (0, u "java/lang/String$CaseInsensitiveComparator"), (1, .class_ 1107), (0, u "java/io/Serializable"), (0, .class_ 1109), (0, u "java/lang/Comparable"), (0, .class_ 1111), (0, u "java/lang/constant/Constable"), (0, .class_ 1113), (0, u "java/lang/constant/ConstantDesc"), (2, u "serialVersionUID"), (0, u "J"), (3, u "REPL"), (0, u "C"), (2, u "LATIN1"), (1, u "UTF16")] 323

def k7m0 : Method := { name := "<init>", desc := "()V", sig := { parameters := [], returnType := none }, accessFlags := 1, code := none }
def k7c1 : Code := { maxStack := 5, maxLocals := 2, code := jdk_42_method_3_code, exceptionTable := #[], attributes := #[] }
def k7m1 : Method := { name := "<init>", desc := "([C)V", sig := { parameters := [(.array .char)], returnType := none }, accessFlags := 1, code := some k7c1 }
def k7c2 : Code := { maxStack := 2, maxLocals := 3, code := jdk_42_method_66_code, exceptionTable := #[], attributes := #[] }
def k7m2 : Method := { name := "equals", desc := "(Ljava/lang/Object;)Z", sig := { parameters := [(.object "java/lang/Object")], returnType := some .boolean }, accessFlags := 1, code := some k7c2 }
def k7c3 : Code := { maxStack := 4, maxLocals := 6, code := jdk_42_method_149_code, exceptionTable := #[], attributes := #[] }
def k7m3 : Method := { name := "<init>", desc := "([CIILjava/lang/Void;)V", sig := { parameters := [(.array .char), .int, .int, (.object "java/lang/Void")], returnType := none }, accessFlags := 2, code := some k7c3 }
/-- java/lang/String -/
def k7 : Class := { plain "java/lang/String" (some 0) with
  accessFlags := 49
  interfaces := #[2, 3, 4, 5, 6]
  cf := some (fileOf pool7 10 #[.nestMembers #[1103]] #[{ accessFlags := 1, nameIndex := 5, descriptorIndex := 6, attributes := #[] }, { accessFlags := 1, nameIndex := 5, descriptorIndex := 1010, attributes := #[] }, { accessFlags := 1, nameIndex := 543, descriptorIndex := 573, attributes := #[] }, { accessFlags := 2, nameIndex := 5, descriptorIndex := 29, attributes := #[] }] 49 2 #[1106, 1108, 575, 1110, 1112] #[{ accessFlags := 18, nameIndex := 13, descriptorIndex := 14, attributes := #[] }, { accessFlags := 18, nameIndex := 17, descriptorIndex := 18, attributes := #[] }, { accessFlags := 2, nameIndex := 21, descriptorIndex := 22, attributes := #[] }, { accessFlags := 2, nameIndex := 25, descriptorIndex := 26, attributes := #[] }, { accessFlags := 26, nameIndex := 1116, descriptorIndex := 1117, attributes := #[] }, { accessFlags := 24, nameIndex := 40, descriptorIndex := 26, attributes := #[] }, { accessFlags := 26, nameIndex := 1101, descriptorIndex := 1102, attributes := #[] }, { accessFlags := 26, nameIndex := 1121, descriptorIndex := 1122, attributes := #[] }, { accessFlags := 25, nameIndex := 599, descriptorIndex := 600, attributes := #[] }, { accessFlags := 24, nameIndex := 1125, descriptorIndex := 18, attributes := #[] }, { accessFlags := 24, nameIndex := 1127, descriptorIndex := 18, attributes := #[] }])
  fields := #[{ name := "value", type := (.array .byte), accessFlags := 18, slot := 0, constantValue := 0 }, { name := "coder", type := .byte, accessFlags := 18, slot := 1, constantValue := 0 }, { name := "hash", type := .int, accessFlags := 2, slot := 2, constantValue := 0 }, { name := "hashIsZero", type := .boolean, accessFlags := 2, slot := 3, constantValue := 0 }, { name := "serialVersionUID", type := .long, accessFlags := 26, slot := 0, constantValue := 0 }, { name := "COMPACT_STRINGS", type := .boolean, accessFlags := 24, slot := 1, constantValue := 0 }, { name := "serialPersistentFields", type := (.array (.object "java/io/ObjectStreamField")), accessFlags := 26, slot := 2, constantValue := 0 }, { name := "REPL", type := .char, accessFlags := 26, slot := 3, constantValue := 0 }, { name := "CASE_INSENSITIVE_ORDER", type := (.object "java/util/Comparator"), accessFlags := 25, slot := 4, constantValue := 0 }, { name := "LATIN1", type := .byte, accessFlags := 24, slot := 5, constantValue := 0 }, { name := "UTF16", type := .byte, accessFlags := 24, slot := 6, constantValue := 0 }]
  methods := #[k7m0, k7m1, k7m2, k7m3]
  instanceTypes := #[(.array .byte), .byte, .int, .boolean]
  staticTypes := #[.long, .boolean, (.array (.object "java/io/ObjectStreamField")), .char, (.object "java/util/Comparator"), .byte, .byte]
  resolved := Array.replicate 1451 none
  statics := some 0 }

def pool8 : Array CpInfo := pool [(1, .methodref 2 3), (0, .class_ 4), (0, .nameAndType 5 6), (0, u "java/lang/Object"), (0, u "<init>"), (0, u "()V"), (0, .string 8), (0, u "id"), (0, .methodref 10 11), (0, .class_ 12), (0, .nameAndType 13 14), (0, u "java/util/Objects"), (0, u "requireNonNull"), (0, u "(Ljava/lang/Object;Ljava/lang/String;)Ljava/lang/Object;"), (0, .class_ 16), (0, u "java/lang/String"), (0, .fieldref 18 19), (0, .class_ 20), (0, .nameAndType 8 21), (0, u "com/example/collector_urchin/collectorurchin/store/StampedRecord"), (0, u "Ljava/lang/String;"), (0, .string 23), (0, u "body"), (0, .fieldref 18 25), (0, .nameAndType 23 21), (0, .fieldref 18 27), (0, .nameAndType 28 29), (0, u "created"), (0, u "J"), (0, .fieldref 18 31), (0, .nameAndType 32 29), (0, u "modified"), (0, .methodref 15 34), (0, .nameAndType 35 36), (0, u "equals"), (0, u "(Ljava/lang/Object;)Z"), (18, u "(Ljava/lang/String;Ljava/lang/String;JJ)V")] 28

def k8c0 : Code := { maxStack := 3, maxLocals := 7, code := prog_23_method_1_code, exceptionTable := #[], attributes := #[] }
def k8m0 : Method := { name := "<init>", desc := "(Ljava/lang/String;Ljava/lang/String;JJ)V", sig := { parameters := [(.object "java/lang/String"), (.object "java/lang/String"), .long, .long], returnType := none }, accessFlags := 1, code := some k8c0 }
def k8c1 : Code := { maxStack := 4, maxLocals := 3, code := prog_23_method_6_code, exceptionTable := #[], attributes := #[] }
def k8m1 : Method := { name := "equals", desc := "(Ljava/lang/Object;)Z", sig := { parameters := [(.object "java/lang/Object")], returnType := some .boolean }, accessFlags := 1, code := some k8c1 }
/-- com/example/collector_urchin/collectorurchin/store/StampedRecord -/
def k8 : Class := { plain "com/example/collector_urchin/collectorurchin/store/StampedRecord" (some 0) with
  accessFlags := 49
  interfaces := #[]
  cf := some (fileOf pool8 18 #[] #[{ accessFlags := 1, nameIndex := 5, descriptorIndex := 55, attributes := #[] }, { accessFlags := 1, nameIndex := 35, descriptorIndex := 36, attributes := #[] }] 49 2 #[] #[{ accessFlags := 18, nameIndex := 8, descriptorIndex := 21, attributes := #[] }, { accessFlags := 18, nameIndex := 23, descriptorIndex := 21, attributes := #[] }, { accessFlags := 18, nameIndex := 28, descriptorIndex := 29, attributes := #[] }, { accessFlags := 18, nameIndex := 32, descriptorIndex := 29, attributes := #[] }])
  fields := #[{ name := "id", type := (.object "java/lang/String"), accessFlags := 18, slot := 0, constantValue := 0 }, { name := "body", type := (.object "java/lang/String"), accessFlags := 18, slot := 1, constantValue := 0 }, { name := "created", type := .long, accessFlags := 18, slot := 2, constantValue := 0 }, { name := "modified", type := .long, accessFlags := 18, slot := 3, constantValue := 0 }]
  methods := #[k8m0, k8m1]
  instanceTypes := #[(.object "java/lang/String"), (.object "java/lang/String"), .long, .long]
  staticTypes := #[]
  resolved := Array.replicate 84 none
  statics := none }

def pool9 : Array CpInfo := pool [(2, .class_ 4), (1, u "java/lang/Object"), (0, u "<init>"), (0, u "()V"), (35, .class_ 44), (1, u "java/util/Objects"), (0, u "requireNonNull"), (48, u "(Ljava/lang/Object;Ljava/lang/String;)Ljava/lang/Object;")] 89

def k9m0 : Method := { name := "<init>", desc := "()V", sig := { parameters := [], returnType := none }, accessFlags := 2, code := none }
def k9c1 : Code := { maxStack := 3, maxLocals := 2, code := jdk_31_method_11_code, exceptionTable := #[], attributes := #[] }
def k9m1 : Method := { name := "requireNonNull", desc := "(Ljava/lang/Object;Ljava/lang/String;)Ljava/lang/Object;", sig := { parameters := [(.object "java/lang/Object"), (.object "java/lang/String")], returnType := some (.object "java/lang/Object") }, accessFlags := 9, code := some k9c1 }
/-- java/util/Objects -/
def k9 : Class := { plain "java/util/Objects" (some 0) with
  accessFlags := 49
  interfaces := #[]
  cf := some (fileOf pool9 42 #[] #[{ accessFlags := 2, nameIndex := 5, descriptorIndex := 6, attributes := #[] }, { accessFlags := 9, nameIndex := 45, descriptorIndex := 94, attributes := #[] }] 49 2 #[] #[])
  fields := #[]
  methods := #[k9m0, k9m1]
  instanceTypes := #[]
  staticTypes := #[]
  resolved := Array.replicate 184 none
  statics := none }

def pool10 : Array CpInfo := pool [(4, .class_ 6), (1, u "java/lang/Object"), (0, u "<init>"), (0, u "()V"), (5, .class_ 16), (1, u "java/lang/StringLatin1"), (104, u "$assertionsDisabled"), (0, u "Z"), (98, .class_ 223), (1, u "java/lang/StringLatin1$LinesSpliterator"), (57, u "equals"), (0, u "([B[B)Z"), (107, .class_ 391), (0, u "java/lang/StringLatin1$CharsSpliterator")] 3

def k10m0 : Method := { name := "<init>", desc := "()V", sig := { parameters := [], returnType := none }, accessFlags := 0, code := none }
def k10c1 : Code := { maxStack := 3, maxLocals := 3, code := jdk_43_method_13_code, exceptionTable := #[], attributes := #[] }
def k10m1 : Method := { name := "equals", desc := "([B[B)Z", sig := { parameters := [(.array .byte), (.array .byte)], returnType := some .boolean }, accessFlags := 9, code := some k10c1 }
/-- java/lang/StringLatin1 -/
def k10 : Class := { plain "java/lang/StringLatin1" (some 0) with
  accessFlags := 48
  interfaces := #[]
  cf := some (fileOf pool10 14 #[.nestMembers #[390, 221]] #[{ accessFlags := 0, nameIndex := 7, descriptorIndex := 8, attributes := #[] }, { accessFlags := 9, nameIndex := 281, descriptorIndex := 282, attributes := #[] }] 48 4 #[] #[{ accessFlags := 4120, nameIndex := 121, descriptorIndex := 122, attributes := #[] }])
  fields := #[{ name := "$assertionsDisabled", type := .boolean, accessFlags := 4120, slot := 0, constantValue := 0 }]
  methods := #[k10m0, k10m1]
  instanceTypes := #[]
  staticTypes := #[.boolean]
  resolved := Array.replicate 395 none
  statics := none }

def pool11 : Array CpInfo := pool [(6, .class_ 8), (1, u "java/lang/Object"), (0, u "<init>"), (0, u "()V"), (1, .class_ 14), (1, u "java/lang/StringUTF16"), (31, u "$assertionsDisabled"), (0, u "Z"), (13, u "HI_BYTE_SHIFT"), (0, u "I"), (2, u "LO_BYTE_SHIFT"), (49, .methodref 12 116), (0, .nameAndType 117 118), (0, u "compress"), (0, u "([CI[BII)I"), (3, u "([CII)[B"), (138, u "coderFromArrayLen"), (0, u "([BI)B"), (106, .class_ 371), (1, u "java/lang/StringUTF16$LinesSpliterator"), (58, u "MAX_LENGTH"), (196, .class_ 628), (0, u "java/lang/StringUTF16$CodePointsSpliterator"), (0, .class_ 630), (0, u "java/lang/StringUTF16$CharsSpliterator")] 4

def k11m0 : Method := { name := "<init>", desc := "()V", sig := { parameters := [], returnType := none }, accessFlags := 0, code := none }
def k11c1 : Code := { maxStack := 2, maxLocals := 2, code := jdk_52_method_15_code, exceptionTable := #[], attributes := #[] }
def k11m1 : Method := { name := "coderFromArrayLen", desc := "([BI)B", sig := { parameters := [(.array .byte), .int], returnType := some .byte }, accessFlags := 8, code := some k11c1 }
def k11c2 : Code := { maxStack := 5, maxLocals := 6, code := jdk_52_method_16_code, exceptionTable := #[], attributes := #[] }
def k11m2 : Method := { name := "compress", desc := "([CII)[B", sig := { parameters := [(.array .char), .int, .int], returnType := some (.array .byte) }, accessFlags := 9, code := some k11c2 }
def k11c3 : Code := { maxStack := 3, maxLocals := 7, code := jdk_52_method_21_code, exceptionTable := #[], attributes := #[] }
def k11m3 : Method := { name := "compress", desc := "([CI[BII)I", sig := { parameters := [(.array .char), .int, (.array .byte), .int, .int], returnType := some .int }, accessFlags := 9, code := some k11c3 }
/-- java/lang/StringUTF16 -/
def k11 : Class := { plain "java/lang/StringUTF16" (some 0) with
  accessFlags := 48
  interfaces := #[]
  cf := some (fileOf pool11 12 #[.nestMembers #[627, 629, 369]] #[{ accessFlags := 0, nameIndex := 9, descriptorIndex := 10, attributes := #[] }, { accessFlags := 8, nameIndex := 261, descriptorIndex := 262, attributes := #[] }, { accessFlags := 9, nameIndex := 117, descriptorIndex := 122, attributes := #[] }, { accessFlags := 9, nameIndex := 117, descriptorIndex := 118, attributes := #[] }] 48 6 #[] #[{ accessFlags := 26, nameIndex := 61, descriptorIndex := 62, attributes := #[] }, { accessFlags := 26, nameIndex := 65, descriptorIndex := 62, attributes := #[] }, { accessFlags := 24, nameIndex := 430, descriptorIndex := 62, attributes := #[] }, { accessFlags := 4120, nameIndex := 46, descriptorIndex := 47, attributes := #[] }])
  fields := #[{ name := "HI_BYTE_SHIFT", type := .int, accessFlags := 26, slot := 0, constantValue := 0 }, { name := "LO_BYTE_SHIFT", type := .int, accessFlags := 26, slot := 1, constantValue := 0 }, { name := "MAX_LENGTH", type := .int, accessFlags := 24, slot := 2, constantValue := 0 }, { name := "$assertionsDisabled", type := .boolean, accessFlags := 4120, slot := 3, constantValue := 0 }]
  methods := #[k11m0, k11m1, k11m2, k11m3]
  instanceTypes := #[]
  staticTypes := #[.int, .int, .int, .boolean]
  resolved := Array.replicate 635 none
  statics := none }

def pool12 : Array CpInfo := pool [(2, .class_ 4), (1, u "java/lang/Object"), (0, u "<init>"), (0, u "()V"), (17, .class_ 26), (1, u "jdk/internal/util/Preconditions"), (28, .class_ 56), (0, u "jdk/internal/util/Preconditions$4"), (57, .class_ 115), (0, u "jdk/internal/util/Preconditions$1"), (7, u "SIOOBE_FORMATTER"), (0, u "Ljava/util/function/BiFunction;"), (0, .class_ 126), (0, u "jdk/internal/util/Preconditions$2"), (3, u "AIOOBE_FORMATTER"), (0, .class_ 132), (0, u "jdk/internal/util/Preconditions$3"), (3, u "IOOBE_FORMATTER")] 57

def k12m0 : Method := { name := "<init>", desc := "()V", sig := { parameters := [], returnType := none }, accessFlags := 1, code := none }
/-- jdk/internal/util/Preconditions -/
def k12 : Class := { plain "jdk/internal/util/Preconditions" (some 0) with
  accessFlags := 33
  interfaces := #[]
  cf := some (fileOf pool12 24 #[.nestMembers #[55, 131, 125, 114]] #[{ accessFlags := 1, nameIndex := 5, descriptorIndex := 6, attributes := #[] }] 33 2 #[] #[{ accessFlags := 25, nameIndex := 123, descriptorIndex := 124, attributes := #[] }, { accessFlags := 25, nameIndex := 130, descriptorIndex := 124, attributes := #[] }, { accessFlags := 25, nameIndex := 136, descriptorIndex := 124, attributes := #[] }])
  fields := #[{ name := "SIOOBE_FORMATTER", type := (.object "java/util/function/BiFunction"), accessFlags := 25, slot := 0, constantValue := 0 }, { name := "AIOOBE_FORMATTER", type := (.object "java/util/function/BiFunction"), accessFlags := 25, slot := 1, constantValue := 0 }, { name := "IOOBE_FORMATTER", type := (.object "java/util/function/BiFunction"), accessFlags := 25, slot := 2, constantValue := 0 }]
  methods := #[k12m0]
  instanceTypes := #[]
  staticTypes := #[(.object "java/util/function/BiFunction"), (.object "java/util/function/BiFunction"), (.object "java/util/function/BiFunction")]
  resolved := Array.replicate 194 none
  statics := some 1 }

def pool13 : Array CpInfo := pool [(9, u "<init>"), (6, .class_ 18), (1, u "java/lang/Object"), (0, u "()V"), (1, .class_ 23), (1, u "jdk/internal/util/ArraysSupport"), (0, u "LOG2_ARRAY_LONG_INDEX_SCALE"), (0, u "I"), (2, u "U"), (0, u "Ljdk/internal/misc/Unsafe;"), (8, u "BIG_ENDIAN"), (0, u "Z"), (8, u "LOG2_BYTE_BIT_SIZE"), (4, u "LOG2_ARRAY_INT_INDEX_SCALE"), (54, u "JLA"), (0, u "Ljdk/internal/access/JavaLangAccess;"), (11, u "LOG2_ARRAY_BOOLEAN_INDEX_SCALE"), (9, u "LOG2_ARRAY_BYTE_INDEX_SCALE"), (5, u "LOG2_ARRAY_CHAR_INDEX_SCALE"), (5, u "LOG2_ARRAY_SHORT_INDEX_SCALE"), (18, u "LOG2_ARRAY_FLOAT_INDEX_SCALE"), (24, u "LOG2_ARRAY_DOUBLE_INDEX_SCALE"), (89, u "T_BOOLEAN"), (2, u "T_CHAR"), (1, u "T_FLOAT"), (1, u "T_DOUBLE"), (1, u "T_BYTE"), (1, u "T_SHORT"), (1, u "T_INT"), (1, u "T_LONG"), (1, u "SOFT_MAX_ARRAY_LENGTH")] 83

def k13m0 : Method := { name := "<init>", desc := "()V", sig := { parameters := [], returnType := none }, accessFlags := 2, code := none }
/-- jdk/internal/util/ArraysSupport -/
def k13 : Class := { plain "jdk/internal/util/ArraysSupport" (some 0) with
  accessFlags := 33
  interfaces := #[]
  cf := some (fileOf pool13 21 #[] #[{ accessFlags := 2, nameIndex := 9, descriptorIndex := 19, attributes := #[] }] 33 16 #[] #[{ accessFlags := 24, nameIndex := 28, descriptorIndex := 29, attributes := #[] }, { accessFlags := 26, nameIndex := 38, descriptorIndex := 39, attributes := #[] }, { accessFlags := 25, nameIndex := 121, descriptorIndex := 25, attributes := #[] }, { accessFlags := 25, nameIndex := 131, descriptorIndex := 25, attributes := #[] }, { accessFlags := 25, nameIndex := 137, descriptorIndex := 25, attributes := #[] }, { accessFlags := 25, nameIndex := 143, descriptorIndex := 25, attributes := #[] }, { accessFlags := 25, nameIndex := 53, descriptorIndex := 25, attributes := #[] }, { accessFlags := 25, nameIndex := 24, descriptorIndex := 25, attributes := #[] }, { accessFlags := 25, nameIndex := 162, descriptorIndex := 25, attributes := #[] }, { accessFlags := 25, nameIndex := 187, descriptorIndex := 25, attributes := #[] }, { accessFlags := 26, nameIndex := 48, descriptorIndex := 25, attributes := #[] }, { accessFlags := 25, nameIndex := 277, descriptorIndex := 25, attributes := #[] }, { accessFlags := 25, nameIndex := 280, descriptorIndex := 25, attributes := #[] }, { accessFlags := 25, nameIndex := 282, descriptorIndex := 25, attributes := #[] }, { accessFlags := 25, nameIndex := 284, descriptorIndex := 25, attributes := #[] }, { accessFlags := 25, nameIndex := 286, descriptorIndex := 25, attributes := #[] }, { accessFlags := 25, nameIndex := 288, descriptorIndex := 25, attributes := #[] }, { accessFlags := 25, nameIndex := 290, descriptorIndex := 25, attributes := #[] }, { accessFlags := 25, nameIndex := 292, descriptorIndex := 25, attributes := #[] }, { accessFlags := 26, nameIndex := 108, descriptorIndex := 109, attributes := #[] }, { accessFlags := 25, nameIndex := 294, descriptorIndex := 25, attributes := #[] }])
  fields := #[{ name := "U", type := (.object "jdk/internal/misc/Unsafe"), accessFlags := 24, slot := 0, constantValue := 0 }, { name := "BIG_ENDIAN", type := .boolean, accessFlags := 26, slot := 1, constantValue := 0 }, { name := "LOG2_ARRAY_BOOLEAN_INDEX_SCALE", type := .int, accessFlags := 25, slot := 2, constantValue := 0 }, { name := "LOG2_ARRAY_BYTE_INDEX_SCALE", type := .int, accessFlags := 25, slot := 3, constantValue := 0 }, { name := "LOG2_ARRAY_CHAR_INDEX_SCALE", type := .int, accessFlags := 25, slot := 4, constantValue := 0 }, { name := "LOG2_ARRAY_SHORT_INDEX_SCALE", type := .int, accessFlags := 25, slot := 5, constantValue := 0 }, { name := "LOG2_ARRAY_INT_INDEX_SCALE", type := .int, accessFlags := 25, slot := 6, constantValue := 0 }, { name := "LOG2_ARRAY_LONG_INDEX_SCALE", type := .int, accessFlags := 25, slot := 7, constantValue := 0 }, { name := "LOG2_ARRAY_FLOAT_INDEX_SCALE", type := .int, accessFlags := 25, slot := 8, constantValue := 0 }, { name := "LOG2_ARRAY_DOUBLE_INDEX_SCALE", type := .int, accessFlags := 25, slot := 9, constantValue := 0 }, { name := "LOG2_BYTE_BIT_SIZE", type := .int, accessFlags := 26, slot := 10, constantValue := 0 }, { name := "T_BOOLEAN", type := .int, accessFlags := 25, slot := 11, constantValue := 0 }, { name := "T_CHAR", type := .int, accessFlags := 25, slot := 12, constantValue := 0 }, { name := "T_FLOAT", type := .int, accessFlags := 25, slot := 13, constantValue := 0 }, { name := "T_DOUBLE", type := .int, accessFlags := 25, slot := 14, constantValue := 0 }, { name := "T_BYTE", type := .int, accessFlags := 25, slot := 15, constantValue := 0 }, { name := "T_SHORT", type := .int, accessFlags := 25, slot := 16, constantValue := 0 }, { name := "T_INT", type := .int, accessFlags := 25, slot := 17, constantValue := 0 }, { name := "T_LONG", type := .int, accessFlags := 25, slot := 18, constantValue := 0 }, { name := "JLA", type := (.object "jdk/internal/access/JavaLangAccess"), accessFlags := 26, slot := 19, constantValue := 0 }, { name := "SOFT_MAX_ARRAY_LENGTH", type := .int, accessFlags := 25, slot := 20, constantValue := 0 }]
  methods := #[k13m0]
  instanceTypes := #[]
  staticTypes := #[(.object "jdk/internal/misc/Unsafe"), .boolean, .int, .int, .int, .int, .int, .int, .int, .int, .int, .int, .int, .int, .int, .int, .int, .int, .int, (.object "jdk/internal/access/JavaLangAccess"), .int]
  resolved := Array.replicate 378 none
  statics := none }

def pool14 : Array CpInfo := pool [(1, u "java/lang/Cloneable"), (0, .class_ 1), (0, u "java/lang/Object"), (0, .class_ 3)] 3

/-- java/lang/Cloneable -/
def k14 : Class := { plain "java/lang/Cloneable" (some 0) with
  accessFlags := 1537
  interfaces := #[]
  cf := some (fileOf pool14 2 #[] #[] 1537 4 #[] #[])
  fields := #[]
  methods := #[]
  instanceTypes := #[]
  staticTypes := #[]
  resolved := Array.replicate 8 none
  statics := none }

/-- the primitive byte -/
def k15 : Class := { plain "byte" none with kind := .primitive 'B', accessFlags := 0x411 }
/-- [B -/
def k16 : Class := { plain "[B" (some 0) with kind := .array 15 .byte, interfaces := #[14, 2], accessFlags := 1041 }

/-- the primitive char -/
def k17 : Class := { plain "char" none with kind := .primitive 'C', accessFlags := 0x411 }
/-- [C -/
def k18 : Class := { plain "[C" (some 0) with kind := .array 17 .char, interfaces := #[14, 2], accessFlags := 1041 }

/-- the primitive int -/
def k19 : Class := { plain "int" none with kind := .primitive 'I', accessFlags := 0x411 }
/-- [I -/
def k20 : Class := { plain "[I" (some 0) with kind := .array 19 .int, interfaces := #[14, 2], accessFlags := 1041 }

def heap : Heap := #[{ cls := 7, slots := #[.long 0, .int 1, .null, .int 0, .null, .int 0, .int 0], vm := .statics 7 },
  { cls := 12, slots := #[.null, .null, .null], vm := .statics 12 }]
def classes : Array Class := #[k0, k1, k2, k3, k4, k5, k6, k7, k8, k9, k10, k11, k12, k13, k14, k15, k16, k17, k18, k19, k20]
def interned : List (Array UInt16 × Addr) := []
def slotsUsed : Nat := 10
def theMethod : MethodId := ⟨1, 3⟩
def args0 : Array Value := #[.int 5, .int 5, .long 5, .long 5, .long 5, .int 5]
def aboutOver (below : List Frame) : State where
  vm := { classes := classes, interned := interned.toArray }
  heap := heap
  slotsUsed := slotsUsed
  threads := #[{ frames := .invoking theMethod args0 :: below }]
def below0 : List Frame := [.native { method := ⟨0, 0⟩, args := #[] }]
def about1 : State := aboutOver below0
def p0 : Program := .bare "" "" ""
def e0 : Env := launch0.env 0 0 0
theorem w_frames : about1.frames = Frame.invoking theMethod args0 :: below0 := rfl
set_option maxRecDepth 65536 in
theorem w_args : argsFit about1.vm theMethod args0 = true := by decide +kernel
set_option maxRecDepth 65536 in
theorem w_heap : heapFits about1 = true := by decide +kernel
set_option maxRecDepth 65536 in
theorem w_runnable : about1.curStatus? = some .runnable := by decide +kernel
set_option maxRecDepth 65536 in
theorem w_alone : about1.alone = true := by decide +kernel
set_option maxRecDepth 65536 in
theorem w_named : about1.methodNamed? x = some theMethod := by decide +kernel
set_option maxRecDepth 65536 in
theorem w_hears : about1.hears theMethod below0 = true := by decide +kernel
set_option maxRecDepth 65536 in
theorem w_ripe : about1.ripe theMethod args0 below0 = true := by decide +kernel
theorem w_running : about1.status = .running := rfl
set_option maxRecDepth 65536 in
theorem w_room : about1.hasRoom e0.platform room_1 = true :=
  launch0.hasRoom_least _ room_1 (by decide +kernel) (by decide +kernel) (by decide +kernel) (by decide +kernel) (by decide +kernel) (by decide +kernel)
theorem allAtoms_all (ts : List Jvm.Cond) (a : Array Jvm.Value) (st : Jvm.State) : (allAtoms ts).before a st = ts.all (fun c => c.before a st) := by
  induction ts with
  | nil => rfl
  | cons c t ih =>
    show (Jvm.Cond.and c (allAtoms t)).before a st = _
    rw [Jvm.Cond.before_and, ih, List.all_cons]
def words1 : List Jvm.Cond := Jvm.Cond.code x code maxLocals ret :: tables_1
/-- a 'code' word, met by the world's own term for the bytes: nothing is compared byte by byte -/
theorem code_word {y : MethodName} {bytes : ByteArray} {mx : Nat} {rt : Option FieldType} {a : Array Value} {s : State} {m : MethodId} {meth : Method} {c : Code} (h1 : s.methodNamed? y = some m) (h2 : s.vm.method? m = some meth) (h3 : meth.code = some c) (h4 : c.code = bytes)
    (h5 : (c.maxLocals == mx && c.exceptionTable.isEmpty && decide (c.maxStack ≤ mostOperands) && decide (meth.sig.returnType = rt) && !meth.locks && decide (parseMethodDescriptor y.desc = some meth.sig)) = true) : (Jvm.Cond.code y bytes mx rt).before a s = true := by
  simp only [Bool.and_eq_true, beq_iff_eq, Bool.not_eq_true', decide_eq_true_eq] at h5
  obtain ⟨⟨⟨⟨⟨g1, g2⟩, g3⟩, g4⟩, g5⟩, g6⟩ := h5
  simp [Cond.before, Cond.holds, Cond.value, h1, h2, h3, h4, g1, g2, g3, g4, g5, g6]
def isCode : Jvm.Cond → Bool
  | .code _ _ _ _ => true
  | _ => false
theorem all_split {L : List Jvm.Cond} {P : Jvm.Cond → Bool} (h1 : L.all (fun c => isCode c || P c) = true) (h2 : ∀ c ∈ L.filter isCode, P c = true) : L.all P = true := by
  refine List.all_eq_true.mpr fun c hc => ?_
  have h := List.all_eq_true.mp h1 c hc
  rcases Bool.eq_false_or_eq_true (isCode c) with hi | hi
  · exact h2 c (List.mem_filter.mpr ⟨hc, hi⟩)
  · simpa [hi] using h
set_option maxRecDepth 65536 in
theorem w_c0 : (Jvm.Cond.code x code maxLocals ret).before args0 about1 = true := code_word (m := ⟨1, 3⟩) (meth := k1m3) (c := k1c3) (by decide +kernel) rfl rfl rfl (by decide +kernel)
set_option maxRecDepth 65536 in
theorem w_c1 : (Jvm.Cond.code ({ cls := "com/example/collector_urchin/collectorurchin/store/StampedRecordEqualsPinLaw", name := "make", desc := "(ICC)Ljava/lang/String;" } : Jvm.MethodName) method_2_code (4 : Nat) (Option.some (Jvm.ClassFile.FieldType.object "java/lang/String"))).before args0 about1 = true := code_word (m := ⟨1, 1⟩) (meth := k1m1) (c := k1c1) (by decide +kernel) rfl rfl rfl (by decide +kernel)
set_option maxRecDepth 65536 in
theorem w_c2 : (Jvm.Cond.code ({ cls := "java/lang/String", name := "<init>", desc := "([C)V" } : Jvm.MethodName) jdk_42_method_3_code (2 : Nat) (Option.none : Option Jvm.ClassFile.FieldType)).before args0 about1 = true := code_word (m := ⟨7, 1⟩) (meth := k7m1) (c := k7c1) (by decide +kernel) rfl rfl rfl (by decide +kernel)
set_option maxRecDepth 65536 in
theorem w_c3 : (Jvm.Cond.code ({ cls := "java/lang/String", name := "<init>", desc := "([CIILjava/lang/Void;)V" } : Jvm.MethodName) jdk_42_method_149_code (6 : Nat) (Option.none : Option Jvm.ClassFile.FieldType)).before args0 about1 = true := code_word (m := ⟨7, 3⟩) (meth := k7m3) (c := k7c3) (by decide +kernel) rfl rfl rfl (by decide +kernel)
set_option maxRecDepth 65536 in
theorem w_c4 : (Jvm.Cond.code ({ cls := "java/lang/Object", name := "<init>", desc := "()V" } : Jvm.MethodName) object_method_1_code (1 : Nat) (Option.none : Option Jvm.ClassFile.FieldType)).before args0 about1 = true := code_word (m := ⟨0, 0⟩) (meth := k0m0) (c := k0c0) (by decide +kernel) rfl rfl rfl (by decide +kernel)
set_option maxRecDepth 65536 in
theorem w_c5 : (Jvm.Cond.code ({ cls := "com/example/collector_urchin/collectorurchin/store/StampedRecord", name := "<init>", desc := "(Ljava/lang/String;Ljava/lang/String;JJ)V" } : Jvm.MethodName) prog_23_method_1_code (7 : Nat) (Option.none : Option Jvm.ClassFile.FieldType)).before args0 about1 = true := code_word (m := ⟨8, 0⟩) (meth := k8m0) (c := k8c0) (by decide +kernel) rfl rfl rfl (by decide +kernel)
set_option maxRecDepth 65536 in
theorem w_c6 : (Jvm.Cond.code ({ cls := "java/util/Objects", name := "requireNonNull", desc := "(Ljava/lang/Object;Ljava/lang/String;)Ljava/lang/Object;" } : Jvm.MethodName) jdk_31_method_11_code (2 : Nat) (Option.some (Jvm.ClassFile.FieldType.object "java/lang/Object"))).before args0 about1 = true := code_word (m := ⟨9, 1⟩) (meth := k9m1) (c := k9c1) (by decide +kernel) rfl rfl rfl (by decide +kernel)
set_option maxRecDepth 65536 in
theorem w_c7 : (Jvm.Cond.code ({ cls := "com/example/collector_urchin/collectorurchin/store/StampedRecordEqualsPinLaw", name := "sameStr", desc := "(ICCICC)Z" } : Jvm.MethodName) method_3_code (6 : Nat) (Option.some Jvm.ClassFile.FieldType.boolean)).before args0 about1 = true := code_word (m := ⟨1, 2⟩) (meth := k1m2) (c := k1c2) (by decide +kernel) rfl rfl rfl (by decide +kernel)
set_option maxRecDepth 65536 in
theorem w_c8 : (Jvm.Cond.code ({ cls := "com/example/collector_urchin/collectorurchin/store/StampedRecord", name := "equals", desc := "(Ljava/lang/Object;)Z" } : Jvm.MethodName) prog_23_method_6_code (3 : Nat) (Option.some Jvm.ClassFile.FieldType.boolean)).before args0 about1 = true := code_word (m := ⟨8, 1⟩) (meth := k8m1) (c := k8c1) (by decide +kernel) rfl rfl rfl (by decide +kernel)
set_option maxRecDepth 65536 in
theorem w_c9 : (Jvm.Cond.code ({ cls := "java/lang/String", name := "equals", desc := "(Ljava/lang/Object;)Z" } : Jvm.MethodName) jdk_42_method_66_code (3 : Nat) (Option.some Jvm.ClassFile.FieldType.boolean)).before args0 about1 = true := code_word (m := ⟨7, 2⟩) (meth := k7m2) (c := k7c2) (by decide +kernel) rfl rfl rfl (by decide +kernel)
set_option maxRecDepth 65536 in
theorem w_c10 : (Jvm.Cond.code ({ cls := "java/lang/StringLatin1", name := "equals", desc := "([B[B)Z" } : Jvm.MethodName) jdk_43_method_13_code (3 : Nat) (Option.some Jvm.ClassFile.FieldType.boolean)).before args0 about1 = true := code_word (m := ⟨10, 1⟩) (meth := k10m1) (c := k10c1) (by decide +kernel) rfl rfl rfl (by decide +kernel)
set_option maxRecDepth 65536 in
theorem w_c11 : (Jvm.Cond.code ({ cls := "java/lang/StringUTF16", name := "compress", desc := "([CII)[B" } : Jvm.MethodName) jdk_52_method_16_code (6 : Nat) (Option.some (Jvm.ClassFile.FieldType.array Jvm.ClassFile.FieldType.byte))).before args0 about1 = true := code_word (m := ⟨11, 2⟩) (meth := k11m2) (c := k11c2) (by decide +kernel) rfl rfl rfl (by decide +kernel)
set_option maxRecDepth 65536 in
theorem w_c12 : (Jvm.Cond.code ({ cls := "java/lang/StringUTF16", name := "compress", desc := "([CI[BII)I" } : Jvm.MethodName) jdk_52_method_21_code (7 : Nat) (Option.some Jvm.ClassFile.FieldType.int)).before args0 about1 = true := code_word (m := ⟨11, 3⟩) (meth := k11m3) (c := k11c3) (by decide +kernel) rfl rfl rfl (by decide +kernel)
set_option maxRecDepth 65536 in
theorem w_c13 : (Jvm.Cond.code ({ cls := "java/lang/StringUTF16", name := "coderFromArrayLen", desc := "([BI)B" } : Jvm.MethodName) jdk_52_method_15_code (2 : Nat) (Option.some Jvm.ClassFile.FieldType.byte)).before args0 about1 = true := code_word (m := ⟨11, 1⟩) (meth := k11m1) (c := k11c1) (by decide +kernel) rfl rfl rfl (by decide +kernel)
def codes1 : List Jvm.Cond := [Jvm.Cond.code x code maxLocals ret, Jvm.Cond.code ({ cls := "com/example/collector_urchin/collectorurchin/store/StampedRecordEqualsPinLaw", name := "make", desc := "(ICC)Ljava/lang/String;" } : Jvm.MethodName) method_2_code (4 : Nat) (Option.some (Jvm.ClassFile.FieldType.object "java/lang/String")), Jvm.Cond.code ({ cls := "java/lang/String", name := "<init>", desc := "([C)V" } : Jvm.MethodName) jdk_42_method_3_code (2 : Nat) (Option.none : Option Jvm.ClassFile.FieldType), Jvm.Cond.code ({ cls := "java/lang/String", name := "<init>", desc := "([CIILjava/lang/Void;)V" } : Jvm.MethodName) jdk_42_method_149_code (6 : Nat) (Option.none : Option Jvm.ClassFile.FieldType), Jvm.Cond.code ({ cls := "java/lang/Object", name := "<init>", desc := "()V" } : Jvm.MethodName) object_method_1_code (1 : Nat) (Option.none : Option Jvm.ClassFile.FieldType), Jvm.Cond.code ({ cls := "com/example/collector_urchin/collectorurchin/store/StampedRecord", name := "<init>", desc := "(Ljava/lang/String;Ljava/lang/String;JJ)V" } : Jvm.MethodName) prog_23_method_1_code (7 : Nat) (Option.none : Option Jvm.ClassFile.FieldType), Jvm.Cond.code ({ cls := "java/util/Objects", name := "requireNonNull", desc := "(Ljava/lang/Object;Ljava/lang/String;)Ljava/lang/Object;" } : Jvm.MethodName) jdk_31_method_11_code (2 : Nat) (Option.some (Jvm.ClassFile.FieldType.object "java/lang/Object")), Jvm.Cond.code ({ cls := "com/example/collector_urchin/collectorurchin/store/StampedRecordEqualsPinLaw", name := "sameStr", desc := "(ICCICC)Z" } : Jvm.MethodName) method_3_code (6 : Nat) (Option.some Jvm.ClassFile.FieldType.boolean), Jvm.Cond.code ({ cls := "com/example/collector_urchin/collectorurchin/store/StampedRecord", name := "equals", desc := "(Ljava/lang/Object;)Z" } : Jvm.MethodName) prog_23_method_6_code (3 : Nat) (Option.some Jvm.ClassFile.FieldType.boolean), Jvm.Cond.code ({ cls := "java/lang/String", name := "equals", desc := "(Ljava/lang/Object;)Z" } : Jvm.MethodName) jdk_42_method_66_code (3 : Nat) (Option.some Jvm.ClassFile.FieldType.boolean), Jvm.Cond.code ({ cls := "java/lang/StringLatin1", name := "equals", desc := "([B[B)Z" } : Jvm.MethodName) jdk_43_method_13_code (3 : Nat) (Option.some Jvm.ClassFile.FieldType.boolean), Jvm.Cond.code ({ cls := "java/lang/StringUTF16", name := "compress", desc := "([CII)[B" } : Jvm.MethodName) jdk_52_method_16_code (6 : Nat) (Option.some (Jvm.ClassFile.FieldType.array Jvm.ClassFile.FieldType.byte)), Jvm.Cond.code ({ cls := "java/lang/StringUTF16", name := "compress", desc := "([CI[BII)I" } : Jvm.MethodName) jdk_52_method_21_code (7 : Nat) (Option.some Jvm.ClassFile.FieldType.int), Jvm.Cond.code ({ cls := "java/lang/StringUTF16", name := "coderFromArrayLen", desc := "([BI)B" } : Jvm.MethodName) jdk_52_method_15_code (2 : Nat) (Option.some Jvm.ClassFile.FieldType.byte)]
set_option maxRecDepth 65536 in
theorem codes_eq : words1.filter isCode = codes1 := rfl
theorem w_codes : ∀ c ∈ words1.filter isCode, c.before args0 about1 = true := by
  rw [codes_eq]
  intro c hc
  simp only [codes1, List.mem_cons, List.not_mem_nil, or_false] at hc
  rcases hc with rfl | rfl | rfl | rfl | rfl | rfl | rfl | rfl | rfl | rfl | rfl | rfl | rfl | rfl
  · exact w_c0
  · exact w_c1
  · exact w_c2
  · exact w_c3
  · exact w_c4
  · exact w_c5
  · exact w_c6
  · exact w_c7
  · exact w_c8
  · exact w_c9
  · exact w_c10
  · exact w_c11
  · exact w_c12
  · exact w_c13
set_option maxRecDepth 65536 in
theorem w_t1 : (words1.take 24).all (fun c => isCode c || c.before args0 about1) = true := by decide +kernel
set_option maxRecDepth 65536 in
theorem w_t2 : ((words1.drop 24).take 24).all (fun c => isCode c || c.before args0 about1) = true := by decide +kernel
set_option maxRecDepth 65536 in
theorem w_t3 : (((words1.drop 24).drop 24).take 24).all (fun c => isCode c || c.before args0 about1) = true := by decide +kernel
set_option maxRecDepth 65536 in
theorem w_t4 : (((words1.drop 24).drop 24).drop 24).all (fun c => isCode c || c.before args0 about1) = true := by decide +kernel
theorem w_tables : (allAtoms (Jvm.Cond.code x code maxLocals ret :: tables_1)).before args0 about1 = true := by
  rw [allAtoms_all]
  show words1.all (fun c => c.before args0 about1) = true
  refine all_split ?_ w_codes
  rw [← List.take_append_drop 24 words1, List.all_append, w_t1, ← List.take_append_drop 24 (words1.drop 24), List.all_append, w_t2, ← List.take_append_drop 24 ((words1.drop 24).drop 24), List.all_append, w_t3, w_t4]
  rfl
set_option maxRecDepth 65536 in
theorem w_rest : rest_1_c.before args0 about1 = true := by decide +kernel
set_option maxRecDepth 65536 in
theorem w_case : (Jvm.Cond.and given_1 narrow_1).before args0 about1 = true := by decide +kernel
set_option maxRecDepth 65536 in
theorem w_consts : constsHeld consts_1 about1 := Jvm.Lit.constsHeldB_iff.mp (by decide +kernel)
theorem w_applies : (headSpec (Jvm.Cond.code x code maxLocals ret :: tables_1) room_1).applies x e0.platform about1 = true :=
  (Spec.applies_iff w_frames).mpr ⟨w_running, w_runnable, w_alone, w_named, w_hears, w_ripe, w_room, w_tables⟩
theorem atStart : AtStart classFile x code maxLocals ret World_1 tables_1 room_1 Calls_1 rest_1 Pre_1 launch0 p0 e0 about1 theMethod args0 below0 :=
  ⟨lists_1, trivial, launch0.admits_env _ _ _, launch0.least_env, fairChoices_fair.cas, fairChoices_fair.clock, w_frames, w_args, w_heap, w_applies, ⟨w_consts, trivial⟩, w_rest, w_case⟩
end start1
theorem witness_1 : WitnessClaimed_1 := ⟨start1.p0, start1.e0, start1.about1, start1.theMethod, start1.args0, start1.below0, start1.atStart⟩
end Jvm.Pilot.@@N@@
